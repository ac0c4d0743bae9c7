import JvmDerived
import JvmDerived.Pilot.@@N@@Statement
import JvmDerived.Pilot.@@N@@Code
set_option linter.unusedVariables false
set_option linter.unusedSimpArgs false
namespace Jvm.RoadKit
open Sem ClassFile Op Lib Jvm.Stand Jvm.Free Jvm.LawKit
section New
variable {p : Program} {l : Launch} {e : Env} {R : Room} {s : State} {m : MethodId} {args : Array Value} {below : List Frame} {meth : Method} {c : Code} {T : State} {locs : List Loc} {cells slots : Nat}
theorem retI (X : Stand p l e R s m args below meth c T locs cells slots) (hx : p.tables.exec = Jvm.exec) {pc : Nat} {Ls : Array Slot} {z : Int32} {rest : List Value} (hret : meth.sig.returnType = some .int) (hd : decode c.code pc = .ok (.ireturn, 1)) {fs : List Frame}
    (hl : ∀ (f : JFrame) (acts : List Action), f.method = m → f.locked = none → f.entered = [] → (doReturn e (T.setTop f) acts (some (.int z))).1 = T.setFrames fs) : Steps p.tables e below (T.setTop (mkF m pc Ls (.int z :: rest))) (T.setFrames fs) := by
  have hm' : T.vm.method? m = some meth := X.method'
  have hn : narrow .int (.int z) = .int z := rfl
  show Steps p.tables e below (T.setTop { method := m, pc := pc, locals := Ls, stack := _ :: rest, locked := none }) _
  jvm_step X.here [X.here.top, hx, hd, hm', hret, hn]
  first | (intro acts; rw [hl _ acts rfl rfl rfl]) | rw [hl _ _ rfl rfl rfl]
  exact Steps.refl _
end New
end Jvm.RoadKit
namespace Jvm.RoadKit
open Sem ClassFile Op Lib Jvm.Stand Jvm.Free Jvm.LawKit
section Own
variable {p : Program} {l : Launch} {e : Env} {R : Room} {s : State} {m : MethodId} {args : Array Value} {below : List Frame} {meth : Method} {c : Code} {T T' : State} {locs : List Loc} {cells slots : Nat} {Q : Option Value → Heap → List Loc → Prop} {F : Option Value → State → Prop} {kc ks : Nat} {g g' : JFrame} {Z : State} {a0 : Array Value} {h : Heap}
/-- the body that stands at T with the frame g comes to its end, and leaves what F says -/
def Goes (p : Program) (e : Env) (below : List Frame) (F : Option Value → State → Prop) (T : State) (g : JFrame) : Prop :=
  ∃ s₂ o, Steps p.tables e below (T.setTop g) s₂ ∧ s₂.status = .running ∧ Ended s₂ below o ∧ ∃ v, o = .returned v ∧ F v s₂
def EndQ (s : State) (Q : Option Value → Heap → List Loc → Prop) (kc ks : Nat) (v : Option Value) (t : State) : Prop := ∃ L, Q v t.heap L ∧ FrameEnd s (.returned v) t L kc ks
theorem Goes.give (h : Goes p e below (EndQ s Q kc ks) T g) : ∃ s₂ o, Steps p.tables e below (T.setTop g) s₂ ∧ s₂.status = .running ∧ Ended s₂ below o ∧ ∃ v L, o = .returned v ∧ Q v s₂.heap L ∧ FrameEnd s o s₂ L kc ks := by
  obtain ⟨s2, o, h1, h2, h3, v, rfl, L, h4, h5⟩ := h
  exact ⟨s2, _, h1, h2, h3, v, L, rfl, h4, h5⟩
theorem Goes.step (k : ∀ t, Steps p.tables e below (T'.setTop g') t → Steps p.tables e below (T.setTop g) t) (h : Goes p e below F T' g') : Goes p e below F T g := by
  obtain ⟨s2, o, h1, r⟩ := h
  exact ⟨s2, o, k _ h1, r⟩
theorem Goes.out {v : Option Value} (X : Stand p l e R s m args below meth c T locs cells slots) (hlk : meth.locks = false) (hv : meth.sig.returnType = none → v = none) (hq : Q v T.heap locs) (hc : cells ≤ kc) (hs : slots ≤ ks)
    (k : ∀ fs, (∀ (f : JFrame) (acts : List Action), f.method = m → f.locked = none → f.entered = [] → (doReturn e (T.setTop f) acts v).1 = T.setFrames fs) → Steps p.tables e below (T.setTop g) (T.setFrames fs)) : Goes p e below (EndQ s Q kc ks) T g := by
  obtain ⟨fs, hr, hrun, hended, hW, hsame⟩ := X.leave (v := v) hv hlk
  exact ⟨_, _, k fs hr, hrun, hended, _, rfl, _, hq, ⟨_, rfl⟩, hW, hsame.mono hc hs⟩
theorem Goes.retI (X : Stand p l e R s m args below meth c T locs cells slots) (hx : p.tables.exec = Jvm.exec) (hlk : meth.locks = false) {pc : Nat} {Ls : Array Slot} {z : Int32} {rest : List Value} (hret : meth.sig.returnType = some .int) (hd : decode c.code pc = .ok (.ireturn, 1))
    (hc : cells ≤ kc) (hs : slots ≤ ks) (hq : Q (some (.int z)) T.heap locs) : Goes p e below (EndQ s Q kc ks) T (mkF m pc Ls (.int z :: rest)) :=
  Goes.out X hlk (fun h => by rw [hret] at h; cases h) hq hc hs fun fs hr => RoadKit.retI X hx hret hd hr
theorem Goes.retN (X : Stand p l e R s m args below meth c T locs cells slots) (hx : p.tables.exec = Jvm.exec) (hlk : meth.locks = false) {pc : Nat} {Ls : Array Slot} {z : Int32} {t : FieldType} {rest : List Value} (hret : meth.sig.returnType = some t) (ht : t = .boolean ∨ t = .byte ∨ t = .char ∨ t = .short) (hd : decode c.code pc = .ok (.ireturn, 1))
    (hc : cells ≤ kc) (hs : slots ≤ ks) (hq : Q (some (.int (nar t z))) T.heap locs) : Goes p e below (EndQ s Q kc ks) T (mkF m pc Ls (.int z :: rest)) :=
  Goes.out X hlk (fun h => by rw [hret] at h; cases h) hq hc hs fun fs hr => RoadKit.retN X hx hret ht hd hr
theorem Goes.retA (X : Stand p l e R s m args below meth c T locs cells slots) (hx : p.tables.exec = Jvm.exec) (hlk : meth.locks = false) {pc : Nat} {Ls : Array Slot} {w : Value} {t : FieldType} {rest : List Value} (hret : meth.sig.returnType = some t) (ht : t.isReference = true) (hw : w.isRef = true) (hd : decode c.code pc = .ok (.areturn, 1))
    (hc : cells ≤ kc) (hs : slots ≤ ks) (hq : Q (some w) T.heap locs) : Goes p e below (EndQ s Q kc ks) T (mkF m pc Ls (w :: rest)) :=
  Goes.out X hlk (fun h => by rw [hret] at h; cases h) hq hc hs fun fs hr => RoadKit.retOut X hx hret (by cases w <;> cases t <;> first | rfl | (simp [FieldType.isReference] at ht) | (simp [Value.isRef] at hw)) (Or.inr (Or.inr (Or.inr (Or.inr ⟨rfl, ht, hw⟩)))) hd hr
theorem Goes.retJ (X : Stand p l e R s m args below meth c T locs cells slots) (hx : p.tables.exec = Jvm.exec) (hlk : meth.locks = false) {pc : Nat} {Ls : Array Slot} {z : Int64} {rest : List Value} (hret : meth.sig.returnType = some .long) (hd : decode c.code pc = .ok (.lreturn, 1))
    (hc : cells ≤ kc) (hs : slots ≤ ks) (hq : Q (some (.long z)) T.heap locs) : Goes p e below (EndQ s Q kc ks) T (mkF m pc Ls (.long z :: rest)) :=
  Goes.out X hlk (fun h => by rw [hret] at h; cases h) hq hc hs fun fs hr => RoadKit.retOut X hx hret rfl (Or.inr (Or.inl ⟨rfl, rfl, _, rfl⟩)) hd hr
theorem Goes.retV (X : Stand p l e R s m args below meth c T locs cells slots) (hx : p.tables.exec = Jvm.exec) (hlk : meth.locks = false) {pc : Nat} {Ls : Array Slot} (hret : meth.sig.returnType = none) (hd : decode c.code pc = .ok (.return_, 1))
    (hc : cells ≤ kc) (hs : slots ≤ ks) (hq : Q none T.heap locs) : Goes p e below (EndQ s Q kc ks) T (mkF m pc Ls []) :=
  Goes.out X hlk (fun _ => rfl) hq hc hs fun fs hr => X.returnOut hx hret hd hr
/-- a static call, by its callee's contract -/
theorem Goes.callS (X : Stand p l e R s m args below meth c T locs cells slots) (hx : p.tables.exec = Jvm.exec) {own : String} {index : Nat} {y : MethodName} {bytes : ByteArray} {maxL : Nat} {ret : Option FieldType}
    (hown : s.vm.findClass own = some m.cls) (hlink : (Cond.methodLink own index y).before args s = true) (hstat : (Cond.static y).before args s = true) (hinit : (Cond.initialized y.cls).before args s = true)
    (hcode : (Cond.code y bytes maxL ret).before args s = true) (hy : y.cls ≠ "java/lang/invoke/MethodHandle" ∧ y.cls ≠ "java/lang/invoke/VarHandle")
    {W : Nat} {as' : Array Value} {Qc : Option Value → Heap → List Loc → Prop} {kc' ks' : Nat}
    (hK : Back l R p e below s args y 3 W (fun A a => a = as' ∧ A.U.heap = h ∧ A.cells + kc' ≤ R.cells ∧ A.slots + ks' ≤ R.slots) (fun A _ v B => ∃ L, Qc v B.U.heap L ∧ B.locs = A.locs ++ L ∧ B.cells = A.cells + kc' ∧ B.slots = A.slots + ks'))
    (hg : g.method = m) (hsize : g.locals.size = c.maxLocals) {argsL rest : List Value} (hlen : ∀ sig, parseMethodDescriptor y.desc = some sig → argsL.length = sig.parameters.length)
    (hstack : g.stack = argsL.reverse ++ rest) (hW : 2 * g.monitorRoom + (rest.map fun v => v.category).sum ≤ W) (hdg : decode c.code g.pc = .ok (.invokestatic index, 3)) (ha : argsL.toArray = as') (eT : T.heap = h) (hc : cells + kc' ≤ R.cells) (hs : slots + ks' ≤ R.slots)
    (k : ∀ (v : Option Value) (T' : State) (L : List Loc), Qc v T'.heap L → Stand p l e R s m args below meth c T' (locs ++ L) (cells + kc') (slots + ks') → Goes p e below F T' { g with pc := g.pc + 3, stack := v.toList ++ rest }) : Goes p e below F T g := by
  obtain ⟨v, vm₁, ⟨T', L', k', n'⟩, -, X', ⟨L, hQ, h1, h2, h3⟩, st⟩ := Jvm.LawKit.callS X hx hown hlink hstat hinit hcode hy hK hg hsize hlen hstack hW hdg (fun _ _ => ⟨ha, eT, hc, hs⟩)
  dsimp only [Pt.U, Pt.locs, Pt.cells, Pt.slots] at X' h1 h2 h3 st hQ
  subst h1 h2 h3
  exact Goes.step st (k v T' L hQ X')
/-- a constructor, by its contract -/
theorem Goes.callC (X : Stand p l e R s m args below meth c T locs cells slots) (hx : p.tables.exec = Jvm.exec) {own : String} {index : Nat} {y : MethodName} {bytes : ByteArray} {maxL : Nat} (hy1 : y.name = "<init>")
    (hown : s.vm.findClass own = some m.cls) (hlink : (Cond.methodLink own index y).before args s = true) (hinst : (Cond.instanceMethod y).before args s = true) (hcode : (Cond.code y bytes maxL none).before args s = true)
    (hy : y.cls ≠ "java/lang/invoke/MethodHandle" ∧ y.cls ≠ "java/lang/invoke/VarHandle")
    {W : Nat} {as' : Array Value} {Qc : Option Value → Heap → List Loc → Prop} {kc' ks' : Nat}
    (hK : Back l R p e below s args y 3 W (fun A a => a = as' ∧ A.U.heap = h ∧ A.cells + kc' ≤ R.cells ∧ A.slots + ks' ≤ R.slots) (fun A _ v B => ∃ L, Qc v B.U.heap L ∧ B.locs = A.locs ++ L ∧ B.cells = A.cells + kc' ∧ B.slots = A.slots + ks'))
    (hg : g.method = m) (hsize : g.locals.size = c.maxLocals) {a : Addr} {argsL rest : List Value} (hlen : ∀ sig, parseMethodDescriptor y.desc = some sig → argsL.length = sig.parameters.length)
    (hstack : g.stack = argsL.reverse ++ .ref a :: rest) (hW : 2 * g.monitorRoom + (rest.map fun v => v.category).sum ≤ W) (hdg : decode c.code g.pc = .ok (.invokespecial index, 3)) (ha : (.ref a :: argsL).toArray = as') (eT : T.heap = h) (hc : cells + kc' ≤ R.cells) (hs : slots + ks' ≤ R.slots)
    (k : ∀ (v : Option Value) (T' : State) (L : List Loc), Qc v T'.heap L → Stand p l e R s m args below meth c T' (locs ++ L) (cells + kc') (slots + ks') → Goes p e below F T' { g with pc := g.pc + 3, stack := v.toList ++ rest }) : Goes p e below F T g := by
  obtain ⟨v, vm₁, ⟨T', L', k', n'⟩, -, X', ⟨L, hQ, h1, h2, h3⟩, st⟩ := X.specialBack hx hy1 hown hlink hinst hcode hy hK hg hsize (Steps.refl _) hlen hstack hW hdg (fun _ _ => ⟨ha, eT, hc, hs⟩)
  dsimp only [Pt.U, Pt.locs, Pt.cells, Pt.slots] at X' h1 h2 h3 st hQ
  subst h1 h2 h3
  exact Goes.step (fun t q => st.trans q) (k v T' L hQ X')
/-- an instance method, by the contract of the body that is selected -/
theorem Goes.callV (X : Stand p l e R s m args below meth c T locs cells slots) (hx : p.tables.exec = Jvm.exec) (hZ : Z.Warmed39 s.vm) {own C : String} {index : Nat} {y z : MethodName}
    (hown : s.vm.findClass own = some m.cls) (hlink : (Cond.methodLink own index y).before args s = true) (hdecl : (Cond.declares y).before args s = true) (hnf : NotFace s y)
    (hsel : (Cond.selects C y z).before args s = true) (hinst : (Cond.instanceMethod z).before args s = true)
    (hy : y.cls ≠ "java/lang/invoke/MethodHandle" ∧ y.cls ≠ "java/lang/invoke/VarHandle")
    {W : Nat} {as' : Array Value} {Qc : Option Value → Heap → List Loc → Prop} {kc' ks' : Nat}
    (hK : Back l R p e below s args z 3 W (fun A a => a = as' ∧ A.U.heap = h ∧ A.cells + kc' ≤ R.cells ∧ A.slots + ks' ≤ R.slots) (fun A _ v B => ∃ L, Qc v B.U.heap L ∧ B.locs = A.locs ++ L ∧ B.cells = A.cells + kc' ∧ B.slots = A.slots + ks'))
    {b : Addr} (eT : T.heap = h) (E : Exa Z h b C)
    (hg : g.method = m) (hsize : g.locals.size = c.maxLocals) {argsL rest : List Value} (hlen : ∀ sig, parseMethodDescriptor y.desc = some sig → argsL.length = sig.parameters.length)
    (hstack : g.stack = argsL.reverse ++ .ref b :: rest) (hW : 2 * g.monitorRoom + (rest.map fun v => v.category).sum ≤ W) (hdg : decode c.code g.pc = .ok (.invokevirtual index, 3)) (ha : (.ref b :: argsL).toArray = as') (hc : cells + kc' ≤ R.cells) (hs : slots + ks' ≤ R.slots)
    (k : ∀ (v : Option Value) (T' : State) (L : List Loc), Qc v T'.heap L → Stand p l e R s m args below meth c T' (locs ++ L) (cells + kc') (slots + ks') → Goes p e below F T' { g with pc := g.pc + 3, stack := v.toList ++ rest }) : Goes p e below F T g := by
  obtain ⟨cq, kq, qa, qb, qc⟩ := isOf hZ eT E
  obtain ⟨v, vm₁, ⟨T', L', k', n'⟩, -, X', ⟨L, hQ, h1, h2, h3⟩, st⟩ := X.virtualBack hx hown hlink hdecl hnf hsel hinst hy hK qa qc hg hsize (Steps.refl _) hlen hstack hW hdg (fun _ _ => ⟨ha, eT, hc, hs⟩)
  dsimp only [Pt.U, Pt.locs, Pt.cells, Pt.slots] at X' h1 h2 h3 st hQ
  subst h1 h2 h3
  exact Goes.step (fun t q => st.trans q) (k v T' L hQ X')
/-- a private method called by invokevirtual -/
theorem Goes.callP (X : Stand p l e R s m args below meth c T locs cells slots) (hx : p.tables.exec = Jvm.exec) {own C : String} {index : Nat} {y : MethodName} {bytes : ByteArray} {maxL : Nat} {ret : Option FieldType}
    (hown : s.vm.findClass own = some m.cls) (hlink : (Cond.methodLink own index y).before args s = true) (hinst : (Cond.instanceMethod y).before args s = true) (hsel : (Cond.selects y.cls y y).before args s = true)
    (hpriv : s.PrivateAt y) (hcode : (Cond.code y bytes maxL ret).before args s = true)
    (hy : y.cls ≠ "java/lang/invoke/MethodHandle" ∧ y.cls ≠ "java/lang/invoke/VarHandle")
    {W : Nat} {as' : Array Value} {Qc : Option Value → Heap → List Loc → Prop} {kc' ks' : Nat}
    (hK : Back l R p e below s args y 3 W (fun A a => a = as' ∧ A.U.heap = h ∧ A.cells + kc' ≤ R.cells ∧ A.slots + ks' ≤ R.slots) (fun A _ v B => ∃ L, Qc v B.U.heap L ∧ B.locs = A.locs ++ L ∧ B.cells = A.cells + kc' ∧ B.slots = A.slots + ks'))
    {b : Addr} (eT : T.heap = h) (E : Exa Z h b C)
    (hg : g.method = m) (hsize : g.locals.size = c.maxLocals) {argsL rest : List Value} (hlen : ∀ sig, parseMethodDescriptor y.desc = some sig → argsL.length = sig.parameters.length)
    (hstack : g.stack = argsL.reverse ++ .ref b :: rest) (hW : 2 * g.monitorRoom + (rest.map fun v => v.category).sum ≤ W) (hdg : decode c.code g.pc = .ok (.invokevirtual index, 3)) (ha : (.ref b :: argsL).toArray = as') (hc : cells + kc' ≤ R.cells) (hs : slots + ks' ≤ R.slots)
    (k : ∀ (v : Option Value) (T' : State) (L : List Loc), Qc v T'.heap L → Stand p l e R s m args below meth c T' (locs ++ L) (cells + kc') (slots + ks') → Goes p e below F T' { g with pc := g.pc + 3, stack := v.toList ++ rest }) : Goes p e below F T g := by
  obtain ⟨cq, q1, q2⟩ := E.cell
  obtain ⟨v, vm₁, ⟨T', L', k', n'⟩, -, X', ⟨L, hQ, h1, h2, h3⟩, st⟩ := X.privateBack hx hown hlink hinst hsel hpriv hcode hy hK hg hsize (Steps.refl _) (by rw [eT]; exact q1) q2 hlen hstack hW hdg (fun _ _ => ⟨ha, eT, hc, hs⟩)
  dsimp only [Pt.U, Pt.locs, Pt.cells, Pt.slots] at X' h1 h2 h3 st hQ
  subst h1 h2 h3
  exact Goes.step (fun t q => st.trans q) (k v T' L hQ X')
/-- clone() of an array whose elements are known -/
theorem cloneV {a : Addr} {ty : FieldType} (X : Stand p l e R s m args below meth c T locs cells slots) (hx : p.tables.exec = Jvm.exec) (hZ : Z.Warmed39 s.vm) {own ad : String} {index : Nat} (hown : s.vm.findClass own = some m.cls)
    (w1 : (Cond.methodLink own index ⟨ad, "clone", "()Ljava/lang/Object;"⟩).before a0 Z = true) (w2 : (Cond.sameMethod ad "java/lang/Object" "clone" "()Ljava/lang/Object;").before a0 Z = true) (w3 : (Cond.native ⟨"java/lang/Object", "clone", "()Ljava/lang/Object;"⟩).before a0 Z = true)
    (w4 : (Cond.instanceMethod ⟨"java/lang/Object", "clone", "()Ljava/lang/Object;"⟩).before a0 Z = true) (w5 : (Cond.selects ad ⟨ad, "clone", "()Ljava/lang/Object;"⟩ ⟨"java/lang/Object", "clone", "()Ljava/lang/Object;"⟩).before a0 Z = true) (w6 : (Cond.castable ad "java/lang/Cloneable").before a0 Z = true)
    (eT : T.heap = h) {k : ClassId} {z : Int32} {vs : List Value} {dv : Value} (FA : Arv Z h a k ty z vs dv) (E : Exa Z h a ad) {g : JFrame} (hg : g.method = m) (hsize : g.locals.size = c.maxLocals) {rest : List Value} (hst : g.stack = .ref a :: rest) (hd : decode c.code g.pc = .ok (.invokevirtual index, 3))
    (hf : 1 ≤ R.frames) {W cap : Nat} (hW : 2 * g.monitorRoom + (rest.map fun v => v.category).sum ≤ W) (hl : W + 14 ≤ R.locals) (hcap : z.toNatClampNeg ≤ cap) (hc : cells + 1 ≤ R.cells) (hsl : slots + cap ≤ R.slots) :
    ∃ T' h', Stand p l e R s m args below meth c T' locs (cells + 1) (slots + cap) ∧ T'.heap = h' ∧ Ext h h' ∧ Arv Z h' h.size k ty z vs dv ∧ Exa Z h' h.size ad ∧
      ∀ target, Steps p.tables e below (T'.setTop { g with pc := g.pc + 3, stack := .ref h.size :: rest }) target → Steps p.tables e below (T.setTop g) target := by
  obtain ⟨cl, A, q1, S, q3, H, G⟩ := FA
  have FC : FitC Z cl := fitC_of A fun i hi v hv => by rw [H i hi] at hv; cases hv; exact G i hi
  obtain ⟨T', h', X', e', ex, A', E', st⟩ := cloneA X hx hZ hown w1 w2 w3 w4 w5 w6 eT A E FC hg hsize hst hd hf hW hl (by rw [S]; exact hcap) hc hsl
  exact ⟨T', h', X', e', ex, ⟨cloneOf cl, A', q1, S, q3, H, G⟩, E', st⟩
end Own
end Jvm.RoadKit
namespace Jvm.RoadKit
open Sem ClassFile Op Lib Jvm.Stand Jvm.Free Jvm.LawKit
namespace P1
section P1
variable {p : Program} {e : Env} {below : List Frame} {F : Option Value → State → Prop} {T : State} {m : MethodId} {c : Code} {pc : Nat} {Ls : Array Slot} {S : List Value}
theorem aloadN (h : At T m c below) (hx : p.tables.exec = Jvm.exec) {k : Fin 4} {v : Value} (hd : decode c.code pc = .ok (.aload_n k, 1)) (hl : Ls[k.val]? = some (.val v)) (hv : v.isRef = true) (hr : Goes p e below F T (mkF m (pc + 1) Ls (v :: S))) : Goes p e below F T (mkF m pc Ls (S)) := Goes.step (fun t k => XS.aloadN h hx rfl hd hl hv k) hr
theorem aload (h : At T m c below) (hx : p.tables.exec = Jvm.exec) {k : Nat} {v : Value} (hd : decode c.code pc = .ok (.aload k, 2)) (hl : Ls[k]? = some (.val v)) (hv : v.isRef = true) (hr : Goes p e below F T (mkF m (pc + 2) Ls (v :: S))) : Goes p e below F T (mkF m pc Ls (S)) := Goes.step (fun t k => XS.aload h hx rfl hd hl hv k) hr
theorem iloadN (h : At T m c below) (hx : p.tables.exec = Jvm.exec) {k : Fin 4} {v : Int32} (hd : decode c.code pc = .ok (.iload_n k, 1)) (hl : Ls[k.val]? = some (.val (.int v))) (hr : Goes p e below F T (mkF m (pc + 1) Ls ((.int v) :: S))) : Goes p e below F T (mkF m pc Ls (S)) := Goes.step (fun t k => XS.iloadN h hx rfl hd hl k) hr
theorem iload (h : At T m c below) (hx : p.tables.exec = Jvm.exec) {k : Nat} {v : Int32} (hd : decode c.code pc = .ok (.iload k, 2)) (hl : Ls[k]? = some (.val (.int v))) (hr : Goes p e below F T (mkF m (pc + 2) Ls ((.int v) :: S))) : Goes p e below F T (mkF m pc Ls (S)) := Goes.step (fun t k => XS.iload h hx rfl hd hl k) hr
theorem lloadN (h : At T m c below) (hx : p.tables.exec = Jvm.exec) {k : Fin 4} {v : Int64} (hd : decode c.code pc = .ok (.lload_n k, 1)) (hl : Ls[k.val]? = some (.val (.long v))) (hr : Goes p e below F T (mkF m (pc + 1) Ls ((.long v) :: S))) : Goes p e below F T (mkF m pc Ls (S)) := Goes.step (fun t k => XS.lloadN h hx rfl hd hl k) hr
theorem lload (h : At T m c below) (hx : p.tables.exec = Jvm.exec) {k : Nat} {v : Int64} (hd : decode c.code pc = .ok (.lload k, 2)) (hl : Ls[k]? = some (.val (.long v))) (hr : Goes p e below F T (mkF m (pc + 2) Ls ((.long v) :: S))) : Goes p e below F T (mkF m pc Ls (S)) := Goes.step (fun t k => XS.lload h hx rfl hd hl k) hr
theorem astoreN (h : At T m c below) (hx : p.tables.exec = Jvm.exec) {k : Fin 4} {x : Value} (l' : Array Slot) (hd : decode c.code pc = .ok (.astore_n k, 1)) (hv : x.isRef = true) (hl : storeLocals Ls k.val x = some l') (hr : Goes p e below F T (mkF m (pc + 1) l' (S))) : Goes p e below F T (mkF m pc Ls (x :: S)) := Goes.step (fun t k => XS.astoreN h hx rfl hd rfl hv hl k) hr
theorem astore (h : At T m c below) (hx : p.tables.exec = Jvm.exec) {k : Nat} {x : Value} (l' : Array Slot) (hd : decode c.code pc = .ok (.astore k, 2)) (hv : x.isRef = true) (hl : storeLocals Ls k x = some l') (hr : Goes p e below F T (mkF m (pc + 2) l' (S))) : Goes p e below F T (mkF m pc Ls (x :: S)) := Goes.step (fun t k => XS.astore h hx rfl hd rfl hv hl k) hr
theorem istoreN (h : At T m c below) (hx : p.tables.exec = Jvm.exec) {k : Fin 4} {x : Int32} (l' : Array Slot) (hd : decode c.code pc = .ok (.istore_n k, 1)) (hl : storeLocals Ls k.val (.int x) = some l') (hr : Goes p e below F T (mkF m (pc + 1) l' (S))) : Goes p e below F T (mkF m pc Ls ((.int x) :: S)) := Goes.step (fun t k => XS.istoreN h hx rfl hd rfl hl k) hr
theorem istore (h : At T m c below) (hx : p.tables.exec = Jvm.exec) {k : Nat} {x : Int32} (l' : Array Slot) (hd : decode c.code pc = .ok (.istore k, 2)) (hl : storeLocals Ls k (.int x) = some l') (hr : Goes p e below F T (mkF m (pc + 2) l' (S))) : Goes p e below F T (mkF m pc Ls ((.int x) :: S)) := Goes.step (fun t k => XS.istore h hx rfl hd rfl hl k) hr
theorem lstoreN (h : At T m c below) (hx : p.tables.exec = Jvm.exec) {k : Fin 4} {x : Int64} (l' : Array Slot) (hd : decode c.code pc = .ok (.lstore_n k, 1)) (hl : storeLocals Ls k.val (.long x) = some l') (hr : Goes p e below F T (mkF m (pc + 1) l' (S))) : Goes p e below F T (mkF m pc Ls ((.long x) :: S)) := Goes.step (fun t k => XS.lstoreN h hx rfl hd rfl hl k) hr
theorem lstore (h : At T m c below) (hx : p.tables.exec = Jvm.exec) {k : Nat} {x : Int64} (l' : Array Slot) (hd : decode c.code pc = .ok (.lstore k, 2)) (hl : storeLocals Ls k (.long x) = some l') (hr : Goes p e below F T (mkF m (pc + 2) l' (S))) : Goes p e below F T (mkF m pc Ls ((.long x) :: S)) := Goes.step (fun t k => XS.lstore h hx rfl hd rfl hl k) hr
theorem iconst (h : At T m c below) (hx : p.tables.exec = Jvm.exec) (z : Int32) {i : Int} (hd : decode c.code pc = .ok (.iconst i, 1)) (hz : Int32.ofInt i = z) (hr : Goes p e below F T (mkF m (pc + 1) Ls (.int z :: S))) : Goes p e below F T (mkF m pc Ls S) := by subst hz; exact Goes.step (fun t k => XS.iconst h hx rfl hd k) hr
theorem bipush (h : At T m c below) (hx : p.tables.exec = Jvm.exec) (z : Int32) {i : Int} (hd : decode c.code pc = .ok (.bipush i, 2)) (hz : (Int8.ofInt i).toInt32 = z) (hr : Goes p e below F T (mkF m (pc + 2) Ls (.int z :: S))) : Goes p e below F T (mkF m pc Ls S) := by subst hz; exact Goes.step (fun t k => XS.bipush h hx rfl hd k) hr
theorem sipush (h : At T m c below) (hx : p.tables.exec = Jvm.exec) (z : Int32) {i : Int} (hd : decode c.code pc = .ok (.sipush i, 3)) (hz : (Int16.ofInt i).toInt32 = z) (hr : Goes p e below F T (mkF m (pc + 3) Ls (.int z :: S))) : Goes p e below F T (mkF m pc Ls S) := by subst hz; exact Goes.step (fun t k => XS.sipush h hx rfl hd k) hr
theorem aconstNull (h : At T m c below) (hx : p.tables.exec = Jvm.exec)  (hd : decode c.code pc = .ok (.aconst_null, 1)) (hr : Goes p e below F T (mkF m (pc + 1) Ls (.null :: S))) : Goes p e below F T (mkF m pc Ls (S)) := Goes.step (fun t k => XS.aconstNull h hx rfl hd k) hr
theorem dup (h : At T m c below) (hx : p.tables.exec = Jvm.exec) {x : Value} (hd : decode c.code pc = .ok (.dup, 1)) (hc : x.category = 1) (hr : Goes p e below F T (mkF m (pc + 1) Ls (x :: x :: S))) : Goes p e below F T (mkF m pc Ls (x :: S)) := Goes.step (fun t k => XS.dup h hx rfl hd rfl hc k) hr
theorem pop (h : At T m c below) (hx : p.tables.exec = Jvm.exec) {x : Value} (hd : decode c.code pc = .ok (.pop, 1)) (hc : x.category = 1) (hr : Goes p e below F T (mkF m (pc + 1) Ls (S))) : Goes p e below F T (mkF m pc Ls (x :: S)) := Goes.step (fun t k => XS.pop h hx rfl hd rfl hc k) hr
theorem goto (h : At T m c below) (hx : p.tables.exec = Jvm.exec) {o : Int} (pc' : Nat) (hd : decode c.code pc = .ok (.goto o, 3)) (ho : 0 ≤ (pc : Int) + o) (hp : ((pc : Int) + o).toNat = pc') (hr : Goes p e below F T (mkF m pc' Ls (S))) : Goes p e below F T (mkF m pc Ls (S)) := Goes.step (fun t k => XS.goto h hx rfl (pc0 := pc) rfl hd ho hp k) hr
theorem iadd (h : At T m c below) (hx : p.tables.exec = Jvm.exec) {x y : Int32} (hd : decode c.code pc = .ok (.iadd, 1)) (hr : Goes p e below F T (mkF m (pc + 1) Ls (.int (x + y) :: S))) : Goes p e below F T (mkF m pc Ls (.int y :: .int x :: S)) := Goes.step (fun t k => XS.iadd h hx rfl hd rfl k) hr
theorem isub (h : At T m c below) (hx : p.tables.exec = Jvm.exec) {x y : Int32} (hd : decode c.code pc = .ok (.isub, 1)) (hr : Goes p e below F T (mkF m (pc + 1) Ls (.int (x - y) :: S))) : Goes p e below F T (mkF m pc Ls (.int y :: .int x :: S)) := Goes.step (fun t k => XS.isub h hx rfl hd rfl k) hr
theorem imul (h : At T m c below) (hx : p.tables.exec = Jvm.exec) {x y : Int32} (hd : decode c.code pc = .ok (.imul, 1)) (hr : Goes p e below F T (mkF m (pc + 1) Ls (.int (x * y) :: S))) : Goes p e below F T (mkF m pc Ls (.int y :: .int x :: S)) := Goes.step (fun t k => XS.imul h hx rfl hd rfl k) hr
theorem iand (h : At T m c below) (hx : p.tables.exec = Jvm.exec) {x y : Int32} (hd : decode c.code pc = .ok (.iand, 1)) (hr : Goes p e below F T (mkF m (pc + 1) Ls (.int (x &&& y) :: S))) : Goes p e below F T (mkF m pc Ls (.int y :: .int x :: S)) := Goes.step (fun t k => XS.iand h hx rfl hd rfl k) hr
theorem ior (h : At T m c below) (hx : p.tables.exec = Jvm.exec) {x y : Int32} (hd : decode c.code pc = .ok (.ior, 1)) (hr : Goes p e below F T (mkF m (pc + 1) Ls (.int (x ||| y) :: S))) : Goes p e below F T (mkF m pc Ls (.int y :: .int x :: S)) := Goes.step (fun t k => XS.ior h hx rfl hd rfl k) hr
theorem ixor (h : At T m c below) (hx : p.tables.exec = Jvm.exec) {x y : Int32} (hd : decode c.code pc = .ok (.ixor, 1)) (hr : Goes p e below F T (mkF m (pc + 1) Ls (.int (x ^^^ y) :: S))) : Goes p e below F T (mkF m pc Ls (.int y :: .int x :: S)) := Goes.step (fun t k => XS.ixor h hx rfl hd rfl k) hr
theorem icmpNo (h : At T m c below) (hx : p.tables.exec = Jvm.exec) {cd : ClassFile.Cond} {o : Int} {x y : Int32} (hd : decode c.code pc = .ok (.if_icmp cd o, 3)) (hc : if_icmp.holds cd x y = false) (hr : Goes p e below F T (mkF m (pc + 3) Ls (S))) : Goes p e below F T (mkF m pc Ls (.int y :: .int x :: S)) := Goes.step (fun t k => XS.icmpNo h hx rfl hd rfl hc k) hr
theorem icmpYes (h : At T m c below) (hx : p.tables.exec = Jvm.exec) {cd : ClassFile.Cond} {o : Int} {x y : Int32} (pc' : Nat) (hd : decode c.code pc = .ok (.if_icmp cd o, 3)) (hc : if_icmp.holds cd x y = true) (ho : 0 ≤ (pc : Int) + o) (hp : ((pc : Int) + o).toNat = pc') (hr : Goes p e below F T (mkF m pc' Ls (S))) : Goes p e below F T (mkF m pc Ls (.int y :: .int x :: S)) := Goes.step (fun t k => XS.icmpYes h hx rfl (pc0 := pc) rfl hd rfl hc ho hp k) hr
theorem ifNo (h : At T m c below) (hx : p.tables.exec = Jvm.exec) {cd : ClassFile.Cond} {o : Int} {x : Int32} (hd : decode c.code pc = .ok (.ifCond cd o, 3)) (hc : ifCond.holds cd x = false) (hr : Goes p e below F T (mkF m (pc + 3) Ls (S))) : Goes p e below F T (mkF m pc Ls (.int x :: S)) := Goes.step (fun t k => XS.ifNo h hx rfl hd rfl hc k) hr
theorem ifYes (h : At T m c below) (hx : p.tables.exec = Jvm.exec) {cd : ClassFile.Cond} {o : Int} {x : Int32} (pc' : Nat) (hd : decode c.code pc = .ok (.ifCond cd o, 3)) (hc : ifCond.holds cd x = true) (ho : 0 ≤ (pc : Int) + o) (hp : ((pc : Int) + o).toNat = pc') (hr : Goes p e below F T (mkF m pc' Ls (S))) : Goes p e below F T (mkF m pc Ls (.int x :: S)) := Goes.step (fun t k => XS.ifYes h hx rfl (pc0 := pc) rfl hd rfl hc ho hp k) hr
theorem ifnullNo (h : At T m c below) (hx : p.tables.exec = Jvm.exec) {o : Int} {b : Addr} (hd : decode c.code pc = .ok (.ifnull o, 3)) (hr : Goes p e below F T (mkF m (pc + 3) Ls (S))) : Goes p e below F T (mkF m pc Ls (.ref b :: S)) := Goes.step (fun t k => XS.ifnullNo h hx rfl hd rfl k) hr
theorem ifnullYes (h : At T m c below) (hx : p.tables.exec = Jvm.exec) {o : Int} (pc' : Nat) (hd : decode c.code pc = .ok (.ifnull o, 3)) (ho : 0 ≤ (pc : Int) + o) (hp : ((pc : Int) + o).toNat = pc') (hr : Goes p e below F T (mkF m pc' Ls (S))) : Goes p e below F T (mkF m pc Ls (.null :: S)) := Goes.step (fun t k => XS.ifnullYes h hx rfl (pc0 := pc) rfl hd rfl ho hp k) hr
theorem ifnonnullNo (h : At T m c below) (hx : p.tables.exec = Jvm.exec) {o : Int} (hd : decode c.code pc = .ok (.ifnonnull o, 3)) (hr : Goes p e below F T (mkF m (pc + 3) Ls (S))) : Goes p e below F T (mkF m pc Ls (.null :: S)) := Goes.step (fun t k => XS.ifnonnullNo h hx rfl hd rfl k) hr
theorem ifnonnullYes (h : At T m c below) (hx : p.tables.exec = Jvm.exec) {o : Int} {b : Addr} (pc' : Nat) (hd : decode c.code pc = .ok (.ifnonnull o, 3)) (ho : 0 ≤ (pc : Int) + o) (hp : ((pc : Int) + o).toNat = pc') (hr : Goes p e below F T (mkF m pc' Ls (S))) : Goes p e below F T (mkF m pc Ls (.ref b :: S)) := Goes.step (fun t k => XS.ifnonnullYes h hx rfl (pc0 := pc) rfl hd rfl ho hp k) hr
theorem iinc (h : At T m c below) (hx : p.tables.exec = Jvm.exec) {k : Nat} {cs : Int} {x : Int32} (l' : Array Slot) (hd : decode c.code pc = .ok (.iinc k cs, 3)) (hl : Ls[k]? = some (.val (.int x))) (hl' : storeLocals Ls k (.int (x + Int32.ofInt cs)) = some l') (hr : Goes p e below F T (mkF m (pc + 3) l' (S))) : Goes p e below F T (mkF m pc Ls (S)) := Goes.step (fun t k => XS.iinc h hx rfl hd hl hl' k) hr
theorem i2b (h : At T m c below) (hx : p.tables.exec = Jvm.exec) {x : Int32} (hd : decode c.code pc = .ok (.i2b, 1)) (hr : Goes p e below F T (mkF m (pc + 1) Ls (.int (x.toInt8.toInt32) :: S))) : Goes p e below F T (mkF m pc Ls (.int x :: S)) := Goes.step (fun t k => XS.i2b h hx rfl hd rfl k) hr
theorem i2c (h : At T m c below) (hx : p.tables.exec = Jvm.exec) {x : Int32} (hd : decode c.code pc = .ok (.i2c, 1)) (hr : Goes p e below F T (mkF m (pc + 1) Ls (.int (x.toUInt32.toUInt16.toUInt32.toInt32) :: S))) : Goes p e below F T (mkF m pc Ls (.int x :: S)) := Goes.step (fun t k => XS.i2c h hx rfl hd rfl k) hr
theorem ishl (h : At T m c below) (hx : p.tables.exec = Jvm.exec) {x y : Int32} (hd : decode c.code pc = .ok (.ishl, 1)) (hr : Goes p e below F T (mkF m (pc + 1) Ls (.int (x <<< (y &&& 31)) :: S))) : Goes p e below F T (mkF m pc Ls (.int y :: .int x :: S)) := Goes.step (fun t k => XS.ishl h hx rfl hd rfl k) hr
theorem ishr (h : At T m c below) (hx : p.tables.exec = Jvm.exec) {x y : Int32} (hd : decode c.code pc = .ok (.ishr, 1)) (hr : Goes p e below F T (mkF m (pc + 1) Ls (.int (x >>> (y &&& 31)) :: S))) : Goes p e below F T (mkF m pc Ls (.int y :: .int x :: S)) := Goes.step (fun t k => XS.ishr h hx rfl hd rfl k) hr
end P1
end P1
end Jvm.RoadKit
namespace Jvm.RoadKit
open Sem ClassFile Op Lib Jvm.Stand Jvm.Free Jvm.LawKit
section OwnStart
variable {Z : State} {args : Array Value} {t u : Term} {a : Addr} {cl : Cell} {ty : FieldType} {v : Value}
theorem own_eqV (h : (Cond.eq t u).value args Z none Z [] = some true) (hu : u.eval args Z none [] Z = some v) (hv : (∃ z, v = .int z) ∨ v.isRef = true) : t.eval args Z none [] Z = some v := by
  cases ht : t.eval args Z none [] Z with
  | none => simp [Cond.value, ht] at h
  | some x =>
    rcases hv with ⟨z, rfl⟩ | hv
    · cases x <;> simp_all [Cond.value, Value.isRef]
    · cases x <;> cases v <;> simp_all [Cond.value, Value.isRef]
theorem own_len {n : Int32} (A : Arr Z Z.heap a cl ty) (ev : t.eval args Z none [] Z = some (.ref a)) (h : (Cond.eq (.length t) (.int n)).value args Z none Z [] = some true) : cl.slots.size < 2 ^ 31 ∧ cl.slots.size.toInt32 = n := by
  have q := own_eqV h (Term.int_eval n) (Or.inl ⟨_, rfl⟩)
  have harr := Arr.fin (U := Z) (Vm.Alike.refl _) A
  by_cases hl : cl.slots.size < 2 ^ 31
  · rw [len_f ev harr hl] at q
    exact ⟨hl, Value.int.inj (Option.some.inj q)⟩
  · simp [Term.eval, ev, harr, hl] at q
theorem own_elem {j : Int32} (A : Arr Z Z.heap a cl ty) (ev : t.eval args Z none [] Z = some (.ref a)) (h : (Term.elem t (.int j)).eval args Z none [] Z = some v) : cl.slots[j.toNatClampNeg]? = some v := (elem_in h ev (Term.int_eval j) A.1).2
theorem own_fld {C n d : String} (ev : t.eval args Z none [] Z = some (.ref a)) (h : (Term.field t C n d).eval args Z none [] Z = some v) : Fld Z Z.heap a C n d v := Fld.start ((fld_at ev).symm.trans h)
end OwnStart
end Jvm.RoadKit
namespace Jvm.RoadKit
open Sem ClassFile Op Lib Jvm.Stand Jvm.Free Jvm.LawKit
/-- a room by its four figures -/
abbrev rR (f c s l : Nat) : Room := { frames := f, cells := c, slots := s, locals := l }
/-- the law of a body: from these arguments and this heap it returns, and Q tells what -/
abbrev OwnLaw (l : Launch) (y : MethodName) (bytes : ByteArray) (maxL : Nat) (ret : Option FieldType) (ws : List Cond) (R : Room) (as : Array Value) (Z : State) (h0 : Heap) (Q : Option Value → Heap → List Loc → Prop) : Prop :=
  MetFree l y (head1 (Cond.code y bytes maxL ret :: ws) R) (fun aa U => aa = as ∧ Z.Warmed39 U.vm ∧ U.heap = h0) (fun _ _ _ _ _ => True) (fun _ U oo U' => ∃ vv LL, oo = .returned vv ∧ Q vv U'.heap LL ∧ FrameEnd U oo U' LL R.cells R.slots)
theorem own_enter {l : Launch} {y : MethodName} {bytes : ByteArray} {maxL : Nat} {ret : Option FieldType} {ws : List Cond} {R : Room} {as : Array Value} {Z : State} {h0 : Heap} {Q : Option Value → Heap → List Loc → Prop} {Ls : Array Slot} (pf : plainFor y = true) (ef : ∀ m, entryFrame m as maxL = mkF m 0 Ls [])
    (k : ∀ (p : Program) (e : Env) (s : State) (m : MethodId) (below : List Frame) (meth : Method) (c : Code) (T : State), BodyLoose p l y (head1 (Cond.code y bytes maxL ret :: ws) R) bytes maxL ret e s m as below meth c T → p.tables.exec = Jvm.exec → c.code = bytes → c.maxLocals = maxL → Z.Warmed39 s.vm → s.vm.findClass y.cls = some m.cls → Stand p l e R s m as below meth c T [] 0 0 → T.heap = h0 → Goes p e below (EndQ s Q R.cells R.slots) T (mkF m 0 Ls [])) : OwnLaw l y bytes maxL ret ws R as Z h0 Q := by
  refine MetFree.of_bodySF pf hisR ?_
  intro p e s m args below meth c s₁ Bd hml hP hK
  obtain ⟨rfl, hZ, hh⟩ := hP
  refine Goes.give ?_
  rw [ef m]
  exact k p e s m below meth c s₁ Bd Bd.exec Bd.bytes hml hZ (findClass_of_methodNamed Bd.named) (Stand.of_body Bd) (by rw [← hh, Bd.state]; rfl)
section
variable {p : Program} {l : Launch} {e : Env} {R : Room} {s : State} {m : MethodId} {args : Array Value} {below : List Frame} {meth : Method} {c : Code} {T : State} {locs : List Loc} {cells slots : Nat} {F : Option Value → State → Prop} {Z : State} {a0 : Array Value} {h : Heap} {pc : Nat} {Ls : Array Slot} {S : List Value} {own : String} {index : Nat}
/-- a static call, paid by its law -/
theorem P1.callS (X : Stand p l e R s m args below meth c T locs cells slots) (hx : p.tables.exec = Jvm.exec) (hZ : Z.Warmed39 s.vm) {y : MethodName} {bytes : ByteArray} {maxL : Nat} {ret : Option FieldType} (hown : s.vm.findClass own = some m.cls)
    (w1 : (Cond.methodLink own index y).before a0 Z = true) (w2 : (Cond.static y).before a0 Z = true) (w3 : (Cond.initialized y.cls).before a0 Z = true) (w4 : (Cond.code y bytes maxL ret).before a0 Z = true) (hy : y.cls ≠ "java/lang/invoke/MethodHandle" ∧ y.cls ≠ "java/lang/invoke/VarHandle")
    {rm : Room} {as : Array Value} {Qc : Option Value → Heap → List Loc → Prop} (hM : OwnLaw l y bytes maxL ret [] rm as Z h Qc) {mL : Nat} (hml : c.maxLocals = mL) (argsL rest : List Value) (hlen : ∀ sig, parseMethodDescriptor y.desc = some sig → argsL.length = sig.parameters.length)
    (hS : S = argsL.reverse ++ rest) (hz : Ls.size = mL) (hd : decode c.code pc = .ok (.invokestatic index, 3)) (ha : argsL.toArray = as) (eT : T.heap = h) (hf : rm.frames + 1 ≤ R.frames) (hlo : (rest.map fun v => v.category).sum + (maxL + 11) + rm.locals ≤ R.locals) (hc : cells + rm.cells ≤ R.cells) (hs : slots + rm.slots ≤ R.slots)
    (k : ∀ (v : Option Value) (T' : State) (L : List Loc), Qc v T'.heap L → Stand p l e R s m args below meth c T' (locs ++ L) (cells + rm.cells) (slots + rm.slots) → Goes p e below F T' (mkF m (pc + 3) Ls (v.toList ++ rest))) : Goes p e below F T (mkF m pc Ls S) :=
  Goes.callS X hx hown (mvT hZ w1) (mvT hZ w2) (mvT hZ w3) (mvT hZ w4) hy (backOf hM hZ w4 w3 hf hlo) (g := mkF m pc Ls S) rfl (by rw [hml]; exact hz) hlen hS (by show 2 * 0 + _ ≤ _; exact Nat.le_of_eq (Nat.zero_add _)) hd ha eT hc hs k
theorem P1.ldcI (X : Stand p l e R s m args below meth c T locs cells slots) (hx : p.tables.exec = Jvm.exec) (hZ : Z.Warmed39 s.vm) {v : Int32} (hown : s.vm.findClass own = some m.cls) (w : (Cond.constant own index v).before a0 Z = true) (hd : decode c.code pc = .ok (.ldc index, 2)) (hr : Goes p e below F T (mkF m (pc + 2) Ls (.int v :: S))) : Goes p e below F T (mkF m pc Ls S) :=
  Goes.step (fun t k => X.ldcInt hx hown (mvT hZ w) (g := mkF m pc Ls S) rfl hd t k) hr
end
end Jvm.RoadKit
namespace Jvm.RoadKit
open Sem ClassFile Op Lib Jvm.Stand Jvm.Free Jvm.LawKit
section OwnW
variable {p : Program} {l : Launch} {e : Env} {R : Room} {s : State} {m : MethodId} {args : Array Value} {below : List Frame} {meth : Method} {c : Code} {T T' : State} {locs : List Loc} {cells slots : Nat} {Q : Option Value → Heap → List Loc → Prop} {F : Option Value → State → Prop} {kc ks : Nat} {g g' : JFrame} {Z : State} {a0 : Array Value} {h : Heap} {EL : List (String × Nat)} {vm0 : Vm} {k0 : Nat}
/-- the end of a body that may have interned constants of EL -/
def EndW (s Z : State) (EL : List (String × Nat)) (Q : Option Value → Heap → List Loc → Prop) (kc ks : Nat) (v : Option Value) (t : State) : Prop := ∃ L, Q v t.heap L ∧ CHr Z EL s.vm s.heap t.vm t.heap ∧ ReturnedEndW s (.returned v) t L kc ks
theorem Goes.giveW (h : Goes p e below (EndW s Z EL Q kc ks) T g) : ∃ s₂ o, Steps p.tables e below (T.setTop g) s₂ ∧ s₂.status = .running ∧ Ended s₂ below o ∧ ∃ v L, o = .returned v ∧ Q v s₂.heap L ∧ CHr Z EL s.vm s.heap s₂.vm s₂.heap ∧ ReturnedEndW s o s₂ L kc ks := by
  obtain ⟨s2, o, h1, h2, h3, v, rfl, L, h4, h5, h6⟩ := h
  exact ⟨s2, _, h1, h2, h3, v, L, rfl, h4, h5, h6⟩
theorem Goes.outW {v : Option Value} (X : Stand p l e R (s.setVm vm0) m args below meth c T locs cells slots) (hS : s.Since vm0 k0) (hk : k0 ≤ h.size) (hZ : Z.Warmed39 vm0) (hEL : EW Z a0 EL) (hC : CHr Z EL s.vm s.heap vm0 h) (eT : T.heap = h) (hlk : meth.locks = false) (hv : meth.sig.returnType = none → v = none) (hc : cells ≤ kc) (hs : slots ≤ ks) (hq : Q v h locs)
    (k : ∀ fs, (∀ (f : JFrame) (acts : List Action), f.method = m → f.locked = none → f.entered = [] → (doReturn e (T.setTop f) acts v).1 = T.setFrames fs) → Steps p.tables e below (T.setTop g) (T.setFrames fs)) : Goes p e below (EndW s Z EL Q kc ks) T g := by
  subst eT
  obtain ⟨fs, hr, hrun, hended, hE⟩ := X.leaveW hS hk (v := v) hv hlk
  have hC2 : CHr Z EL s.vm s.heap (T.setFrames fs).vm (T.setFrames fs).heap := hC.trans (show CHr Z EL vm0 T.heap T.vm T.heap from CHv.at X hZ hEL hC.1)
  exact ⟨_, _, k fs hr, hrun, hended, _, rfl, _, hq, hC2, ⟨hE.1, hE.2.1, hE.2.2.1, hE.2.2.2.mono hc hs⟩⟩
theorem Goes.retIW (X : Stand p l e R (s.setVm vm0) m args below meth c T locs cells slots) (hx : p.tables.exec = Jvm.exec) (hlk : meth.locks = false) (hS : s.Since vm0 k0) (hk : k0 ≤ h.size) (hZ : Z.Warmed39 vm0) (hEL : EW Z a0 EL) (hC : CHr Z EL s.vm s.heap vm0 h) (eT : T.heap = h) {pc : Nat} {Ls : Array Slot} {z : Int32} {rest : List Value} (hret : meth.sig.returnType = some .int) (hd : decode c.code pc = .ok (.ireturn, 1))
    (hc : cells ≤ kc) (hs : slots ≤ ks) (hq : Q (some (.int z)) h locs) : Goes p e below (EndW s Z EL Q kc ks) T (mkF m pc Ls (.int z :: rest)) :=
  Goes.outW X hS hk hZ hEL hC eT hlk (fun h => by rw [hret] at h; cases h) hc hs hq fun fs hr => RoadKit.retI X hx hret hd hr
theorem Goes.retNW (X : Stand p l e R (s.setVm vm0) m args below meth c T locs cells slots) (hx : p.tables.exec = Jvm.exec) (hlk : meth.locks = false) (hS : s.Since vm0 k0) (hk : k0 ≤ h.size) (hZ : Z.Warmed39 vm0) (hEL : EW Z a0 EL) (hC : CHr Z EL s.vm s.heap vm0 h) (eT : T.heap = h) {pc : Nat} {Ls : Array Slot} {z : Int32} {t : FieldType} {rest : List Value} (hret : meth.sig.returnType = some t) (ht : t = .boolean ∨ t = .byte ∨ t = .char ∨ t = .short) (hd : decode c.code pc = .ok (.ireturn, 1))
    (hc : cells ≤ kc) (hs : slots ≤ ks) (hq : Q (some (.int (nar t z))) h locs) : Goes p e below (EndW s Z EL Q kc ks) T (mkF m pc Ls (.int z :: rest)) :=
  Goes.outW X hS hk hZ hEL hC eT hlk (fun h => by rw [hret] at h; cases h) hc hs hq fun fs hr => RoadKit.retN X hx hret ht hd hr
theorem Goes.retAW (X : Stand p l e R (s.setVm vm0) m args below meth c T locs cells slots) (hx : p.tables.exec = Jvm.exec) (hlk : meth.locks = false) (hS : s.Since vm0 k0) (hk : k0 ≤ h.size) (hZ : Z.Warmed39 vm0) (hEL : EW Z a0 EL) (hC : CHr Z EL s.vm s.heap vm0 h) (eT : T.heap = h) {pc : Nat} {Ls : Array Slot} {w : Value} {t : FieldType} {rest : List Value} (hret : meth.sig.returnType = some t) (ht : t.isReference = true) (hw : w.isRef = true) (hd : decode c.code pc = .ok (.areturn, 1))
    (hc : cells ≤ kc) (hs : slots ≤ ks) (hq : Q (some w) h locs) : Goes p e below (EndW s Z EL Q kc ks) T (mkF m pc Ls (w :: rest)) :=
  Goes.outW X hS hk hZ hEL hC eT hlk (fun h => by rw [hret] at h; cases h) hc hs hq fun fs hr => RoadKit.retOut X hx hret (by cases w <;> cases t <;> first | rfl | (simp [FieldType.isReference] at ht) | (simp [Value.isRef] at hw)) (Or.inr (Or.inr (Or.inr (Or.inr ⟨rfl, ht, hw⟩)))) hd hr
theorem Goes.retVW (X : Stand p l e R (s.setVm vm0) m args below meth c T locs cells slots) (hx : p.tables.exec = Jvm.exec) (hlk : meth.locks = false) (hS : s.Since vm0 k0) (hk : k0 ≤ h.size) (hZ : Z.Warmed39 vm0) (hEL : EW Z a0 EL) (hC : CHr Z EL s.vm s.heap vm0 h) (eT : T.heap = h) {pc : Nat} {Ls : Array Slot} (hret : meth.sig.returnType = none) (hd : decode c.code pc = .ok (.return_, 1))
    (hc : cells ≤ kc) (hs : slots ≤ ks) (hq : Q none h locs) : Goes p e below (EndW s Z EL Q kc ks) T (mkF m pc Ls []) :=
  Goes.outW X hS hk hZ hEL hC eT hlk (fun _ => rfl) hc hs hq fun fs hr => X.returnOut hx hret hd hr
/-- what stands behind a call that may have interned -/
def AfterW (p : Program) (l : Launch) (e : Env) (R : Room) (s : State) (m : MethodId) (args : Array Value) (below : List Frame) (meth : Method) (c : Code) (Z : State) (EL : List (String × Nat)) (vm0 : Vm) (h : Heap) (own : String) (T' : State) (locs : List Loc) (cells slots : Nat) : Prop :=
  Stand p l e R (s.setVm T'.vm) m args below meth c T' locs cells slots ∧ s.Since T'.vm T'.heap.size ∧ Z.Warmed39 T'.vm ∧ T'.vm.findClass own = some m.cls ∧ CHr Z EL vm0 h T'.vm T'.heap
theorem AfterW.of {own : String} (hS : s.Since vm0 k0) (hk : k0 ≤ h.size) (eT : T.heap = h) (hZ : Z.Warmed39 vm0) (hown : vm0.findClass own = some m.cls) (X' : Stand p l e R ((s.setVm vm0).setVm T'.vm) m args below meth c T' locs cells slots) (hS' : (s.setVm vm0).Since T'.vm T'.heap.size) (hg : T.heap.size ≤ T'.heap.size) (hC : CHr Z EL vm0 h T'.vm T'.heap) : AfterW p l e R s m args below meth c Z EL vm0 h own T' locs cells slots := by
  subst eT
  exact ⟨X', hS.trans hS' (Nat.le_trans hk hg), State.Warmed39.trans (t := s.setVm vm0) hZ hS'.1, by rw [hS'.1.alike.findClass]; exact hown, hC⟩
/-- a static call of a callee that may intern -/
theorem Goes.callSW (X : Stand p l e R (s.setVm vm0) m args below meth c T locs cells slots) (hx : p.tables.exec = Jvm.exec) {own : String} {index : Nat} {y : MethodName} {bytes : ByteArray} {maxL : Nat} {ret : Option FieldType} (hS : s.Since vm0 k0) (hk : k0 ≤ h.size) (hZ : Z.Warmed39 vm0)
    (hown : vm0.findClass own = some m.cls) (hlink : (Cond.methodLink own index y).before args (s.setVm vm0) = true) (hstat : (Cond.static y).before args (s.setVm vm0) = true) (hinit : (Cond.initialized y.cls).before args (s.setVm vm0) = true)
    (hcode : (Cond.code y bytes maxL ret).before args (s.setVm vm0) = true) (hy : y.cls ≠ "java/lang/invoke/MethodHandle" ∧ y.cls ≠ "java/lang/invoke/VarHandle")
    {W : Nat} {as' : Array Value} {Qc : Option Value → Heap → List Loc → Prop} {kc' ks' : Nat}
    (hK : BackS l R p e below (s.setVm vm0) args y 3 W (fun A a => a = as' ∧ A.U.heap = h ∧ A.cells + kc' ≤ R.cells ∧ A.slots + ks' ≤ R.slots) (fun A _ v B => ∃ L, Qc v B.U.heap L ∧ B.locs = A.locs ++ L ∧ B.cells = A.cells + kc' ∧ B.slots = A.slots + ks' ∧ CHr Z EL vm0 h B.U.vm B.U.heap))
    (hg : g.method = m) (hsize : g.locals.size = c.maxLocals) {argsL rest : List Value} (hlen : ∀ sig, parseMethodDescriptor y.desc = some sig → argsL.length = sig.parameters.length)
    (hstack : g.stack = argsL.reverse ++ rest) (hW : 2 * g.monitorRoom + (rest.map fun v => v.category).sum ≤ W) (hdg : decode c.code g.pc = .ok (.invokestatic index, 3)) (ha : argsL.toArray = as') (eT : T.heap = h) (hc : cells + kc' ≤ R.cells) (hs : slots + ks' ≤ R.slots)
    (k : ∀ (v : Option Value) (T' : State) (L : List Loc), Qc v T'.heap L → AfterW p l e R s m args below meth c Z EL vm0 h own T' (locs ++ L) (cells + kc') (slots + ks') → Goes p e below F T' { g with pc := g.pc + 3, stack := v.toList ++ rest }) : Goes p e below F T g := by
  obtain ⟨v, vm₁, ⟨T', L', k', n'⟩, -, X', hS', hgr, ⟨L, hQ, h1, h2, h3, hC⟩, st⟩ := callSS X hx hown hlink hstat hinit hcode hy hK hg hsize hlen hstack hW hdg (fun _ _ => ⟨ha, eT, hc, hs⟩)
  dsimp only [Pt.U, Pt.locs, Pt.cells, Pt.slots] at X' h1 h2 h3 st hQ hS' hgr hC
  subst h1 h2 h3
  exact Goes.step (fun t q => st.trans q) (k v T' L hQ (AfterW.of hS hk eT hZ hown X' hS' hgr hC))
/-- a constructor that may intern -/
theorem Goes.callCW (X : Stand p l e R (s.setVm vm0) m args below meth c T locs cells slots) (hx : p.tables.exec = Jvm.exec) {own : String} {index : Nat} {y : MethodName} {bytes : ByteArray} {maxL : Nat} (hS : s.Since vm0 k0) (hk : k0 ≤ h.size) (hZ : Z.Warmed39 vm0) (hy1 : y.name = "<init>")
    (hown : vm0.findClass own = some m.cls) (hlink : (Cond.methodLink own index y).before args (s.setVm vm0) = true) (hinst : (Cond.instanceMethod y).before args (s.setVm vm0) = true) (hcode : (Cond.code y bytes maxL none).before args (s.setVm vm0) = true)
    (hy : y.cls ≠ "java/lang/invoke/MethodHandle" ∧ y.cls ≠ "java/lang/invoke/VarHandle")
    {W : Nat} {as' : Array Value} {Qc : Option Value → Heap → List Loc → Prop} {kc' ks' : Nat}
    (hK : BackS l R p e below (s.setVm vm0) args y 3 W (fun A a => a = as' ∧ A.U.heap = h ∧ A.cells + kc' ≤ R.cells ∧ A.slots + ks' ≤ R.slots) (fun A _ v B => ∃ L, Qc v B.U.heap L ∧ B.locs = A.locs ++ L ∧ B.cells = A.cells + kc' ∧ B.slots = A.slots + ks' ∧ CHr Z EL vm0 h B.U.vm B.U.heap))
    (hg : g.method = m) (hsize : g.locals.size = c.maxLocals) {a : Addr} {argsL rest : List Value} (hlen : ∀ sig, parseMethodDescriptor y.desc = some sig → argsL.length = sig.parameters.length)
    (hstack : g.stack = argsL.reverse ++ .ref a :: rest) (hW : 2 * g.monitorRoom + (rest.map fun v => v.category).sum ≤ W) (hdg : decode c.code g.pc = .ok (.invokespecial index, 3)) (ha : (.ref a :: argsL).toArray = as') (eT : T.heap = h) (hc : cells + kc' ≤ R.cells) (hs : slots + ks' ≤ R.slots)
    (k : ∀ (v : Option Value) (T' : State) (L : List Loc), Qc v T'.heap L → AfterW p l e R s m args below meth c Z EL vm0 h own T' (locs ++ L) (cells + kc') (slots + ks') → Goes p e below F T' { g with pc := g.pc + 3, stack := v.toList ++ rest }) : Goes p e below F T g := by
  obtain ⟨v, vm₁, ⟨T', L', k', n'⟩, -, X', hS', hgr, ⟨L, hQ, h1, h2, h3, hC⟩, st⟩ := X.specialBackS hx hy1 hown hlink hinst hcode hy hK hg hsize (Steps.refl _) hlen hstack hW hdg (fun _ _ => ⟨ha, eT, hc, hs⟩)
  dsimp only [Pt.U, Pt.locs, Pt.cells, Pt.slots] at X' h1 h2 h3 st hQ hS' hgr hC
  subst h1 h2 h3
  exact Goes.step (fun t q => st.trans q) (k v T' L hQ (AfterW.of hS hk eT hZ hown X' hS' hgr hC))
/-- an instance method that may intern -/
theorem Goes.callVW (X : Stand p l e R (s.setVm vm0) m args below meth c T locs cells slots) (hx : p.tables.exec = Jvm.exec) {own C : String} {index : Nat} {y z : MethodName} (hS : s.Since vm0 k0) (hk : k0 ≤ h.size) (hZ : Z.Warmed39 vm0)
    (hown : vm0.findClass own = some m.cls) (hlink : (Cond.methodLink own index y).before args (s.setVm vm0) = true) (hdecl : (Cond.declares y).before args (s.setVm vm0) = true) (hnf : NotFace (s.setVm vm0) y)
    (hsel : (Cond.selects C y z).before args (s.setVm vm0) = true) (hinst : (Cond.instanceMethod z).before args (s.setVm vm0) = true)
    (hy : y.cls ≠ "java/lang/invoke/MethodHandle" ∧ y.cls ≠ "java/lang/invoke/VarHandle")
    {W : Nat} {as' : Array Value} {Qc : Option Value → Heap → List Loc → Prop} {kc' ks' : Nat}
    (hK : BackS l R p e below (s.setVm vm0) args z 3 W (fun A a => a = as' ∧ A.U.heap = h ∧ A.cells + kc' ≤ R.cells ∧ A.slots + ks' ≤ R.slots) (fun A _ v B => ∃ L, Qc v B.U.heap L ∧ B.locs = A.locs ++ L ∧ B.cells = A.cells + kc' ∧ B.slots = A.slots + ks' ∧ CHr Z EL vm0 h B.U.vm B.U.heap))
    {b : Addr} (eT : T.heap = h) (E : Exa Z h b C)
    (hg : g.method = m) (hsize : g.locals.size = c.maxLocals) {argsL rest : List Value} (hlen : ∀ sig, parseMethodDescriptor y.desc = some sig → argsL.length = sig.parameters.length)
    (hstack : g.stack = argsL.reverse ++ .ref b :: rest) (hW : 2 * g.monitorRoom + (rest.map fun v => v.category).sum ≤ W) (hdg : decode c.code g.pc = .ok (.invokevirtual index, 3)) (ha : (.ref b :: argsL).toArray = as') (hc : cells + kc' ≤ R.cells) (hs : slots + ks' ≤ R.slots)
    (k : ∀ (v : Option Value) (T' : State) (L : List Loc), Qc v T'.heap L → AfterW p l e R s m args below meth c Z EL vm0 h own T' (locs ++ L) (cells + kc') (slots + ks') → Goes p e below F T' { g with pc := g.pc + 3, stack := v.toList ++ rest }) : Goes p e below F T g := by
  obtain ⟨cq, kq, qa, qb, qc⟩ := isOf (s := s.setVm vm0) hZ eT E
  obtain ⟨v, vm₁, ⟨T', L', k', n'⟩, -, X', hS', hgr, ⟨L, hQ, h1, h2, h3, hC⟩, st⟩ := X.virtualBackS hx hown hlink hdecl hnf hsel hinst hy hK qa qc hg hsize (Steps.refl _) hlen hstack hW hdg (fun _ _ => ⟨ha, eT, hc, hs⟩)
  dsimp only [Pt.U, Pt.locs, Pt.cells, Pt.slots] at X' h1 h2 h3 st hQ hS' hgr hC
  subst h1 h2 h3
  exact Goes.step (fun t q => st.trans q) (k v T' L hQ (AfterW.of hS hk eT hZ hown X' hS' hgr hC))
end OwnW
end Jvm.RoadKit
namespace Jvm.RoadKit
open Sem ClassFile Op Lib Bundle Jvm.Stand Jvm.Free Jvm.LawKit Jvm.Free.SB Jvm.Free.SBG
/-- a String whose 'value' is null is no booked constant -/
theorem own_safeNull {Z : State} {EL : List (String × Nat)} {vm : Vm} {h : Heap} {x : Addr} (hal : Z.vm.Alike vm) (E : Exa Z h x "java/lang/String") (V : Fld Z h x "java/lang/String" "value" "[B" .null) : Safe Z EL vm h x := fun B => by
  obtain ⟨cell, k, e1, e2, e3, -, -⟩ := E
  have nm : ∀ {n : String} {c : ClassId}, vm.findClass n = some c → c = cell.cls → n = "java/lang/String" := fun {n c} f e => by
    subst e
    rw [hal.findClass] at f
    obtain ⟨k1, q1, q2⟩ := Vm.findClass_spec f
    obtain ⟨k2, q3, q4⟩ := Vm.findClass_spec e2
    cases q1.symm.trans q3
    exact q2.symm.trans q4
  obtain ⟨p, -, u, a, -, q, -, F, rfl | rfl⟩ := B
  · cases (show h[q.sa]? = some q.sC from F.ha).symm.trans e1
    obtain ⟨cS, ⟨⟨s1, s2, s3, ⟨cv, kv, iv, s4, s4'⟩, ⟨cc, kc, ic, s5, s5'⟩, s6, s7, s8, -⟩, -, -⟩, -⟩ := F
    obtain ⟨kv', z4⟩ := ff_back (U := Wst Z vm h) hal s4
    obtain ⟨cell2, cf, kf, i2, f2, g1, g2, -, -, -, -, g7⟩ := V
    cases g1.symm.trans e1
    cases g2.symm.trans z4
    cases g7.symm.trans s8
  · cases (show h[q.sd]? = some q.SA from F.hd).symm.trans e1
    obtain ⟨cS, -, -, f, -⟩ := F
    have := nm f rfl
    revert this; decide
end Jvm.RoadKit
namespace Jvm.RoadKit
open Sem ClassFile Op Lib Bundle Jvm.Stand Jvm.Free Jvm.LawKit Jvm.Free.SB Jvm.Free.SBG
section OwnLdcW
variable {p : Program} {l : Launch} {e : Env} {R : Room} {s : State} {m : MethodId} {args : Array Value} {below : List Frame} {meth : Method} {c : Code} {T : State} {locs : List Loc} {cells slots : Nat} {Z : State} {a0 : Array Value} {EL : List (String × Nat)} {h : Heap} {vm0 : Vm} {own text : String} {index i : Nat} {g : JFrame} {k k' : Class} {cf : ClassFile} {us : Array UInt16} {a : Addr}
/-- a class file's entry index: the String of the units us, the text's -/
def OwnEnt (cf : ClassFile) (index i : Nat) (us : Array UInt16) (text : String) : Prop := cf.constantPool[index]? = some (.string i) ∧ cf.constantPool[i]? = some (.utf8 us) ∧ namesOf? cf.constantPool index = some (.string text)
/-- the entry, at the start and now: resolved by now, or open at both -/
theorem own_ent (X : Stand p l e R s m args below meth c T locs cells slots) (hown : s.vm.findClass own = some m.cls) (w : (Cond.stringLink own index text).before args s = true) : ∃ k k' cf i us, (s.vm.classes[m.cls]? = some k ∧ k.cf = some cf) ∧ (T.vm.classes[m.cls]? = some k' ∧ k'.cf = some cf) ∧ OwnEnt cf index i us text ∧ (stringBytes us).size ≤ 4 * text.toList.length ∧
    ((∃ a, k'.resolved[index]? = some (some (.string a))) ∨ (k.resolved[index]? = some none ∧ k'.resolved[index]? = some none)) := by
  obtain ⟨k, cf, i, us, hk, hcf, hc, hu, hn, ht, hr⟩ := Cond.stringLink_spec hown w
  obtain ⟨k', hk', he⟩ := X.warmed.alike.2.2 _ _ hk
  refine ⟨k, k', cf, i, us, ⟨hk, hcf⟩, ⟨hk', by rw [he]; exact hcf⟩, ⟨hc, hu, hn⟩, text_bytes_le ht, ?_⟩
  rcases X.warmed.wide.entry hk hk' index with e0 | ⟨-, r, e1, q | ⟨a, t, rfl, -⟩⟩
  · rw [e0]
    rcases hr with q | q
    · exact Or.inr ⟨q, q⟩
    · exact Or.inl q
  · cases r <;> simp [State.rightAt, hk, hcf, hn] at q
  · exact Or.inl ⟨a, e1⟩
/-- the open entry noted, in tables that have the units interned -/
theorem own_noted {U : State} {vm1 : Vm} {d : ClassId} (W : U.Warmed39 vm1) (hk : U.vm.classes[d]? = some k) (hcf : k.cf = some cf) (E : OwnEnt cf index i us text) (ho : k.resolved[index]? = some none) (hf : vm1.interned.find? (fun p => p.1 == us) = some (us, a)) : U.Warmed39 (vm1.noted d index (.string a)) :=
  W.notedString hk (Or.inl ho) (by rw [hcf]; exact E.2.2) (by rw [hcf]; exact E.1) (by rw [hcf]; simp [ConstantPool.utf8?, E.2.1]) hf
theorem own_noted1 {vm1 : Vm} {d : ClassId} (hk : vm1.classes[d]? = some k) (ho : k.resolved[index]? = some none) : ∃ k₂, (vm1.noted d index (.string a)).classes[d]? = some k₂ ∧ k₂.resolved[index]? = some (some (.string a)) := ⟨_, Vm.classes_note_self index (.string a) hk, Class.resolved_note_self (.string a) ho⟩
/-- the step, where the entry is resolved -/
theorem own_stR (hh : At T g.method c below) (hx : p.tables.exec = Jvm.exec) (hd : decode c.code g.pc = .ok (.ldc_w index, 3)) (hk : T.vm.classes[g.method.cls]? = some k') (hcf : k'.cf = some cf) (E : OwnEnt cf index i us text) (hr : k'.resolved[index]? = some (some (.string a))) (t : State) (go : Steps p.tables e below (T.setTop { g with pc := g.pc + 3, stack := .ref a :: g.stack }) t) : Steps p.tables e below (T.setTop g) t := by
  jvm_step hh [hx, hd, ldc_w.wp_string (e := e) (s := T) (f := g) hh.top hk hcf E.1 hr]
  exact go
/-- .. where it is open and the units are interned -/
theorem own_stF (hh : At T g.method c below) (hx : p.tables.exec = Jvm.exec) (hd : decode c.code g.pc = .ok (.ldc_w index, 3)) (hk : T.vm.classes[g.method.cls]? = some k') (hcf : k'.cf = some cf) (E : OwnEnt cf index i us text) (ho : k'.resolved[index]? = some none) (hf : T.vm.interned.find? (fun p => p.1 == us) = some (us, a)) (t : State) (go : Steps p.tables e below ((T.setVm (T.vm.noted g.method.cls index (.string a))).setTop { g with pc := g.pc + 3, stack := .ref a :: g.stack }) t) : Steps p.tables e below (T.setTop g) t := by
  jvm_step hh [hx, hd, ldc_w.wp_string_found (e := e) (s := T) (f := g) hh.top hk hcf E.1 E.2.1 ho hf]
  exact go
/-- the tables behind a new String of the units at a -/
def ownVm (vm : Vm) (d : ClassId) (index : Nat) (us : Array UInt16) (a : Addr) : Vm := ({ vm with interned := vm.interned.push (us, a) } : Vm).noted d index (.string a)
/-- .. where they are not: two new cells -/
theorem own_stN {Y : StringT} (X : Stand p l e R s m args below meth c T locs cells slots) (hh : At T g.method c below) (hx : p.tables.exec = Jvm.exec) (hd : decode c.code g.pc = .ok (.ldc_w index, 3)) (hk : T.vm.classes[g.method.cls]? = some k') (hcf : k'.cf = some cf) (E : OwnEnt cf index i us text) (ho : k'.resolved[index]? = some none) (hf : T.vm.interned.find? (fun p => p.1 == us) = none)
    (LY : Y.Laid T.vm) (n4 : Y.kS.instanceTypes.size = 4) (fv : ∀ x, T.fitsSlot Y.cS .none Y.fv.slot (.ref x) = true) (fc : ∀ u, T.fitsSlot Y.cS .none Y.fc.slot (.int (stringCoder u)) = true) {n : Nat} (hn : (stringBytes us).size ≤ n) (hb : n ≤ 536870912) (hc2 : cells + 2 ≤ R.cells) (hs2 : slots + (n + 4) ≤ R.slots) (t : State)
    (go : Steps p.tables e below (((withString T Y.cB Y.cS Y.kS Y.fv Y.fc us).setVm (ownVm T.vm g.method.cls index us (T.heap.size + 1))).setTop { g with pc := g.pc + 3, stack := .ref (T.heap.size + 1) :: g.stack }) t) : Steps p.tables e below (T.setTop g) t := by
  have t1 : (withString T Y.cB Y.cS Y.kS Y.fv Y.fc us).topJava?.isSome := by simpa [withString] using hh.top
  have t2 : ((withString T Y.cB Y.cS Y.kS Y.fv Y.fc us).setVm (({ T.vm with interned := T.vm.interned.push (us, T.heap.size + 1) } : Vm).noted g.method.cls index (.string (T.heap.size + 1)))).topJava?.isSome := by simpa using t1
  have sl := X.slotsAbove hs2
  refine Steps.instr (c := _) (by simpa using hh) ?_
  simp [jvm, wpRun, exec, hx, hd]
  refine ldc_w.wp_string_new (e := e) (s := T) (f := g) hh.top hk hcf E.1 E.2.1 ho hf LY.found LY.cls LY.initialized LY.ordinary LY.foundB LY.clsB LY.kindB LY.value LY.coder
    (by rw [Launch.admits_arrayLengthLimit X.admits]; omega) (by rw [Launch.admits_maxHeapBytes X.admits]; simp only [componentBytes]; omega) (X.cellsAbove hc2) (by rw [n4]; omega) (stringBytes_fit LY.clsB LY.kindB us) LY.valueSlot LY.coderSlot (fv _) (fc _) fun _ _ => ?_
  intro
  simp [jvm, afterInstr, t1, t2]
  rw [State.modifyTopJava_setTop]
  exact go
/-- two cells pushed: what lies below stays, and what lies there -/
theorem own_push2 {hp : Heap} {c1 c2 : Cell} : Ext hp ((hp.push c1).push c2) ∧ ((hp.push c1).push c2)[hp.size]? = some c1 ∧ ((hp.push c1).push c2)[hp.size + 1]? = some c2 ∧ ((hp.push c1).push c2).size = hp.size + 2 := by
  refine ⟨ext_of fun a0 h0 => ?_, ?_, ?_, by simp⟩
  · rw [Array.getElem?_push_lt (by rw [Array.size_push]; omega), Array.getElem_push_lt h0]; exact (Array.getElem?_eq_getElem h0).symm
  · rw [Array.getElem?_push_lt (by rw [Array.size_push]; omega), Array.getElem_push_eq]
  · rw [show hp.size + 1 = (hp.push c1).size by simp, Array.getElem?_push_size]
end OwnLdcW
/-- a booked constant of the list, read off the invariant -/
theorem own_litRead {Z : State} {vm : Vm} {h : Heap} {a0 : Array Value} {EL : List (String × Nat)} {own text : String} {index : Nat} {cl : ClassId} {kc : Class} {a : Addr} (hW : Z.Warmed39 vm) (w : (Cond.stringLink own index text).before a0 Z = true) (hmem : (own, index) ∈ EL) (H : CHv Z EL vm h)
    (hf : vm.findClass own = some cl) (hk : vm.classes[cl]? = some kc) (hr : kc.resolved[index]? = some (some (.string a)))
    {vs : List Value} {z : Int32} (ht : (∀ c ∈ text.toList, c.toNat < 256) ∧ text.toList.map (fun c => Value.int (Jvm.Lit.byteI c.toNat.toUInt16)) = vs) (hz : ¬ z < 0) (hl : z.toNatClampNeg = vs.length) :
    ∃ b k, Exa Z h a "java/lang/String" ∧ Fld Z h a "java/lang/String" "coder" "B" (.int 0) ∧ Fld Z h a "java/lang/String" "value" "[B" (.ref b) ∧ Arv Z h b k .byte z vs (.int 0) ∧ a < h.size ∧ b < h.size ∧ (∀ x, Safe Z EL vm h x → x ≠ a ∧ x ≠ b) := by
  have al : Z.vm.Alike vm := hW.alike
  obtain ⟨k1, cf, i, us, e1, e2, e3, e4, -, htext, -⟩ := Cond.stringLink_spec (s := Wst Z vm h) hf (mvS (s := { Z with heap := h }) hW w : (Cond.stringLink own index text).before a0 (Wst Z vm h) = true)
  obtain rfl : kc = k1 := Option.some.inj (hk.symm.trans e1)
  have bk : Booksv vm own index us a := ⟨cl, kc, cf, i, hf, hk, e2, e3, e4, Or.inl hr⟩
  obtain ⟨q, rfl, F⟩ := SlB.of (H _ hmem us a bk)
  have ne : ∀ x, Safe Z EL vm h x → x ≠ q.sa ∧ x ≠ q.sd := fun x S => ⟨fun e => S ⟨_, hmem, us, _, bk, q, rfl, F, Or.inl e⟩, fun e => S ⟨_, hmem, us, _, bk, q, rfl, F, Or.inr e⟩⟩
  obtain ⟨cS, ⟨⟨s1, s2, s3, ⟨cv, kv, iv, s4, s4'⟩, ⟨cc, kc, ic, s5, s5'⟩, s6, s7, s8, s9, s10, ⟨st, k9, hk9, cp, kd⟩, s12, s13, s14, s15, s16⟩, hfS, hcS⟩, ⟨kS, g1, g2, g3⟩, hB, hby⟩ := F
  have hB : vm.findClass "[B" = some q.SA.cls := hB
  have hk9 : vm.classes[q.SA.cls]? = some k9 := hk9
  have g1 : vm.classes[cS]? = some kS := g1
  obtain ⟨kv', z4⟩ := ff_back (U := Wst Z vm h) al s4
  obtain ⟨kc', z5⟩ := ff_back (U := Wst Z vm h) al s5
  have fZ : Z.vm.findClass "java/lang/String" = some q.sC.cls := by rw [← al.findClass, hcS]; exact hfS
  obtain ⟨kz, y1, -⟩ := Vm.findClass_spec fZ
  obtain ⟨kz', y2, y3⟩ := al.2.2 _ _ y1
  obtain rfl : kz' = kS := Option.some.inj (y2.symm.trans (hcS ▸ g1))
  have fB : Z.vm.findClass "[B" = some q.SA.cls := by rw [← al.findClass]; exact hB
  obtain ⟨kb, x1, -⟩ := Vm.findClass_spec fB
  obtain ⟨kb', x2, x3⟩ := al.2.2 _ _ x1
  obtain rfl : k9 = kb' := Option.some.inj (hk9.symm.trans x2)
  have lat := Jvm.ClassFile.lat_of_text htext ht.1
  have eu : vs = us.toList.map fun u => Value.int (Jvm.Lit.byteI u) := by rw [← ht.2, Jvm.ClassFile.units_of_text htext ht.1, List.map_map]; rfl
  have sl : q.SA.slots = us.map fun u => Value.int (Jvm.Lit.byteI u) := by rw [hby, SBG.stringBytes_lat lat]; rfl
  have ls : vs.length = us.size := by rw [eu]; simp
  have hs : Has q.SA vs (.int 0) := fun j hj => by
    have hj' : j < us.size := by rw [sl, Array.size_map] at hj; exact hj
    rw [sl, eu]; simp [hj']
  refine ⟨q.sd, q.SA.cls, ⟨q.sC, kz, s1, fZ, y1, s3, fun _ => by rw [g3, y3]⟩, ⟨q.sC, cc, kc', ic, q.fSC, s1, z5, s7, s2, s3, by rw [← al.assignable]; exact s5', s9⟩, ⟨q.sC, cv, kv', iv, q.fSV, s1, z4, s6, s2, s3, by rw [← al.assignable]; exact s4', s8⟩,
    ⟨q.SA, ⟨s10, ⟨st, kb, x1, cp, by rw [x3] at kd; exact kd⟩, s12⟩, rfl, by rw [sl, Array.size_map, hl, ls], hz, hs, fun j hj => ?_⟩, (Array.getElem?_eq_some_iff.mp s1).1, (Array.getElem?_eq_some_iff.mp s10).1, ne⟩
  have a1 := s16 j hj
  rw [SBG.getD_of (hs j hj)] at a1
  exact a1
section
variable {p : Program} {l : Launch} {e : Env} {R : Room} {s : State} {m : MethodId} {args : Array Value} {below : List Frame} {meth : Method} {c : Code} {T : State} {locs : List Loc} {cells slots : Nat} {Z : State} {a0 : Array Value} {EL : List (String × Nat)} {h : Heap} {vm0 : Vm} {own text : String} {index : Nat}
/-- ldc_w of a String constant: the invariant goes on, and the entry is resolved -/
theorem own_ldcw (X : Stand p l e R (s.setVm vm0) m args below meth c T locs cells slots) (hx : p.tables.exec = Jvm.exec) (hZ : Z.Warmed39 vm0) (hown : vm0.findClass own = some m.cls) (w : (Cond.stringLink own index text).before a0 Z = true) (wS : ∀ a ∈ Bundle.stringAtoms, a.before a0 Z = true) (hEL : EW Z a0 EL) (H : CHv Z EL T.vm T.heap)
    {g : JFrame} (hg : g.method = m) (hd : decode c.code g.pc = .ok (.ldc_w index, 3)) {n : Nat} (hn : 4 * text.toList.length ≤ n) (hbig : n ≤ 536870912) (hc : cells + 2 ≤ R.cells) (hl' : slots + (n + 4) ≤ R.slots) :
    ∃ (a : Addr) (T' : State), Stand p l e R (s.setVm T'.vm) m args below meth c T' locs (cells + 2) (slots + (n + 4)) ∧ (s.setVm vm0).Since T'.vm T'.heap.size ∧ (∃ k₂, T'.vm.classes[m.cls]? = some k₂ ∧ k₂.resolved[index]? = some (some (.string a))) ∧ Ext T.heap T'.heap ∧ CHr Z EL T.vm T.heap T'.vm T'.heap ∧
      ∀ target, Steps p.tables e below (T'.setTop { g with pc := g.pc + 3, stack := .ref a :: g.stack }) target → Steps p.tables e below (T.setTop g) target := by
  have hZT : Z.Warmed39 T.vm := wtrans (s := s.setVm vm0) hZ X.warmed
  have atT : ∀ d ∈ Bundle.stringAtoms, d.before args T = true := fun d hd => by
    have q := wS d hd
    simp only [Bundle.stringAtoms, List.mem_cons, List.not_mem_nil, or_false] at hd
    rcases hd with rfl | rfl | rfl | rfl | rfl | rfl | rfl
    · exact mv hZT q
    · exact mv hZT q
    · exact mvA hZT q
    · exact mv hZT q
    · exact mv hZT q
    · exact mv hZT q
    · exact mv hZT q
  have e0 : Ext T.heap T.heap := ⟨Nat.le_refl _, fun _ _ q => q⟩
  subst hg
  obtain ⟨k, k', cf, i, us, ⟨hk, hcf⟩, ⟨hk', hcf'⟩, E, hsz, now⟩ := own_ent X hown (mvS hZ w)
  rcases now with ⟨a, hr⟩ | ⟨ho, ho'⟩
  · exact ⟨a, T, (X.mono (by omega) (by omega)).retabled X.warmed.wide, X.warmed.since _, ⟨k', hk', hr⟩, e0, CHr.refl H, own_stR X.here hx hd hk' hcf' E hr⟩
  · cases hf : T.vm.interned.find? (fun p => p.1 == us) with
    | some pr =>
      obtain ⟨u', a⟩ := pr
      obtain rfl : u' = us := by simpa using Array.find?_some hf
      have W := own_noted X.warmed.wide hk hcf E ho hf
      have B := CHv.later (vm1 := T.vm.noted g.method.cls index (.string a)) hZT (show (Wst Z T.vm T.heap).Warmed39 _ from own_noted (State.Warmed39.refl T) hk' hcf' E ho' hf) hEL e0 (Or.inl rfl) H
      exact ⟨a, T.setVm (T.vm.noted g.method.cls index (.string a)), (X.mono (by omega) (by omega)).retabled W, ⟨W, State.Booked.step (T₂ := T.setVm (T.vm.noted g.method.cls index (.string a))) (X.warmed.no_new_pair _) X.same.2.1 ⟨Nat.le_refl _, Or.inl rfl⟩⟩, own_noted1 hk' ho', e0, ⟨B.1, Nat.le_refl _, B.2⟩, own_stF X.here hx hd hk' hcf' E ho' hf⟩
    | none =>
      obtain ⟨Y, LY, n4, fv, fc⟩ := StringT.of_atoms (args := args) atT
      have pu : (T.vm.interned.push (us, T.heap.size + 1)).find? (fun p => p.1 == us) = some (us, T.heap.size + 1) := by rw [Array.find?_push, hf]; simp
      have W : (s.setVm vm0).Warmed39 (ownVm T.vm g.method.cls index us (T.heap.size + 1)) := own_noted (X.warmed.wide.interns us (T.heap.size + 1)) hk hcf E ho pu
      have WT : T.Warmed39 (ownVm T.vm g.method.cls index us (T.heap.size + 1)) := own_noted ((State.Warmed39.refl T).interns us (T.heap.size + 1)) hk' hcf' E ho' pu
      have hh : (withString T Y.cB Y.cS Y.kS Y.fv Y.fc us).heap = (T.heap.push (bytesOf Y.cB us)).push (stringAt Y.cS Y.kS Y.fv Y.fc us T.heap.size) := by rw [withString_eq]; rfl
      have X2 := (X.pushed (bytesOf Y.cB us)).pushed (stringAt Y.cS Y.kS Y.fv Y.fc us T.heap.size)
      rw [← withString_eq] at X2
      obtain ⟨p1, p2, p3, p4⟩ := own_push2 (hp := T.heap) (c1 := bytesOf Y.cB us) (c2 := stringAt Y.cS Y.kS Y.fv Y.fc us T.heap.size)
      rw [← hh] at p1 p2 p3 p4
      have b1 : (bytesOf Y.cB us).slots.size = (stringBytes us).size := by rw [(Cell.writeAll_facts _ _).2.2]; simp [bytes0]
      have b2 : (stringAt Y.cS Y.kS Y.fv Y.fc us T.heap.size).slots.size = 4 := by simp [string0, Cell.setSlot, n4]
      have B := CHv.later (vm1 := ownVm T.vm g.method.cls index us (T.heap.size + 1)) (h' := (withString T Y.cB Y.cS Y.kS Y.fv Y.fc us).heap) hZT (show (Wst Z T.vm T.heap).Warmed39 _ from WT) hEL p1 (Or.inr ⟨us, T.heap.size + 1, rfl, hf, fun hl => by
        obtain ⟨q, cS, hq, r1, r2, r3, r4, r5⟩ := made_sl (W := (withString T Y.cB Y.cS Y.kS Y.fv Y.fc us).setVm (ownVm T.vm g.method.cls index us (T.heap.size + 1))) atT LY n4 rfl WT.alike p2 p3 hl (by omega) 0
        have G : SlB _ q us := ⟨cS, r1, r2, r3, r4⟩
        exact ⟨q, hq, G.carry (V := Wst Z (ownVm T.vm g.method.cls index us (T.heap.size + 1)) (withString T Y.cB Y.cS Y.kS Y.fv Y.fc us).heap) (Vm.Alike.refl _) G.ha G.hd, r5.resolve_left fun y => Nat.not_lt_zero _ y.1⟩⟩) H
      exact ⟨T.heap.size + 1, (withString T Y.cB Y.cS Y.kS Y.fv Y.fc us).setVm (ownVm T.vm g.method.cls index us (T.heap.size + 1)), (X2.mono (by omega) (by rw [b1, b2]; omega)).retabled W,
        ⟨W, State.Booked.step (X.warmed.no_new_pair _) X.same.2.1 ⟨p1.1, Or.inr ⟨us, T.heap.size + 1, rfl, Nat.le_add_right _ 1, Nat.lt_of_lt_of_eq (Nat.lt_succ_self _) p4.symm⟩⟩⟩, own_noted1 (vm1 := { T.vm with interned := T.vm.interned.push (us, T.heap.size + 1) }) hk' ho', p1, ⟨B.1, p1.1, B.2⟩, own_stN X X.here hx hd hk' hcf' E ho' hf LY n4 fv fc (Nat.le_trans hsz hn) hbig hc hl'⟩
/-- .. and the constant read, where it is one of the list -/
theorem ldcCHw (X : Stand p l e R (s.setVm vm0) m args below meth c T locs cells slots) (hx : p.tables.exec = Jvm.exec) (hZ : Z.Warmed39 vm0) (hown : vm0.findClass own = some m.cls) (w : (Cond.stringLink own index text).before a0 Z = true) (wS : ∀ a ∈ Bundle.stringAtoms, a.before a0 Z = true)
    (eT : T.heap = h) {k0 : Nat} (hS : s.Since vm0 k0) (hk : k0 ≤ h.size) (hEL : EW Z a0 EL) (hmem : (own, index) ∈ EL) (H : CHv Z EL vm0 h)
    {vs : List Value} {z : Int32} (ht : (∀ c ∈ text.toList, c.toNat < 256) ∧ text.toList.map (fun c => Value.int (Jvm.Lit.byteI c.toNat.toUInt16)) = vs) (hz : ¬ z < 0) (hl : z.toNatClampNeg = vs.length)
    {g : JFrame} (hg : g.method = m) (hd : decode c.code g.pc = .ok (.ldc_w index, 3)) {n : Nat} (hn : 4 * text.toList.length ≤ n) (hbig : n ≤ 536870912) (hc : cells + 2 ≤ R.cells) (hl' : slots + (n + 4) ≤ R.slots) :
    ∃ (a : Addr) (T' : State) (h' : Heap) (k1 : Nat) (b : Addr) (k : ClassId), Stand p l e R (s.setVm T'.vm) m args below meth c T' locs (cells + 2) (slots + (n + 4)) ∧ T'.heap = h' ∧ Ext h h' ∧ s.Since T'.vm k1 ∧ k1 ≤ h'.size ∧ Z.Warmed39 (s.setVm T'.vm).vm ∧ (s.setVm T'.vm).vm.findClass own = some m.cls ∧
      Exa Z h' a "java/lang/String" ∧ Fld Z h' a "java/lang/String" "coder" "B" (.int 0) ∧ Fld Z h' a "java/lang/String" "value" "[B" (.ref b) ∧ Arv Z h' b k .byte z vs (.int 0) ∧ a < h'.size ∧ b < h'.size ∧ CHr Z EL vm0 h T'.vm h' ∧ True ∧ (∀ x, Safe Z EL T'.vm h' x → x ≠ a ∧ x ≠ b) ∧
      ∀ target, Steps p.tables e below (T'.setTop { g with pc := g.pc + 3, stack := .ref a :: g.stack }) target → Steps p.tables e below (T.setTop g) target := by
  subst eT
  have A := CHv.at X hZ hEL H
  obtain ⟨a, T', X', hS', ⟨kk, hkk, hrr⟩, E, B, st⟩ := own_ldcw X hx hZ hown w wS hEL A.1 hg hd hn hbig hc hl'
  have hW : Z.Warmed39 T'.vm := State.Warmed39.trans (t := s.setVm vm0) hZ hS'.1
  have hf : T'.vm.findClass own = some m.cls := by rw [hS'.1.alike.findClass]; exact hown
  obtain ⟨b, k, x1, x2, x3, x4, x5, x6, x7⟩ := own_litRead hW w hmem B.1 hf hkk hrr ht hz hl
  exact ⟨a, T', _, _, b, k, X', rfl, E, hS.trans hS' (Nat.le_trans hk E.1), Nat.le_refl _, hW, hf, x1, x2, x3, x4, x5, x6, A.trans B, trivial, x7, st⟩
end
end Jvm.RoadKit
namespace Jvm.RoadKit
open Sem ClassFile Op Lib Jvm.Stand Jvm.Free Jvm.LawKit
section Own2
variable {p : Program} {l : Launch} {e : Env} {R : Room} {s : State} {m : MethodId} {args : Array Value} {below : List Frame} {meth : Method} {c : Code} {T T' : State} {locs : List Loc} {cells slots : Nat} {F : Option Value → State → Prop} {g : JFrame} {Z : State} {a0 : Array Value} {h : Heap}
theorem own_declares {y : MethodName} {bytes : ByteArray} {mx : Nat} {rt : Option FieldType} (wi : (Cond.instanceMethod y).before a0 Z = true) (wc : (Cond.code y bytes mx rt).before a0 Z = true) : (Cond.declares y).before a0 Z = true := by
  obtain ⟨mk, methM, hnamed, hmethM, hst, -⟩ := Cond.instanceMethod_spec wi
  obtain ⟨m2, cM, q1, -, -, -, -, -, -, hsig⟩ := Cond.code_spec hnamed wc
  cases hmethM.symm.trans q1
  simp [Cond.before, Cond.holds, Cond.value, hnamed, hmethM, hst, hsig]
/-- a class that a selected method stands in is no interface -/
theorem own_noFace {C : String} {y z : MethodName} (w : (Cond.selects C y z).before a0 Z = true) {cz : ClassId} (hz : Z.vm.findClass z.cls = some cz) : ∃ k, Z.vm.classes[cz]? = some k ∧ k.isInterface = false := by
  obtain ⟨c2, r2, m2, q1, q2, q3, q4, kP, hkP, hkPi⟩ := Cond.selects_spec w
  have := findClass_of_methodNamed q3
  cases hz.symm.trans this
  exact ⟨kP, hkP, hkPi⟩
theorem own_sameMethod {C : String} {y y' z' : MethodName} (wi : (Cond.instanceMethod y).before a0 Z = true) (w : (Cond.selects C y' z').before a0 Z = true) (hc : z'.cls = y.cls) (hy : y.cls ≠ "java/lang/invoke/MethodHandle" ∧ y.cls ≠ "java/lang/invoke/VarHandle") : (Cond.sameMethod y.cls y.cls y.name y.desc).before a0 Z = true := by
  obtain ⟨mk, methM, hnamed, hmethM, hst, -⟩ := Cond.instanceMethod_spec wi
  have hf := State.methodFound?_of_named hnamed hy
  have hcl := findClass_of_methodNamed hnamed
  obtain ⟨k, hk, hni⟩ := own_noFace w (hc ▸ hcl)
  have hnamed' : Z.methodNamed? ⟨y.cls, y.name, y.desc⟩ = some mk := hnamed
  simp [Cond.before, Cond.holds, Cond.value, hcl, hf, hnamed', hk, hni]
theorem own_notFace {C : String} {y y' z' : MethodName} (w : (Cond.selects C y' z').before a0 s = true) (hc : z'.cls = y.cls) : NotFace s y := fun r0 h0 => by
  obtain ⟨k, hk, hni⟩ := own_noFace w (hc ▸ findClass_of_methodNamed h0)
  exact ⟨k, hk, hni⟩
theorem own_ne_arv {a b : Addr} {C : String} {kk : Nat} {k : ClassId} {ty : FieldType} {z : Int32} {vs : List Value} {dv : Value} (E : Exa Z h a C) (wi : (Cond.instantiable C kk).before a0 Z = true) (V : Arv Z h b k ty z vs dv) : a ≠ b := by
  obtain ⟨cl, A, -⟩ := V
  exact ne_arr E wi A
/-- super.m(..), by its contract -/
theorem Goes.callSup (X : Stand p l e R s m args below meth c T locs cells slots) (hx : p.tables.exec = Jvm.exec) (hZ : Z.Warmed39 s.vm) {own K : String} {index : Nat} {y : MethodName} {bytes : ByteArray} {maxL : Nat} {ret : Option FieldType}
    (hown : s.vm.findClass own = some m.cls) (w1 : (Cond.methodLink own index y).before a0 Z = true) (w2 : (Cond.sameMethod y.cls y.cls y.name y.desc).before a0 Z = true) (w3 : (Cond.instanceMethod y).before a0 Z = true) (w4 : (Cond.superclass own y.cls).before a0 Z = true) (hn : y.name ≠ "<init>")
    {W : Nat} {as' : Array Value} {Qc : Option Value → Heap → List Loc → Prop} {kc' ks' : Nat}
    (hK : Back l R p e below s args y 3 W (fun A a => a = as' ∧ A.U.heap = h ∧ A.cells + kc' ≤ R.cells ∧ A.slots + ks' ≤ R.slots) (fun A _ v B => ∃ L, Qc v B.U.heap L ∧ B.locs = A.locs ++ L ∧ B.cells = A.cells + kc' ∧ B.slots = A.slots + ks'))
    {a : Addr} (eT : T.heap = h) (FI : Ins Z h a K true) (wc : (Cond.code y bytes maxL ret).before a0 Z = true)
    (hg : g.method = m) (hsize : g.locals.size = c.maxLocals) {argsL rest : List Value} (hlen : ∀ sig, parseMethodDescriptor y.desc = some sig → argsL.length = sig.parameters.length)
    (hstack : g.stack = argsL.reverse ++ .ref a :: rest) (hW : 2 * g.monitorRoom + (rest.map fun v => v.category).sum ≤ W) (hdg : decode c.code g.pc = .ok (.invokespecial index, 3)) (ha : (.ref a :: argsL).toArray = as') (hc : cells + kc' ≤ R.cells) (hs : slots + ks' ≤ R.slots)
    (k : ∀ (v : Option Value) (T' : State) (L : List Loc), Qc v T'.heap L → Stand p l e R s m args below meth c T' (locs ++ L) (cells + kc') (slots + ks') → Goes p e below F T' { g with pc := g.pc + 3, stack := v.toList ++ rest }) : Goes p e below F T g := by
  obtain ⟨v, vm₁, ⟨T', L', k', n'⟩, -, X', ⟨L, hQ, h1, h2, h3⟩, st⟩ := superBack X hx hZ hown w1 w2 w3 w4 hn hK eT FI hg hsize wc hlen hstack hW hdg (fun _ _ => ⟨ha, eT, hc, hs⟩)
  dsimp only [Pt.U, Pt.locs, Pt.cells, Pt.slots] at X' h1 h2 h3 st hQ
  subst h1 h2 h3
  exact Goes.step (fun t q => st.trans q) (k v T' L hQ X')
end Own2
end Jvm.RoadKit
namespace Jvm.RoadKit
open Sem ClassFile Op Lib Jvm.Stand Jvm.Free Jvm.LawKit
/-- a char as an int -/
def C16 (c : Int32) : Prop := ¬ c < 0 ∧ ¬ (65535 : Int32) < c
theorem C16.nat {c : Int32} (h : C16 c) : c.toBitVec.toNat < 65536 := by
  obtain ⟨h0, h1⟩ := h
  rw [Int32.lt_iff_toInt_lt] at h0 h1
  have e0 : (0 : Int32).toInt = 0 := rfl
  have e1 : (65535 : Int32).toInt = 65535 := rfl
  have e : c.toInt = c.toBitVec.toInt := rfl
  have l := c.toBitVec.isLt
  rw [e, BitVec.toInt_eq_toNat_cond] at h0 h1
  split at h0 <;> omega
theorem C16.i2c {c : Int32} (h : C16 c) : c.toUInt32.toUInt16.toUInt32.toInt32 = c := by
  apply Int32.toBitVec_inj.mp
  apply BitVec.eq_of_toNat_eq
  have q := h.nat
  show ((c.toBitVec.setWidth 16).setWidth 32).toNat = c.toBitVec.toNat
  rw [BitVec.toNat_setWidth, BitVec.toNat_setWidth]
  omega
theorem C16.nc {c : Int32} (h : C16 c) : nar .char c = c := h.i2c
theorem own_and16 (x : Int32) : C16 (x &&& (65535 : Int32)) := by
  have h : (x &&& (65535 : Int32)).toBitVec.toNat ≤ 65535 := by
    simp only [Int32.toBitVec_and, BitVec.toNat_and]
    exact Nat.and_le_right
  have e : (x &&& (65535 : Int32)).toInt = (x &&& (65535 : Int32)).toBitVec.toNat := by
    show (x &&& (65535 : Int32)).toBitVec.toInt = _
    rw [BitVec.toInt_eq_toNat_of_lt (by omega)]
  have e0 : (0 : Int32).toInt = 0 := rfl
  have e1 : (65535 : Int32).toInt = 65535 := rfl
  constructor <;> rw [Int32.lt_iff_toInt_lt, e] <;> omega
theorem own_nb8 (x : Int32) : nar .byte (x.toInt8.toInt32) = x.toInt8.toInt32 := by
  show (x.toInt8.toInt32).toInt8.toInt32 = x.toInt8.toInt32
  rw [Int8.toInt8_toInt32]
theorem own_n3 (x : Int32) : (x &&& (3 : Int32)) = 0 ∨ (x &&& (3 : Int32)) = 1 ∨ (x &&& (3 : Int32)) = 2 ∨ (x &&& (3 : Int32)) = 3 := by
  have t : ∀ k : Fin 4, Int32.ofNat k.val = 0 ∨ Int32.ofNat k.val = 1 ∨ Int32.ofNat k.val = 2 ∨ Int32.ofNat k.val = 3 := by decide +kernel
  have h : (x &&& 3).toBitVec.toNat < 4 := by
    simp only [Int32.toBitVec_and, BitVec.toNat_and]
    exact Nat.lt_succ_of_le Nat.and_le_right
  have e : (x &&& 3) = Int32.ofNat (x &&& 3).toBitVec.toNat := by
    apply Int32.toBitVec_inj.mp
    show _ = BitVec.ofNat 32 _
    rw [BitVec.ofNat_toNat]; simp
  rw [e]
  exact t ⟨_, h⟩
end Jvm.RoadKit
namespace Jvm.RoadKit
theorem own_cat {v : Value} (h : v.isRef = true) : v.category = 1 := by cases v <;> first | rfl | (simp [Value.isRef] at h)
end Jvm.RoadKit
namespace Jvm.RoadKit
open Sem ClassFile Op Lib Jvm.Stand Jvm.Free Jvm.LawKit
/-- .. of a body that may intern constants of EL -/
abbrev OwnLawW (l : Launch) (y : MethodName) (bytes : ByteArray) (maxL : Nat) (ret : Option FieldType) (ws : List Cond) (R : Room) (as : Array Value) (Z : State) (EL : List (String × Nat)) (h0 : Heap) (Q : Option Value → Heap → List Loc → Prop) : Prop :=
  MetFree l y (head1 (Cond.code y bytes maxL ret :: ws) R) (fun aa U => aa = as ∧ Z.Warmed39 U.vm ∧ U.heap = h0 ∧ CHv Z EL U.vm h0) (fun _ _ _ _ _ => True) (fun _ U oo U' => ∃ vv LL, oo = .returned vv ∧ Q vv U'.heap LL ∧ CHr Z EL U.vm U.heap U'.vm U'.heap ∧ ReturnedEndW U oo U' LL R.cells R.slots)
theorem own_enterW {l : Launch} {y : MethodName} {bytes : ByteArray} {maxL : Nat} {ret : Option FieldType} {ws : List Cond} {R : Room} {as : Array Value} {Z : State} {EL : List (String × Nat)} {h0 : Heap} {Q : Option Value → Heap → List Loc → Prop} {Ls : Array Slot} (pf : plainFor y = true) (ef : ∀ m, entryFrame m as maxL = mkF m 0 Ls [])
    (k : ∀ (p : Program) (e : Env) (s : State) (m : MethodId) (below : List Frame) (meth : Method) (c : Code) (T : State), BodyLoose p l y (head1 (Cond.code y bytes maxL ret :: ws) R) bytes maxL ret e s m as below meth c T → p.tables.exec = Jvm.exec → c.code = bytes → c.maxLocals = maxL → Z.Warmed39 s.vm → s.vm.findClass y.cls = some m.cls → Stand p l e R (s.setVm s.vm) m as below meth c T [] 0 0 → T.heap = h0 → s.heap = h0 → s.Since s.vm h0.size → CHr Z EL s.vm h0 s.vm h0 → Goes p e below (EndW s Z EL Q R.cells R.slots) T (mkF m 0 Ls [])) : OwnLawW l y bytes maxL ret ws R as Z EL h0 Q := by
  refine MetFree.of_bodySF pf hisR ?_
  intro p e s m args below meth c s₁ Bd hml hP hK
  obtain ⟨rfl, hZ, hh, hCH⟩ := hP
  refine Goes.giveW ?_
  rw [ef m]
  exact k p e s m below meth c s₁ Bd Bd.exec Bd.bytes hml hZ (findClass_of_methodNamed Bd.named) (Stand.of_body Bd) (by rw [← hh, Bd.state]; rfl) hh ((State.WarmedH.refl s).since _) (CHr.refl hCH)
end Jvm.RoadKit
/- laws to paste: Road.eqW, Road.empW, Road.lenW, Road.chN, Road.codOf, StrChars.pair_says, StrChars.shr0 (cut by pick.py; bodies as the Statement names them) -/
namespace Jvm.Pilot.@@N@@
namespace StrChars
open Jvm Sem ClassFile Op Lib Jvm.Stand Jvm.Free.XT Jvm.Free.ALB Jvm.Free.JM Jvm.Free
open Jvm.Lib.Cold (StaticIs)
/-- a char array whose places are chars -/
def Ch (a : Addr) (A : Cell) (U : State) : Prop := Arr .char a A U ∧ Typed .char A
theorem Ch.mv {a : Addr} {A : Cell} {U U' : State} (h : Ch a A U) (hal : U.vm.Alike U'.vm) (hh : U'.heap = U.heap) : Ch a A U' := ⟨h.1.mv hal hh, h.2⟩
theorem Ch.keep {a : Addr} {A : Cell} {U U' : State} (h : Ch a A U) (hal : U.vm.Alike U'.vm) (hk : U'.heap[a]? = some A) : Ch a A U' := ⟨h.1.keep hal hk, h.2⟩
/-- what place i of a char[]'s cell holds -/
def cv (A : Cell) (i : Nat) : Int32 := match A.slots[i]? with | some (.int x) => x | _ => 0
theorem Ch.get {a : Addr} {A : Cell} {U : State} (h : Ch a A U) {i : Nat} (hi : i < A.slots.size) : A.slots[i]? = some (.int (cv A i)) := by
  have e := Array.getElem?_eq_getElem hi
  have f := h.2 i _ e
  unfold cv; rw [e]
  generalize A.slots[i] = v at f
  cases v <;> simp [fits] at f ⊢
/-- the byte that i2b leaves of a char -/
def lo8 (x : Int32) : Int32 := x.toInt8.toInt32
theorem fits_lo8 (y : Int32) : fits .byte (.int (lo8 y)) = true := by
  have h1 := y.toInt8.le_toInt
  have h2 := y.toInt8.toInt_lt
  simp only [lo8, fits, Bool.and_eq_true, decide_eq_true_eq, Int32.le_iff_toInt_le, Int8.toInt_toInt32, show (-128 : Int32).toInt = -128 from by decide, show (127 : Int32).toInt = 127 from by decide]
  omega
/-- A' is A but that each place j of lo .. hi - 1 holds f j -/
def Laid (A A' : Cell) (lo hi : Nat) (f : Nat → Value) : Prop := A'.cls = A.cls ∧ A'.vm = A.vm ∧ A'.slots.size = A.slots.size ∧ ∀ i, A'.slots[i]? = if lo ≤ i ∧ i < hi then some (f i) else A.slots[i]?
theorem Laid.zero (A : Cell) (lo : Nat) (f : Nat → Value) : Laid A A lo (lo + 0) f := ⟨rfl, rfl, rfl, fun i => by rw [if_neg (by omega)]⟩
theorem Laid.step {A Ak : Cell} {lo k : Nat} {f : Nat → Value} {v : Value} (h : Laid A Ak lo k f) (hlo : lo ≤ k) (hk : k < Ak.slots.size) (hv : v = f k) : Laid A (Ak.setSlot k v) lo (k + 1) f := by
  refine ⟨h.1, h.2.1, by simpa [Cell.setSlot] using h.2.2.1, fun i => ?_⟩
  by_cases e : k = i
  · subst e; rw [Cell.slots_setSlot_self v hk, if_pos (by omega), hv]
  · rw [Cell.slots_setSlot_ne v e, h.2.2.2 i]
    by_cases q : lo ≤ i ∧ i < k
    · rw [if_pos q, if_pos (by omega)]
    · rw [if_neg q, if_neg (by omega)]
def U16 : String := "java/lang/StringUTF16"
namespace Cmp5
def yN : MethodName := ⟨"java/lang/StringUTF16", "compress", "([CI[BII)I"⟩
abbrev yB : ByteArray := jdk_52_method_21_code
theorem d0 : decode yB 0 = .ok (.iconst 0, 1) := by decide +kernel
theorem d1 : decode yB 1 = .ok (.istore 5, 2) := by decide +kernel
theorem d3 : decode yB 3 = .ok (.iload 5, 2) := by decide +kernel
theorem d5 : decode yB 5 = .ok (.iload 4, 2) := by decide +kernel
theorem d7 : decode yB 7 = .ok (.if_icmp (.ge) 37, 3) := by decide +kernel
theorem d10 : decode yB 10 = .ok (.aload_n 0, 1) := by decide +kernel
theorem d11 : decode yB 11 = .ok (.iload_n 1, 1) := by decide +kernel
theorem d12 : decode yB 12 = .ok (.caload, 1) := by decide +kernel
theorem d13 : decode yB 13 = .ok (.istore 6, 2) := by decide +kernel
theorem d15 : decode yB 15 = .ok (.iload 6, 2) := by decide +kernel
theorem d17 : decode yB 17 = .ok (.sipush 255, 3) := by decide +kernel
theorem d20 : decode yB 20 = .ok (.if_icmp (.le) 6, 3) := by decide +kernel
theorem d26 : decode yB 26 = .ok (.aload_n 2, 1) := by decide +kernel
theorem d27 : decode yB 27 = .ok (.iload_n 3, 1) := by decide +kernel
theorem d28 : decode yB 28 = .ok (.iload 6, 2) := by decide +kernel
theorem d30 : decode yB 30 = .ok (.i2b, 1) := by decide +kernel
theorem d31 : decode yB 31 = .ok (.bastore, 1) := by decide +kernel
theorem d32 : decode yB 32 = .ok (.iinc 1 1, 3) := by decide +kernel
theorem d35 : decode yB 35 = .ok (.iinc 3 1, 3) := by decide +kernel
theorem d38 : decode yB 38 = .ok (.iinc 5 1, 3) := by decide +kernel
theorem d41 : decode yB 41 = .ok (.goto (-38), 3) := by decide +kernel
theorem d44 : decode yB 44 = .ok (.iload 4, 2) := by decide +kernel
theorem d46 : decode yB 46 = .ok (.ireturn, 1) := by decide +kernel
def site : List Cond := []
def tab : Cond := tabOf yN yB 7 (some .int) site
def P (b : Addr) (A : Cell) (d : Addr) (B : Cell) (o q len : Nat) (args : Array Value) (s : State) : Prop := args = #[.ref b, .int (Int32.ofNat o), .ref d, .int (Int32.ofNat q), .int (Int32.ofNat len)] ∧ Ch b A s ∧ Arr .byte d B s ∧ b ≠ d ∧ o + len ≤ A.slots.size ∧ q + len ≤ B.slots.size ∧ ∀ i, i < len → ¬ 255 < cv A (o + i)
def E (b : Addr) (A : Cell) (d : Addr) (B : Cell) (o q len : Nat) (r : Option Value) (s u : State) : Prop := r = some (.int (Int32.ofNat len)) ∧ ∃ B', Put d B' s u ∧ Laid B B' q (q + len) (fun j => Value.int (lo8 (cv A (o + (j - q)))))
/-- no char of the range above 255: len; the places written hold each char's low byte -/
theorem law (l : Launch) (b : Addr) (A : Cell) (d : Addr) (B : Cell) (o q len : Nat) : Law l yN 5 5 0 0 yB 7 (some .int) site (P b A d B o q len) (E b A d B o q len) (copyLocs d q len) 0 0 := by
  refine Law.of_walk (plainFor_of_name (by decide +kernel)) (by decide +kernel) (by decide +kernel) (by decide) (fun _ _ h => by rw [h.1]; rfl) (fun _ U U' hal hh h => ⟨h.1, h.2.1.mv hal hh, h.2.2.1.mv hal hh, h.2.2.2⟩) (fun r U U' V V' h1 hal h2 h => ⟨h.1, h.2.elim fun B' q => ⟨B', q.1.mv h1 h2, q.2⟩⟩) ?_
  intro p e s m args below meth c s₁ X0 hexec hbytes hml hret hlk hnm hown hh0 W hP
  obtain ⟨rfl, hA, hB, hne, l1, l2, hp⟩ := hP
  have c1 : Steps p.tables e below (s₁.setTop (entryFrame m #[.ref b, .int (Int32.ofNat o), .ref d, .int (Int32.ofNat q), .int (Int32.ofNat len)] 7)) (s₁.setTop (mkF m 0 #[.val (.ref b), .val (.int (Int32.ofNat o)), .val (.ref d), .val (.int (Int32.ofNat q)), .val (.int (Int32.ofNat len)), .unset, .unset] [])) := entry rfl
  have hA0 := hA.1.mv X0.warmed.alike hh0
  have hB0 := hB.mv X0.warmed.alike hh0
  have a31 := hA.1.2.2.2
  have c2 : Steps p.tables e below (s₁.setTop (entryFrame m #[.ref b, .int (Int32.ofNat o), .ref d, .int (Int32.ofNat q), .int (Int32.ofNat len)] 7)) (s₁.setTop (mkF m 3 #[.val (.ref b), .val (.int (Int32.ofNat o)), .val (.ref d), .val (.int (Int32.ofNat q)), .val (.int (Int32.ofNat len)), .val (.int 0), .unset] [])) := c1.trans (by
    refine iconstV X0.here hexec rfl 0 (hb hbytes d0) (by decide) ?_
    refine XS.istore X0.here hexec rfl (hb hbytes d1) rfl rfl ?_
    exact Steps.refl _)
  have loop : ∀ (r i : Nat), i + r = len → ∀ (z : Slot), (z = .unset ∨ ∃ w, z = .val w ∧ w.category = 1) → ∀ (Tl : State) (Bk : Cell), Stand p l e { frames := 0, locals := 0, cells := 0, slots := 0 } s m #[.ref b, .int (Int32.ofNat o), .ref d, .int (Int32.ofNat q), .int (Int32.ofNat len)] below meth c Tl ([] ++ copyLocs d q i) 0 0 → Put d Bk s₁ Tl → Laid B Bk q (q + i) (fun j => Value.int (lo8 (cv A (o + (j - q))))) →
      Steps p.tables e below (s₁.setTop (entryFrame m #[.ref b, .int (Int32.ofNat o), .ref d, .int (Int32.ofNat q), .int (Int32.ofNat len)] 7)) (Tl.setTop (mkF m 3 #[.val (.ref b), .val (.int (Int32.ofNat (o + i))), .val (.ref d), .val (.int (Int32.ofNat (q + i))), .val (.int (Int32.ofNat len)), .val (.int (Int32.ofNat i)), z] [])) → ∃ (T' : State) (B' : Cell) (z' : Slot), Stand p l e { frames := 0, locals := 0, cells := 0, slots := 0 } s m #[.ref b, .int (Int32.ofNat o), .ref d, .int (Int32.ofNat q), .int (Int32.ofNat len)] below meth c T' ([] ++ copyLocs d q len) 0 0 ∧ Put d B' s₁ T' ∧ Laid B B' q (q + len) (fun j => Value.int (lo8 (cv A (o + (j - q))))) ∧
      Steps p.tables e below (s₁.setTop (entryFrame m #[.ref b, .int (Int32.ofNat o), .ref d, .int (Int32.ofNat q), .int (Int32.ofNat len)] 7)) (T'.setTop (mkF m 3 #[.val (.ref b), .val (.int (Int32.ofNat (o + len))), .val (.ref d), .val (.int (Int32.ofNat (q + len))), .val (.int (Int32.ofNat len)), .val (.int (Int32.ofNat len)), z'] [])) := by
    intro r
    induction r with
    | zero =>
      intro i hi z hz Tl Bk Xl pl fl cl
      have hil : i = len := by omega
      rw [hil] at Xl fl cl
      exact ⟨Tl, Bk, z, Xl, pl, fl, cl⟩
    | succ r ih =>
      intro i hi z hz Tl Bk Xl pl fl cl
      have all := X0.warmed.alike.symm.trans Xl.warmed.alike
      have hAl := hA0.keep all (pl.other hne hA0.1)
      have hBk := hB0.like all pl.1 fl.1 fl.2.1 fl.2.2.1
      have hlt : q + i < Bk.slots.size := by rw [fl.2.2.1]; omega
      have c3 : Steps p.tables e below (s₁.setTop (entryFrame m #[.ref b, .int (Int32.ofNat o), .ref d, .int (Int32.ofNat q), .int (Int32.ofNat len)] 7)) (Tl.setTop (mkF m 12 #[.val (.ref b), .val (.int (Int32.ofNat (o + i))), .val (.ref d), .val (.int (Int32.ofNat (q + i))), .val (.int (Int32.ofNat len)), .val (.int (Int32.ofNat i)), z] [.int (Int32.ofNat (o + i)), .ref b])) := cl.trans (by
        refine XS.iload Xl.here hexec rfl (hb hbytes d3) rfl ?_
        refine XS.iload Xl.here hexec rfl (hb hbytes d5) rfl ?_
        refine XS.icmpNo Xl.here hexec rfl (hb hbytes d7) rfl (ii_ge_f (lt32 (by omega) (by omega))) ?_
        refine XS.aloadN Xl.here hexec rfl (hb hbytes d10) rfl rfl ?_
        refine XS.iloadN Xl.here hexec rfl (hb hbytes d11) rfl ?_
        exact Steps.refl _)
      have c4 : Steps p.tables e below (s₁.setTop (entryFrame m #[.ref b, .int (Int32.ofNat o), .ref d, .int (Int32.ofNat q), .int (Int32.ofNat len)] 7)) (Tl.setTop (mkF m 13 #[.val (.ref b), .val (.int (Int32.ofNat (o + i))), .val (.ref d), .val (.int (Int32.ofNat (q + i))), .val (.int (Int32.ofNat len)), .val (.int (Int32.ofNat i)), z] [.int (cv A (o + i))])) := c3.trans (by
        refine Xl.aget hexec hAl rfl (hA.get (i := o + i) (by omega)) rfl rfl (hb hbytes d12) ?_
        exact Steps.refl _)
      have c5 : Steps p.tables e below (s₁.setTop (entryFrame m #[.ref b, .int (Int32.ofNat o), .ref d, .int (Int32.ofNat q), .int (Int32.ofNat len)] 7)) (Tl.setTop (mkF m 15 #[.val (.ref b), .val (.int (Int32.ofNat (o + i))), .val (.ref d), .val (.int (Int32.ofNat (q + i))), .val (.int (Int32.ofNat len)), .val (.int (Int32.ofNat i)), .val (.int (cv A (o + i)))] [])) := c4.trans (by
        refine XS.istoreS Xl.here hexec rfl (hb hbytes d13) rfl rfl hz ?_
        exact Steps.refl _)
      have c6 : Steps p.tables e below (s₁.setTop (entryFrame m #[.ref b, .int (Int32.ofNat o), .ref d, .int (Int32.ofNat q), .int (Int32.ofNat len)] 7)) (Tl.setTop (mkF m 31 #[.val (.ref b), .val (.int (Int32.ofNat (o + i))), .val (.ref d), .val (.int (Int32.ofNat (q + i))), .val (.int (Int32.ofNat len)), .val (.int (Int32.ofNat i)), .val (.int (cv A (o + i)))] [.int (lo8 (cv A (o + i))), .int (Int32.ofNat (q + i)), .ref d])) := c5.trans (by
        refine XS.iload Xl.here hexec rfl (hb hbytes d15) rfl ?_
        refine sipushV Xl.here hexec rfl 255 (hb hbytes d17) (by decide) ?_
        refine XS.icmpYes Xl.here hexec rfl (pc0 := 20) rfl (hb hbytes d20) rfl (ii_le_t (hp i (by omega))) (by decide) rfl ?_
        refine XS.aloadN Xl.here hexec rfl (hb hbytes d26) rfl rfl ?_
        refine XS.iloadN Xl.here hexec rfl (hb hbytes d27) rfl ?_
        refine XS.iload Xl.here hexec rfl (hb hbytes d28) rfl ?_
        refine i2b Xl.here hexec rfl (hb hbytes d30) rfl ?_
        exact Steps.refl _)
      obtain ⟨T7, X7, p7, st7⟩ := Xl.aput hexec hBk rfl hlt rfl (fits_lo8 (cv A (o + i))) (g := (mkF m 31 #[.val (.ref b), .val (.int (Int32.ofNat (o + i))), .val (.ref d), .val (.int (Int32.ofNat (q + i))), .val (.int (Int32.ofNat len)), .val (.int (Int32.ofNat i)), .val (.int (cv A (o + i)))] [.int (lo8 (cv A (o + i))), .int (Int32.ofNat (q + i)), .ref d])) rfl (rest := []) rfl (hb hbytes d31)
      have c8 : Steps p.tables e below (s₁.setTop (entryFrame m #[.ref b, .int (Int32.ofNat o), .ref d, .int (Int32.ofNat q), .int (Int32.ofNat len)] 7)) (T7.setTop (mkF m 32 #[.val (.ref b), .val (.int (Int32.ofNat (o + i))), .val (.ref d), .val (.int (Int32.ofNat (q + i))), .val (.int (Int32.ofNat len)), .val (.int (Int32.ofNat i)), .val (.int (cv A (o + i)))] [])) := c6.trans (st7 _ (Steps.refl _))
      have c9 : Steps p.tables e below (s₁.setTop (entryFrame m #[.ref b, .int (Int32.ofNat o), .ref d, .int (Int32.ofNat q), .int (Int32.ofNat len)] 7)) (T7.setTop (mkF m 3 #[.val (.ref b), .val (.int (Int32.ofNat (o + i) + 1)), .val (.ref d), .val (.int (Int32.ofNat (q + i) + 1)), .val (.int (Int32.ofNat len)), .val (.int (Int32.ofNat i + 1)), .val (.int (cv A (o + i)))] [])) := c8.trans (by
        refine iincV X7.here hexec rfl 1 (hb hbytes d32) (by decide) rfl rfl ?_
        refine iincV X7.here hexec rfl 1 (hb hbytes d35) (by decide) rfl rfl ?_
        refine iincV X7.here hexec rfl 1 (hb hbytes d38) (by decide) rfl rfl ?_
        refine XS.goto X7.here hexec rfl (pc0 := 41) rfl (hb hbytes d41) (by decide) rfl ?_
        exact Steps.refl _)
      have c10 : Steps p.tables e below (s₁.setTop (entryFrame m #[.ref b, .int (Int32.ofNat o), .ref d, .int (Int32.ofNat q), .int (Int32.ofNat len)] 7)) (T7.setTop (mkF m 3 #[.val (.ref b), .val (.int (Int32.ofNat (o + (i + 1)))), .val (.ref d), .val (.int (Int32.ofNat (q + (i + 1)))), .val (.int (Int32.ofNat len)), .val (.int (Int32.ofNat (i + 1))), .val (.int (cv A (o + i)))] [])) := by
        have := c9
        rw [succ32, succ32, succ32] at this
        exact this
      exact ih (i + 1) (by omega) _ (Or.inr ⟨_, rfl, rfl⟩) T7 _ (by rw [copyLocs_step, ← List.append_assoc]; exact X7) (pl.trans p7) (fl.step (by omega) hlt (by simp)) c10
  obtain ⟨T9, B9, z9, X9, p9, f9, g9⟩ := loop len 0 (by omega) .unset (Or.inl rfl) s₁ B (by simpa [copyLocs] using X0) ⟨hB0.1, fun _ _ => rfl, rfl⟩ (Laid.zero _ _ _) c2
  have c11 : Steps p.tables e below (s₁.setTop (entryFrame m #[.ref b, .int (Int32.ofNat o), .ref d, .int (Int32.ofNat q), .int (Int32.ofNat len)] 7)) (T9.setTop (mkF m 46 #[.val (.ref b), .val (.int (Int32.ofNat (o + len))), .val (.ref d), .val (.int (Int32.ofNat (q + len))), .val (.int (Int32.ofNat len)), .val (.int (Int32.ofNat len)), z9] [.int (Int32.ofNat len)])) := g9.trans (by
    refine XS.iload X9.here hexec rfl (hb hbytes d3) rfl ?_
    refine XS.iload X9.here hexec rfl (hb hbytes d5) rfl ?_
    refine XS.icmpYes X9.here hexec rfl (pc0 := 7) rfl (hb hbytes d7) rfl (ii_ge_t (nlt32 (by omega) (Nat.le_refl _))) (by decide) rfl ?_
    refine XS.iload X9.here hexec rfl (hb hbytes d44) rfl ?_
    exact Steps.refl _)
  exact ⟨T9, some (.int (Int32.ofNat len)), _, _, _, X9, by simp, rfl, rfl, (fun h => by cases h), ⟨rfl, B9, p9.from hh0, f9⟩, fun fs hl => c11.trans (X9.ireturnOut hexec hret rfl (Or.inl rfl) (hb hbytes d46) hl)⟩
end Cmp5
namespace Cmp3
def yN : MethodName := ⟨"java/lang/StringUTF16", "compress", "([CII)[B"⟩
abbrev yB : ByteArray := jdk_52_method_16_code
theorem d0 : decode yB 0 = .ok (.iload_n 2, 1) := by decide +kernel
theorem d1 : decode yB 1 = .ok (.newarray .byte, 2) := by decide +kernel
theorem d3 : decode yB 3 = .ok (.astore_n 3, 1) := by decide +kernel
theorem d4 : decode yB 4 = .ok (.aload_n 0, 1) := by decide +kernel
theorem d5 : decode yB 5 = .ok (.iload_n 1, 1) := by decide +kernel
theorem d6 : decode yB 6 = .ok (.aload_n 3, 1) := by decide +kernel
theorem d7 : decode yB 7 = .ok (.iconst 0, 1) := by decide +kernel
theorem d8 : decode yB 8 = .ok (.iload_n 2, 1) := by decide +kernel
theorem d9 : decode yB 9 = .ok (.invokestatic 115, 3) := by decide +kernel
theorem d12 : decode yB 12 = .ok (.istore 4, 2) := by decide +kernel
theorem d14 : decode yB 14 = .ok (.iload 4, 2) := by decide +kernel
theorem d16 : decode yB 16 = .ok (.iload_n 2, 1) := by decide +kernel
theorem d17 : decode yB 17 = .ok (.if_icmp (.eq) 40, 3) := by decide +kernel
theorem d57 : decode yB 57 = .ok (.aload_n 3, 1) := by decide +kernel
theorem d58 : decode yB 58 = .ok (.areturn, 1) := by decide +kernel
def site : List Cond := [.arrayClass .byte, Cmp5.tab] ++ staticW U16 115 Cmp5.yN
def tab : Cond := tabOf yN yB 6 (some (.array .byte)) site
def P (b : Addr) (A : Cell) (o len : Nat) (args : Array Value) (s : State) : Prop := args = #[.ref b, .int (Int32.ofNat o), .int (Int32.ofNat len)] ∧ Ch b A s ∧ o + len ≤ A.slots.size ∧ len ≤ 536870912 ∧ ∀ i, i < len → ¬ 255 < cv A (o + i)
def E (b : Addr) (A : Cell) (o len : Nat) (r : Option Value) (s u : State) : Prop := NewArr .byte "[B" len (fun j => .int (lo8 (cv A (o + j)))) r s u ∧ u.heap.size = s.heap.size + 1
/-- no char of the range above 255: a new byte[] of their low bytes -/
theorem law (l : Launch) (b : Addr) (A : Cell) (o len : Nat) : Law l yN 3 3 1 18 yB 6 (some (.array .byte)) site (P b A o len) (E b A o len) [] 1 len := by
  refine Law.of_walk (plainFor_of_name (by decide +kernel)) (by decide +kernel) (by decide +kernel) (by decide) (fun _ _ h => by rw [h.1]; rfl) (fun _ U U' hal hh h => ⟨h.1, h.2.1.mv hal hh, h.2.2⟩) (fun r U U' V V' h1 hal h2 h => ⟨NewArr.mv r U U' V V' h1 hal h2 h.1, by rw [h1, h2]; exact h.2⟩) ?_
  intro p e s m args below meth c s₁ X0 hexec hbytes hml hret hlk hnm hown hh0 W hP
  obtain ⟨rfl, hA, l1, l2, hp⟩ := hP
  have a31 := hA.1.2.2.2
  have c1 : Steps p.tables e below (s₁.setTop (entryFrame m #[.ref b, .int (Int32.ofNat o), .int (Int32.ofNat len)] 6)) (s₁.setTop (mkF m 0 #[.val (.ref b), .val (.int (Int32.ofNat o)), .val (.int (Int32.ofNat len)), .unset, .unset, .unset] [])) := entry rfl
  have c2 : Steps p.tables e below (s₁.setTop (entryFrame m #[.ref b, .int (Int32.ofNat o), .int (Int32.ofNat len)] 6)) (s₁.setTop (mkF m 1 #[.val (.ref b), .val (.int (Int32.ofNat o)), .val (.int (Int32.ofNat len)), .unset, .unset, .unset] [.int (Int32.ofNat len)])) := c1.trans (by
    refine XS.iloadN X0.here hexec rfl (hb hbytes d0) rfl ?_
    exact Steps.refl _)
  obtain ⟨T3, B3, X3, ba3, bs3, bv3, bh3, bf3, st3⟩ := X0.anew hexec (atype := .byte) (wk W (.arrayClass .byte)) rfl (by show len * 1 ≤ _; omega) (by omega) (g := (mkF m 1 #[.val (.ref b), .val (.int (Int32.ofNat o)), .val (.int (Int32.ofNat len)), .unset, .unset, .unset] [.int (Int32.ofNat len)])) rfl (hb hbytes d1) (rest := []) rfl (Nat.le_refl _) (by show 0 + len ≤ len; omega)
  rw [hh0] at ba3 st3
  have kp3 : XT.Kept s T3 := (XT.Kept.of_eq hh0).push bh3
  have hA3 := hA.keep X3.warmed.alike (kp3 _ _ hA.1.1)
  have hne : b ≠ s.heap.size := hA.1.ne
  have c4 : Steps p.tables e below (s₁.setTop (entryFrame m #[.ref b, .int (Int32.ofNat o), .int (Int32.ofNat len)] 6)) (T3.setTop (mkF m 3 #[.val (.ref b), .val (.int (Int32.ofNat o)), .val (.int (Int32.ofNat len)), .unset, .unset, .unset] [.ref s.heap.size])) := c2.trans (st3 _ (Steps.refl _))
  have c5 : Steps p.tables e below (s₁.setTop (entryFrame m #[.ref b, .int (Int32.ofNat o), .int (Int32.ofNat len)] 6)) (T3.setTop (mkF m 9 #[.val (.ref b), .val (.int (Int32.ofNat o)), .val (.int (Int32.ofNat len)), .val (.ref s.heap.size), .unset, .unset] [.int (Int32.ofNat len), .int 0, .ref s.heap.size, .int (Int32.ofNat o), .ref b])) := c4.trans (by
    refine XS.astoreN X3.here hexec rfl (hb hbytes d3) rfl rfl rfl ?_
    refine XS.aloadN X3.here hexec rfl (hb hbytes d4) rfl rfl ?_
    refine XS.iloadN X3.here hexec rfl (hb hbytes d5) rfl ?_
    refine XS.aloadN X3.here hexec rfl (hb hbytes d6) rfl rfl ?_
    refine iconstV X3.here hexec rfl 0 (hb hbytes d7) (by decide) ?_
    refine XS.iloadN X3.here hexec rfl (hb hbytes d8) rfl ?_
    exact Steps.refl _)
  obtain ⟨v6, T6, X6, E6, g6⟩ := X3.callS hexec (Cmp5.law l b A s.heap.size B3 o 0 len) hown (wks W (staticW U16 115 Cmp5.yN)) (wk W Cmp5.tab) (W := 0) (Nat.le_of_ble_eq_true rfl) (Nat.le_of_ble_eq_true rfl) (Nat.le_refl _) (by show 0 + len + 0 ≤ len; omega) (g := (mkF m 9 #[.val (.ref b), .val (.int (Int32.ofNat o)), .val (.int (Int32.ofNat len)), .val (.ref s.heap.size), .unset, .unset] [.int (Int32.ofNat len), .int (Int32.ofNat 0), .ref s.heap.size, .int (Int32.ofNat o), .ref b])) rfl (by rw [hml]; rfl) c5 (argsL := [.ref b, .int (Int32.ofNat o), .ref s.heap.size, .int (Int32.ofNat 0), .int (Int32.ofNat len)]) (rest := []) rfl rfl (by show 2 * 0 + 0 ≤ _; decide) (hb hbytes d9) (⟨rfl, hA3, ba3, hne, l1, by rw [bs3]; simp, hp⟩)
  obtain ⟨rfl, B6, p6, f6⟩ := E6
  have c7 : Steps p.tables e below (s₁.setTop (entryFrame m #[.ref b, .int (Int32.ofNat o), .int (Int32.ofNat len)] 6)) (T6.setTop (mkF m 12 #[.val (.ref b), .val (.int (Int32.ofNat o)), .val (.int (Int32.ofNat len)), .val (.ref s.heap.size), .unset, .unset] [.int (Int32.ofNat len)])) := g6
  have c8 : Steps p.tables e below (s₁.setTop (entryFrame m #[.ref b, .int (Int32.ofNat o), .int (Int32.ofNat len)] 6)) (T6.setTop (mkF m 58 #[.val (.ref b), .val (.int (Int32.ofNat o)), .val (.int (Int32.ofNat len)), .val (.ref s.heap.size), .val (.int (Int32.ofNat len)), .unset] [.ref s.heap.size])) := c7.trans (by
    refine XS.istore X6.here hexec rfl (hb hbytes d12) rfl rfl ?_
    refine XS.iload X6.here hexec rfl (hb hbytes d14) rfl ?_
    refine XS.iloadN X6.here hexec rfl (hb hbytes d16) rfl ?_
    refine XS.icmpYes X6.here hexec rfl (pc0 := 17) rfl (hb hbytes d17) rfl (ii_eq_t rfl) (by decide) rfl ?_
    refine XS.aloadN X6.here hexec rfl (hb hbytes d57) rfl rfl ?_
    exact Steps.refl _)
  have X8 := X6.wide (L' := []) (cells' := 1) (slots' := len) (fun x hx hlt => by
    simp only [List.nil_append, copyLocs, List.mem_map, List.mem_range] at hx
    obtain ⟨i, -, rfl⟩ := hx
    exact absurd hlt (Nat.lt_irrefl _)) (Nat.le_refl _) (by omega)
  exact ⟨T6, some (.ref s.heap.size), _, _, _, X8, rfl, rfl, rfl, (fun h => by cases h), ⟨⟨rfl, B6, ba3.like (X3.warmed.alike.symm.trans X6.warmed.alike) p6.1 f6.1 f6.2.1 f6.2.2.1, f6.2.1.trans bv3, by rw [X6.warmed.alike.findClass, f6.1]; exact bf3, by rw [f6.2.2.1, bs3]; simp, fun j hj => by rw [f6.2.2.2 j, if_pos (by omega)]; rfl, kp3.put p6 (Nat.le_refl _)⟩, by rw [p6.2.2, bh3, hh0]; simp⟩, fun fs hl => c8.trans (X8.areturnOut hexec rfl hret rfl (hb hbytes d58) hl)⟩
end Cmp3
namespace CodL
def yN : MethodName := ⟨"java/lang/StringUTF16", "coderFromArrayLen", "([BI)B"⟩
abbrev yB : ByteArray := jdk_52_method_15_code
theorem d0 : decode yB 0 = .ok (.iload_n 1, 1) := by decide +kernel
theorem d1 : decode yB 1 = .ok (.aload_n 0, 1) := by decide +kernel
theorem d2 : decode yB 2 = .ok (.arraylength, 1) := by decide +kernel
theorem d3 : decode yB 3 = .ok (.isub, 1) := by decide +kernel
theorem d4 : decode yB 4 = .ok (.bipush 31, 2) := by decide +kernel
theorem d6 : decode yB 6 = .ok (.iushr, 1) := by decide +kernel
theorem d7 : decode yB 7 = .ok (.i2b, 1) := by decide +kernel
theorem d8 : decode yB 8 = .ok (.ireturn, 1) := by decide +kernel
def site : List Cond := []
def tab : Cond := tabOf yN yB 2 (some .byte) site
def P (d : Addr) (B : Cell) (args : Array Value) (s : State) : Prop := args = #[.ref d, .int (Int32.ofNat B.slots.size)] ∧ Arr .byte d B s
def E (r : Option Value) (s u : State) : Prop := XT.PureE (some (.int 0)) r s u
/-- an array as long as the number of chars: LATIN1 -/
theorem law (l : Launch) (d : Addr) (B : Cell) : Law l yN 2 2 0 0 yB 2 (some .byte) site (P d B) E [] 0 0 := by
  refine Law.of_walk (plainFor_of_name (by decide +kernel)) (by decide +kernel) (by decide +kernel) (by decide) (fun _ _ h => by rw [h.1]; rfl) (fun _ U U' hal hh h => ⟨h.1, h.2.mv hal hh⟩) (fun r U U' V V' h1 hal h2 h => XT.PureE.mv r U U' V V' h1 hal h2 h) ?_
  intro p e s m args below meth c s₁ X0 hexec hbytes hml hret hlk hnm hown hh0 W hP
  obtain ⟨rfl, hB⟩ := hP
  have hB0 := hB.mv X0.warmed.alike hh0
  have c1 : Steps p.tables e below (s₁.setTop (entryFrame m #[.ref d, .int (Int32.ofNat B.slots.size)] 2)) (s₁.setTop (mkF m 0 #[.val (.ref d), .val (.int (Int32.ofNat B.slots.size))] [])) := entry rfl
  have c2 : Steps p.tables e below (s₁.setTop (entryFrame m #[.ref d, .int (Int32.ofNat B.slots.size)] 2)) (s₁.setTop (mkF m 2 #[.val (.ref d), .val (.int (Int32.ofNat B.slots.size))] [.ref d, .int (Int32.ofNat B.slots.size)])) := c1.trans (by
    refine XS.iloadN X0.here hexec rfl (hb hbytes d0) rfl ?_
    refine XS.aloadN X0.here hexec rfl (hb hbytes d1) rfl rfl ?_
    exact Steps.refl _)
  have c3 : Steps p.tables e below (s₁.setTop (entryFrame m #[.ref d, .int (Int32.ofNat B.slots.size)] 2)) (s₁.setTop (mkF m 8 #[.val (.ref d), .val (.int (Int32.ofNat B.slots.size))] [.int (lo8 (ushr (Int32.ofNat B.slots.size - Int32.ofNat B.slots.size) 31))])) := c2.trans (by
    refine X0.alen hexec hB0 rfl rfl (hb hbytes d2) ?_
    refine XS.isub X0.here hexec rfl (hb hbytes d3) rfl ?_
    refine bipushV X0.here hexec rfl 31 (hb hbytes d4) (by decide) ?_
    refine iushr X0.here hexec rfl (hb hbytes d6) rfl ?_
    refine i2b X0.here hexec rfl (hb hbytes d7) rfl ?_
    exact Steps.refl _)
  have e0 : lo8 (ushr (Int32.ofNat B.slots.size - Int32.ofNat B.slots.size) 31) = 0 := by rw [Int32.sub_self]; decide
  rw [e0] at c3
  exact ⟨s₁, some (.int 0), _, _, _, X0, rfl, rfl, rfl, (fun h => by cases h), ⟨rfl, hh0⟩, fun fs hl => c3.trans (X0.ireturnOut hexec hret rfl (Or.inr (Or.inr (Or.inl rfl))) (hb hbytes d8) hl)⟩
end CodL
/-- the String at a is Latin-1 over a new byte[] (the heap's one new cell): the low bytes of the len chars of A from o on; every cell but a is kept -/
def Got (a : Addr) (D : Cell) (fV fC : Field) (A : Cell) (o len : Nat) (r : Option Value) (s u : State) : Prop := r = none ∧ ∃ D' V : Cell, Blank "java/lang/String" a D' u ∧ Same D D' [fV.slot, fC.slot] ∧ D'.slots[fV.slot]? = some (.ref s.heap.size) ∧ D'.slots[fC.slot]? = some (.int 0) ∧ Arr .byte s.heap.size V u ∧ V.vm = .none ∧ u.vm.findClass "[B" = some V.cls ∧ V.slots.size = len ∧ (∀ j, j < len → V.slots[j]? = some (.int (lo8 (cv A (o + j))))) ∧ (∀ (y : Addr) (c : Cell), y ≠ a → s.heap[y]? = some c → u.heap[y]? = some c) ∧ u.heap.size = s.heap.size + 1
theorem Got.mv {a : Addr} {D A : Cell} {fV fC : Field} {o len : Nat} : ∀ r (U U' V V' : State), U'.heap = U.heap → V.vm.Alike V'.vm → V'.heap = V.heap → Got a D fV fC A o len r U V → Got a D fV fC A o len r U' V' :=
  fun r U U' V V' h1 hal h2 ⟨e0, D', X, a1, a2, a3, a4, a5, a6, a7, a8, a9, a10, a11⟩ => ⟨e0, D', X, a1.mv hal h2, a2, by rw [h1]; exact a3, a4, by rw [h1]; exact a5.mv hal h2, a6, by rw [hal.findClass]; exact a7, a8, a9, by rw [h1, h2]; exact a10, by rw [h1, h2]; exact a11⟩
namespace New4
def yN : MethodName := ⟨"java/lang/String", "<init>", "([CIILjava/lang/Void;)V"⟩
abbrev yB : ByteArray := jdk_42_method_149_code
theorem d0 : decode yB 0 = .ok (.aload_n 0, 1) := by decide +kernel
theorem d1 : decode yB 1 = .ok (.invokespecial 1, 3) := by decide +kernel
theorem d4 : decode yB 4 = .ok (.iload_n 3, 1) := by decide +kernel
theorem d5 : decode yB 5 = .ok (.ifCond (.ne) 22, 3) := by decide +kernel
theorem d27 : decode yB 27 = .ok (.getstatic 38, 3) := by decide +kernel
theorem d30 : decode yB 30 = .ok (.ifCond (.eq) 28, 3) := by decide +kernel
theorem d33 : decode yB 33 = .ok (.aload_n 1, 1) := by decide +kernel
theorem d34 : decode yB 34 = .ok (.iload_n 2, 1) := by decide +kernel
theorem d35 : decode yB 35 = .ok (.iload_n 3, 1) := by decide +kernel
theorem d36 : decode yB 36 = .ok (.invokestatic 177, 3) := by decide +kernel
theorem d39 : decode yB 39 = .ok (.astore 5, 2) := by decide +kernel
theorem d41 : decode yB 41 = .ok (.aload_n 0, 1) := by decide +kernel
theorem d42 : decode yB 42 = .ok (.aload 5, 2) := by decide +kernel
theorem d44 : decode yB 44 = .ok (.iload_n 3, 1) := by decide +kernel
theorem d45 : decode yB 45 = .ok (.invokestatic 47, 3) := by decide +kernel
theorem d48 : decode yB 48 = .ok (.putfield 15, 3) := by decide +kernel
theorem d51 : decode yB 51 = .ok (.aload_n 0, 1) := by decide +kernel
theorem d52 : decode yB 52 = .ok (.aload 5, 2) := by decide +kernel
theorem d54 : decode yB 54 = .ok (.putfield 9, 3) := by decide +kernel
theorem d57 : decode yB 57 = .ok (.return_, 1) := by decide +kernel
def site : List Cond := [.fieldLink "java/lang/String" 38 "java/lang/String" "COMPACT_STRINGS" "Z", Cmp3.tab, CodL.tab, .laysFinal "java/lang/String" "java/lang/String" "value" "[B", .fieldLink "java/lang/String" 9 "java/lang/String" "value" "[B", .laysFinal "java/lang/String" "java/lang/String" "coder" "B", .fieldLink "java/lang/String" 15 "java/lang/String" "coder" "B"] ++ objW "java/lang/String" 1 ++ staticW "java/lang/String" 177 Cmp3.yN ++ staticW "java/lang/String" 47 CodL.yN
def tab : Cond := tabOf yN yB 6 none site
def P (a : Addr) (D : Cell) (fV fC : Field) (b : Addr) (A : Cell) (z : Int32) (o len : Nat) (args : Array Value) (s : State) : Prop := args = #[.ref a, .ref b, .int (Int32.ofNat o), .int (Int32.ofNat len), .null] ∧ Blank "java/lang/String" a D s ∧ Found "java/lang/String" "value" "[B" fV s ∧ Found "java/lang/String" "coder" "B" fC s ∧ Ch b A s ∧ StaticIs s "java/lang/String" "COMPACT_STRINGS" "Z" (.int z) ∧ ¬ z = 0 ∧ 0 < len ∧ o + len ≤ A.slots.size ∧ len ≤ 536870912 ∧ ∀ i, i < len → ¬ 255 < cv A (o + i)
def E (a : Addr) (D : Cell) (fV fC : Field) (A : Cell) (o len : Nat) (r : Option Value) (s u : State) : Prop := Got a D fV fC A o len r s u
/-- len > 0, no char of the range above 255: a Latin-1 String of their low bytes -/
theorem law (l : Launch) (a : Addr) (D : Cell) (fV fC : Field) (b : Addr) (A : Cell) (z : Int32) (o len : Nat) : Law l yN 5 4 2 35 yB 6 none site (P a D fV fC b A z o len) (E a D fV fC A o len) [⟨a, fC.slot⟩, ⟨a, fV.slot⟩] 1 len := by
  refine Law.of_walk (plainFor_of_name (by decide +kernel)) (by decide +kernel) (by decide +kernel) (by decide) (fun _ _ h => by rw [h.1]; rfl) (fun _ U U' hal hh h => ⟨h.1, h.2.1.mv hal hh, h.2.2.1.al hal, h.2.2.2.1.al hal, h.2.2.2.2.1.mv hal hh, h.2.2.2.2.2.1.there hal hh, h.2.2.2.2.2.2⟩) (fun r U U' V V' h1 hal h2 h => Got.mv r U U' V V' h1 hal h2 h) ?_
  intro p e s m args below meth c s₁ X0 hexec hbytes hml hret hlk hnm hown hh0 W hP
  obtain ⟨rfl, hB, f1, f2, hA, s1, hz, l0, l1, l2, hp⟩ := hP
  have a31 := hA.1.2.2.2
  have c1 : Steps p.tables e below (s₁.setTop (entryFrame m #[.ref a, .ref b, .int (Int32.ofNat o), .int (Int32.ofNat len), .null] 6)) (s₁.setTop (mkF m 0 #[.val (.ref a), .val (.ref b), .val (.int (Int32.ofNat o)), .val (.int (Int32.ofNat len)), .val .null, .unset] [])) := entry rfl
  have c2 : Steps p.tables e below (s₁.setTop (entryFrame m #[.ref a, .ref b, .int (Int32.ofNat o), .int (Int32.ofNat len), .null] 6)) (s₁.setTop (mkF m 1 #[.val (.ref a), .val (.ref b), .val (.int (Int32.ofNat o)), .val (.int (Int32.ofNat len)), .val .null, .unset] [.ref a])) := c1.trans (by
    refine XS.aloadN X0.here hexec rfl (hb hbytes d0) rfl rfl ?_
    exact Steps.refl _)
  obtain ⟨T3, X3, q3, st3⟩ := X0.oinit hexec hown (wks W (objW "java/lang/String" 1)) (g := (mkF m 1 #[.val (.ref a), .val (.ref b), .val (.int (Int32.ofNat o)), .val (.int (Int32.ofNat len)), .val .null, .unset] [.ref a])) rfl (by rw [hml]; rfl) (rest := []) rfl (hb hbytes d1) (W := 0) (by show 2 * 0 + 0 ≤ _; decide) (Nat.le_of_ble_eq_true rfl) (Nat.le_of_ble_eq_true rfl)
  have hh3 := q3.trans hh0
  have c4 : Steps p.tables e below (s₁.setTop (entryFrame m #[.ref a, .ref b, .int (Int32.ofNat o), .int (Int32.ofNat len), .null] 6)) (T3.setTop (mkF m 27 #[.val (.ref a), .val (.ref b), .val (.int (Int32.ofNat o)), .val (.int (Int32.ofNat len)), .val .null, .unset] [])) := (c2.trans (st3 _ (Steps.refl _))).trans (by
    refine XS.iloadN X3.here hexec rfl (hb hbytes d4) rfl ?_
    refine XS.ifYes X3.here hexec rfl (pc0 := 5) rfl (hb hbytes d5) rfl (i0_ne_t (nz32 (by omega) l0)) (by decide) rfl ?_
    exact Steps.refl _)
  obtain ⟨T5, X5, q5, st5⟩ := X3.sget hexec hown (wk W (.fieldLink "java/lang/String" 38 "java/lang/String" "COMPACT_STRINGS" "Z")) s1 (fun _ _ h => by rw [hh3]; exact h) (g := (mkF m 27 #[.val (.ref a), .val (.ref b), .val (.int (Int32.ofNat o)), .val (.int (Int32.ofNat len)), .val .null, .unset] [])) rfl (hb hbytes d27)
  have hh5 := q5.trans hh3
  have c6 : Steps p.tables e below (s₁.setTop (entryFrame m #[.ref a, .ref b, .int (Int32.ofNat o), .int (Int32.ofNat len), .null] 6)) (T5.setTop (mkF m 30 #[.val (.ref a), .val (.ref b), .val (.int (Int32.ofNat o)), .val (.int (Int32.ofNat len)), .val .null, .unset] [.int z])) := c4.trans (st5 _ (Steps.refl _))
  have c7 : Steps p.tables e below (s₁.setTop (entryFrame m #[.ref a, .ref b, .int (Int32.ofNat o), .int (Int32.ofNat len), .null] 6)) (T5.setTop (mkF m 36 #[.val (.ref a), .val (.ref b), .val (.int (Int32.ofNat o)), .val (.int (Int32.ofNat len)), .val .null, .unset] [.int (Int32.ofNat len), .int (Int32.ofNat o), .ref b])) := c6.trans (by
    refine XS.ifNo X5.here hexec rfl (hb hbytes d30) rfl (i0_eq_f hz) ?_
    refine XS.aloadN X5.here hexec rfl (hb hbytes d33) rfl rfl ?_
    refine XS.iloadN X5.here hexec rfl (hb hbytes d34) rfl ?_
    refine XS.iloadN X5.here hexec rfl (hb hbytes d35) rfl ?_
    exact Steps.refl _)
  obtain ⟨v8, T8, X8, E8, g8⟩ := X5.callS hexec (Cmp3.law l b A o len) hown (wks W (staticW "java/lang/String" 177 Cmp3.yN)) (wk W Cmp3.tab) (W := 0) (Nat.le_of_ble_eq_true rfl) (Nat.le_of_ble_eq_true rfl) (Nat.le_refl _) (by show 0 + len ≤ len; omega) (g := (mkF m 36 #[.val (.ref a), .val (.ref b), .val (.int (Int32.ofNat o)), .val (.int (Int32.ofNat len)), .val .null, .unset] [.int (Int32.ofNat len), .int (Int32.ofNat o), .ref b])) rfl (by rw [hml]; rfl) c7 (argsL := [.ref b, .int (Int32.ofNat o), .int (Int32.ofNat len)]) (rest := []) rfl rfl (by show 2 * 0 + 0 ≤ _; decide) (hb hbytes d36) (⟨rfl, hA.mv X5.warmed.alike hh5, l1, l2, hp⟩)
  obtain ⟨e8, z8⟩ := E8
  obtain ⟨rfl, N, n1, n2, n3, n4, n5, n6⟩ := NewArr.mv _ T5 s _ _ hh5.symm (Vm.Alike.refl _) rfl e8
  rw [hh5] at z8
  have hB1 := hB.keep X8.warmed.alike (n6 _ _ hB.1)
  have hne : s.heap.size ≠ a := (Nat.ne_of_lt (Array.getElem?_eq_some_iff.mp hB.1).1).symm
  have c9 : Steps p.tables e below (s₁.setTop (entryFrame m #[.ref a, .ref b, .int (Int32.ofNat o), .int (Int32.ofNat len), .null] 6)) (T8.setTop (mkF m 39 #[.val (.ref a), .val (.ref b), .val (.int (Int32.ofNat o)), .val (.int (Int32.ofNat len)), .val .null, .unset] [.ref s.heap.size])) := g8
  have c10 : Steps p.tables e below (s₁.setTop (entryFrame m #[.ref a, .ref b, .int (Int32.ofNat o), .int (Int32.ofNat len), .null] 6)) (T8.setTop (mkF m 45 #[.val (.ref a), .val (.ref b), .val (.int (Int32.ofNat o)), .val (.int (Int32.ofNat len)), .val .null, .val (.ref s.heap.size)] [.int (Int32.ofNat N.slots.size), .ref s.heap.size, .ref a])) := by
    have hc : Steps p.tables e below (s₁.setTop (entryFrame m #[.ref a, .ref b, .int (Int32.ofNat o), .int (Int32.ofNat len), .null] 6)) (T8.setTop (mkF m 45 #[.val (.ref a), .val (.ref b), .val (.int (Int32.ofNat o)), .val (.int (Int32.ofNat len)), .val .null, .val (.ref s.heap.size)] [.int (Int32.ofNat len), .ref s.heap.size, .ref a])) := c9.trans (by
      refine XS.astore X8.here hexec rfl (hb hbytes d39) rfl rfl rfl ?_
      refine XS.aloadN X8.here hexec rfl (hb hbytes d41) rfl rfl ?_
      refine XS.aload X8.here hexec rfl (hb hbytes d42) rfl rfl ?_
      refine XS.iloadN X8.here hexec rfl (hb hbytes d44) rfl ?_
      exact Steps.refl _)
    rw [n4]; exact hc
  obtain ⟨v11, T11, X11, E11, g11⟩ := X8.callS hexec (CodL.law l s.heap.size N) hown (wks W (staticW "java/lang/String" 47 CodL.yN)) (wk W CodL.tab) (W := 1) (Nat.le_of_ble_eq_true rfl) (Nat.le_of_ble_eq_true rfl) (Nat.le_refl _) (by show 0 + len + 0 ≤ len; omega) (g := (mkF m 45 #[.val (.ref a), .val (.ref b), .val (.int (Int32.ofNat o)), .val (.int (Int32.ofNat len)), .val .null, .val (.ref s.heap.size)] [.int (Int32.ofNat N.slots.size), .ref s.heap.size, .ref a])) rfl (by rw [hml]; rfl) c10 (argsL := [.ref s.heap.size, .int (Int32.ofNat N.slots.size)]) (rest := [.ref a]) rfl rfl (by show 2 * 0 + (1 + 0) ≤ _; decide) (hb hbytes d45) (⟨rfl, n1⟩)
  obtain ⟨rfl, q11⟩ := E11
  have hB11 := hB1.mv (X8.warmed.alike.symm.trans X11.warmed.alike) q11
  have c12 : Steps p.tables e below (s₁.setTop (entryFrame m #[.ref a, .ref b, .int (Int32.ofNat o), .int (Int32.ofNat len), .null] 6)) (T11.setTop (mkF m 48 #[.val (.ref a), .val (.ref b), .val (.int (Int32.ofNat o)), .val (.int (Int32.ofNat len)), .val .null, .val (.ref s.heap.size)] [.int 0, .ref a])) := g11
  obtain ⟨T13, X13, p13, bl13, sl13, st13⟩ := X11.finit hexec hown (wk W (.fieldLink "java/lang/String" 15 "java/lang/String" "coder" "B")) (Or.inr ⟨_, (wk W (.laysFinal "java/lang/String" "java/lang/String" "coder" "B"))⟩) (Or.inl ⟨rfl, hnm⟩) f2 (Or.inl rfl) hB11 (t := .byte) (by decide +kernel) rfl (g := (mkF m 48 #[.val (.ref a), .val (.ref b), .val (.int (Int32.ofNat o)), .val (.int (Int32.ofNat len)), .val .null, .val (.ref s.heap.size)] [.int 0, .ref a])) rfl (rest := []) rfl (hb hbytes d48)
  have c14 : Steps p.tables e below (s₁.setTop (entryFrame m #[.ref a, .ref b, .int (Int32.ofNat o), .int (Int32.ofNat len), .null] 6)) (T13.setTop (mkF m 54 #[.val (.ref a), .val (.ref b), .val (.int (Int32.ofNat o)), .val (.int (Int32.ofNat len)), .val .null, .val (.ref s.heap.size)] [.ref s.heap.size, .ref a])) := (c12.trans (st13 _ (Steps.refl _))).trans (by
    refine XS.aloadN X13.here hexec rfl (hb hbytes d51) rfl rfl ?_
    refine XS.aload X13.here hexec rfl (hb hbytes d52) rfl rfl ?_
    exact Steps.refl _)
  obtain ⟨T15, X15, p15, bl15, sl15, st15⟩ := X13.finit hexec hown (wk W (.fieldLink "java/lang/String" 9 "java/lang/String" "value" "[B")) (Or.inr ⟨_, (wk W (.laysFinal "java/lang/String" "java/lang/String" "value" "[B"))⟩) (Or.inl ⟨rfl, hnm⟩) f1 (Or.inl rfl) bl13 (t := (.array .byte)) (by decide +kernel) rfl (g := (mkF m 54 #[.val (.ref a), .val (.ref b), .val (.int (Int32.ofNat o)), .val (.int (Int32.ofNat len)), .val .null, .val (.ref s.heap.size)] [.ref s.heap.size, .ref a])) rfl (rest := []) rfl (hb hbytes d54)
  have c16 : Steps p.tables e below (s₁.setTop (entryFrame m #[.ref a, .ref b, .int (Int32.ofNat o), .int (Int32.ofNat len), .null] 6)) (T15.setTop (mkF m 57 #[.val (.ref a), .val (.ref b), .val (.int (Int32.ofNat o)), .val (.int (Int32.ofNat len)), .val .null, .val (.ref s.heap.size)] [])) := c14.trans (st15 _ (Steps.refl _))
  have ap := apart (Or.inr ⟨_, (wk W (.laysFinal "java/lang/String" "java/lang/String" "value" "[B"))⟩) (Or.inr ⟨_, (wk W (.laysFinal "java/lang/String" "java/lang/String" "coder" "B"))⟩) f1 f2 (t₁ := .array .byte) (t₂ := .byte) (by decide +kernel) (by decide +kernel) (by decide)
  have al := X8.warmed.alike.symm.trans X15.warmed.alike
  have n7 : T11.heap[s.heap.size]? = some N := by rw [q11]; exact n1.1
  exact ⟨T15, none, _, _, _, X15, by simp, rfl, by omega, (fun _ => rfl), ⟨rfl, _, N, bl15, ((Same.refl D _).set _ (by simp)).set _ (by simp), sl15, (Cell.slots_setSlot_ne _ ap).trans sl13, n1.keep al (p15.other hne (p13.other hne n7)), n2, by rw [al.findClass]; exact n3, n4, n5, fun y c h1 h2 => p15.other h1 (p13.other h1 (by rw [q11]; exact n6 y c h2)), by rw [p15.2.2, p13.2.2, q11]; exact z8⟩, fun fs hl => c16.trans (X15.returnOut hexec hret (hb hbytes d57) hl)⟩
end New4
namespace New1
def yN : MethodName := ⟨"java/lang/String", "<init>", "([C)V"⟩
abbrev yB : ByteArray := jdk_42_method_3_code
theorem d0 : decode yB 0 = .ok (.aload_n 0, 1) := by decide +kernel
theorem d1 : decode yB 1 = .ok (.aload_n 1, 1) := by decide +kernel
theorem d2 : decode yB 2 = .ok (.iconst 0, 1) := by decide +kernel
theorem d3 : decode yB 3 = .ok (.aload_n 1, 1) := by decide +kernel
theorem d4 : decode yB 4 = .ok (.arraylength, 1) := by decide +kernel
theorem d5 : decode yB 5 = .ok (.aconst_null, 1) := by decide +kernel
theorem d6 : decode yB 6 = .ok (.invokespecial 27, 3) := by decide +kernel
theorem d9 : decode yB 9 = .ok (.return_, 1) := by decide +kernel
def site : List Cond := [New4.tab] ++ initW "java/lang/String" 27 New4.yN
def tab : Cond := tabOf yN yB 2 none site
def P (a : Addr) (D : Cell) (fV fC : Field) (b : Addr) (A : Cell) (z : Int32) (args : Array Value) (s : State) : Prop := args = #[.ref a, .ref b] ∧ Blank "java/lang/String" a D s ∧ Found "java/lang/String" "value" "[B" fV s ∧ Found "java/lang/String" "coder" "B" fC s ∧ Ch b A s ∧ StaticIs s "java/lang/String" "COMPACT_STRINGS" "Z" (.int z) ∧ ¬ z = 0 ∧ 0 < A.slots.size ∧ A.slots.size ≤ 536870912 ∧ ∀ i, i < A.slots.size → ¬ 255 < cv A i
def E (a : Addr) (D : Cell) (fV fC : Field) (A : Cell) (r : Option Value) (s u : State) : Prop := Got a D fV fC A 0 A.slots.size r s u
/-- new String(chars), not empty, no char above 255: a Latin-1 String of their low bytes -/
theorem law (l : Launch) (a : Addr) (D : Cell) (fV fC : Field) (b : Addr) (A : Cell) (z : Int32) : Law l yN 2 1 3 52 yB 2 none site (P a D fV fC b A z) (E a D fV fC A) [⟨a, fC.slot⟩, ⟨a, fV.slot⟩] 1 A.slots.size := by
  refine Law.of_walk (plainFor_of_name (by decide +kernel)) (by decide +kernel) (by decide +kernel) (by decide) (fun _ _ h => by rw [h.1]; rfl) (fun _ U U' hal hh h => ⟨h.1, h.2.1.mv hal hh, h.2.2.1.al hal, h.2.2.2.1.al hal, h.2.2.2.2.1.mv hal hh, h.2.2.2.2.2.1.there hal hh, h.2.2.2.2.2.2⟩) (fun r U U' V V' h1 hal h2 h => Got.mv r U U' V V' h1 hal h2 h) ?_
  intro p e s m args below meth c s₁ X0 hexec hbytes hml hret hlk hnm hown hh0 W hP
  obtain ⟨rfl, hB, f1, f2, hA, s1, hz, l0, l2, hp⟩ := hP
  have c1 : Steps p.tables e below (s₁.setTop (entryFrame m #[.ref a, .ref b] 2)) (s₁.setTop (mkF m 0 #[.val (.ref a), .val (.ref b)] [])) := entry rfl
  have c2 : Steps p.tables e below (s₁.setTop (entryFrame m #[.ref a, .ref b] 2)) (s₁.setTop (mkF m 6 #[.val (.ref a), .val (.ref b)] [.null, .int (Int32.ofNat A.slots.size), .int 0, .ref b, .ref a])) := c1.trans (by
    refine XS.aloadN X0.here hexec rfl (hb hbytes d0) rfl rfl ?_
    refine XS.aloadN X0.here hexec rfl (hb hbytes d1) rfl rfl ?_
    refine iconstV X0.here hexec rfl 0 (hb hbytes d2) (by decide) ?_
    refine XS.aloadN X0.here hexec rfl (hb hbytes d3) rfl rfl ?_
    refine X0.alen hexec (hA.1.mv X0.warmed.alike hh0) rfl rfl (hb hbytes d4) ?_
    refine XS.aconstNull X0.here hexec rfl (hb hbytes d5) ?_
    exact Steps.refl _)
  obtain ⟨v3, T3, X3, E3, g3⟩ := X0.callN hexec (New4.law l a D fV fC b A z 0 A.slots.size) rfl hown (wks W (initW "java/lang/String" 27 New4.yN)) (W New4.tab (by simp only [site, List.mem_cons, List.mem_append, true_or, or_true])) (W := 0) (Nat.le_of_ble_eq_true rfl) (Nat.le_of_ble_eq_true rfl) (Nat.le_refl _) (by show 0 + A.slots.size ≤ A.slots.size; omega) (g := (mkF m 6 #[.val (.ref a), .val (.ref b)] [.null, .int (Int32.ofNat A.slots.size), .int (Int32.ofNat 0), .ref b, .ref a])) rfl (by rw [hml]; rfl) c2 (argsL := [.ref b, .int (Int32.ofNat 0), .int (Int32.ofNat A.slots.size), .null]) (rest := []) rfl rfl (by show 2 * 0 + 0 ≤ _; decide) (hb hbytes d6) (⟨rfl, hB.mv X0.warmed.alike hh0, f1.al X0.warmed.alike, f2.al X0.warmed.alike, hA.mv X0.warmed.alike hh0, s1.there X0.warmed.alike hh0, hz, l0, by omega, l2, fun i hi => by rw [Nat.zero_add]; exact hp i hi⟩)
  have e0 := Got.mv _ s₁ s _ _ hh0.symm (Vm.Alike.refl _) rfl E3
  obtain rfl := e0.1
  have c4 : Steps p.tables e below (s₁.setTop (entryFrame m #[.ref a, .ref b] 2)) (T3.setTop (mkF m 9 #[.val (.ref a), .val (.ref b)] [])) := g3
  exact ⟨T3, none, _, _, _, X3, by simp, rfl, by omega, (fun _ => rfl), e0, fun fs hl => c4.trans (X3.returnOut hexec hret (hb hbytes d9) hl)⟩
theorem pays {l : Launch} {R : Room} {p : Program} {e : Env} {below : List Frame} {s : State} {sargs : Array Value} {len W : Nat} (a : Addr) (D : Cell) (fV fC : Field) (b : Addr) (A : Cell) (z : Int32) (htab : tab.before sargs s = true) (hfr : 4 ≤ R.frames) (hlo : W + 65 ≤ R.locals) :
    Back l R p e below s sargs yN len W (fun A₁ a₁ => A₁.cells + 1 ≤ R.cells ∧ A₁.slots + A.slots.size ≤ R.slots ∧ P a D fV fC b A z a₁ A₁.U) (fun A₁ _ v₁ B₁ => E a D fV fC A v₁ A₁.U B₁.U ∧ B₁.locs = A₁.locs ++ [⟨a, fC.slot⟩, ⟨a, fV.slot⟩] ∧ B₁.cells = A₁.cells + 1 ∧ B₁.slots = A₁.slots + A.slots.size) :=
  (law l a D fV fC b A z).pays htab hfr (by omega)
end New1
/-- the byte, read back as charAt reads it, is the char -/
theorem lo8_mask {x : Int32} (h0 : ¬ x < 0) (h1 : ¬ 255 < x) : lo8 x &&& 255 = x := by
  have t : ∀ k : Fin 256, lo8 (Int32.ofNat k.val) &&& 255 = Int32.ofNat k.val := by decide +kernel
  rw [Int32.lt_iff_toInt_lt] at h0 h1
  have e0 : (0 : Int32).toInt = 0 := rfl
  have e1 : (255 : Int32).toInt = 255 := rfl
  obtain ⟨k, hk⟩ : ∃ k : Nat, x.toInt = k := ⟨x.toInt.toNat, by omega⟩
  have hx : x = Int32.ofNat k := Int32.toInt_inj.mp (by rw [hk, Int32.toInt_ofNat_small (by omega)])
  rw [hx]
  exact t ⟨k, by omega⟩
end StrChars
namespace StrChars.Road
open Jvm Sem ClassFile Op Lib Jvm.Stand Jvm.Free Jvm.Free.XT
open Jvm.Lib.Cold (StaticIs)
abbrev ST : String := "java/lang/String"
/-- every table word that New1's law asks, flat -/
abbrev words : List Jvm.Cond := [.code New1.yN New1.yB 2 none, .initialized ST, .methodLink ST 27 New4.yN, .instanceMethod New4.yN,
  .code New4.yN New4.yB 6 none, .fieldLink ST 38 ST "COMPACT_STRINGS" "Z", .laysFinal ST ST "value" "[B", .fieldLink ST 9 ST "value" "[B", .laysFinal ST ST "coder" "B", .fieldLink ST 15 ST "coder" "B",
  .methodLink ST 1 Lib.objectInit, .instanceMethod Lib.objectInit, .code Lib.objectInit ⟨#[0xb1]⟩ 1 none, .methodLink ST 177 Cmp3.yN, .static Cmp3.yN, .methodLink ST 47 CodL.yN, .static CodL.yN,
  .code Cmp3.yN Cmp3.yB 6 (some (.array .byte)), .initialized U16, .arrayClass .byte, .methodLink U16 115 Cmp5.yN, .static Cmp5.yN, .code Cmp5.yN Cmp5.yB 7 (some .int), .code CodL.yN CodL.yB 2 (some .byte)]
theorem tab_of {a : Array Value} {s : State} (h : ∀ w ∈ words, w.before a s = true) : New1.tab.before a s = true := by
  have h5 : Cmp5.tab.before a s = true := unparts (wk h (.code Cmp5.yN Cmp5.yB 7 (some .int))) (wks h (.initialized Cmp5.yN.cls :: Cmp5.site))
  have hc : CodL.tab.before a s = true := unparts (wk h (.code CodL.yN CodL.yB 2 (some .byte))) (wks h (.initialized CodL.yN.cls :: CodL.site))
  have q5 : ∀ w ∈ Cmp5.tab :: words, w.before a s = true := fun w hw => (List.mem_cons.mp hw).elim (fun e => e ▸ h5) (h w)
  have h3 : Cmp3.tab.before a s = true := unparts (wk q5 (.code Cmp3.yN Cmp3.yB 6 (some (.array .byte)))) (wks q5 (.initialized Cmp3.yN.cls :: Cmp3.site))
  have q3 : ∀ w ∈ Cmp3.tab :: CodL.tab :: words, w.before a s = true := fun w hw => (List.mem_cons.mp hw).elim (fun e => e ▸ h3) fun hw => (List.mem_cons.mp hw).elim (fun e => e ▸ hc) (h w)
  have h4 : New4.tab.before a s = true := unparts (wk q3 (.code New4.yN New4.yB 6 none)) (wks q3 (.initialized New4.yN.cls :: New4.site))
  have q4 : ∀ w ∈ New4.tab :: words, w.before a s = true := fun w hw => (List.mem_cons.mp hw).elim (fun e => e ▸ h4) (h w)
  exact unparts (wk q4 (.code New1.yN New1.yB 2 none)) (wks q4 (.initialized New1.yN.cls :: New1.site))
/-- the words ride from the start Z to the walk's own state -/
theorem moved {Z s : State} {a0 args : Array Value} (hZ : Z.Warmed39 s.vm) (hw : ∀ d ∈ words, d.before a0 Z = true) : ∀ d ∈ words, d.before args s = true := fun d hd => by
  have q := hw d hd
  have t : ∀ d ∈ words, d = .arrayClass .byte ∨ (d.onTables && d.keepsFace) = true := by decide +kernel
  rcases t d hd with rfl | t
  · exact RoadKit.mvA hZ q
  · exact RoadKit.mv hZ q t
/-- WHAT COMES BACK, over the tables of the start Z: h the heap at the call, h' behind it -/
def Q (Z : State) (x : Addr) (A : Cell) (h : Heap) (v : Option Value) (h' : Heap) (L : List Loc) : Prop := v = none ∧ (∀ y ∈ L, y.base = x) ∧ RoadKit.Keep h h' [x] ∧ h'.size = h.size + 1 ∧ RoadKit.Exa Z h' x ST ∧ RoadKit.Fld Z h' x ST "value" "[B" (.ref h.size) ∧ RoadKit.Fld Z h' x ST "coder" "B" (.int 0) ∧
  (∃ V : Cell, RoadKit.Arr Z h' h.size V .byte ∧ V.vm = .none ∧ Z.vm.findClass "[B" = some V.cls ∧ V.slots.size = A.slots.size ∧ ∀ j, j < A.slots.size → V.slots[j]? = some (.int (lo8 (cv A j)))) ∧
  ∀ (O n d : String) (w : Value), RoadKit.Fld Z h x O n d w → RoadKit.slotOf Z O n d ≠ RoadKit.slotOf Z ST "value" "[B" → RoadKit.slotOf Z O n d ≠ RoadKit.slotOf Z ST "coder" "B" → RoadKit.Fld Z h' x O n d w
/-- **new String(chars) AT A CALL, IN THE ROAD'S FORM**: for specialBack behind newO: x the fresh String, b the char[] with the cell A -/
theorem back {p : Program} {l : Launch} {e : Env} {R : Room} {s : State} {args : Array Value} {below : List Frame} {len W : Nat} {Z : State} {a0 : Array Value} {h : Heap} (hZ : Z.Warmed39 s.vm) (hw : ∀ d ∈ words, d.before a0 Z = true) {kI : Nat} (wi : (Jvm.Cond.instantiable ST kI).before a0 Z = true)
    {x b : Addr} {A : Cell} {z : Int32} {v0 c0 : Value} (E : RoadKit.Exa Z h x ST) (V : RoadKit.Fld Z h x ST "value" "[B" v0) (C : RoadKit.Fld Z h x ST "coder" "B" c0) (K : RoadKit.Arr Z h b A .char) (hty : Typed .char A) (S : RoadKit.Sta Z h ST "COMPACT_STRINGS" "Z" (.int z)) (hz : ¬ z = 0)
    (l0 : 0 < A.slots.size) (l2 : A.slots.size ≤ 536870912) (hp : ∀ i, i < A.slots.size → ¬ 255 < cv A i) (hfr : 4 ≤ R.frames) (hlo : W + 65 ≤ R.locals) :
    Back l R p e below s args New1.yN len W (fun P a => a = #[.ref x, .ref b] ∧ P.U.heap = h ∧ P.cells + 1 ≤ R.cells ∧ P.slots + A.slots.size ≤ R.slots)
      (fun P _ v B => ∃ L, Q Z x A h v B.U.heap L ∧ B.locs = P.locs ++ L ∧ B.cells = P.cells + 1 ∧ B.slots = P.slots + A.slots.size) := by
  intro m meth c P g ig mk a X hg hsize hdg hW hn hp'
  obtain ⟨rfl, rfl, r1, r2⟩ := hp'
  have al : Z.vm.Alike P.U.vm := hZ.alike.trans X.warmed.alike
  obtain ⟨D, cfV, kV, iV, fV, hD, gV, stV, knV, obV, asV, slV⟩ := id V
  obtain ⟨D', cfC, kC, iC, fC, hD', gC, stC, -, -, asC, slC⟩ := id C
  cases hD.symm.trans hD'
  obtain ⟨D2, kD, e1, e2, e3, e4, e5⟩ := id E
  cases hD.symm.trans e1
  obtain ⟨c2, k2, i1, i2, i3, -⟩ := Cond.instantiable_spec wi
  cases e2.symm.trans i1
  cases e3.symm.trans i2
  obtain ⟨kU, u1, u2⟩ := al.2.2 _ _ e3
  have hB : Blank ST x D P.U := ⟨hD, ⟨knV, fun q hq => by rw [hq] at obV; cases obV⟩, by rw [al.findClass]; exact e2, kU, u1, by rw [u2]; exact i3, by rw [u2]; exact e5 i3⟩
  have F1 : Found ST "value" "[B" fV P.U := ⟨SBG.found_only al ⟨cfV, kV, iV, gV⟩, stV⟩
  have F2 : Found ST "coder" "B" fC P.U := ⟨SBG.found_only al ⟨cfC, kC, iC, gC⟩, stC⟩
  have hA : Ch b A P.U := ⟨⟨K.1, State.isArrayOf_alike al K.2.1, K.2.2, by omega⟩, hty⟩
  have hS : StaticIs P.U ST "COMPACT_STRINGS" "Z" (.int z) := by
    obtain ⟨cfS, iS, kS, fS, st, cS, t1, t2, t3, t4, t5, t6, t7⟩ := S
    exact StaticIs.there (s := { Z with heap := P.U.heap }) ⟨cfS, iS, kS, fS, st, cS, t1, t2, t3, t4, t5, (fun q => by rw [q] at t6; cases t6), t7⟩ al rfl
  obtain ⟨v, B, X', ⟨⟨hv, E', V', q1, q2, q3, q4, q5, q6, q7, q8, q9, q10, q11⟩, hl, hc, hs⟩, st⟩ := New1.pays x D fV fC b A z (tab_of (moved hZ hw)) hfr hlo m meth c P g ig mk _ X hg hsize hdg hW hn ⟨r1, r2, rfl, hB, F1, F2, hA, hS, hz, l0, l2, hp⟩
  have al' : Z.vm.Alike B.U.vm := hZ.alike.trans X'.warmed.alike
  have hsz : E'.slots.size = D.slots.size := by
    obtain ⟨-, -, -, kB, w1, w2, w3⟩ := q1
    obtain ⟨kB', y1, y2⟩ := al'.2.2 _ _ e3
    rw [q2.2.1] at w1
    cases w1.symm.trans y1
    rw [w3, e5 i3, y2]
  refine ⟨v, B, X', ⟨_, ⟨hv, ?_, ⟨by omega, fun y cy hy hn' => q10 y cy (by simpa using hn') hy, fun y cy hy => ?_⟩, q11, ⟨E', _, q1.1, by rw [q2.2.1]; exact e2, by rw [q2.2.1]; exact e3, by rw [q2.1]; exact obV, fun _ => by rw [hsz]; exact e5 i3⟩,
    ⟨E', cfV, kV, iV, fV, q1.1, gV, stV, by rw [q2.1]; exact knV, by rw [q2.1]; exact obV, by rw [q2.2.1]; exact asV, q3⟩, ⟨E', cfC, kC, iC, fC, q1.1, gC, stC, by rw [q2.1]; exact knV, by rw [q2.1]; exact obV, by rw [q2.2.1]; exact asC, q4⟩,
    ⟨V', ⟨q5.1, State.isArrayOf_alike al'.symm q5.2.1, q5.2.2.1⟩, q6, by rw [← al'.findClass]; exact q7, q8, fun j hj => by have := q9 j hj; rwa [Nat.zero_add] at this⟩, fun O n d w F n1 n2 => ?_⟩, hl, hc, hs⟩, st⟩
  · intro y hy
    simp only [List.mem_cons, List.not_mem_nil, or_false] at hy
    rcases hy with rfl | rfl <;> rfl
  · by_cases q : y = x
    · subst q
      cases hD.symm.trans hy
      exact ⟨E', q1.1, q2.2.1, q2.1, hsz⟩
    · exact ⟨cy, q10 y cy q hy, rfl, rfl, rfl⟩
  · obtain ⟨D3, cf, k, i, f, g1, g2, g3, g4, g5, g6, g7⟩ := F
    cases hD.symm.trans g1
    simp only [RoadKit.slotOf, g2, gV, gC, Option.map_some, Option.getD_some] at n1 n2
    exact ⟨E', cf, k, i, f, q1.1, g2, g3, by rw [q2.1]; exact g4, by rw [q2.1]; exact g5, by rw [q2.2.1]; exact g6, by rw [q2.2.2 f.slot (by simp [n1, n2])]; exact g7⟩
end StrChars.Road
namespace StrChars.Road
open Jvm Sem ClassFile Op Lib Jvm.Stand Jvm.Free Jvm.Free.XT
/-- WHAT COMES BACK, the byte[] as a list of values -/
def QA (Z : State) (x : Addr) (zn : Int32) (cs : List Int32) (h : Heap) (v : Option Value) (h' : Heap) (L : List Loc) : Prop := v = none ∧ (∀ y ∈ L, y.base = x) ∧ RoadKit.Keep h h' [x] ∧ h'.size = h.size + 1 ∧ RoadKit.Exa Z h' x ST ∧ RoadKit.Fld Z h' x ST "value" "[B" (.ref h.size) ∧ RoadKit.Fld Z h' x ST "coder" "B" (.int 0) ∧
  (∃ kb, Z.vm.findClass "[B" = some kb ∧ RoadKit.Arv Z h' h.size kb .byte zn (cs.map fun c => .int (lo8 c)) (.int 0)) ∧
  ∀ (O n d : String) (w : Value), RoadKit.Fld Z h x O n d w → RoadKit.slotOf Z O n d ≠ RoadKit.slotOf Z ST "value" "[B" → RoadKit.slotOf Z O n d ≠ RoadKit.slotOf Z ST "coder" "B" → RoadKit.Fld Z h' x O n d w
/-- **new String(chars) AT A CALL, THE ARRAYS AS LISTS**: the char[] at b holds cs, not empty, no char above 255 -/
theorem backArv {p : Program} {l : Launch} {e : Env} {R : Room} {s : State} {args : Array Value} {below : List Frame} {len W : Nat} {Z : State} {a0 : Array Value} {h : Heap} (hZ : Z.Warmed39 s.vm) (hw : ∀ d ∈ words, d.before a0 Z = true) {kI : Nat} (wi : (Jvm.Cond.instantiable ST kI).before a0 Z = true)
    {x b : Addr} {k : ClassId} {zn z : Int32} {cs : List Int32} {dv v0 c0 : Value} (E : RoadKit.Exa Z h x ST) (V : RoadKit.Fld Z h x ST "value" "[B" v0) (C : RoadKit.Fld Z h x ST "coder" "B" c0) (K : RoadKit.Arv Z h b k .char zn (cs.map Value.int) dv) (S : RoadKit.Sta Z h ST "COMPACT_STRINGS" "Z" (.int z)) (hz : ¬ z = 0)
    (hlen : zn.toNatClampNeg = cs.length) (h0 : 0 < cs.length) (hbig : cs.length ≤ 536870912) (hall : ∀ c ∈ cs, ¬ 255 < c) (hfr : 4 ≤ R.frames) (hlo : W + 65 ≤ R.locals) :
    Back l R p e below s args New1.yN len W (fun P a => a = #[.ref x, .ref b] ∧ P.U.heap = h ∧ P.cells + 1 ≤ R.cells ∧ P.slots + cs.length ≤ R.slots)
      (fun P _ v B => ∃ L, QA Z x zn cs h v B.U.heap L ∧ B.locs = P.locs ++ L ∧ B.cells = P.cells + 1 ∧ B.slots = P.slots + cs.length) := by
  obtain ⟨A, K1, K2, K3, K4, K5, K6⟩ := K
  have e : A.slots.size = cs.length := K3.trans hlen
  have hat : ∀ (i : Nat) (hi : i < cs.length), A.slots[i]? = some (.int cs[i]) := fun i hi => by rw [K5 i (by omega)]; simp [List.getD_eq_getElem?_getD, hi]
  have hcv : ∀ (i : Nat) (hi : i < cs.length), cv A i = cs[i] := fun i hi => by unfold cv; rw [hat i hi]
  have hty : Typed .char A := fun i v hv => by
    have hi : i < A.slots.size := (Array.getElem?_eq_some_iff.mp hv).1
    have q := K5 i hi
    rw [hv] at q
    rw [Option.some.inj q]
    exact K6 i hi
  refine Back.mono (back hZ hw wi E V C K1 hty S hz (by omega) (by omega) (fun i hi => by rw [hcv i (by omega)]; exact hall _ (List.getElem_mem _)) hfr hlo) (fun P a hp => ⟨hp.1, hp.2.1, hp.2.2.1, by rw [e]; exact hp.2.2.2⟩) (fun P a v B hp hq => ?_)
  obtain ⟨L, ⟨q1, q2, q3, q4, q5, q6, q7, ⟨V', v1, v2, v3, v4, v5⟩, q9⟩, hl, hc, hs⟩ := hq
  refine ⟨L, ⟨q1, q2, q3, q4, q5, q6, q7, ⟨V'.cls, v3, V', v1, rfl, by rw [v4, e, hlen], K4, fun i hi => ?_, fun i hi => ?_⟩, q9⟩, hl, hc, by rw [hs, e]⟩
  · have hi' : i < cs.length := by omega
    rw [v5 i (by omega), hcv i hi']; simp [List.getD_eq_getElem?_getD, hi']
  · have hi' : i < cs.length := by omega
    simp only [List.getD_eq_getElem?_getD, List.getElem?_map, List.getElem?_eq_getElem hi', Option.map_some, Option.getD_some]
    exact fits_lo8 _
end StrChars.Road
namespace StrChars.Road
open Jvm Sem ClassFile Op Lib Jvm.Stand Jvm.Free Jvm.Free.XT
/-- WHAT COMES BACK, in the writer's own shape -/
def QV (Z : State) (x : Addr) (N : Int32) (bs : List Int32) (h : Heap) (n0 : Nat) (v : Option Value) (h' : Heap) (L : List Loc) : Prop := v = none ∧ RoadKit.Fr n0 L ∧ RoadKit.Keep h h' [x] ∧ RoadKit.Exa Z h' x ST ∧ RoadKit.Fld Z h' x ST "coder" "B" (.int 0) ∧
  ∃ (t : Addr) (kb : ClassId), n0 ≤ t ∧ h.size ≤ t ∧ ¬ t = x ∧ RoadKit.Fld Z h' x ST "value" "[B" (.ref t) ∧ RoadKit.Arv Z h' t kb .byte N (bs.map Value.int) (.int 0)
/-- **new String(chars) AT A CALL, FOR THE WRITER**: a char[] of n known ints, each 0 to 255 -/
theorem backV {p : Program} {l : Launch} {e : Env} {R : Room} {s : State} {args : Array Value} {below : List Frame} {len W : Nat} {Z : State} {a0 : Array Value} {h : Heap} (hZ : Z.Warmed39 s.vm) (hw : ∀ d ∈ words, d.before a0 Z = true) {kI : Nat} (wi : (Jvm.Cond.instantiable ST kI).before a0 Z = true)
    {x b : Addr} {kC : ClassId} {cs bs : List Int32} {d v0 c0 : Value} {z N : Int32} {n n0 : Nat} (hx0 : n0 ≤ x) (hh0 : n0 ≤ h.size) (E : RoadKit.Exa Z h x ST) (V : RoadKit.Fld Z h x ST "value" "[B" v0) (C : RoadKit.Fld Z h x ST "coder" "B" c0) (K : RoadKit.Arv Z h b kC .char N (cs.map Value.int) d) (S : RoadKit.Sta Z h ST "COMPACT_STRINGS" "Z" (.int z)) (hz : ¬ z = 0)
    (hn : cs.length = n) (hN : N = Int32.ofNat n) (l0 : 0 < n) (l2 : n ≤ 4000) (hp : ∀ c ∈ cs, ¬ c < 0 ∧ ¬ (255 : Int32) < c) (hb : bs = cs.map (fun c => c.toInt8.toInt32)) (hfr : 4 ≤ R.frames) (hlo : W + 65 ≤ R.locals) :
    Back l R p e below s args (⟨"java/lang/String", "<init>", "([C)V"⟩ : MethodName) len W (fun P a => a = #[.ref x, .ref b] ∧ P.U.heap = h ∧ P.cells + 1 ≤ R.cells ∧ P.slots + n ≤ R.slots)
      (fun P _ v B => ∃ L, QV Z x N bs h n0 v B.U.heap L ∧ B.locs = P.locs ++ L ∧ B.cells = P.cells + 1 ∧ B.slots = P.slots + n) := by
  subst hn hN hb
  refine Back.mono (backArv hZ hw wi E V C K S hz (n32 (by omega)) l0 (by omega) (fun c hc => (hp c hc).2) hfr hlo) (fun P a hp => hp) (fun P a v B hp hq => ?_)
  obtain ⟨L, ⟨q1, q2, q3, q4, q5, q6, q7, ⟨kb, v1, v2⟩, q9⟩, hl, hc, hs⟩ := hq
  exact ⟨L, ⟨q1, fun y hy => by rw [q2 y hy]; exact hx0, q3, q5, q7, h.size, kb, hh0, Nat.le_refl _, Nat.ne_of_gt E.lt, q6, by rw [List.map_map]; exact v2⟩, hl, hc, hs⟩
end StrChars.Road
namespace StrChars
open Jvm Sem ClassFile Op Lib Jvm.Stand Jvm.Free.XT Jvm.Free.ALB Jvm.Free.JM Jvm.Free
open Jvm.Lib.Cold (StaticIs)
def hi8 (x : Int32) : Int32 := lo8 (x >>> ((8 : Int32) &&& 31))
/-- what StringUTF16.getChar makes of two bytes -/
def pairCh (u v : Int32) : Int32 := (((u &&& 255) <<< ((0 : Int32) &&& 31)) ||| ((v &&& 255) <<< ((8 : Int32) &&& 31))).toUInt32.toUInt16.toUInt32.toInt32
theorem shr0 (c : Int32) : c >>> ((0 : Int32) &&& 31) = c := by
  have e : ((0 : Int32) &&& 31) = 0 := by decide
  rw [e]
  apply Int32.toBitVec_inj.mp
  rw [Int32.toBitVec_shiftRight]
  have e1 : ((0 : Int32).toBitVec.smod 32) = 0#32 := by decide
  rw [e1, BitVec.sshiftRight_eq']
  exact BitVec.sshiftRight_zero
theorem lo8_and (x : Int32) : (lo8 x &&& 255).toBitVec.toNat = x.toBitVec.toNat % 256 := by
  have h : (lo8 x).toBitVec = (x.toBitVec.signExtend 8).signExtend 32 := by rw [lo8, Int8.toBitVec_toInt32, Int32.toBitVec_toInt8]
  rw [Int32.toBitVec_and, BitVec.toNat_and, h]
  have e : ((x.toBitVec.signExtend 8).signExtend 32).toNat % 256 = x.toBitVec.toNat % 256 := by
    rw [BitVec.toNat_signExtend]
    have hlt := x.toBitVec.isLt
    simp only [BitVec.toNat_setWidth, BitVec.toNat_signExtend]
    split <;> split <;> omega
  rw [← e]
  exact Nat.and_two_pow_sub_one_eq_mod _ 8
theorem pair_says {c : Int32} (h0 : ¬ c < 0) (h1 : ¬ 65535 < c) : pairCh (lo8 c) (hi8 c) = c := by
  rw [Int32.lt_iff_toInt_lt] at h0 h1
  have e0 : (0 : Int32).toInt = 0 := rfl
  have e1 : (65535 : Int32).toInt = 65535 := rfl
  have hc : c.toInt = c.toBitVec.toNat := by
    have := c.toBitVec.isLt
    have e : c.toInt = c.toBitVec.toInt := rfl
    rw [e] at h0 h1
    rw [e]
    rw [BitVec.toInt_eq_toNat_cond] at h0 h1 ⊢
    split at h0 <;> split <;> omega
  have hn : c.toBitVec.toNat < 65536 := by omega
  have a1 := lo8_and c
  have a2 : (hi8 c &&& 255).toBitVec.toNat = c.toBitVec.toNat / 256 := by
    rw [hi8, lo8_and]
    have e : ((8 : Int32) &&& 31) = 8 := by decide
    rw [e, Int32.toBitVec_shiftRight]
    have e2 : ((8 : Int32).toBitVec.smod 32) = 8#32 := by decide
    rw [e2, BitVec.sshiftRight_eq', BitVec.toNat_sshiftRight_of_msb_false (by rw [BitVec.msb_eq_false_iff_two_mul_lt]; omega)]
    show c.toBitVec.toNat >>> 8 % 256 = _
    rw [Nat.shiftRight_eq_div_pow]
    omega
  unfold pairCh
  apply Int32.toBitVec_inj.mp
  apply BitVec.eq_of_toNat_eq
  have f0 : ((0 : Int32) &&& 31) = 0 := by decide
  have f8 : ((8 : Int32) &&& 31) = 8 := by decide
  rw [f0, f8]
  have g : (((lo8 c &&& 255) <<< (0 : Int32)) ||| ((hi8 c &&& 255) <<< (8 : Int32))).toBitVec.toNat = c.toBitVec.toNat := by
    rw [Int32.toBitVec_or, Int32.toBitVec_shiftLeft, Int32.toBitVec_shiftLeft]
    have s0 : ((0 : Int32).toBitVec.smod 32) = 0#32 := by decide
    have s8 : ((8 : Int32).toBitVec.smod 32) = 8#32 := by decide
    rw [s0, s8, BitVec.toNat_or]
    simp only [BitVec.shiftLeft_eq', BitVec.toNat_shiftLeft, a1, a2]
    show (c.toBitVec.toNat % 256) <<< 0 % 2 ^ 32 ||| (c.toBitVec.toNat / 256) <<< 8 % 2 ^ 32 = _
    rw [Nat.shiftLeft_zero, Nat.mod_eq_of_lt (show c.toBitVec.toNat % 256 < 2 ^ 32 by omega), Nat.mod_eq_of_lt (show (c.toBitVec.toNat / 256) <<< 8 < 2 ^ 32 by rw [Nat.shiftLeft_eq]; omega), Nat.or_comm, ← Nat.shiftLeft_add_eq_or_of_lt (by omega), Nat.shiftLeft_eq]
    omega
  show BitVec.toNat (((((lo8 c &&& 255) <<< (0 : Int32)) ||| ((hi8 c &&& 255) <<< (8 : Int32))).toBitVec.setWidth 16).setWidth 32) = _
  rw [BitVec.toNat_setWidth, BitVec.toNat_setWidth, g]
  omega
end StrChars
namespace StrChars
open Jvm Sem ClassFile Op Lib Jvm.Stand Jvm.Free.XT Jvm.Free.ALB Jvm.Free.JM Jvm.Free
open Jvm.Lib.Cold (StaticIs)
theorem shr1 {n : Nat} (h : 2 * n < 2 ^ 31) : Int32.ofNat (2 * n) >>> ((1 : Int32) &&& 31) = Int32.ofNat n := by
  have e : ((1 : Int32) &&& 31) = 1 := by decide
  rw [e]
  apply Int32.toBitVec_inj.mp
  rw [Int32.toBitVec_shiftRight]
  have e1 : ((1 : Int32).toBitVec.smod 32) = 1#32 := by decide
  have hm : (BitVec.ofNat 32 (2 * n)).toNat = 2 * n := by rw [BitVec.toNat_ofNat, Nat.mod_eq_of_lt (by omega)]
  rw [e1, BitVec.sshiftRight_eq']
  apply BitVec.eq_of_toNat_eq
  show ((BitVec.ofNat 32 (2 * n)).sshiftRight 1).toNat = (BitVec.ofNat 32 n).toNat
  rw [BitVec.toNat_sshiftRight_of_msb_false (by rw [BitVec.msb_eq_false_iff_two_mul_lt, hm]; omega), hm, BitVec.toNat_ofNat, Nat.shiftRight_eq_div_pow]
  omega
/-- charAt's cast of a byte read back -/
def chr8 (u : Int32) : Int32 := (u &&& 255).toUInt32.toUInt16.toUInt32.toInt32
theorem chr8_lo8 {c : Int32} (h0 : ¬ c < 0) (h1 : ¬ 255 < c) : chr8 (lo8 c) = c := by
  have t : ∀ k : Fin 256, (Int32.ofNat k.val).toUInt32.toUInt16.toUInt32.toInt32 = Int32.ofNat k.val := by decide +kernel
  unfold chr8
  rw [lo8_mask h0 h1]
  rw [Int32.lt_iff_toInt_lt] at h0 h1
  have e0 : (0 : Int32).toInt = 0 := rfl
  have e1 : (255 : Int32).toInt = 255 := rfl
  obtain ⟨k, hk⟩ : ∃ k : Nat, c.toInt = k := ⟨c.toInt.toNat, by omega⟩
  have hx : c = Int32.ofNat k := Int32.toInt_inj.mp (by rw [hk, Int32.toInt_ofNat_small (by omega)])
  rw [hx]
  exact t ⟨k, by omega⟩
theorem narrow_ch {c : Int32} (h0 : ¬ c < 0) (h1 : ¬ 65535 < c) : narrow .char (.int c) = .int c := by
  have q : narrow .char (.int (pairCh (lo8 c) (hi8 c))) = .int (pairCh (lo8 c) (hi8 c)) := narrow_c _
  rwa [pair_says h0 h1] at q
/-- the array's cell V codes the n chars f 0 .. f (n - 1) by the coder cd, as the JDK does: coder 1 just where some char is above 255 -/
def Cod (cd : Int32) (n : Nat) (f : Nat → Int32) (V : Cell) : Prop := (cd = 0 ∧ V.slots.size = n ∧ ∀ j, j < n → V.slots[j]? = some (.int (lo8 (f j))) ∧ ¬ 255 < f j) ∨ (cd = 1 ∧ V.slots.size = 2 * n ∧ (∀ j, j < n → V.slots[2 * j]? = some (.int (lo8 (f j))) ∧ V.slots[2 * j + 1]? = some (.int (hi8 (f j)))) ∧ ∃ j, j < n ∧ 255 < f j)
theorem Cod.cd {cd : Int32} {n : Nat} {f : Nat → Int32} {V : Cell} (h : Cod cd n f V) : cd = 0 ∨ cd = 1 := h.imp (fun q => q.1) fun q => q.1
theorem Cod.len {cd : Int32} {n : Nat} {f : Nat → Int32} {V : Cell} (h : Cod cd n f V) (hs : V.slots.size < 2 ^ 31) : Int32.ofNat V.slots.size >>> (cd &&& 31) = Int32.ofNat n := by
  rcases h with ⟨rfl, h, -⟩ | ⟨rfl, h, -⟩
  · rw [shr0, h]
  · rw [h, shr1 (by omega)]
/-- **x is a String of the n chars f 0 .. f (n - 1)**, Latin-1 or UTF-16; its array at t has the cell V -/
def Txt (x t : Addr) (V : Cell) (cd : Int32) (n : Nat) (f : Nat → Int32) (U : State) : Prop := Exact "java/lang/String" x U ∧ Has x "java/lang/String" "value" "[B" (.ref t) U ∧ Has x "java/lang/String" "coder" "B" (.int cd) U ∧ XT.Arr .byte t V U ∧ Cod cd n f V ∧ ∀ j, j < n → ¬ f j < 0 ∧ ¬ 65535 < f j
theorem Txt.mv {x t : Addr} {V : Cell} {cd : Int32} {n : Nat} {f : Nat → Int32} {U U' : State} (h : Txt x t V cd n f U) (hal : U.vm.Alike U'.vm) (hh : U'.heap = U.heap) : Txt x t V cd n f U' := ⟨h.1.mv hal hh, h.2.1.mv hal hh, h.2.2.1.mv hal hh, h.2.2.2.1.mv hal hh, h.2.2.2.2⟩
namespace Cdr
def yN : MethodName := ⟨"java/lang/String", "coder", "()B"⟩
abbrev yB : ByteArray := jdk_42_method_152_code
theorem d0 : decode yB 0 = .ok (.getstatic 38, 3) := by decide +kernel
theorem d3 : decode yB 3 = .ok (.ifCond (.eq) 10, 3) := by decide +kernel
theorem d6 : decode yB 6 = .ok (.aload_n 0, 1) := by decide +kernel
theorem d7 : decode yB 7 = .ok (.getfield 15, 3) := by decide +kernel
theorem d10 : decode yB 10 = .ok (.goto 4, 3) := by decide +kernel
theorem d14 : decode yB 14 = .ok (.ireturn, 1) := by decide +kernel
def site : List Cond := [.fieldLink "java/lang/String" 38 "java/lang/String" "COMPACT_STRINGS" "Z", .fieldLink "java/lang/String" 15 "java/lang/String" "coder" "B"]
def tab : Cond := tabOf yN yB 1 (some .byte) site
def P (x : Addr) (cd z : Int32) (args : Array Value) (s : State) : Prop := args = #[.ref x] ∧ Has x "java/lang/String" "coder" "B" (.int cd) s ∧ (cd = 0 ∨ cd = 1) ∧ StaticIs s "java/lang/String" "COMPACT_STRINGS" "Z" (.int z) ∧ ¬ z = 0
def E (cd : Int32) (r : Option Value) (s u : State) : Prop := XT.PureE (some (.int cd)) r s u
theorem law (l : Launch) (x : Addr) (cd z : Int32) : Law l yN 1 0 0 0 yB 1 (some .byte) site (P x cd z) (E cd) [] 0 0 := by
  refine Law.of_walk (plainFor_of_name (by decide +kernel)) (by decide +kernel) (by decide +kernel) (by decide) (fun _ _ h => by rw [h.1]; rfl) (fun _ U U' hal hh h => ⟨h.1, h.2.1.mv hal hh, h.2.2.1, h.2.2.2.1.there hal hh, h.2.2.2.2⟩) (fun r U U' V V' h1 hal h2 h => XT.PureE.mv r U U' V V' h1 hal h2 h) ?_
  intro p e s m args below meth c s₁ X0 hexec hbytes hml hret hlk hnm hown hh0 W hP
  obtain ⟨rfl, hx, hc, s1, hz⟩ := hP
  have c1 : Steps p.tables e below (s₁.setTop (entryFrame m #[.ref x] 1)) (s₁.setTop (mkF m 0 #[.val (.ref x)] [])) := entry rfl
  obtain ⟨T2, X2, q2, st2⟩ := X0.sget hexec hown (wk W (.fieldLink "java/lang/String" 38 "java/lang/String" "COMPACT_STRINGS" "Z")) s1 (fun _ _ h => by rw [hh0]; exact h) (g := (mkF m 0 #[.val (.ref x)] [])) rfl (hb hbytes d0)
  have hh2 := q2.trans hh0
  have c3 : Steps p.tables e below (s₁.setTop (entryFrame m #[.ref x] 1)) (T2.setTop (mkF m 7 #[.val (.ref x)] [.ref x])) := (c1.trans (st2 _ (Steps.refl _))).trans (by
    refine XS.ifNo X2.here hexec rfl (hb hbytes d3) rfl (i0_eq_f hz) ?_
    refine XS.aloadN X2.here hexec rfl (hb hbytes d6) rfl rfl ?_
    exact Steps.refl _)
  obtain ⟨T4, X4, q4, st4⟩ := X2.hget hexec hown (wk W (.fieldLink "java/lang/String" 15 "java/lang/String" "coder" "B")) (hx.mv X2.warmed.alike hh2) (g := (mkF m 7 #[.val (.ref x)] [.ref x])) rfl (rest := []) rfl (hb hbytes d7)
  have c5 : Steps p.tables e below (s₁.setTop (entryFrame m #[.ref x] 1)) (T4.setTop (mkF m 14 #[.val (.ref x)] [.int cd])) := (c3.trans (st4 _ (Steps.refl _))).trans (by
    refine XS.goto X4.here hexec rfl (pc0 := 10) rfl (hb hbytes d10) (by decide) rfl ?_
    exact Steps.refl _)
  exact ⟨T4, some (.int cd), _, _, _, X4, rfl, rfl, rfl, (fun h => by cases h), ⟨rfl, q4.trans hh2⟩, fun fs hl => c5.trans (X4.ireturnOut hexec hret (by rcases hc with rfl | rfl <;> rfl) (Or.inr (Or.inr (Or.inl rfl))) (hb hbytes d14) hl)⟩
end Cdr
namespace Len
def yN : MethodName := ⟨"java/lang/String", "length", "()I"⟩
abbrev yB : ByteArray := jdk_42_method_54_code
theorem d0 : decode yB 0 = .ok (.aload_n 0, 1) := by decide +kernel
theorem d1 : decode yB 1 = .ok (.getfield 9, 3) := by decide +kernel
theorem d4 : decode yB 4 = .ok (.arraylength, 1) := by decide +kernel
theorem d5 : decode yB 5 = .ok (.aload_n 0, 1) := by decide +kernel
theorem d6 : decode yB 6 = .ok (.invokevirtual 335, 3) := by decide +kernel
theorem d9 : decode yB 9 = .ok (.ishr, 1) := by decide +kernel
theorem d10 : decode yB 10 = .ok (.ireturn, 1) := by decide +kernel
def site : List Cond := [.fieldLink "java/lang/String" 9 "java/lang/String" "value" "[B", Cdr.tab] ++ virtW "java/lang/String" 335 "java/lang/String" Cdr.yN Cdr.yN
def tab : Cond := tabOf yN yB 1 (some .int) site
def P (x t : Addr) (V : Cell) (cd : Int32) (n : Nat) (f : Nat → Int32) (z : Int32) (args : Array Value) (s : State) : Prop := args = #[.ref x] ∧ Txt x t V cd n f s ∧ StaticIs s "java/lang/String" "COMPACT_STRINGS" "Z" (.int z) ∧ ¬ z = 0
def E (n : Nat) (r : Option Value) (s u : State) : Prop := XT.PureE (some (.int (Int32.ofNat n))) r s u
/-- length() of a String of n chars, in either coding -/
theorem law (l : Launch) (x t : Addr) (V : Cell) (cd : Int32) (n : Nat) (f : Nat → Int32) (z : Int32) : Law l yN 1 0 1 13 yB 1 (some .int) site (P x t V cd n f z) (E n) [] 0 0 := by
  refine Law.of_walk (plainFor_of_name (by decide +kernel)) (by decide +kernel) (by decide +kernel) (by decide) (fun _ _ h => by rw [h.1]; rfl) (fun _ U U' hal hh h => ⟨h.1, h.2.1.mv hal hh, h.2.2.1.there hal hh, h.2.2.2⟩) (fun r U U' V V' h1 hal h2 h => XT.PureE.mv r U U' V V' h1 hal h2 h) ?_
  intro p e s m args below meth c s₁ X0 hexec hbytes hml hret hlk hnm hown hh0 W hP
  obtain ⟨rfl, hx, s1, hz⟩ := hP
  have v31 := hx.2.2.2.1.2.2.2
  have c1 : Steps p.tables e below (s₁.setTop (entryFrame m #[.ref x] 1)) (s₁.setTop (mkF m 1 #[.val (.ref x)] [.ref x])) := Steps.trans (entry rfl) (by
    show Steps p.tables e below (s₁.setTop (mkF m 0 #[.val (.ref x)] [])) _
    refine XS.aloadN X0.here hexec rfl (hb hbytes d0) rfl rfl ?_
    exact Steps.refl _)
  obtain ⟨T2, X2, q2, st2⟩ := X0.hget hexec hown (wk W (.fieldLink "java/lang/String" 9 "java/lang/String" "value" "[B")) (hx.mv X0.warmed.alike hh0).2.1 (g := (mkF m 1 #[.val (.ref x)] [.ref x])) rfl (rest := []) rfl (hb hbytes d1)
  have hh2 := q2.trans hh0
  have hx2 := hx.mv X2.warmed.alike hh2
  have c3 : Steps p.tables e below (s₁.setTop (entryFrame m #[.ref x] 1)) (T2.setTop (mkF m 6 #[.val (.ref x)] [.ref x, .int (Int32.ofNat V.slots.size)])) := (c1.trans (st2 _ (Steps.refl _))).trans (by
    refine X2.alen hexec hx2.2.2.2.1 rfl rfl (hb hbytes d4) ?_
    refine XS.aloadN X2.here hexec rfl (hb hbytes d5) rfl rfl ?_
    exact Steps.refl _)
  obtain ⟨v4, T4, X4, E4, g4⟩ := X2.callV hexec (Cdr.law l x cd z) hown (wks W (virtW "java/lang/String" 335 "java/lang/String" Cdr.yN Cdr.yN)) rfl (by decide) (wk W Cdr.tab) (W := 1) (Nat.le_of_ble_eq_true rfl) (Nat.le_of_ble_eq_true rfl) (Nat.le_refl _) (Nat.le_refl _) (hx2.1.fc X2.warmed.alike) hx2.1.is (g := (mkF m 6 #[.val (.ref x)] [.ref x, .int (Int32.ofNat V.slots.size)])) rfl (by rw [hml]; rfl) c3 (argsL := []) (rest := [.int (Int32.ofNat V.slots.size)]) rfl rfl (by show 2 * 0 + (1 + 0) ≤ _; decide) (hb hbytes d6) (⟨rfl, hx2.2.2.1, hx.2.2.2.2.1.cd, s1.there X2.warmed.alike hh2, hz⟩)
  obtain ⟨rfl, q4⟩ := E4
  have c5 : Steps p.tables e below (s₁.setTop (entryFrame m #[.ref x] 1)) (T4.setTop (mkF m 10 #[.val (.ref x)] [.int (Int32.ofNat V.slots.size >>> (cd &&& 31))])) := Steps.trans g4 (by
    refine ishr X4.here hexec rfl (hb hbytes d9) rfl ?_
    exact Steps.refl _)
  rw [hx.2.2.2.2.1.len v31] at c5
  exact ⟨T4, some (.int (Int32.ofNat n)), _, _, _, X4, rfl, rfl, rfl, (fun h => by cases h), ⟨rfl, q4.trans hh2⟩, fun fs hl => c5.trans (X4.ireturnOut hexec hret rfl (Or.inl rfl) (hb hbytes d10) hl)⟩
theorem pays {l : Launch} {R : Room} {p : Program} {e : Env} {below : List Frame} {s : State} {sargs : Array Value} {len W : Nat} (x t : Addr) (V : Cell) (cd : Int32) (n : Nat) (f : Nat → Int32) (z : Int32) (htab : tab.before sargs s = true) (hfr : 2 ≤ R.frames) (hlo : W + 25 ≤ R.locals) :
    Back l R p e below s sargs yN len W (fun A₁ a₁ => A₁.cells + 0 ≤ R.cells ∧ A₁.slots + 0 ≤ R.slots ∧ P x t V cd n f z a₁ A₁.U) (fun A₁ _ v₁ B₁ => E n v₁ A₁.U B₁.U ∧ B₁.locs = A₁.locs ++ [] ∧ B₁.cells = A₁.cells + 0 ∧ B₁.slots = A₁.slots + 0) :=
  (law l x t V cd n f z).pays htab hfr (by omega)
end Len
namespace IsL
def yN : MethodName := ⟨"java/lang/String", "isLatin1", "()Z"⟩
abbrev yB : ByteArray := jdk_42_method_154_code
theorem d0 : decode yB 0 = .ok (.getstatic 38, 3) := by decide +kernel
theorem d3 : decode yB 3 = .ok (.ifCond (.eq) 14, 3) := by decide +kernel
theorem d6 : decode yB 6 = .ok (.aload_n 0, 1) := by decide +kernel
theorem d7 : decode yB 7 = .ok (.getfield 15, 3) := by decide +kernel
theorem d10 : decode yB 10 = .ok (.ifCond (.ne) 7, 3) := by decide +kernel
theorem d13 : decode yB 13 = .ok (.iconst 1, 1) := by decide +kernel
theorem d14 : decode yB 14 = .ok (.goto 4, 3) := by decide +kernel
theorem d17 : decode yB 17 = .ok (.iconst 0, 1) := by decide +kernel
theorem d18 : decode yB 18 = .ok (.ireturn, 1) := by decide +kernel
def site : List Cond := [.fieldLink "java/lang/String" 38 "java/lang/String" "COMPACT_STRINGS" "Z", .fieldLink "java/lang/String" 15 "java/lang/String" "coder" "B"]
def tab : Cond := tabOf yN yB 1 (some .boolean) site
def P (x : Addr) (cd z : Int32) (args : Array Value) (s : State) : Prop := args = #[.ref x] ∧ Has x "java/lang/String" "coder" "B" (.int cd) s ∧ (cd = 0 ∨ cd = 1) ∧ StaticIs s "java/lang/String" "COMPACT_STRINGS" "Z" (.int z) ∧ ¬ z = 0
def E (cd : Int32) (r : Option Value) (s u : State) : Prop := XT.PureE (some (.int (1 - cd))) r s u
theorem law (l : Launch) (x : Addr) (cd z : Int32) : Law l yN 1 0 0 0 yB 1 (some .boolean) site (P x cd z) (E cd) [] 0 0 := by
  refine Law.of_walk (plainFor_of_name (by decide +kernel)) (by decide +kernel) (by decide +kernel) (by decide) (fun _ _ h => by rw [h.1]; rfl) (fun _ U U' hal hh h => ⟨h.1, h.2.1.mv hal hh, h.2.2.1, h.2.2.2.1.there hal hh, h.2.2.2.2⟩) (fun r U U' V V' h1 hal h2 h => XT.PureE.mv r U U' V V' h1 hal h2 h) ?_
  intro p e s m args below meth c s₁ X0 hexec hbytes hml hret hlk hnm hown hh0 W hP
  obtain ⟨rfl, hx, hc, s1, hz⟩ := hP
  have c1 : Steps p.tables e below (s₁.setTop (entryFrame m #[.ref x] 1)) (s₁.setTop (mkF m 0 #[.val (.ref x)] [])) := entry rfl
  obtain ⟨T2, X2, q2, st2⟩ := X0.sget hexec hown (wk W (.fieldLink "java/lang/String" 38 "java/lang/String" "COMPACT_STRINGS" "Z")) s1 (fun _ _ h => by rw [hh0]; exact h) (g := (mkF m 0 #[.val (.ref x)] [])) rfl (hb hbytes d0)
  have hh2 := q2.trans hh0
  have c3 : Steps p.tables e below (s₁.setTop (entryFrame m #[.ref x] 1)) (T2.setTop (mkF m 7 #[.val (.ref x)] [.ref x])) := (c1.trans (st2 _ (Steps.refl _))).trans (by
    refine XS.ifNo X2.here hexec rfl (hb hbytes d3) rfl (i0_eq_f hz) ?_
    refine XS.aloadN X2.here hexec rfl (hb hbytes d6) rfl rfl ?_
    exact Steps.refl _)
  obtain ⟨T4, X4, q4, st4⟩ := X2.hget hexec hown (wk W (.fieldLink "java/lang/String" 15 "java/lang/String" "coder" "B")) (hx.mv X2.warmed.alike hh2) (g := (mkF m 7 #[.val (.ref x)] [.ref x])) rfl (rest := []) rfl (hb hbytes d7)
  have c5 : Steps p.tables e below (s₁.setTop (entryFrame m #[.ref x] 1)) (T4.setTop (mkF m 10 #[.val (.ref x)] [.int cd])) := c3.trans (st4 _ (Steps.refl _))
  have c6 : Steps p.tables e below (s₁.setTop (entryFrame m #[.ref x] 1)) (T4.setTop (mkF m 18 #[.val (.ref x)] [.int (1 - cd)])) := by
    rcases hc with rfl | rfl
    · exact c5.trans (by
        refine XS.ifNo X4.here hexec rfl (hb hbytes d10) rfl (i0_ne_f rfl) ?_
        refine iconstV X4.here hexec rfl 1 (hb hbytes d13) (by decide) ?_
        refine XS.goto X4.here hexec rfl (pc0 := 14) rfl (hb hbytes d14) (by decide) rfl ?_
        exact Steps.refl _)
    · exact c5.trans (by
        refine XS.ifYes X4.here hexec rfl (pc0 := 10) rfl (hb hbytes d10) rfl (i0_ne_t (by decide)) (by decide) rfl ?_
        refine iconstV X4.here hexec rfl 0 (hb hbytes d17) (by decide) ?_
        exact Steps.refl _)
  exact ⟨T4, some (.int (1 - cd)), _, _, _, X4, rfl, rfl, rfl, (fun h => by cases h), ⟨rfl, q4.trans hh2⟩, fun fs hl => c6.trans (X4.ireturnOut hexec hret (by rcases hc with rfl | rfl <;> rfl) (Or.inr (Or.inl rfl)) (hb hbytes d18) hl)⟩
end IsL
namespace LChA
def yN : MethodName := ⟨"java/lang/StringLatin1", "charAt", "([BI)C"⟩
abbrev yB : ByteArray := jdk_43_method_2_code
theorem d0 : decode yB 0 = .ok (.iload_n 1, 1) := by decide +kernel
theorem d1 : decode yB 1 = .ok (.aload_n 0, 1) := by decide +kernel
theorem d2 : decode yB 2 = .ok (.arraylength, 1) := by decide +kernel
theorem d3 : decode yB 3 = .ok (.invokestatic 9, 3) := by decide +kernel
theorem d6 : decode yB 6 = .ok (.aload_n 0, 1) := by decide +kernel
theorem d7 : decode yB 7 = .ok (.iload_n 1, 1) := by decide +kernel
theorem d8 : decode yB 8 = .ok (.baload, 1) := by decide +kernel
theorem d9 : decode yB 9 = .ok (.sipush 255, 3) := by decide +kernel
theorem d12 : decode yB 12 = .ok (.iand, 1) := by decide +kernel
theorem d13 : decode yB 13 = .ok (.i2c, 1) := by decide +kernel
theorem d14 : decode yB 14 = .ok (.ireturn, 1) := by decide +kernel
def site : List Cond := [JO.Str_checkIndex.tab] ++ staticW "java/lang/StringLatin1" 9 JO.Str_checkIndex.yN
def tab : Cond := tabOf yN yB 2 (some .char) site
def P (t : Addr) (V : Cell) (i : Nat) (u : Int32) (fm : Value) (args : Array Value) (s : State) : Prop := args = #[.ref t, .int (Int32.ofNat i)] ∧ XT.Arr .byte t V s ∧ V.slots[i]? = some (.int u) ∧ (StaticIs s "jdk/internal/util/Preconditions" "SIOOBE_FORMATTER" "Ljava/util/function/BiFunction;" fm ∧ fm.isRef = true)
def E (u : Int32) (r : Option Value) (s w : State) : Prop := XT.PureE (some (.int (chr8 u))) r s w
theorem law (l : Launch) (t : Addr) (V : Cell) (i : Nat) (u : Int32) (fm : Value) : Law l yN 2 2 2 27 yB 2 (some .char) site (P t V i u fm) (E u) [] 0 0 := by
  refine Law.of_walk (plainFor_of_name (by decide +kernel)) (by decide +kernel) (by decide +kernel) (by decide) (fun _ _ h => by rw [h.1]; rfl) (fun _ U U' hal hh h => ⟨h.1, h.2.1.mv hal hh, h.2.2.1, h.2.2.2.1.there hal hh, h.2.2.2.2⟩) (fun r U U' V V' h1 hal h2 h => XT.PureE.mv r U U' V V' h1 hal h2 h) ?_
  intro p e s m args below meth c s₁ X0 hexec hbytes hml hret hlk hnm hown hh0 W hP
  obtain ⟨rfl, hV, hu, s1, rf⟩ := hP
  have v31 := hV.2.2.2
  have hi : i < V.slots.size := (Array.getElem?_eq_some_iff.mp hu).1
  have c1 : Steps p.tables e below (s₁.setTop (entryFrame m #[.ref t, .int (Int32.ofNat i)] 2)) (s₁.setTop (mkF m 0 #[.val (.ref t), .val (.int (Int32.ofNat i))] [])) := entry rfl
  have c2 : Steps p.tables e below (s₁.setTop (entryFrame m #[.ref t, .int (Int32.ofNat i)] 2)) (s₁.setTop (mkF m 3 #[.val (.ref t), .val (.int (Int32.ofNat i))] [.int (Int32.ofNat V.slots.size), .int (Int32.ofNat i)])) := c1.trans (by
    refine XS.iloadN X0.here hexec rfl (hb hbytes d0) rfl ?_
    refine XS.aloadN X0.here hexec rfl (hb hbytes d1) rfl rfl ?_
    refine X0.alen hexec (hV.mv X0.warmed.alike hh0) rfl rfl (hb hbytes d2) ?_
    exact Steps.refl _)
  obtain ⟨v3, T3, X3, E3, g3⟩ := X0.callS hexec (JO.Str_checkIndex.law l (Int32.ofNat i) (Int32.ofNat V.slots.size) fm) hown (wks W (staticW "java/lang/StringLatin1" 9 JO.Str_checkIndex.yN)) (wk W JO.Str_checkIndex.tab) (W := 0) (Nat.le_of_ble_eq_true rfl) (Nat.le_of_ble_eq_true rfl) (Nat.le_refl _) (Nat.le_refl _) (g := (mkF m 3 #[.val (.ref t), .val (.int (Int32.ofNat i))] [.int (Int32.ofNat V.slots.size), .int (Int32.ofNat i)])) rfl (by rw [hml]; rfl) c2 (argsL := [.int (Int32.ofNat i), .int (Int32.ofNat V.slots.size)]) (rest := []) rfl rfl (by show 2 * 0 + 0 ≤ _; decide) (hb hbytes d3) (⟨rfl, rf, s1.there X0.warmed.alike hh0, Int32.ofNat_not_neg (by omega), lt32 v31 hi⟩)
  obtain ⟨rfl, q3⟩ := E3
  have hh3 := q3.trans hh0
  have c4 : Steps p.tables e below (s₁.setTop (entryFrame m #[.ref t, .int (Int32.ofNat i)] 2)) (T3.setTop (mkF m 14 #[.val (.ref t), .val (.int (Int32.ofNat i))] [.int (chr8 u)])) := Steps.trans g3 (by
    refine XS.aloadN X3.here hexec rfl (hb hbytes d6) rfl rfl ?_
    refine XS.iloadN X3.here hexec rfl (hb hbytes d7) rfl ?_
    refine X3.aget hexec (hV.mv X3.warmed.alike hh3) rfl hu rfl rfl (hb hbytes d8) ?_
    refine sipushV X3.here hexec rfl 255 (hb hbytes d9) (by decide) ?_
    refine XS.iand X3.here hexec rfl (hb hbytes d12) rfl ?_
    refine i2c X3.here hexec rfl (hb hbytes d13) rfl ?_
    exact Steps.refl _)
  exact ⟨T3, some (.int (chr8 u)), _, _, _, X3, rfl, rfl, rfl, (fun h => by cases h), ⟨rfl, hh3⟩, fun fs hl => c4.trans (X3.ireturnOut hexec hret (narrow_c _) (Or.inr (Or.inr (Or.inr (Or.inl rfl)))) (hb hbytes d14) hl)⟩
end LChA
end StrChars
namespace StrChars.Road
open Jvm Sem ClassFile Op Lib Jvm.Stand Jvm.Free Jvm.Free.XT
open Jvm.Lib.Cold (StaticIs)
theorem consq {a : Array Value} {s : State} {c : Jvm.Cond} {L : List Jvm.Cond} (h0 : c.before a s = true) (h : ∀ w ∈ L, w.before a s = true) : ∀ w ∈ c :: L, w.before a s = true := fun w hw => (List.mem_cons.mp hw).elim (fun e => e ▸ h0) (h w)
/-- the words of String.length(), either coding -/
abbrev wordsLen : List Jvm.Cond := [.code Len.yN Len.yB 1 (some .int), .initialized ST, .fieldLink ST 9 ST "value" "[B", .fieldLink ST 38 ST "COMPACT_STRINGS" "Z", .fieldLink ST 15 ST "coder" "B", .code Cdr.yN Cdr.yB 1 (some .byte), .methodLink ST 335 Cdr.yN, .declares Cdr.yN, .selects ST Cdr.yN Cdr.yN, .instanceMethod Cdr.yN]
theorem tabLen_of {a : Array Value} {s : State} (h : ∀ w ∈ wordsLen, w.before a s = true) : Len.tab.before a s = true := by
  have hc : Cdr.tab.before a s = true := unparts (wk h (.code Cdr.yN Cdr.yB 1 (some .byte))) (wks h (.initialized Cdr.yN.cls :: Cdr.site))
  have q := consq hc h
  exact unparts (wk q (.code Len.yN Len.yB 1 (some .int))) (wks q (.initialized Len.yN.cls :: Len.site))
theorem movedLen {Z s : State} {a0 args : Array Value} (hZ : Z.Warmed39 s.vm) (hw : ∀ d ∈ wordsLen, d.before a0 Z = true) : ∀ d ∈ wordsLen, d.before args s = true := fun d hd => by
  have q := hw d hd
  have t : ∀ d ∈ wordsLen, d = .arrayClass .byte ∨ (d.onTables && d.keepsFace) = true := by decide +kernel
  rcases t d hd with rfl | t
  · exact RoadKit.mvA hZ q
  · exact RoadKit.mv hZ q t
/-- the bytes of the chars cs, low before high -/
def wideBytes : List Int32 → List Value
  | [] => []
  | c :: cs => .int (lo8 c) :: .int (hi8 c) :: wideBytes cs
theorem wide_lo (d : Value) : ∀ (cs : List Int32) (j : Nat), j < cs.length → (wideBytes cs).getD (2 * j) d = .int (lo8 (cs.getD j 0))
  | [], j, h => absurd h (Nat.not_lt_zero j)
  | c :: cs, 0, _ => rfl
  | c :: cs, j + 1, h => by
    have q := wide_lo d cs j (by simpa using h)
    rw [show 2 * (j + 1) = 2 * j + 1 + 1 from by omega]
    simpa [wideBytes] using q
theorem wide_hi (d : Value) : ∀ (cs : List Int32) (j : Nat), j < cs.length → (wideBytes cs).getD (2 * j + 1) d = .int (hi8 (cs.getD j 0))
  | [], j, h => absurd h (Nat.not_lt_zero j)
  | c :: cs, 0, _ => rfl
  | c :: cs, j + 1, h => by
    have q := wide_hi d cs j (by simpa using h)
    rw [show 2 * (j + 1) + 1 = 2 * j + 1 + 1 + 1 from by omega]
    simpa [wideBytes] using q
theorem low_at (d : Value) (cs : List Int32) (j : Nat) (h : j < cs.length) : (cs.map fun c => Value.int (lo8 c)).getD j d = .int (lo8 (cs.getD j 0)) := by
  simp [List.getD_eq_getElem?_getD, h]
/-- an array of N2 bytes vs codes the chars cs by the coder cd -/
def CodA (cs : List Int32) (cd N2 : Int32) (vs : List Value) : Prop := (cd = 0 ∧ N2 = Int32.ofNat cs.length ∧ vs = (cs.map fun c => Value.int (lo8 c)) ∧ ∀ c ∈ cs, ¬ 255 < c) ∨ (cd = 1 ∧ N2 = Int32.ofNat (2 * cs.length) ∧ vs = wideBytes cs ∧ ∃ c ∈ cs, 255 < c)
theorem CodA.cod {cs : List Int32} {cd N2 : Int32} {vs : List Value} {V : Cell} (h : CodA cs cd N2 vs) (hn : 2 * cs.length < 2 ^ 31) (hs : V.slots.size = N2.toNatClampNeg) (hv : RoadKit.Has V vs (.int 0)) : Cod cd cs.length (fun j => cs.getD j 0) V := by
  rcases h with ⟨rfl, rfl, rfl, h⟩ | ⟨rfl, rfl, rfl, c, hc, hw⟩
  · rw [n32 (by omega)] at hs
    exact Or.inl ⟨rfl, hs, fun j hj => ⟨by rw [hv j (by omega), low_at _ _ _ hj], by
      have e : cs.getD j 0 = cs[j] := by simp [List.getD_eq_getElem?_getD, hj]
      show ¬ 255 < cs.getD j 0
      rw [e]; exact h _ (List.getElem_mem _)⟩⟩
  · rw [n32 (by omega)] at hs
    obtain ⟨j, hj, rfl⟩ := List.getElem_of_mem hc
    exact Or.inr ⟨rfl, hs, fun j hj => ⟨by rw [hv _ (by omega), wide_lo _ _ _ hj], by rw [hv _ (by omega), wide_hi _ _ _ hj]⟩, j, hj, by
      have e : cs.getD j 0 = cs[j] := by simp [List.getD_eq_getElem?_getD, hj]
      show 255 < cs.getD j 0
      rw [e]; exact hw⟩
/-- an object of exactly java/lang/String, its two fields found: as the laws ask it -/
theorem strObj {Z U : State} {a0 : Array Value} {kI : Nat} (wi : (Jvm.Cond.instantiable ST kI).before a0 Z = true) (al : Z.vm.Alike U.vm) {x : Addr} {v0 c0 : Value} (E : RoadKit.Exa Z U.heap x ST) (V : RoadKit.Fld Z U.heap x ST "value" "[B" v0) (C : RoadKit.Fld Z U.heap x ST "coder" "B" c0) :
    ∃ (D : Cell) (fV fC : Field), Blank ST x D U ∧ Found ST "value" "[B" fV U ∧ Found ST "coder" "B" fC U ∧ D.slots[fV.slot]? = some v0 ∧ D.slots[fC.slot]? = some c0 ∧ RoadKit.slotOf Z ST "value" "[B" = fV.slot ∧ RoadKit.slotOf Z ST "coder" "B" = fC.slot := by
  obtain ⟨D, cfV, kV, iV, fV, hD, gV, stV, knV, obV, asV, slV⟩ := V
  obtain ⟨D', cfC, kC, iC, fC, hD', gC, stC, -, -, asC, slC⟩ := C
  cases hD.symm.trans hD'
  obtain ⟨D2, kD, e1, e2, e3, e4, e5⟩ := E
  cases hD.symm.trans e1
  obtain ⟨c2, k2, i1, i2, i3, -⟩ := Cond.instantiable_spec wi
  cases e2.symm.trans i1
  cases e3.symm.trans i2
  obtain ⟨kU, u1, u2⟩ := al.2.2 _ _ e3
  exact ⟨D, fV, fC, ⟨hD, ⟨knV, fun q hq => by rw [hq] at obV; cases obV⟩, by rw [al.findClass]; exact e2, kU, u1, by rw [u2]; exact i3, by rw [u2]; exact e5 i3⟩, ⟨SBG.found_only al ⟨cfV, kV, iV, gV⟩, stV⟩, ⟨SBG.found_only al ⟨cfC, kC, iC, gC⟩, stC⟩, slV, slC, by simp [RoadKit.slotOf, gV], by simp [RoadKit.slotOf, gC]⟩
theorem sta_is {Z U : State} (al : Z.vm.Alike U.vm) {C n d : String} {v : Value} (S : RoadKit.Sta Z U.heap C n d v) : StaticIs U C n d v := by
  obtain ⟨cfS, iS, kS, fS, st, cS, t1, t2, t3, t4, t5, t6, t7⟩ := S
  exact StaticIs.there (s := { Z with heap := U.heap }) ⟨cfS, iS, kS, fS, st, cS, t1, t2, t3, t4, t5, (fun q => by rw [q] at t6; cases t6), t7⟩ al rfl
/-- **length() OF SUCH A STRING** -/
theorem lenW {p : Program} {l : Launch} {e : Env} {R : Room} {s : State} {args : Array Value} {below : List Frame} {len W : Nat} {Z : State} {a0 : Array Value} {h : Heap} (hZ : Z.Warmed39 s.vm) (hw : ∀ d ∈ wordsLen, d.before a0 Z = true) {kI : Nat} (wi : (Jvm.Cond.instantiable ST kI).before a0 Z = true)
    {x t : Addr} {kb : ClassId} {cs : List Int32} {cd N2 z : Int32} {vs : List Value} (E : RoadKit.Exa Z h x ST) (V : RoadKit.Fld Z h x ST "value" "[B" (.ref t)) (C : RoadKit.Fld Z h x ST "coder" "B" (.int cd)) (K : RoadKit.Arv Z h t kb .byte N2 vs (.int 0)) (hc : CodA cs cd N2 vs) (hb : ∀ c ∈ cs, ¬ c < 0 ∧ ¬ (65535 : Int32) < c)
    (S : RoadKit.Sta Z h ST "COMPACT_STRINGS" "Z" (.int z)) (hz : ¬ z = 0) (l2 : cs.length ≤ 4000) (hfr : 2 ≤ R.frames) (hlo : W + 25 ≤ R.locals) :
    Back l R p e below s args (⟨"java/lang/String", "length", "()I"⟩ : MethodName) len W (fun P a => a = #[.ref x] ∧ P.U.heap = h ∧ P.cells + 0 ≤ R.cells ∧ P.slots + 0 ≤ R.slots)
      (fun P _ v B => ∃ L, (v = some (.int (Int32.ofNat cs.length)) ∧ L = [] ∧ B.U.heap = h) ∧ B.locs = P.locs ++ L ∧ B.cells = P.cells + 0 ∧ B.slots = P.slots + 0) := by
  obtain ⟨A, K1, K2, K3, K4, K5, K6⟩ := K
  have hcod := hc.cod (by omega) K3 K5
  intro m meth c P g ig mk a X hg hsize hdg hW hn hp'
  obtain ⟨rfl, rfl, r1, r2⟩ := hp'
  have al : Z.vm.Alike P.U.vm := hZ.alike.trans X.warmed.alike
  obtain ⟨D, fV, fC, hB, F1, F2, g1, g2, -, -⟩ := strObj wi al E V C
  have hx : Txt x t A cd cs.length (fun j => cs.getD j 0) P.U := ⟨⟨_, hB.2.2.1, D, hB.1, rfl, by cases q : D.vm <;> first | rfl | exact absurd q (hB.2.1.2 _)⟩, Has.of hB F1 g1, Has.of hB F2 g2, ⟨K1.1, State.isArrayOf_alike al K1.2.1, K1.2.2, by rcases hcod with ⟨-, q, -⟩ | ⟨-, q, -⟩ <;> omega⟩, hcod, fun j hj => by
    have e : cs.getD j 0 = cs[j] := by simp [List.getD_eq_getElem?_getD, hj]
    show ¬ cs.getD j 0 < 0 ∧ ¬ 65535 < cs.getD j 0
    rw [e]; exact hb _ (List.getElem_mem _)⟩
  obtain ⟨v, B, X', ⟨⟨hv, hh⟩, hl, hk, hs⟩, st⟩ := Len.pays x t A cd cs.length (fun j => cs.getD j 0) z (tabLen_of (movedLen hZ hw)) hfr hlo m meth c P g ig mk _ X hg hsize hdg hW hn ⟨r1, r2, rfl, hx, sta_is al S, hz⟩
  exact ⟨v, B, X', ⟨[], ⟨hv, rfl, hh⟩, hl, hk, hs⟩, st⟩
end StrChars.Road
namespace StrChars
open Jvm Sem ClassFile Op Lib Jvm.Stand Jvm.Free.XT Jvm.Free.ALB Jvm.Free.JM Jvm.Free
open Jvm.Lib.Cold (StaticIs)
namespace Emp
def yN : MethodName := ⟨"java/lang/String", "isEmpty", "()Z"⟩
abbrev yB : ByteArray := jdk_42_method_55_code
theorem d0 : decode yB 0 = .ok (.aload_n 0, 1) := by decide +kernel
theorem d1 : decode yB 1 = .ok (.getfield 9, 3) := by decide +kernel
theorem d4 : decode yB 4 = .ok (.arraylength, 1) := by decide +kernel
theorem d5 : decode yB 5 = .ok (.ifCond (.ne) 7, 3) := by decide +kernel
theorem d8 : decode yB 8 = .ok (.iconst 1, 1) := by decide +kernel
theorem d9 : decode yB 9 = .ok (.goto 4, 3) := by decide +kernel
theorem d12 : decode yB 12 = .ok (.iconst 0, 1) := by decide +kernel
theorem d13 : decode yB 13 = .ok (.ireturn, 1) := by decide +kernel
def site : List Cond := [.fieldLink "java/lang/String" 9 "java/lang/String" "value" "[B"]
def tab : Cond := tabOf yN yB 1 (some .boolean) site
def P (x t : Addr) (V : Cell) (cd : Int32) (n : Nat) (f : Nat → Int32) (args : Array Value) (s : State) : Prop := args = #[.ref x] ∧ Txt x t V cd n f s
def E (n : Nat) (r : Option Value) (s u : State) : Prop := XT.PureE (some (.int (if n = 0 then 1 else 0))) r s u
/-- isEmpty() of a String of n chars -/
theorem law (l : Launch) (x t : Addr) (V : Cell) (cd : Int32) (n : Nat) (f : Nat → Int32) : Law l yN 1 0 0 0 yB 1 (some .boolean) site (P x t V cd n f) (E n) [] 0 0 := by
  refine Law.of_walk (plainFor_of_name (by decide +kernel)) (by decide +kernel) (by decide +kernel) (by decide) (fun _ _ h => by rw [h.1]; rfl) (fun _ U U' hal hh h => ⟨h.1, h.2.mv hal hh⟩) (fun r U U' V V' h1 hal h2 h => XT.PureE.mv r U U' V V' h1 hal h2 h) ?_
  intro p e s m args below meth c s₁ X0 hexec hbytes hml hret hlk hnm hown hh0 W hP
  obtain ⟨rfl, hx⟩ := hP
  have v31 := hx.2.2.2.1.2.2.2
  have c1 : Steps p.tables e below (s₁.setTop (entryFrame m #[.ref x] 1)) (s₁.setTop (mkF m 1 #[.val (.ref x)] [.ref x])) := Steps.trans (entry rfl) (by
    show Steps p.tables e below (s₁.setTop (mkF m 0 #[.val (.ref x)] [])) _
    refine XS.aloadN X0.here hexec rfl (hb hbytes d0) rfl rfl ?_
    exact Steps.refl _)
  obtain ⟨T2, X2, q2, st2⟩ := X0.hget hexec hown (wk W (.fieldLink "java/lang/String" 9 "java/lang/String" "value" "[B")) (hx.mv X0.warmed.alike hh0).2.1 (g := (mkF m 1 #[.val (.ref x)] [.ref x])) rfl (rest := []) rfl (hb hbytes d1)
  have hh2 := q2.trans hh0
  have hx2 := hx.mv X2.warmed.alike hh2
  have c3 : Steps p.tables e below (s₁.setTop (entryFrame m #[.ref x] 1)) (T2.setTop (mkF m 5 #[.val (.ref x)] [.int (Int32.ofNat V.slots.size)])) := (c1.trans (st2 _ (Steps.refl _))).trans (by
    refine X2.alen hexec hx2.2.2.2.1 rfl rfl (hb hbytes d4) ?_
    exact Steps.refl _)
  have hz : V.slots.size = 0 ↔ n = 0 := by
    rcases hx.2.2.2.2.1 with ⟨-, q, -⟩ | ⟨-, q, -⟩ <;> omega
  by_cases h0 : n = 0
  · have c4 : Steps p.tables e below (s₁.setTop (entryFrame m #[.ref x] 1)) (T2.setTop (mkF m 13 #[.val (.ref x)] [.int 1])) := c3.trans (by
      refine XS.ifNo X2.here hexec rfl (hb hbytes d5) rfl (i0_ne_f (by rw [hz.mpr h0]; rfl)) ?_
      refine iconstV X2.here hexec rfl 1 (hb hbytes d8) (by decide) ?_
      refine XS.goto X2.here hexec rfl (pc0 := 9) rfl (hb hbytes d9) (by decide) rfl ?_
      exact Steps.refl _)
    exact ⟨T2, some (.int 1), _, _, _, X2, rfl, rfl, rfl, (fun h => by cases h), ⟨by rw [if_pos h0], hh2⟩, fun fs hl => c4.trans (X2.ireturnOut hexec hret rfl (Or.inr (Or.inl rfl)) (hb hbytes d13) hl)⟩
  · have c4 : Steps p.tables e below (s₁.setTop (entryFrame m #[.ref x] 1)) (T2.setTop (mkF m 13 #[.val (.ref x)] [.int 0])) := c3.trans (by
      refine XS.ifYes X2.here hexec rfl (pc0 := 5) rfl (hb hbytes d5) rfl (i0_ne_t (nz32 v31 (by omega))) (by decide) rfl ?_
      refine iconstV X2.here hexec rfl 0 (hb hbytes d12) (by decide) ?_
      exact Steps.refl _)
    exact ⟨T2, some (.int 0), _, _, _, X2, rfl, rfl, rfl, (fun h => by cases h), ⟨by rw [if_neg h0], hh2⟩, fun fs hl => c4.trans (X2.ireturnOut hexec hret rfl (Or.inr (Or.inl rfl)) (hb hbytes d13) hl)⟩
theorem pays {l : Launch} {R : Room} {p : Program} {e : Env} {below : List Frame} {s : State} {sargs : Array Value} {len W : Nat} (x t : Addr) (V : Cell) (cd : Int32) (n : Nat) (f : Nat → Int32) (htab : tab.before sargs s = true) (hfr : 1 ≤ R.frames) (hlo : W + 12 ≤ R.locals) :
    Back l R p e below s sargs yN len W (fun A₁ a₁ => A₁.cells + 0 ≤ R.cells ∧ A₁.slots + 0 ≤ R.slots ∧ P x t V cd n f a₁ A₁.U) (fun A₁ _ v₁ B₁ => E n v₁ A₁.U B₁.U ∧ B₁.locs = A₁.locs ++ [] ∧ B₁.cells = A₁.cells + 0 ∧ B₁.slots = A₁.slots + 0) :=
  (law l x t V cd n f).pays htab hfr (by omega)
end Emp
/-- what place i of a byte[]'s cell holds -/
def yv (A : Cell) (i : Nat) : Int32 := match A.slots[i]? with | some (.int x) => x | _ => 0
theorem yv_get {a : Addr} {A : Cell} {U : State} (h : XT.Arr .byte a A U) (ht : Typed .byte A) {i : Nat} (hi : i < A.slots.size) : A.slots[i]? = some (.int (yv A i)) := by
  have e := Array.getElem?_eq_getElem hi
  have f := ht i _ e
  unfold yv; rw [e]
  generalize A.slots[i] = v at f
  cases v <;> simp [fits] at f ⊢
/-- the two arrays are equal, place for place -/
def EqC (A B : Cell) : Prop := A.slots.size = B.slots.size ∧ ∀ i, i < A.slots.size → yv A i = yv B i
/-- a boolean that says whether p -/
def Says01 (q : Prop) (r : Option Value) (s u : State) : Prop := ∃ v : Int32, r = some (.int v) ∧ u.heap = s.heap ∧ ((v = 1 ∧ q) ∨ (v = 0 ∧ ¬ q))
theorem Says01.mv {q : Prop} : ∀ r (U U' V V' : State), U'.heap = U.heap → V.vm.Alike V'.vm → V'.heap = V.heap → Says01 q r U V → Says01 q r U' V' :=
  fun r U U' V V' h1 _ h2 ⟨v, a, b, c⟩ => ⟨v, a, by rw [h1, h2]; exact b, c⟩
namespace LEq
def yN : MethodName := ⟨"java/lang/StringLatin1", "equals", "([B[B)Z"⟩
abbrev yB : ByteArray := jdk_43_method_13_code
theorem d0 : decode yB 0 = .ok (.aload_n 0, 1) := by decide +kernel
theorem d1 : decode yB 1 = .ok (.arraylength, 1) := by decide +kernel
theorem d2 : decode yB 2 = .ok (.aload_n 1, 1) := by decide +kernel
theorem d3 : decode yB 3 = .ok (.arraylength, 1) := by decide +kernel
theorem d4 : decode yB 4 = .ok (.if_icmp (.ne) 30, 3) := by decide +kernel
theorem d7 : decode yB 7 = .ok (.iconst 0, 1) := by decide +kernel
theorem d8 : decode yB 8 = .ok (.istore_n 2, 1) := by decide +kernel
theorem d9 : decode yB 9 = .ok (.iload_n 2, 1) := by decide +kernel
theorem d10 : decode yB 10 = .ok (.aload_n 0, 1) := by decide +kernel
theorem d11 : decode yB 11 = .ok (.arraylength, 1) := by decide +kernel
theorem d12 : decode yB 12 = .ok (.if_icmp (.ge) 20, 3) := by decide +kernel
theorem d15 : decode yB 15 = .ok (.aload_n 0, 1) := by decide +kernel
theorem d16 : decode yB 16 = .ok (.iload_n 2, 1) := by decide +kernel
theorem d17 : decode yB 17 = .ok (.baload, 1) := by decide +kernel
theorem d18 : decode yB 18 = .ok (.aload_n 1, 1) := by decide +kernel
theorem d19 : decode yB 19 = .ok (.iload_n 2, 1) := by decide +kernel
theorem d20 : decode yB 20 = .ok (.baload, 1) := by decide +kernel
theorem d21 : decode yB 21 = .ok (.if_icmp (.eq) 5, 3) := by decide +kernel
theorem d24 : decode yB 24 = .ok (.iconst 0, 1) := by decide +kernel
theorem d25 : decode yB 25 = .ok (.ireturn, 1) := by decide +kernel
theorem d26 : decode yB 26 = .ok (.iinc 2 1, 3) := by decide +kernel
theorem d29 : decode yB 29 = .ok (.goto (-20), 3) := by decide +kernel
theorem d32 : decode yB 32 = .ok (.iconst 1, 1) := by decide +kernel
theorem d33 : decode yB 33 = .ok (.ireturn, 1) := by decide +kernel
theorem d34 : decode yB 34 = .ok (.iconst 0, 1) := by decide +kernel
theorem d35 : decode yB 35 = .ok (.ireturn, 1) := by decide +kernel
def site : List Cond := []
def tab : Cond := tabOf yN yB 3 (some .boolean) site
def P (a : Addr) (A : Cell) (b : Addr) (B : Cell) (args : Array Value) (s : State) : Prop := args = #[.ref a, .ref b] ∧ XT.Arr .byte a A s ∧ Typed .byte A ∧ XT.Arr .byte b B s ∧ Typed .byte B
/-- whether two byte[] are equal, place for place -/
theorem law (l : Launch) (a : Addr) (A : Cell) (b : Addr) (B : Cell) : Law l yN 2 2 0 0 yB 3 (some .boolean) site (P a A b B) (Says01 (EqC A B)) [] 0 0 := by
  refine Law.of_walk (plainFor_of_name (by decide +kernel)) (by decide +kernel) (by decide +kernel) (by decide) (fun _ _ h => by rw [h.1]; rfl) (fun _ U U' hal hh h => ⟨h.1, h.2.1.mv hal hh, h.2.2.1, h.2.2.2.1.mv hal hh, h.2.2.2.2⟩) (fun r U U' V V' h1 hal h2 h => Says01.mv r U U' V V' h1 hal h2 h) ?_
  intro p e s m args below meth c s₁ X0 hexec hbytes hml hret hlk hnm hown hh0 W hP
  obtain ⟨rfl, hA, tA, hB, tB⟩ := hP
  have a31 := hA.2.2.2
  have b31 := hB.2.2.2
  have hA0 := hA.mv X0.warmed.alike hh0
  have hB0 := hB.mv X0.warmed.alike hh0
  have c1 : Steps p.tables e below (s₁.setTop (entryFrame m #[.ref a, .ref b] 3)) (s₁.setTop (mkF m 0 #[.val (.ref a), .val (.ref b), .unset] [])) := entry rfl
  have c2 : Steps p.tables e below (s₁.setTop (entryFrame m #[.ref a, .ref b] 3)) (s₁.setTop (mkF m 4 #[.val (.ref a), .val (.ref b), .unset] [.int (Int32.ofNat B.slots.size), .int (Int32.ofNat A.slots.size)])) := c1.trans (by
    refine XS.aloadN X0.here hexec rfl (hb hbytes d0) rfl rfl ?_
    refine X0.alen hexec hA0 rfl rfl (hb hbytes d1) ?_
    refine XS.aloadN X0.here hexec rfl (hb hbytes d2) rfl rfl ?_
    refine X0.alen hexec hB0 rfl rfl (hb hbytes d3) ?_
    exact Steps.refl _)
  by_cases hs : A.slots.size = B.slots.size
  · have c3 : Steps p.tables e below (s₁.setTop (entryFrame m #[.ref a, .ref b] 3)) (s₁.setTop (mkF m 9 #[.val (.ref a), .val (.ref b), .val (.int 0)] [])) := c2.trans (by
      refine XS.icmpNo X0.here hexec rfl (hb hbytes d4) rfl (ii_ne_f (by rw [hs])) ?_
      refine iconstV X0.here hexec rfl 0 (hb hbytes d7) (by decide) ?_
      refine XS.istoreN X0.here hexec rfl (hb hbytes d8) rfl rfl ?_
      exact Steps.refl _)
    have loop : ∀ (r i : Nat), i + r = A.slots.size → (∀ j, j < i → yv A j = yv B j) → Steps p.tables e below (s₁.setTop (entryFrame m #[.ref a, .ref b] 3)) (s₁.setTop (mkF m 9 #[.val (.ref a), .val (.ref b), .val (.int (Int32.ofNat i))] [])) → ∃ (pc : Nat) (Ls : Array Slot) (v : Int32), (pc = 25 ∨ pc = 33) ∧ ((v = 1 ∧ EqC A B) ∨ (v = 0 ∧ ¬ EqC A B)) ∧ Steps p.tables e below (s₁.setTop (entryFrame m #[.ref a, .ref b] 3)) (s₁.setTop (mkF m pc Ls [.int v])) := by
      intro r
      induction r with
      | zero =>
        intro i hi he cl
        exact ⟨33, _, 1, Or.inr rfl, Or.inl ⟨rfl, hs, fun j hj => he j (by omega)⟩, cl.trans (by
          refine XS.iloadN X0.here hexec rfl (hb hbytes d9) rfl ?_
          refine XS.aloadN X0.here hexec rfl (hb hbytes d10) rfl rfl ?_
          refine X0.alen hexec hA0 rfl rfl (hb hbytes d11) ?_
          refine XS.icmpYes X0.here hexec rfl (pc0 := 12) rfl (hb hbytes d12) rfl (ii_ge_t (nlt32 (by omega) (by omega))) (by decide) rfl ?_
          refine iconstV X0.here hexec rfl 1 (hb hbytes d32) (by decide) ?_
          exact Steps.refl _)⟩
      | succ r ih =>
        intro i hi he cl
        have c4 : Steps p.tables e below (s₁.setTop (entryFrame m #[.ref a, .ref b] 3)) (s₁.setTop (mkF m 21 #[.val (.ref a), .val (.ref b), .val (.int (Int32.ofNat i))] [.int (yv B i), .int (yv A i)])) := cl.trans (by
          refine XS.iloadN X0.here hexec rfl (hb hbytes d9) rfl ?_
          refine XS.aloadN X0.here hexec rfl (hb hbytes d10) rfl rfl ?_
          refine X0.alen hexec hA0 rfl rfl (hb hbytes d11) ?_
          refine XS.icmpNo X0.here hexec rfl (hb hbytes d12) rfl (ii_ge_f (lt32 (by omega) (by omega))) ?_
          refine XS.aloadN X0.here hexec rfl (hb hbytes d15) rfl rfl ?_
          refine XS.iloadN X0.here hexec rfl (hb hbytes d16) rfl ?_
          refine X0.aget hexec hA0 rfl (yv_get hA tA (i := i) (by omega)) rfl rfl (hb hbytes d17) ?_
          refine XS.aloadN X0.here hexec rfl (hb hbytes d18) rfl rfl ?_
          refine XS.iloadN X0.here hexec rfl (hb hbytes d19) rfl ?_
          refine X0.aget hexec hB0 rfl (yv_get hB tB (i := i) (by omega)) rfl rfl (hb hbytes d20) ?_
          exact Steps.refl _)
        by_cases hv : yv A i = yv B i
        · have c5 : Steps p.tables e below (s₁.setTop (entryFrame m #[.ref a, .ref b] 3)) (s₁.setTop (mkF m 9 #[.val (.ref a), .val (.ref b), .val (.int (Int32.ofNat i + 1))] [])) := c4.trans (by
            refine XS.icmpYes X0.here hexec rfl (pc0 := 21) rfl (hb hbytes d21) rfl (ii_eq_t hv) (by decide) rfl ?_
            refine iincV X0.here hexec rfl 1 (hb hbytes d26) (by decide) rfl rfl ?_
            refine XS.goto X0.here hexec rfl (pc0 := 29) rfl (hb hbytes d29) (by decide) rfl ?_
            exact Steps.refl _)
          rw [succ32] at c5
          exact ih (i + 1) (by omega) (fun j hj => by
            by_cases e : j = i
            · rw [e]; exact hv
            · exact he j (by omega)) c5
        · exact ⟨25, _, 0, Or.inl rfl, Or.inr ⟨rfl, fun q => hv (q.2 i (by omega))⟩, c4.trans (by
            refine XS.icmpNo X0.here hexec rfl (hb hbytes d21) rfl (ii_eq_f hv) ?_
            refine iconstV X0.here hexec rfl 0 (hb hbytes d24) (by decide) ?_
            exact Steps.refl _)⟩
    obtain ⟨pc, Ls, v, hpc, hv, cz⟩ := loop A.slots.size 0 (by omega) (fun j hj => absurd hj (Nat.not_lt_zero j)) c3
    have nv : narrow .boolean (.int v) = .int v := by rcases hv with ⟨rfl, -⟩ | ⟨rfl, -⟩ <;> rfl
    rcases hpc with rfl | rfl
    · exact ⟨s₁, some (.int v), _, _, _, X0, rfl, rfl, rfl, (fun h => by cases h), ⟨v, rfl, hh0, hv⟩, fun fs hl => cz.trans (X0.ireturnOut hexec hret nv (Or.inr (Or.inl rfl)) (hb hbytes d25) hl)⟩
    · exact ⟨s₁, some (.int v), _, _, _, X0, rfl, rfl, rfl, (fun h => by cases h), ⟨v, rfl, hh0, hv⟩, fun fs hl => cz.trans (X0.ireturnOut hexec hret nv (Or.inr (Or.inl rfl)) (hb hbytes d33) hl)⟩
  · have c3 : Steps p.tables e below (s₁.setTop (entryFrame m #[.ref a, .ref b] 3)) (s₁.setTop (mkF m 35 #[.val (.ref a), .val (.ref b), .unset] [.int 0])) := c2.trans (by
      refine XS.icmpYes X0.here hexec rfl (pc0 := 4) rfl (hb hbytes d4) rfl (ii_ne_t (ne32 a31 b31 hs)) (by decide) rfl ?_
      refine iconstV X0.here hexec rfl 0 (hb hbytes d34) (by decide) ?_
      exact Steps.refl _)
    exact ⟨s₁, some (.int 0), _, _, _, X0, rfl, rfl, rfl, (fun h => by cases h), ⟨0, rfl, hh0, Or.inr ⟨rfl, fun q => hs q.1⟩⟩, fun fs hl => c3.trans (X0.ireturnOut hexec hret rfl (Or.inr (Or.inl rfl)) (hb hbytes d35) hl)⟩
end LEq
theorem Cod.ty {cd : Int32} {n : Nat} {f : Nat → Int32} {V : Cell} (h : Cod cd n f V) : Typed .byte V := fun i v hv => by
  have hi : i < V.slots.size := (Array.getElem?_eq_some_iff.mp hv).1
  rcases h with ⟨-, k1, k2⟩ | ⟨-, k1, k2, -⟩
  · rw [(k2 i (by omega)).1] at hv; cases hv; exact fits_lo8 _
  · rcases Nat.mod_two_eq_zero_or_one i with e | e
    · obtain ⟨j, rfl⟩ : ∃ j, i = 2 * j := ⟨i / 2, by omega⟩
      rw [(k2 j (by omega)).1] at hv; cases hv; exact fits_lo8 _
    · obtain ⟨j, rfl⟩ : ∃ j, i = 2 * j + 1 := ⟨i / 2, by omega⟩
      rw [(k2 j (by omega)).2] at hv; cases hv; exact fits_lo8 _
/-- the same text -/
def SameT (n : Nat) (f : Nat → Int32) (k : Nat) (g : Nat → Int32) : Prop := n = k ∧ ∀ j, j < n → f j = g j
theorem lo8_inj {x y : Int32} (h0 : ¬ x < 0) (h1 : ¬ 255 < x) (k0 : ¬ y < 0) (k1 : ¬ 255 < y) (h : lo8 x = lo8 y) : x = y := by
  rw [← lo8_mask h0 h1, ← lo8_mask k0 k1, h]
/-- arrays coded by one coder are equal just where the texts are -/
theorem Cod.eqv {cd : Int32} {n k : Nat} {f g : Nat → Int32} {V V' : Cell} (h : Cod cd n f V) (h' : Cod cd k g V') (hf : ∀ j, j < n → ¬ f j < 0 ∧ ¬ 65535 < f j) (hg : ∀ j, j < k → ¬ g j < 0 ∧ ¬ 65535 < g j) : EqC V V' ↔ SameT n f k g := by
  have yvv : ∀ {W : Cell} {i : Nat} {x : Int32}, W.slots[i]? = some (.int x) → yv W i = x := fun q => by unfold yv; rw [q]
  rcases h with ⟨rfl, k1, k2⟩ | ⟨rfl, k1, k2, -⟩
  · rcases h' with ⟨-, m1, m2⟩ | ⟨e, -⟩
    · constructor
      · rintro ⟨e1, e2⟩
        refine ⟨by omega, fun j hj => ?_⟩
        have q := e2 j (by omega)
        rw [yvv (k2 j hj).1, yvv (m2 j (by omega)).1] at q
        exact lo8_inj (hf j hj).1 (k2 j hj).2 (hg j (by omega)).1 (m2 j (by omega)).2 q
      · rintro ⟨rfl, e2⟩
        refine ⟨by omega, fun j hj => ?_⟩
        rw [yvv (k2 j (by omega)).1, yvv (m2 j (by omega)).1, e2 j (by omega)]
    · exact absurd e (by decide)
  · rcases h' with ⟨e, -⟩ | ⟨-, m1, m2, -⟩
    · exact absurd e (by decide)
    · constructor
      · rintro ⟨e1, e2⟩
        refine ⟨by omega, fun j hj => ?_⟩
        have q1 := e2 (2 * j) (by omega)
        have q2 := e2 (2 * j + 1) (by omega)
        rw [yvv (k2 j hj).1, yvv (m2 j (by omega)).1] at q1
        rw [yvv (k2 j hj).2, yvv (m2 j (by omega)).2] at q2
        rw [← pair_says (hf j hj).1 (hf j hj).2, ← pair_says (hg j (by omega)).1 (hg j (by omega)).2, q1, q2]
      · rintro ⟨rfl, e2⟩
        refine ⟨by omega, fun i hi => ?_⟩
        rcases Nat.mod_two_eq_zero_or_one i with e | e
        · obtain ⟨j, rfl⟩ : ∃ j, i = 2 * j := ⟨i / 2, by omega⟩
          rw [yvv (k2 j (by omega)).1, yvv (m2 j (by omega)).1, e2 j (by omega)]
        · obtain ⟨j, rfl⟩ : ∃ j, i = 2 * j + 1 := ⟨i / 2, by omega⟩
          rw [yvv (k2 j (by omega)).2, yvv (m2 j (by omega)).2, e2 j (by omega)]
/-- two codings differ: so do the texts -/
theorem Cod.dif {cd cd' : Int32} {n k : Nat} {f g : Nat → Int32} {V V' : Cell} (h : Cod cd n f V) (h' : Cod cd' k g V') (hne : ¬ cd = cd') : ¬ SameT n f k g := by
  rintro ⟨rfl, e⟩
  rcases h with ⟨rfl, -, k2⟩ | ⟨rfl, -, -, j, hj, hw⟩
  · rcases h' with ⟨rfl, -⟩ | ⟨-, -, -, j, hj, hw⟩
    · exact hne rfl
    · exact (k2 j hj).2 (by rw [e j hj]; exact hw)
  · rcases h' with ⟨-, -, m2⟩ | ⟨rfl, -⟩
    · exact (m2 j hj).2 (by rw [← e j hj]; exact hw)
    · exact hne rfl
/-- an object of exactly C is an instance of C -/
theorem cinst {p : Program} {l : Launch} {e : Env} {R : Room} {s : State} {m : MethodId} {args : Array Value} {below : List Frame} {meth : Method} {c : Code} {T : State} {locs : List Loc} {cells slots : Nat} (X : Stand p l e R s m args below meth c T locs cells slots) (hexec : p.tables.exec = Jvm.exec) {own C : String} {index : Nat} (hown : s.vm.findClass own = some m.cls) (hlink : (Cond.classLink own index C).before args s = true) {a : Addr} (hE : Exact C a T)
    {g : JFrame} (hg : g.method = m) {rest : List Value} (hstack : g.stack = .ref a :: rest) (hdg : decode c.code g.pc = .ok (.instanceof index, 3)) :
    ∃ T', Stand p l e R s m args below meth c T' locs cells slots ∧ T'.heap = T.heap ∧ ∀ target, Steps p.tables e below (T'.setTop { g with pc := g.pc + 3, stack := .int 1 :: rest }) target → Steps p.tables e below (T.setTop g) target := by
  obtain ⟨cB, h1, D, h2, h3, h4⟩ := hE
  have h1' : s.vm.findClass C = some cB := by rw [← X.warmed.alike.findClass]; exact h1
  obtain ⟨vm', X', st⟩ := X.instanceofYes hexec hown hlink h2 h4 h1' (by rw [h3]; exact Jvm.Free.SB.assignable_self _ _) hg hstack hdg
  exact ⟨_, X', rfl, st⟩
theorem cself {p : Program} {l : Launch} {e : Env} {R : Room} {s : State} {m : MethodId} {args : Array Value} {below : List Frame} {meth : Method} {c : Code} {T : State} {locs : List Loc} {cells slots : Nat} (X : Stand p l e R s m args below meth c T locs cells slots) (hexec : p.tables.exec = Jvm.exec) {own C : String} {index : Nat} (hown : s.vm.findClass own = some m.cls) (hlink : (Cond.classLink own index C).before args s = true) {a : Addr} (hE : Exact C a T)
    {g : JFrame} (hg : g.method = m) {rest : List Value} (hstack : g.stack = .ref a :: rest) (hdg : decode c.code g.pc = .ok (.checkcast index, 3)) :
    ∃ T', Stand p l e R s m args below meth c T' locs cells slots ∧ T'.heap = T.heap ∧ ∀ target, Steps p.tables e below (T'.setTop { g with pc := g.pc + 3, stack := .ref a :: rest }) target → Steps p.tables e below (T.setTop g) target := by
  obtain ⟨cB, h1, D, h2, h3, h4⟩ := hE
  have h1' : s.vm.findClass C = some cB := by rw [← X.warmed.alike.findClass]; exact h1
  obtain ⟨vm', X', st⟩ := X.checkcastYes hexec hown hlink h2 h4 h1' (by rw [h3]; exact Jvm.Free.SB.assignable_self _ _) hg hstack hdg
  exact ⟨_, X', rfl, fun t h => st t (by rw [← hstack] at h; exact h)⟩
namespace SEq
def yN : MethodName := ⟨"java/lang/String", "equals", "(Ljava/lang/Object;)Z"⟩
abbrev yB : ByteArray := jdk_42_method_66_code
theorem d0 : decode yB 0 = .ok (.aload_n 0, 1) := by decide +kernel
theorem d1 : decode yB 1 = .ok (.aload_n 1, 1) := by decide +kernel
theorem d2 : decode yB 2 = .ok (.if_acmp (.ne) 5, 3) := by decide +kernel
theorem d5 : decode yB 5 = .ok (.iconst 1, 1) := by decide +kernel
theorem d6 : decode yB 6 = .ok (.ireturn, 1) := by decide +kernel
theorem d7 : decode yB 7 = .ok (.aload_n 1, 1) := by decide +kernel
theorem d8 : decode yB 8 = .ok (.instanceof 10, 3) := by decide +kernel
theorem d11 : decode yB 11 = .ok (.ifCond (.eq) 43, 3) := by decide +kernel
theorem d14 : decode yB 14 = .ok (.aload_n 1, 1) := by decide +kernel
theorem d15 : decode yB 15 = .ok (.checkcast 10, 3) := by decide +kernel
theorem d18 : decode yB 18 = .ok (.astore_n 2, 1) := by decide +kernel
theorem d19 : decode yB 19 = .ok (.getstatic 38, 3) := by decide +kernel
theorem d22 : decode yB 22 = .ok (.ifCond (.eq) 14, 3) := by decide +kernel
theorem d25 : decode yB 25 = .ok (.aload_n 0, 1) := by decide +kernel
theorem d26 : decode yB 26 = .ok (.getfield 15, 3) := by decide +kernel
theorem d29 : decode yB 29 = .ok (.aload_n 2, 1) := by decide +kernel
theorem d30 : decode yB 30 = .ok (.getfield 15, 3) := by decide +kernel
theorem d33 : decode yB 33 = .ok (.if_icmp (.ne) 21, 3) := by decide +kernel
theorem d36 : decode yB 36 = .ok (.aload_n 0, 1) := by decide +kernel
theorem d37 : decode yB 37 = .ok (.getfield 9, 3) := by decide +kernel
theorem d40 : decode yB 40 = .ok (.aload_n 2, 1) := by decide +kernel
theorem d41 : decode yB 41 = .ok (.getfield 9, 3) := by decide +kernel
theorem d44 : decode yB 44 = .ok (.invokestatic 541, 3) := by decide +kernel
theorem d47 : decode yB 47 = .ok (.ifCond (.eq) 7, 3) := by decide +kernel
theorem d50 : decode yB 50 = .ok (.iconst 1, 1) := by decide +kernel
theorem d51 : decode yB 51 = .ok (.goto 4, 3) := by decide +kernel
theorem d54 : decode yB 54 = .ok (.iconst 0, 1) := by decide +kernel
theorem d55 : decode yB 55 = .ok (.ireturn, 1) := by decide +kernel
def site : List Cond := [.classLink "java/lang/String" 10 "java/lang/String", .fieldLink "java/lang/String" 38 "java/lang/String" "COMPACT_STRINGS" "Z", .fieldLink "java/lang/String" 15 "java/lang/String" "coder" "B", .fieldLink "java/lang/String" 9 "java/lang/String" "value" "[B", LEq.tab] ++ staticW "java/lang/String" 541 LEq.yN
def tab : Cond := tabOf yN yB 3 (some .boolean) site
def P (x t : Addr) (V : Cell) (cd : Int32) (n : Nat) (f : Nat → Int32) (y t' : Addr) (V' : Cell) (cd' : Int32) (k : Nat) (g : Nat → Int32) (z : Int32) (args : Array Value) (s : State) : Prop := args = #[.ref x, .ref y] ∧ Txt x t V cd n f s ∧ Txt y t' V' cd' k g s ∧ StaticIs s "java/lang/String" "COMPACT_STRINGS" "Z" (.int z) ∧ ¬ z = 0
/-- equals(Object) of two Strings: whether the texts are the same -/
theorem law (l : Launch) (x t : Addr) (V : Cell) (cd : Int32) (n : Nat) (f : Nat → Int32) (y t' : Addr) (V' : Cell) (cd' : Int32) (k : Nat) (g : Nat → Int32) (z : Int32) : Law l yN 2 1 1 14 yB 3 (some .boolean) site (P x t V cd n f y t' V' cd' k g z) (Says01 (SameT n f k g)) [] 0 0 := by
  refine Law.of_walk (plainFor_of_name (by decide +kernel)) (by decide +kernel) (by decide +kernel) (by decide) (fun _ _ h => by rw [h.1]; rfl) (fun _ U U' hal hh h => ⟨h.1, h.2.1.mv hal hh, h.2.2.1.mv hal hh, h.2.2.2.1.there hal hh, h.2.2.2.2⟩) (fun r U U' V V' h1 hal h2 h => Says01.mv r U U' V V' h1 hal h2 h) ?_
  intro p e s m args below meth c s₁ X0 hexec hbytes hml hret hlk hnm hown hh0 W hP
  obtain ⟨rfl, hx, hy, s1, hz⟩ := hP
  have c1 : Steps p.tables e below (s₁.setTop (entryFrame m #[.ref x, .ref y] 3)) (s₁.setTop (mkF m 2 #[.val (.ref x), .val (.ref y), .unset] [.ref y, .ref x])) := Steps.trans (entry rfl) (by
    show Steps p.tables e below (s₁.setTop (mkF m 0 #[.val (.ref x), .val (.ref y), .unset] [])) _
    refine XS.aloadN X0.here hexec rfl (hb hbytes d0) rfl rfl ?_
    refine XS.aloadN X0.here hexec rfl (hb hbytes d1) rfl rfl ?_
    exact Steps.refl _)
  by_cases hxy : x = y
  · have c2 : Steps p.tables e below (s₁.setTop (entryFrame m #[.ref x, .ref y] 3)) (s₁.setTop (mkF m 6 #[.val (.ref x), .val (.ref y), .unset] [.int 1])) := c1.trans (by
      refine acmpNo X0.here hexec rfl (hb hbytes d2) rfl rfl rfl (by simp [acmp, hxy]) ?_
      refine iconstV X0.here hexec rfl 1 (hb hbytes d5) (by decide) ?_
      exact Steps.refl _)
    subst hxy
    have ec : cd = cd' := by
      obtain ⟨D, fd, a1, a2, a3⟩ := hx.2.2.1
      obtain ⟨D', fd', b1, b2, b3⟩ := hy.2.2.1
      cases a1.symm.trans b1
      obtain ⟨q1, q2, q3, q4⟩ := a2.1
      obtain ⟨r1, r2, r3, r4⟩ := b2.1
      cases q4.symm.trans r4
      cases a3.symm.trans b3; rfl
    have et : t = t' := by
      obtain ⟨D, fd, a1, a2, a3⟩ := hx.2.1
      obtain ⟨D', fd', b1, b2, b3⟩ := hy.2.1
      cases a1.symm.trans b1
      obtain ⟨q1, q2, q3, q4⟩ := a2.1
      obtain ⟨r1, r2, r3, r4⟩ := b2.1
      cases q4.symm.trans r4
      cases a3.symm.trans b3; rfl
    subst ec et
    have ev : V = V' := by cases hx.2.2.2.1.1.symm.trans hy.2.2.2.1.1; rfl
    subst ev
    have hs : SameT n f k g := (Cod.eqv hx.2.2.2.2.1 hy.2.2.2.2.1 hx.2.2.2.2.2 hy.2.2.2.2.2).mp ⟨rfl, fun _ _ => rfl⟩
    exact ⟨s₁, some (.int 1), _, _, _, X0, rfl, rfl, rfl, (fun h => by cases h), ⟨1, rfl, hh0, Or.inl ⟨rfl, hs⟩⟩, fun fs hl => c2.trans (X0.ireturnOut hexec hret rfl (Or.inr (Or.inl rfl)) (hb hbytes d6) hl)⟩
  · have c2 : Steps p.tables e below (s₁.setTop (entryFrame m #[.ref x, .ref y] 3)) (s₁.setTop (mkF m 8 #[.val (.ref x), .val (.ref y), .unset] [.ref y])) := c1.trans (by
      refine acmpYes X0.here hexec rfl (pc0 := 2) rfl (hb hbytes d2) rfl rfl rfl (by simp [acmp, hxy]) (by decide) rfl ?_
      refine XS.aloadN X0.here hexec rfl (hb hbytes d7) rfl rfl ?_
      exact Steps.refl _)
    obtain ⟨T3, X3, q3, st3⟩ := cinst X0 hexec hown (wk W (.classLink "java/lang/String" 10 "java/lang/String")) (hy.mv X0.warmed.alike hh0).1 (g := (mkF m 8 #[.val (.ref x), .val (.ref y), .unset] [.ref y])) rfl (rest := []) rfl (hb hbytes d8)
    have hh3 := q3.trans hh0
    have c4 : Steps p.tables e below (s₁.setTop (entryFrame m #[.ref x, .ref y] 3)) (T3.setTop (mkF m 15 #[.val (.ref x), .val (.ref y), .unset] [.ref y])) := (c2.trans (st3 _ (Steps.refl _))).trans (by
      refine XS.ifNo X3.here hexec rfl (hb hbytes d11) rfl (i0_eq_f (by decide)) ?_
      refine XS.aloadN X3.here hexec rfl (hb hbytes d14) rfl rfl ?_
      exact Steps.refl _)
    obtain ⟨T5, X5, q5, st5⟩ := cself X3 hexec hown (wk W (.classLink "java/lang/String" 10 "java/lang/String")) (hy.mv X3.warmed.alike hh3).1 (g := (mkF m 15 #[.val (.ref x), .val (.ref y), .unset] [.ref y])) rfl (rest := []) rfl (hb hbytes d15)
    have hh5 := q5.trans hh3
    have c6 : Steps p.tables e below (s₁.setTop (entryFrame m #[.ref x, .ref y] 3)) (T5.setTop (mkF m 19 #[.val (.ref x), .val (.ref y), .val (.ref y)] [])) := (c4.trans (st5 _ (Steps.refl _))).trans (by
      refine XS.astoreN X5.here hexec rfl (hb hbytes d18) rfl rfl rfl ?_
      exact Steps.refl _)
    obtain ⟨T7, X7, q7, st7⟩ := X5.sget hexec hown (wk W (.fieldLink "java/lang/String" 38 "java/lang/String" "COMPACT_STRINGS" "Z")) s1 (fun _ _ h => by rw [hh5]; exact h) (g := (mkF m 19 #[.val (.ref x), .val (.ref y), .val (.ref y)] [])) rfl (hb hbytes d19)
    have hh7 := q7.trans hh5
    have c8 : Steps p.tables e below (s₁.setTop (entryFrame m #[.ref x, .ref y] 3)) (T7.setTop (mkF m 26 #[.val (.ref x), .val (.ref y), .val (.ref y)] [.ref x])) := (c6.trans (st7 _ (Steps.refl _))).trans (by
      refine XS.ifNo X7.here hexec rfl (hb hbytes d22) rfl (i0_eq_f hz) ?_
      refine XS.aloadN X7.here hexec rfl (hb hbytes d25) rfl rfl ?_
      exact Steps.refl _)
    obtain ⟨T9, X9, q9, st9⟩ := X7.hget hexec hown (wk W (.fieldLink "java/lang/String" 15 "java/lang/String" "coder" "B")) (hx.mv X7.warmed.alike hh7).2.2.1 (g := (mkF m 26 #[.val (.ref x), .val (.ref y), .val (.ref y)] [.ref x])) rfl (rest := []) rfl (hb hbytes d26)
    have hh9 := q9.trans hh7
    have c10 : Steps p.tables e below (s₁.setTop (entryFrame m #[.ref x, .ref y] 3)) (T9.setTop (mkF m 30 #[.val (.ref x), .val (.ref y), .val (.ref y)] [.ref y, .int cd])) := (c8.trans (st9 _ (Steps.refl _))).trans (by
      refine XS.aloadN X9.here hexec rfl (hb hbytes d29) rfl rfl ?_
      exact Steps.refl _)
    obtain ⟨T11, X11, q11, st11⟩ := X9.hget hexec hown (wk W (.fieldLink "java/lang/String" 15 "java/lang/String" "coder" "B")) (hy.mv X9.warmed.alike hh9).2.2.1 (g := (mkF m 30 #[.val (.ref x), .val (.ref y), .val (.ref y)] [.ref y, .int cd])) rfl (rest := [.int cd]) rfl (hb hbytes d30)
    have hh11 := q11.trans hh9
    have c12 : Steps p.tables e below (s₁.setTop (entryFrame m #[.ref x, .ref y] 3)) (T11.setTop (mkF m 33 #[.val (.ref x), .val (.ref y), .val (.ref y)] [.int cd', .int cd])) := c10.trans (st11 _ (Steps.refl _))
    by_cases hcd : cd = cd'
    · subst hcd
      have c13 : Steps p.tables e below (s₁.setTop (entryFrame m #[.ref x, .ref y] 3)) (T11.setTop (mkF m 37 #[.val (.ref x), .val (.ref y), .val (.ref y)] [.ref x])) := c12.trans (by
        refine XS.icmpNo X11.here hexec rfl (hb hbytes d33) rfl (ii_ne_f rfl) ?_
        refine XS.aloadN X11.here hexec rfl (hb hbytes d36) rfl rfl ?_
        exact Steps.refl _)
      obtain ⟨T14, X14, q14, st14⟩ := X11.hget hexec hown (wk W (.fieldLink "java/lang/String" 9 "java/lang/String" "value" "[B")) (hx.mv X11.warmed.alike hh11).2.1 (g := (mkF m 37 #[.val (.ref x), .val (.ref y), .val (.ref y)] [.ref x])) rfl (rest := []) rfl (hb hbytes d37)
      have hh14 := q14.trans hh11
      have c15 : Steps p.tables e below (s₁.setTop (entryFrame m #[.ref x, .ref y] 3)) (T14.setTop (mkF m 41 #[.val (.ref x), .val (.ref y), .val (.ref y)] [.ref y, .ref t])) := (c13.trans (st14 _ (Steps.refl _))).trans (by
        refine XS.aloadN X14.here hexec rfl (hb hbytes d40) rfl rfl ?_
        exact Steps.refl _)
      obtain ⟨T16, X16, q16, st16⟩ := X14.hget hexec hown (wk W (.fieldLink "java/lang/String" 9 "java/lang/String" "value" "[B")) (hy.mv X14.warmed.alike hh14).2.1 (g := (mkF m 41 #[.val (.ref x), .val (.ref y), .val (.ref y)] [.ref y, .ref t])) rfl (rest := [.ref t]) rfl (hb hbytes d41)
      have hh16 := q16.trans hh14
      have c17 : Steps p.tables e below (s₁.setTop (entryFrame m #[.ref x, .ref y] 3)) (T16.setTop (mkF m 44 #[.val (.ref x), .val (.ref y), .val (.ref y)] [.ref t', .ref t])) := c15.trans (st16 _ (Steps.refl _))
      obtain ⟨v18, T18, X18, E18, g18⟩ := X16.callS hexec (LEq.law l t V t' V') hown (wks W (staticW "java/lang/String" 541 LEq.yN)) (wk W LEq.tab) (W := 0) (Nat.le_of_ble_eq_true rfl) (Nat.le_of_ble_eq_true rfl) (Nat.le_refl _) (Nat.le_refl _) (g := (mkF m 44 #[.val (.ref x), .val (.ref y), .val (.ref y)] [.ref t', .ref t])) rfl (by rw [hml]; rfl) c17 (argsL := [.ref t, .ref t']) (rest := []) rfl rfl (by show 2 * 0 + 0 ≤ _; decide) (hb hbytes d44) (⟨rfl, hx.2.2.2.1.mv X16.warmed.alike hh16, hx.2.2.2.2.1.ty, hy.2.2.2.1.mv X16.warmed.alike hh16, hy.2.2.2.2.1.ty⟩)
      obtain ⟨v, rfl, q18, hv⟩ := E18
      have iff := Cod.eqv hx.2.2.2.2.1 hy.2.2.2.2.1 hx.2.2.2.2.2 hy.2.2.2.2.2
      rcases hv with ⟨rfl, he⟩ | ⟨rfl, he⟩
      · have c19 : Steps p.tables e below (s₁.setTop (entryFrame m #[.ref x, .ref y] 3)) (T18.setTop (mkF m 55 #[.val (.ref x), .val (.ref y), .val (.ref y)] [.int 1])) := Steps.trans g18 (by
          refine XS.ifNo X18.here hexec rfl (hb hbytes d47) rfl (i0_eq_f (by decide)) ?_
          refine iconstV X18.here hexec rfl 1 (hb hbytes d50) (by decide) ?_
          refine XS.goto X18.here hexec rfl (pc0 := 51) rfl (hb hbytes d51) (by decide) rfl ?_
          exact Steps.refl _)
        exact ⟨T18, some (.int 1), _, _, _, X18, rfl, rfl, rfl, (fun h => by cases h), ⟨1, rfl, q18.trans hh16, Or.inl ⟨rfl, iff.mp he⟩⟩, fun fs hl => c19.trans (X18.ireturnOut hexec hret rfl (Or.inr (Or.inl rfl)) (hb hbytes d55) hl)⟩
      · have c19 : Steps p.tables e below (s₁.setTop (entryFrame m #[.ref x, .ref y] 3)) (T18.setTop (mkF m 55 #[.val (.ref x), .val (.ref y), .val (.ref y)] [.int 0])) := Steps.trans g18 (by
          refine XS.ifYes X18.here hexec rfl (pc0 := 47) rfl (hb hbytes d47) rfl (i0_eq_t rfl) (by decide) rfl ?_
          refine iconstV X18.here hexec rfl 0 (hb hbytes d54) (by decide) ?_
          exact Steps.refl _)
        exact ⟨T18, some (.int 0), _, _, _, X18, rfl, rfl, rfl, (fun h => by cases h), ⟨0, rfl, q18.trans hh16, Or.inr ⟨rfl, fun q => he (iff.mpr q)⟩⟩, fun fs hl => c19.trans (X18.ireturnOut hexec hret rfl (Or.inr (Or.inl rfl)) (hb hbytes d55) hl)⟩
    · have c13 : Steps p.tables e below (s₁.setTop (entryFrame m #[.ref x, .ref y] 3)) (T11.setTop (mkF m 55 #[.val (.ref x), .val (.ref y), .val (.ref y)] [.int 0])) := c12.trans (by
        refine XS.icmpYes X11.here hexec rfl (pc0 := 33) rfl (hb hbytes d33) rfl (ii_ne_t hcd) (by decide) rfl ?_
        refine iconstV X11.here hexec rfl 0 (hb hbytes d54) (by decide) ?_
        exact Steps.refl _)
      exact ⟨T11, some (.int 0), _, _, _, X11, rfl, rfl, rfl, (fun h => by cases h), ⟨0, rfl, hh11, Or.inr ⟨rfl, Cod.dif hx.2.2.2.2.1 hy.2.2.2.2.1 hcd⟩⟩, fun fs hl => c13.trans (X11.ireturnOut hexec hret rfl (Or.inr (Or.inl rfl)) (hb hbytes d55) hl)⟩
theorem pays {l : Launch} {R : Room} {p : Program} {e : Env} {below : List Frame} {s : State} {sargs : Array Value} {len W : Nat} (x t : Addr) (V : Cell) (cd : Int32) (n : Nat) (f : Nat → Int32) (y t' : Addr) (V' : Cell) (cd' : Int32) (k : Nat) (g : Nat → Int32) (z : Int32) (htab : tab.before sargs s = true) (hfr : 2 ≤ R.frames) (hlo : W + 28 ≤ R.locals) :
    Back l R p e below s sargs yN len W (fun A₁ a₁ => A₁.cells + 0 ≤ R.cells ∧ A₁.slots + 0 ≤ R.slots ∧ P x t V cd n f y t' V' cd' k g z a₁ A₁.U) (fun A₁ _ v₁ B₁ => Says01 (SameT n f k g) v₁ A₁.U B₁.U ∧ B₁.locs = A₁.locs ++ [] ∧ B₁.cells = A₁.cells + 0 ∧ B₁.slots = A₁.slots + 0) :=
  (law l x t V cd n f y t' V' cd' k g z).pays htab hfr (by omega)
end SEq
end StrChars
namespace StrChars.Road
open Jvm Sem ClassFile Op Lib Jvm.Stand Jvm.Free Jvm.Free.XT
open Jvm.Lib.Cold (StaticIs)
/-- the words of String.isEmpty() -/
abbrev wordsEmp : List Jvm.Cond := [.code Emp.yN Emp.yB 1 (some .boolean), .initialized ST, .fieldLink ST 9 ST "value" "[B"]
theorem tabEmp_of {a : Array Value} {s : State} (h : ∀ w ∈ wordsEmp, w.before a s = true) : Emp.tab.before a s = true := unparts (wk h (.code Emp.yN Emp.yB 1 (some .boolean))) (wks h (.initialized Emp.yN.cls :: Emp.site))
theorem movedEmp {Z s : State} {a0 args : Array Value} (hZ : Z.Warmed39 s.vm) (hw : ∀ d ∈ wordsEmp, d.before a0 Z = true) : ∀ d ∈ wordsEmp, d.before args s = true := fun d hd => by
  have t : ∀ d ∈ wordsEmp, (d.onTables && d.keepsFace) = true := by decide +kernel
  exact RoadKit.mv hZ (hw d hd) (t d hd)
/-- the words of String.equals(Object) -/
abbrev wordsEq : List Jvm.Cond := [.code SEq.yN SEq.yB 3 (some .boolean), .initialized ST, .classLink ST 10 ST, .fieldLink ST 38 ST "COMPACT_STRINGS" "Z", .fieldLink ST 15 ST "coder" "B", .fieldLink ST 9 ST "value" "[B", .methodLink ST 541 LEq.yN, .static LEq.yN, .code LEq.yN LEq.yB 3 (some .boolean), .initialized "java/lang/StringLatin1"]
theorem tabEq_of {a : Array Value} {s : State} (h : ∀ w ∈ wordsEq, w.before a s = true) : SEq.tab.before a s = true := by
  have hl : LEq.tab.before a s = true := unparts (wk h (.code LEq.yN LEq.yB 3 (some .boolean))) (wks h (.initialized LEq.yN.cls :: LEq.site))
  have q := consq hl h
  exact unparts (wk q (.code SEq.yN SEq.yB 3 (some .boolean))) (wks q (.initialized SEq.yN.cls :: SEq.site))
theorem movedEq {Z s : State} {a0 args : Array Value} (hZ : Z.Warmed39 s.vm) (hw : ∀ d ∈ wordsEq, d.before a0 Z = true) : ∀ d ∈ wordsEq, d.before args s = true := fun d hd => by
  have t : ∀ d ∈ wordsEq, (d.onTables && d.keepsFace) = true := by decide +kernel
  exact RoadKit.mv hZ (hw d hd) (t d hd)
/-- the road's facts of a String, as the laws ask it -/
theorem txt_of {Z U : State} {a0 : Array Value} {kI : Nat} (wi : (Jvm.Cond.instantiable ST kI).before a0 Z = true) (al : Z.vm.Alike U.vm) {x t : Addr} {kb : ClassId} {cs : List Int32} {cd N2 : Int32} {vs : List Value} (E : RoadKit.Exa Z U.heap x ST) (V : RoadKit.Fld Z U.heap x ST "value" "[B" (.ref t)) (C : RoadKit.Fld Z U.heap x ST "coder" "B" (.int cd)) (K : RoadKit.Arv Z U.heap t kb .byte N2 vs (.int 0)) (hc : CodA cs cd N2 vs) (hb : ∀ c ∈ cs, ¬ c < 0 ∧ ¬ (65535 : Int32) < c) (l2 : cs.length ≤ 4000) :
    ∃ A, Txt x t A cd cs.length (fun j => cs.getD j 0) U := by
  obtain ⟨A, K1, K2, K3, K4, K5, K6⟩ := K
  have hcod := hc.cod (by omega) K3 K5
  obtain ⟨D, fV, fC, hB, F1, F2, g1, g2, -, -⟩ := strObj wi al E V C
  exact ⟨A, ⟨_, hB.2.2.1, D, hB.1, rfl, by cases q : D.vm <;> first | rfl | exact absurd q (hB.2.1.2 _)⟩, Has.of hB F1 g1, Has.of hB F2 g2, ⟨K1.1, State.isArrayOf_alike al K1.2.1, K1.2.2, by rcases hcod with ⟨-, q, -⟩ | ⟨-, q, -⟩ <;> omega⟩, hcod, fun j hj => by
    have e : cs.getD j 0 = cs[j] := by simp [List.getD_eq_getElem?_getD, hj]
    show ¬ cs.getD j 0 < 0 ∧ ¬ 65535 < cs.getD j 0
    rw [e]; exact hb _ (List.getElem_mem _)⟩
theorem same_list (cs ds : List Int32) : SameT cs.length (fun j => cs.getD j 0) ds.length (fun j => ds.getD j 0) ↔ cs = ds := by
  constructor
  · rintro ⟨e, q⟩
    refine List.ext_getElem e fun j h1 h2 => ?_
    have := q j h1
    simpa [List.getD_eq_getElem?_getD, h1, h2] using this
  · rintro rfl
    exact ⟨rfl, fun _ _ => rfl⟩
/-- **isEmpty() OF SUCH A STRING** -/
theorem empW {p : Program} {l : Launch} {e : Env} {R : Room} {s : State} {args : Array Value} {below : List Frame} {len W : Nat} {Z : State} {a0 : Array Value} {h : Heap} (hZ : Z.Warmed39 s.vm) (hw : ∀ d ∈ wordsEmp, d.before a0 Z = true) {kI : Nat} (wi : (Jvm.Cond.instantiable ST kI).before a0 Z = true)
    {x t : Addr} {kb : ClassId} {cs : List Int32} {cd N2 : Int32} {vs : List Value} (E : RoadKit.Exa Z h x ST) (V : RoadKit.Fld Z h x ST "value" "[B" (.ref t)) (C : RoadKit.Fld Z h x ST "coder" "B" (.int cd)) (K : RoadKit.Arv Z h t kb .byte N2 vs (.int 0)) (hc : CodA cs cd N2 vs) (hb : ∀ c ∈ cs, ¬ c < 0 ∧ ¬ (65535 : Int32) < c) (l2 : cs.length ≤ 4000) (hfr : 1 ≤ R.frames) (hlo : W + 12 ≤ R.locals) :
    Back l R p e below s args (⟨"java/lang/String", "isEmpty", "()Z"⟩ : MethodName) len W (fun P a => a = #[.ref x] ∧ P.U.heap = h ∧ P.cells + 0 ≤ R.cells ∧ P.slots + 0 ≤ R.slots)
      (fun P _ v B => ∃ L, (v = some (.int (if cs.length = 0 then 1 else 0)) ∧ L = [] ∧ B.U.heap = h) ∧ B.locs = P.locs ++ L ∧ B.cells = P.cells + 0 ∧ B.slots = P.slots + 0) := by
  intro m meth c P g ig mk a X hg hsize hdg hW hn hp'
  obtain ⟨rfl, rfl, r1, r2⟩ := hp'
  have al : Z.vm.Alike P.U.vm := hZ.alike.trans X.warmed.alike
  obtain ⟨A, hx⟩ := txt_of wi al E V C K hc hb l2
  obtain ⟨v, B, X', ⟨⟨hv, hh⟩, hl, hk, hs⟩, st⟩ := Emp.pays x t A cd cs.length (fun j => cs.getD j 0) (tabEmp_of (movedEmp hZ hw)) hfr hlo m meth c P g ig mk _ X hg hsize hdg hW hn ⟨r1, r2, rfl, hx⟩
  exact ⟨v, B, X', ⟨[], ⟨hv, rfl, hh⟩, hl, hk, hs⟩, st⟩
/-- **equals(Object) OF TWO SUCH STRINGS**: 1 just where the chars are the same -/
theorem eqW {p : Program} {l : Launch} {e : Env} {R : Room} {s : State} {args : Array Value} {below : List Frame} {len W : Nat} {Z : State} {a0 : Array Value} {h : Heap} (hZ : Z.Warmed39 s.vm) (hw : ∀ d ∈ wordsEq, d.before a0 Z = true) {kI : Nat} (wi : (Jvm.Cond.instantiable ST kI).before a0 Z = true)
    {x t : Addr} {kb : ClassId} {cs : List Int32} {cd N2 : Int32} {vs : List Value} (E : RoadKit.Exa Z h x ST) (V : RoadKit.Fld Z h x ST "value" "[B" (.ref t)) (C : RoadKit.Fld Z h x ST "coder" "B" (.int cd)) (K : RoadKit.Arv Z h t kb .byte N2 vs (.int 0)) (hc : CodA cs cd N2 vs) (hb : ∀ c ∈ cs, ¬ c < 0 ∧ ¬ (65535 : Int32) < c) (l2 : cs.length ≤ 4000)
    {y t' : Addr} {kb' : ClassId} {ds : List Int32} {cd' N2' : Int32} {vs' : List Value} (E' : RoadKit.Exa Z h y ST) (V' : RoadKit.Fld Z h y ST "value" "[B" (.ref t')) (C' : RoadKit.Fld Z h y ST "coder" "B" (.int cd')) (K' : RoadKit.Arv Z h t' kb' .byte N2' vs' (.int 0)) (hc' : CodA ds cd' N2' vs') (hb' : ∀ c ∈ ds, ¬ c < 0 ∧ ¬ (65535 : Int32) < c) (l2' : ds.length ≤ 4000)
    {z : Int32} (S : RoadKit.Sta Z h ST "COMPACT_STRINGS" "Z" (.int z)) (hz : ¬ z = 0) (hfr : 2 ≤ R.frames) (hlo : W + 28 ≤ R.locals) :
    Back l R p e below s args (⟨"java/lang/String", "equals", "(Ljava/lang/Object;)Z"⟩ : MethodName) len W (fun P a => a = #[.ref x, .ref y] ∧ P.U.heap = h ∧ P.cells + 0 ≤ R.cells ∧ P.slots + 0 ≤ R.slots)
      (fun P _ v B => ∃ L, (((v = some (.int 1) ∧ cs = ds) ∨ (v = some (.int 0) ∧ ¬ cs = ds)) ∧ L = [] ∧ B.U.heap = h) ∧ B.locs = P.locs ++ L ∧ B.cells = P.cells + 0 ∧ B.slots = P.slots + 0) := by
  intro m meth c P g ig mk a X hg hsize hdg hW hn hp'
  obtain ⟨rfl, rfl, r1, r2⟩ := hp'
  have al : Z.vm.Alike P.U.vm := hZ.alike.trans X.warmed.alike
  obtain ⟨A, hx⟩ := txt_of wi al E V C K hc hb l2
  obtain ⟨A', hy⟩ := txt_of wi al E' V' C' K' hc' hb' l2'
  obtain ⟨v, B, X', ⟨⟨w, hv, hh, hq⟩, hl, hk, hs⟩, st⟩ := SEq.pays x t A cd cs.length (fun j => cs.getD j 0) y t' A' cd' ds.length (fun j => ds.getD j 0) z (tabEq_of (movedEq hZ hw)) hfr hlo m meth c P g ig mk _ X hg hsize hdg hW hn ⟨r1, r2, rfl, hx, hy, sta_is al S, hz⟩
  refine ⟨v, B, X', ⟨[], ⟨?_, rfl, hh⟩, hl, hk, hs⟩, st⟩
  rcases hq with ⟨rfl, q⟩ | ⟨rfl, q⟩
  · exact Or.inl ⟨hv, (same_list cs ds).mp q⟩
  · exact Or.inr ⟨hv, fun e => q ((same_list cs ds).mpr e)⟩
end StrChars.Road
namespace StrChars
open Jvm Sem ClassFile Op Lib Jvm.Stand Jvm.Free.XT Jvm.Free.ALB Jvm.Free.JM Jvm.Free
open Jvm.Lib.Cold (StaticIs)
namespace ChN
def yN : MethodName := ⟨"java/lang/String", "charAt", "(I)C"⟩
abbrev yB : ByteArray := jdk_42_method_56_code
theorem d0 : decode yB 0 = .ok (.aload_n 0, 1) := by decide +kernel
theorem d1 : decode yB 1 = .ok (.invokevirtual 492, 3) := by decide +kernel
theorem d4 : decode yB 4 = .ok (.ifCond (.eq) 12, 3) := by decide +kernel
theorem d7 : decode yB 7 = .ok (.aload_n 0, 1) := by decide +kernel
theorem d8 : decode yB 8 = .ok (.getfield 9, 3) := by decide +kernel
theorem d11 : decode yB 11 = .ok (.iload_n 1, 1) := by decide +kernel
theorem d12 : decode yB 12 = .ok (.invokestatic 495, 3) := by decide +kernel
theorem d15 : decode yB 15 = .ok (.ireturn, 1) := by decide +kernel
def site : List Cond := [.fieldLink "java/lang/String" 9 "java/lang/String" "value" "[B", IsL.tab, LChA.tab] ++ virtW "java/lang/String" 492 "java/lang/String" IsL.yN IsL.yN ++ staticW "java/lang/String" 495 LChA.yN
def tab : Cond := tabOf yN yB 2 (some .char) site
def P (x t : Addr) (V : Cell) (n : Nat) (f : Nat → Int32) (z : Int32) (fm : Value) (i : Nat) (args : Array Value) (s : State) : Prop := args = #[.ref x, .int (Int32.ofNat i)] ∧ Txt x t V 0 n f s ∧ i < n ∧ StaticIs s "java/lang/String" "COMPACT_STRINGS" "Z" (.int z) ∧ ¬ z = 0 ∧ StaticIs s "jdk/internal/util/Preconditions" "SIOOBE_FORMATTER" "Ljava/util/function/BiFunction;" fm ∧ fm.isRef = true
def E (f : Nat → Int32) (i : Nat) (r : Option Value) (s u : State) : Prop := XT.PureE (some (.int (f i))) r s u
/-- charAt(i) of a Latin-1 String of n chars, i < n: f i -/
theorem law (l : Launch) (x t : Addr) (V : Cell) (n : Nat) (f : Nat → Int32) (z : Int32) (fm : Value) (i : Nat) : Law l yN 2 1 3 40 yB 2 (some .char) site (P x t V n f z fm i) (E f i) [] 0 0 := by
  refine Law.of_walk (plainFor_of_name (by decide +kernel)) (by decide +kernel) (by decide +kernel) (by decide) (fun _ _ h => by rw [h.1]; rfl) (fun _ U U' hal hh h => ⟨h.1, h.2.1.mv hal hh, h.2.2.1, h.2.2.2.1.there hal hh, h.2.2.2.2.1, h.2.2.2.2.2.1.there hal hh, h.2.2.2.2.2.2⟩) (fun r U U' V V' h1 hal h2 h => XT.PureE.mv r U U' V V' h1 hal h2 h) ?_
  intro p e s m args below meth c s₁ X0 hexec hbytes hml hret hlk hnm hown hh0 W hP
  obtain ⟨rfl, hx, hi, s1, hz, s3, rf⟩ := hP
  have v31 := hx.2.2.2.1.2.2.2
  have hr := hx.2.2.2.2.2 i hi
  have hx0 := hx.mv X0.warmed.alike hh0
  have c1 : Steps p.tables e below (s₁.setTop (entryFrame m #[.ref x, .int (Int32.ofNat i)] 2)) (s₁.setTop (mkF m 1 #[.val (.ref x), .val (.int (Int32.ofNat i))] [.ref x])) := Steps.trans (entry rfl) (by
    show Steps p.tables e below (s₁.setTop (mkF m 0 #[.val (.ref x), .val (.int (Int32.ofNat i))] [])) _
    refine XS.aloadN X0.here hexec rfl (hb hbytes d0) rfl rfl ?_
    exact Steps.refl _)
  obtain ⟨v2, T2, X2, E2, g2⟩ := X0.callV hexec (IsL.law l x 0 z) hown (wks W (virtW "java/lang/String" 492 "java/lang/String" IsL.yN IsL.yN)) rfl (by decide) (wk W IsL.tab) (W := 0) (Nat.le_of_ble_eq_true rfl) (Nat.le_of_ble_eq_true rfl) (Nat.le_refl _) (Nat.le_refl _) (hx0.1.fc X0.warmed.alike) hx0.1.is (g := (mkF m 1 #[.val (.ref x), .val (.int (Int32.ofNat i))] [.ref x])) rfl (by rw [hml]; rfl) c1 (argsL := []) (rest := []) rfl rfl (by show 2 * 0 + 0 ≤ _; decide) (hb hbytes d1) (⟨rfl, hx0.2.2.1, hx.2.2.2.2.1.cd, s1.there X0.warmed.alike hh0, hz⟩)
  obtain ⟨rfl, q2⟩ := E2
  have hh2 := q2.trans hh0
  have hx2 := hx.mv X2.warmed.alike hh2
  obtain ⟨-, k1, k2⟩ | ⟨k0, -⟩ := hx.2.2.2.2.1
  · have c3 : Steps p.tables e below (s₁.setTop (entryFrame m #[.ref x, .int (Int32.ofNat i)] 2)) (T2.setTop (mkF m 8 #[.val (.ref x), .val (.int (Int32.ofNat i))] [.ref x])) := Steps.trans g2 (by
      refine XS.ifNo X2.here hexec rfl (hb hbytes d4) rfl (i0_eq_f (by decide)) ?_
      refine XS.aloadN X2.here hexec rfl (hb hbytes d7) rfl rfl ?_
      exact Steps.refl _)
    obtain ⟨T4, X4, q4, st4⟩ := X2.hget hexec hown (wk W (.fieldLink "java/lang/String" 9 "java/lang/String" "value" "[B")) hx2.2.1 (g := (mkF m 8 #[.val (.ref x), .val (.int (Int32.ofNat i))] [.ref x])) rfl (rest := []) rfl (hb hbytes d8)
    have hh4 := q4.trans hh2
    have c5 : Steps p.tables e below (s₁.setTop (entryFrame m #[.ref x, .int (Int32.ofNat i)] 2)) (T4.setTop (mkF m 12 #[.val (.ref x), .val (.int (Int32.ofNat i))] [.int (Int32.ofNat i), .ref t])) := (c3.trans (st4 _ (Steps.refl _))).trans (by
      refine XS.iloadN X4.here hexec rfl (hb hbytes d11) rfl ?_
      exact Steps.refl _)
    obtain ⟨v6, T6, X6, E6, g6⟩ := X4.callS hexec (LChA.law l t V i (lo8 (f i)) fm) hown (wks W (staticW "java/lang/String" 495 LChA.yN)) (wk W LChA.tab) (W := 0) (Nat.le_of_ble_eq_true rfl) (Nat.le_of_ble_eq_true rfl) (Nat.le_refl _) (Nat.le_refl _) (g := (mkF m 12 #[.val (.ref x), .val (.int (Int32.ofNat i))] [.int (Int32.ofNat i), .ref t])) rfl (by rw [hml]; rfl) c5 (argsL := [.ref t, .int (Int32.ofNat i)]) (rest := []) rfl rfl (by show 2 * 0 + 0 ≤ _; decide) (hb hbytes d12) (⟨rfl, hx.2.2.2.1.mv X4.warmed.alike hh4, (k2 i hi).1, s3.there X4.warmed.alike hh4, rf⟩)
    obtain ⟨rfl, q6⟩ := E6
    rw [chr8_lo8 hr.1 (k2 i hi).2] at g6
    exact ⟨T6, some (.int (f i)), _, _, _, X6, rfl, rfl, rfl, (fun h => by cases h), ⟨rfl, q6.trans hh4⟩, fun fs hl => Steps.trans g6 (X6.ireturnOut hexec hret (narrow_ch hr.1 hr.2) (Or.inr (Or.inr (Or.inr (Or.inl rfl)))) (hb hbytes d15) hl)⟩
  · exact absurd k0 (by decide)
theorem pays {l : Launch} {R : Room} {p : Program} {e : Env} {below : List Frame} {s : State} {sargs : Array Value} {len W : Nat} (x t : Addr) (V : Cell) (n : Nat) (f : Nat → Int32) (z : Int32) (fm : Value) (i : Nat) (htab : tab.before sargs s = true) (hfr : 4 ≤ R.frames) (hlo : W + 53 ≤ R.locals) :
    Back l R p e below s sargs yN len W (fun A₁ a₁ => A₁.cells + 0 ≤ R.cells ∧ A₁.slots + 0 ≤ R.slots ∧ P x t V n f z fm i a₁ A₁.U) (fun A₁ _ v₁ B₁ => E f i v₁ A₁.U B₁.U ∧ B₁.locs = A₁.locs ++ [] ∧ B₁.cells = A₁.cells + 0 ∧ B₁.slots = A₁.slots + 0) :=
  (law l x t V n f z fm i).pays htab hfr (by omega)
end ChN
end StrChars
namespace StrChars.Road
open Jvm Sem ClassFile Op Lib Jvm.Stand Jvm.Free Jvm.Free.XT
open Jvm.Lib.Cold (StaticIs)
/-- the words of String.charAt(int), the Latin-1 road alone -/
abbrev wordsChN : List Jvm.Cond := [.code ChN.yN ChN.yB 2 (some .char), .initialized ST, .fieldLink ST 9 ST "value" "[B", .fieldLink ST 38 ST "COMPACT_STRINGS" "Z", .fieldLink ST 15 ST "coder" "B", .code IsL.yN IsL.yB 1 (some .boolean), .methodLink ST 492 IsL.yN, .declares IsL.yN, .selects ST IsL.yN IsL.yN, .instanceMethod IsL.yN,
  .methodLink ST 495 LChA.yN, .static LChA.yN, .code LChA.yN LChA.yB 2 (some .char), .initialized "java/lang/StringLatin1", .methodLink "java/lang/StringLatin1" 9 JO.Str_checkIndex.yN, .static JO.Str_checkIndex.yN, .code JO.Str_checkIndex.yN JO.Str_checkIndex.yB 2 none,
  .fieldLink ST 1053 "jdk/internal/util/Preconditions" "SIOOBE_FORMATTER" "Ljava/util/function/BiFunction;", .methodLink ST 1059 JC.PreCheck.yN, .static JC.PreCheck.yN, .code JC.PreCheck.yN JC.PreCheck.yB 3 (some .int), .initialized "jdk/internal/util/Preconditions"]
theorem tabChN_of {a : Array Value} {s : State} (h : ∀ w ∈ wordsChN, w.before a s = true) : ChN.tab.before a s = true := by
  have hp : JC.PreCheck.tab.before a s = true := unparts (wk h (.code JC.PreCheck.yN JC.PreCheck.yB 3 (some .int))) (wks h (.initialized JC.PreCheck.yN.cls :: JC.PreCheck.site))
  have qk := consq hp h
  have hk : JO.Str_checkIndex.tab.before a s = true := unparts (wk qk (.code JO.Str_checkIndex.yN JO.Str_checkIndex.yB 2 none)) (wks qk (.initialized JO.Str_checkIndex.yN.cls :: JO.Str_checkIndex.site))
  have ql := consq hk h
  have hl : LChA.tab.before a s = true := unparts (wk ql (.code LChA.yN LChA.yB 2 (some .char))) (wks ql (.initialized LChA.yN.cls :: LChA.site))
  have hi : IsL.tab.before a s = true := unparts (wk h (.code IsL.yN IsL.yB 1 (some .boolean))) (wks h (.initialized IsL.yN.cls :: IsL.site))
  have q := consq hi (consq hl h)
  exact unparts (wk q (.code ChN.yN ChN.yB 2 (some .char))) (wks q (.initialized ChN.yN.cls :: ChN.site))
theorem movedChN {Z s : State} {a0 args : Array Value} (hZ : Z.Warmed39 s.vm) (hw : ∀ d ∈ wordsChN, d.before a0 Z = true) : ∀ d ∈ wordsChN, d.before args s = true := fun d hd => by
  have t : ∀ d ∈ wordsChN, (d.onTables && d.keepsFace) = true := by decide +kernel
  exact RoadKit.mv hZ (hw d hd) (t d hd)
/-- **charAt(i) OF A LATIN-1 STRING**, i < n: the char -/
theorem chN {p : Program} {l : Launch} {e : Env} {R : Room} {s : State} {args : Array Value} {below : List Frame} {len W : Nat} {Z : State} {a0 : Array Value} {h : Heap} (hZ : Z.Warmed39 s.vm) (hw : ∀ d ∈ wordsChN, d.before a0 Z = true) {kI : Nat} (wi : (Jvm.Cond.instantiable ST kI).before a0 Z = true)
    {x t : Addr} {kb : ClassId} {cs : List Int32} {N2 z : Int32} {vs : List Value} {fm : Value} {i : Nat} {j : Int32} (E : RoadKit.Exa Z h x ST) (V : RoadKit.Fld Z h x ST "value" "[B" (.ref t)) (C : RoadKit.Fld Z h x ST "coder" "B" (.int 0)) (K : RoadKit.Arv Z h t kb .byte N2 vs (.int 0)) (hc : CodA cs 0 N2 vs) (hb : ∀ c ∈ cs, ¬ c < 0 ∧ ¬ (65535 : Int32) < c)
    (S : RoadKit.Sta Z h ST "COMPACT_STRINGS" "Z" (.int z)) (hz : ¬ z = 0) (F : RoadKit.Sta Z h "jdk/internal/util/Preconditions" "SIOOBE_FORMATTER" "Ljava/util/function/BiFunction;" fm) (rf : fm.isRef = true) (l2 : cs.length ≤ 4000) (hi : i < cs.length) (hj : j = Int32.ofNat i) (hfr : 4 ≤ R.frames) (hlo : W + 53 ≤ R.locals) :
    Back l R p e below s args (⟨"java/lang/String", "charAt", "(I)C"⟩ : MethodName) len W (fun P a => a = #[.ref x, .int j] ∧ P.U.heap = h ∧ P.cells + 0 ≤ R.cells ∧ P.slots + 0 ≤ R.slots)
      (fun P _ v B => ∃ L, (v = some (.int (cs.getD i 0)) ∧ L = [] ∧ B.U.heap = h) ∧ B.locs = P.locs ++ L ∧ B.cells = P.cells + 0 ∧ B.slots = P.slots + 0) := by
  subst hj
  intro m meth c P g ig mk a X hg hsize hdg hW hn hp'
  obtain ⟨rfl, rfl, r1, r2⟩ := hp'
  have al : Z.vm.Alike P.U.vm := hZ.alike.trans X.warmed.alike
  obtain ⟨A, hx⟩ := txt_of wi al E V C K hc hb l2
  obtain ⟨v, B, X', ⟨⟨hv, hh⟩, hl, hk, hs⟩, st⟩ := ChN.pays x t A cs.length (fun j => cs.getD j 0) z fm i (tabChN_of (movedChN hZ hw)) hfr hlo m meth c P g ig mk _ X hg hsize hdg hW hn ⟨r1, r2, rfl, hx, hi, sta_is al S, hz, sta_is al F, rf⟩
  exact ⟨v, B, X', ⟨[], ⟨hv, rfl, hh⟩, hl, hk, hs⟩, st⟩
/-- what backV says of its String, as the contracts of this text ask it: cs's low bytes, coder 0 -/
theorem codOf {cs : List Int32} {n : Nat} (hn : cs.length = n) (hb : ∀ c ∈ cs, ¬ 255 < c) : CodA cs 0 (Int32.ofNat n) ((cs.map lo8).map Value.int) := Or.inl ⟨rfl, by rw [hn], by simp [List.map_map, Function.comp_def], hb⟩
end StrChars.Road
end Jvm.Pilot.@@N@@

namespace Jvm.Pilot.@@N@@
open Jvm Jvm.ClassFile Sem Op Lib Jvm.Free Jvm.Stand Jvm.LawKit Jvm.RoadKit Bundle Jvm.Pilot.@@N@@.Jvm.D
theorem own_w {Z : State} {a0 : Array Value} (hw : ∀ d ∈ tables_1, d.before a0 Z = true) (i : Nat) {d : Jvm.Cond} (h : tables_1[i]? = some d) : d.before a0 Z = true := hw d (List.mem_of_getElem? h)
theorem ok {a b : Nat} (h : Nat.ble a b = true) : a ≤ b := Nat.le_of_ble_eq_true h
abbrev y0_ : MethodName := ⟨"com/example/epaulet/epaulet/io/InputFiles", "withoutByteOrderMark", "(Ljava/lang/String;)Ljava/lang/String;"⟩
abbrev y2_ : MethodName := ⟨"com/example/epaulet/epaulet/io/InputFilesWithoutByteOrderMarkPinLaw", "mk", "(ICCC)Ljava/lang/String;"⟩
abbrev y4_ : MethodName := ⟨"java/lang/String", "<init>", "([BB)V"⟩
abbrev y5_ : MethodName := ⟨"java/lang/String", "<init>", "([C)V"⟩
abbrev y6_ : MethodName := ⟨"java/lang/String", "<init>", "([CIILjava/lang/Void;)V"⟩
abbrev y7_ : MethodName := ⟨"java/lang/String", "charAt", "(I)C"⟩
abbrev y11_ : MethodName := ⟨"java/lang/String", "equals", "(Ljava/lang/Object;)Z"⟩
abbrev y12_ : MethodName := ⟨"java/lang/String", "isEmpty", "()Z"⟩
abbrev y13_ : MethodName := ⟨"java/lang/String", "isLatin1", "()Z"⟩
abbrev y14_ : MethodName := ⟨"java/lang/String", "length", "()I"⟩
abbrev y15_ : MethodName := ⟨"java/lang/String", "substring", "(I)Ljava/lang/String;"⟩
abbrev y16_ : MethodName := ⟨"java/lang/String", "substring", "(II)Ljava/lang/String;"⟩
abbrev y17_ : MethodName := ⟨"java/lang/StringUTF16", "charAt", "([BI)C"⟩
abbrev y19_ : MethodName := ⟨"java/lang/StringUTF16", "checkIndex", "(I[B)V"⟩
abbrev y20_ : MethodName := ⟨"java/lang/StringUTF16", "coderFromArrayLen", "([BI)B"⟩
abbrev y23_ : MethodName := ⟨"java/lang/StringUTF16", "compress", "([CII)[B"⟩
abbrev y24_ : MethodName := ⟨"java/lang/StringUTF16", "compress", "([CI[BII)I"⟩
abbrev y25_ : MethodName := ⟨"java/lang/StringUTF16", "getChar", "([BI)C"⟩
abbrev y26_ : MethodName := ⟨"java/lang/StringUTF16", "length", "([B)I"⟩
abbrev y27_ : MethodName := ⟨"java/lang/StringUTF16", "newBytesFor", "(I)[B"⟩
abbrev y28_ : MethodName := ⟨"java/lang/StringUTF16", "newBytesLength", "(I)I"⟩
abbrev y29_ : MethodName := ⟨"java/lang/StringUTF16", "newString", "([BII)Ljava/lang/String;"⟩
abbrev y30_ : MethodName := ⟨"java/lang/StringUTF16", "putChar", "([BII)V"⟩
abbrev y31_ : MethodName := ⟨"java/lang/StringUTF16", "toBytes", "([CII)[B"⟩
theorem own_up {cs : List Int32} (h : ∀ c ∈ cs, ¬ c < 0 ∧ ¬ (255 : Int32) < c) : ∀ c ∈ cs, ¬ c < 0 ∧ ¬ (65535 : Int32) < c := fun c hc => ⟨(h c hc).1, fun q => (h c hc).2 (by rw [Int32.lt_iff_toInt_lt] at q ⊢; have e1 : (65535 : Int32).toInt = 65535 := rfl; have e2 : (255 : Int32).toInt = 255 := rfl; omega)⟩
def EL1 : List (String × Nat) := consts_1
theorem own_EL {Z : State} {a0 : Array Value} (hw : ∀ d ∈ tables_1, d.before a0 Z = true) : EW Z a0 EL1 := (EW.cons (own_w hw 23 rfl) (by decide) (EW.cons (own_w hw 181 rfl) (by decide) EW.nil))
theorem in_atoms : ∀ d ∈ Bundle.stringAtoms, d ∈ tables_1 := by decide +kernel
theorem d1_0 : decode method_2_code 0 = .ok (.iload_n 0, 1) := by decide +kernel
theorem d1_1 : decode method_2_code 1 = .ok (.ldc 7, 2) := by decide +kernel
theorem d1_3 : decode method_2_code 3 = .ok (.iand, 1) := by decide +kernel
theorem d1_4 : decode method_2_code 4 = .ok (.ifCond .eq 6, 3) := by decide +kernel
theorem d1_7 : decode method_2_code 7 = .ok (.ldc 8, 2) := by decide +kernel
theorem d1_9 : decode method_2_code 9 = .ok (.ireturn, 1) := by decide +kernel
theorem d1_10 : decode method_2_code 10 = .ok (.iload_n 0, 1) := by decide +kernel
theorem d1_11 : decode method_2_code 11 = .ok (.ldc 9, 2) := by decide +kernel
theorem d1_13 : decode method_2_code 13 = .ok (.iand, 1) := by decide +kernel
theorem d1_14 : decode method_2_code 14 = .ok (.i2c, 1) := by decide +kernel
theorem d1_15 : decode method_2_code 15 = .ok (.ireturn, 1) := by decide +kernel
theorem pn_com_example_epaulet_epaulet_io_InputFilesWithoutByteOrderMarkPinLaw : plainName "com/example/epaulet/epaulet/io/InputFilesWithoutByteOrderMarkPinLaw" = true := by first | (simp [plainName, overriddenIn]; done) | decide +kernel
theorem efCh (q : Int32) (m : MethodId) : entryFrame m #[(.int q)] 1 = mkF m 0 #[.val (.int q)] [] := by first | (simp [entryFrame, mkF, argsToLocals, Value.category]; done) | rfl
def QCh (Z : State) (q : Int32) (h0 : Heap) (n0 : Nat) (v : Option Value) (h : Heap) (L : List Loc) : Prop := ∃ r, v = some (.int r) ∧ C16 r ∧ Fr n0 L ∧ h = h0
set_option maxRecDepth 65536 in
set_option maxHeartbeats 40000000 in
theorem rmCh (l : Launch) (Z : State) (a0 : Array Value) (hw : ∀ d ∈ tables_1, d.before a0 Z = true) (ws : List Jvm.Cond) (q : Int32) (h0 : Heap) (n0 : Nat) (Z0 : n0 ≤ h0.size) (O0 : Old Z n0 h0) :
    OwnLaw l (⟨"com/example/epaulet/epaulet/io/InputFilesWithoutByteOrderMarkPinLaw", "ch", "(I)C"⟩ : MethodName) method_2_code 1 (some .char) ws (rR 0 0 0 0) #[(.int q)] Z h0 (QCh Z q h0 n0) := by
  refine own_enter (plainFor_of_name pn_com_example_epaulet_epaulet_io_InputFilesWithoutByteOrderMarkPinLaw) (efCh q) ?_
  intro p e s m below meth c s₁ Bd hx hby hml hZ hown X0 e0
  have N0 := Fr.nil n0
  have K0 : Keep h0 h0 [] := Keep.refl _ _
  refine P1.iloadN X0.here hx (hb hby d1_0) rfl ?_
  refine P1.ldcI X0 hx hZ hown (own_w hw 4 rfl) (hb hby d1_1) ?_
  refine P1.iand X0.here hx (hb hby d1_3) ?_
  by_cases hz : (q &&& (65536 : Int32)) = (0 : Int32)
  ·
    have bd := own_and16 q
    refine P1.ifYes X0.here hx 10 (hb hby d1_4) ((if0 _ _).trans (teq (hz : (q &&& (65536 : Int32)) = (0 : Int32))).1) (by decide) (by decide) ?_
    refine P1.iloadN X0.here hx (hb hby d1_10) rfl ?_
    refine P1.ldcI X0 hx hZ hown (own_w hw 5 rfl) (hb hby d1_11) ?_
    refine P1.iand X0.here hx (hb hby d1_13) ?_
    refine P1.i2c X0.here hx (hb hby d1_14) ?_
    have rw1 : ((q &&& (65535 : Int32)).toUInt32.toUInt16.toUInt32.toInt32) = (q &&& (65535 : Int32)) := bd.i2c
    rw [rw1]
    refine Goes.retN X0 hx Bd.notSynchronized (t := .char) Bd.returns (by simp) (hb hby d1_15) (ok rfl) (ok rfl) ?_
    rw [e0]
    exact ⟨_, rfl, by rw [bd.nc]; exact bd, N0, rfl⟩
  ·
    refine P1.ifNo X0.here hx (hb hby d1_4) ((if0 _ _).trans (feq (hz : ¬ ((q &&& (65536 : Int32)) = (0 : Int32)))).1) ?_
    refine P1.ldcI X0 hx hZ hown (own_w hw 79 rfl) (hb hby d1_7) ?_
    refine Goes.retN X0 hx Bd.notSynchronized (t := .char) Bd.returns (by simp) (hb hby d1_9) (ok rfl) (ok rfl) ?_
    rw [e0]
    exact ⟨_, rfl, by unfold C16; decide, N0, rfl⟩
theorem d16_0 : decode jdk_41_method_11_code 0 = .ok (.iload_n 0, 1) := by decide +kernel
theorem d16_1 : decode jdk_41_method_11_code 1 = .ok (.ifCond .lt 8, 3) := by decide +kernel
theorem d16_4 : decode jdk_41_method_11_code 4 = .ok (.iload_n 0, 1) := by decide +kernel
theorem d16_5 : decode jdk_41_method_11_code 5 = .ok (.iload_n 1, 1) := by decide +kernel
theorem d16_6 : decode jdk_41_method_11_code 6 = .ok (.if_icmp .lt 10, 3) := by decide +kernel
theorem d16_16 : decode jdk_41_method_11_code 16 = .ok (.iload_n 0, 1) := by decide +kernel
theorem d16_17 : decode jdk_41_method_11_code 17 = .ok (.ireturn, 1) := by decide +kernel
theorem pn_jdk_internal_util_Preconditions : plainName "jdk/internal/util/Preconditions" = true := by first | (simp [plainName, overriddenIn]; done) | decide +kernel
theorem efCki (i k : Int32) (f : Value) (hc_f : f.category = 1) (m : MethodId) : entryFrame m #[(.int i), (.int k), f] 3 = mkF m 0 #[.val (.int i), .val (.int k), .val f] [] := by cases f <;> simp_all [entryFrame, mkF, argsToLocals, Value.category]
def QCki (Z : State) (i k : Int32) (f : Value) (h0 : Heap) (n0 : Nat) (v : Option Value) (h : Heap) (L : List Loc) : Prop := v = some (.int i) ∧ Fr n0 L ∧ h = h0
set_option maxRecDepth 65536 in
set_option maxHeartbeats 40000000 in
theorem rmCki (l : Launch) (Z : State) (a0 : Array Value) (hw : ∀ d ∈ tables_1, d.before a0 Z = true) (ws : List Jvm.Cond) (i k : Int32) (f : Value) (h0 : Heap) (n0 : Nat) (Z0 : n0 ≤ h0.size) (O0 : Old Z n0 h0) (hi0 : ¬ (i < (0 : Int32))) (hik : i < k) (hc_f : f.category = 1) :
    OwnLaw l (⟨"jdk/internal/util/Preconditions", "checkIndex", "(IILjava/util/function/BiFunction;)I"⟩ : MethodName) jdk_41_method_11_code 3 (some .int) ws (rR 0 0 0 0) #[(.int i), (.int k), f] Z h0 (QCki Z i k f h0 n0) := by
  refine own_enter (plainFor_of_name pn_jdk_internal_util_Preconditions) (efCki i k f hc_f) ?_
  intro p e s m below meth c s₁ Bd hx hby hml hZ hown X0 e0
  have N0 := Fr.nil n0
  have K0 : Keep h0 h0 [] := Keep.refl _ _
  refine P1.iloadN X0.here hx (hb hby d16_0) rfl ?_
  refine P1.ifNo X0.here hx (hb hby d16_1) ((if0 _ _).trans (flt (hi0 : ¬ (i < (0 : Int32)))).1) ?_
  refine P1.iloadN X0.here hx (hb hby d16_4) rfl ?_
  refine P1.iloadN X0.here hx (hb hby d16_5) rfl ?_
  refine P1.icmpYes X0.here hx 16 (hb hby d16_6) (tlt (hik : i < k)).1 (by decide) (by decide) ?_
  refine P1.iloadN X0.here hx (hb hby d16_16) rfl ?_
  refine Goes.retI X0 hx Bd.notSynchronized Bd.returns (hb hby d16_17) (ok rfl) (ok rfl) ?_
  rw [e0]
  exact ⟨rfl, N0, rfl⟩
theorem d15_0 : decode jdk_42_method_155_code 0 = .ok (.iload_n 0, 1) := by decide +kernel
theorem d15_1 : decode jdk_42_method_155_code 1 = .ok (.iload_n 1, 1) := by decide +kernel
theorem d15_2 : decode jdk_42_method_155_code 2 = .ok (.getstatic 1053, 3) := by decide +kernel
theorem d15_5 : decode jdk_42_method_155_code 5 = .ok (.invokestatic 1059, 3) := by decide +kernel
theorem d15_8 : decode jdk_42_method_155_code 8 = .ok (.pop, 1) := by decide +kernel
theorem d15_9 : decode jdk_42_method_155_code 9 = .ok (.return_, 1) := by decide +kernel
theorem pn_java_lang_String : plainName "java/lang/String" = true := by first | (simp [plainName, overriddenIn]; done) | decide +kernel
theorem pd_61929 : parseMethodDescriptor "(IILjava/util/function/BiFunction;)I" = some ⟨[.int, .int, (.object "java/util/function/BiFunction")], some .int⟩ := by decide +kernel
theorem efSci (i k : Int32) (m : MethodId) : entryFrame m #[(.int i), (.int k)] 2 = mkF m 0 #[.val (.int i), .val (.int k)] [] := by first | (simp [entryFrame, mkF, argsToLocals, Value.category]; done) | rfl
def QSci (Z : State) (i k zc : Int32) (fm : Value) (h0 : Heap) (n0 : Nat) (v : Option Value) (h : Heap) (L : List Loc) : Prop := v = none ∧ Fr n0 L ∧ h = h0
set_option maxRecDepth 65536 in
set_option maxHeartbeats 40000000 in
theorem rmSci (l : Launch) (Z : State) (a0 : Array Value) (hw : ∀ d ∈ tables_1, d.before a0 Z = true) (ws : List Jvm.Cond) (i k zc : Int32) (fm : Value) (h0 : Heap) (n0 : Nat) (Z0 : n0 ≤ h0.size) (O0 : Old Z n0 h0) (S_CS : Sta Z Z.heap "java/lang/String" "COMPACT_STRINGS" "Z" (.int zc)) (hzc : ¬ zc = 0) (S_FM : Sta Z Z.heap "jdk/internal/util/Preconditions" "SIOOBE_FORMATTER" "Ljava/util/function/BiFunction;" fm) (hfm : fm.isRef = true) (S_AD : Sta Z Z.heap "java/lang/StringUTF16" "$assertionsDisabled" "Z" (.int (1 : Int32))) (S_HI : Sta Z Z.heap "java/lang/StringUTF16" "HI_BYTE_SHIFT" "I" (.int (0 : Int32))) (S_LO : Sta Z Z.heap "java/lang/StringUTF16" "LO_BYTE_SHIFT" "I" (.int (8 : Int32))) (hi0 : ¬ (i < (0 : Int32))) (hik : i < k) :
    OwnLaw l (⟨"java/lang/String", "checkIndex", "(II)V"⟩ : MethodName) jdk_42_method_155_code 2 none ws (rR 1 0 0 14) #[(.int i), (.int k)] Z h0 (QSci Z i k zc fm h0 n0) := by
  refine own_enter (plainFor_of_name pn_java_lang_String) (efSci i k) ?_
  intro p e s m below meth c s₁ Bd hx hby hml hZ hown X0 e0
  have N0 := Fr.nil n0
  have K0 : Keep h0 h0 [] := Keep.refl _ _
  refine P1.iloadN X0.here hx (hb hby d15_0) rfl ?_
  refine P1.iloadN X0.here hx (hb hby d15_1) rfl ?_
  obtain ⟨T2, X2, e2, st2⟩ := getS2 X0 hx hZ hown (host := "") (Or.inl (own_w hw 73 rfl)) Via.refl e0 (S_FM.ext O0.2) (g := (mkF m 2 #[.val (.int i), .val (.int k)] [(.int k), (.int i)])) rfl (hb hby d15_2)
  refine Goes.step (T' := T2) (g' := (mkF m 5 #[.val (.int i), .val (.int k)] [fm, (.int k), (.int i)])) st2 ?_
  refine P1.callS X2 hx hZ hown (own_w hw 75 rfl) (own_w hw 76 rfl) (own_w hw 74 rfl) (own_w hw 77 rfl) (by decide) (rmCki l Z a0 hw [] i k fm h0 n0 Z0 O0 hi0 hik (own_cat hfm)) hml [(.int i), (.int k), fm] [] (lenOf pd_61929 rfl) rfl rfl (hb hby d15_5) rfl e2 (ok rfl) (ok rfl) (ok rfl) (ok rfl) ?_
  intro v3 T3 L3 q3 X3
  obtain ⟨rfl, N3q, hE3⟩ := q3
  have N3 := Fr.app N0 N3q
  show Goes p e below _ T3 (mkF m 8 #[.val (.int i), .val (.int k)] [(.int i)])
  refine P1.pop X3.here hx (hb hby d15_8) rfl ?_
  refine Goes.retV X3 hx Bd.notSynchronized Bd.returns (hb hby d15_9) (ok rfl) (ok rfl) ?_
  rw [hE3]
  exact ⟨rfl, N3, rfl⟩
theorem d30_0 : decode jdk_41_method_12_code 0 = .ok (.iload_n 0, 1) := by decide +kernel
theorem d30_1 : decode jdk_41_method_12_code 1 = .ok (.ifCond .lt 13, 3) := by decide +kernel
theorem d30_4 : decode jdk_41_method_12_code 4 = .ok (.iload_n 0, 1) := by decide +kernel
theorem d30_5 : decode jdk_41_method_12_code 5 = .ok (.iload_n 1, 1) := by decide +kernel
theorem d30_6 : decode jdk_41_method_12_code 6 = .ok (.if_icmp .gt 8, 3) := by decide +kernel
theorem d30_9 : decode jdk_41_method_12_code 9 = .ok (.iload_n 1, 1) := by decide +kernel
theorem d30_10 : decode jdk_41_method_12_code 10 = .ok (.iload_n 2, 1) := by decide +kernel
theorem d30_11 : decode jdk_41_method_12_code 11 = .ok (.if_icmp .le 11, 3) := by decide +kernel
theorem d30_22 : decode jdk_41_method_12_code 22 = .ok (.iload_n 0, 1) := by decide +kernel
theorem d30_23 : decode jdk_41_method_12_code 23 = .ok (.ireturn, 1) := by decide +kernel
theorem efCft (i j k : Int32) (f : Value) (hc_f : f.category = 1) (m : MethodId) : entryFrame m #[(.int i), (.int j), (.int k), f] 4 = mkF m 0 #[.val (.int i), .val (.int j), .val (.int k), .val f] [] := by cases f <;> simp_all [entryFrame, mkF, argsToLocals, Value.category]
def QCft (Z : State) (i j k : Int32) (f : Value) (h0 : Heap) (n0 : Nat) (v : Option Value) (h : Heap) (L : List Loc) : Prop := v = some (.int i) ∧ Fr n0 L ∧ h = h0
set_option maxRecDepth 65536 in
set_option maxHeartbeats 40000000 in
theorem rmCft (l : Launch) (Z : State) (a0 : Array Value) (hw : ∀ d ∈ tables_1, d.before a0 Z = true) (ws : List Jvm.Cond) (i j k : Int32) (f : Value) (h0 : Heap) (n0 : Nat) (Z0 : n0 ≤ h0.size) (O0 : Old Z n0 h0) (hi0 : ¬ (i < (0 : Int32))) (hij : ¬ (j < i)) (hjk : ¬ (k < j)) (hc_f : f.category = 1) :
    OwnLaw l (⟨"jdk/internal/util/Preconditions", "checkFromToIndex", "(IIILjava/util/function/BiFunction;)I"⟩ : MethodName) jdk_41_method_12_code 4 (some .int) ws (rR 0 0 0 0) #[(.int i), (.int j), (.int k), f] Z h0 (QCft Z i j k f h0 n0) := by
  refine own_enter (plainFor_of_name pn_jdk_internal_util_Preconditions) (efCft i j k f hc_f) ?_
  intro p e s m below meth c s₁ Bd hx hby hml hZ hown X0 e0
  have N0 := Fr.nil n0
  have K0 : Keep h0 h0 [] := Keep.refl _ _
  refine P1.iloadN X0.here hx (hb hby d30_0) rfl ?_
  refine P1.ifNo X0.here hx (hb hby d30_1) ((if0 _ _).trans (flt (hi0 : ¬ (i < (0 : Int32)))).1) ?_
  refine P1.iloadN X0.here hx (hb hby d30_4) rfl ?_
  refine P1.iloadN X0.here hx (hb hby d30_5) rfl ?_
  refine P1.icmpNo X0.here hx (hb hby d30_6) (flt (hij : ¬ (j < i))).2.2.1 ?_
  refine P1.iloadN X0.here hx (hb hby d30_9) rfl ?_
  refine P1.iloadN X0.here hx (hb hby d30_10) rfl ?_
  refine P1.icmpYes X0.here hx 22 (hb hby d30_11) (flt (hjk : ¬ (k < j))).2.2.2 (by decide) (by decide) ?_
  refine P1.iloadN X0.here hx (hb hby d30_22) rfl ?_
  refine Goes.retI X0 hx Bd.notSynchronized Bd.returns (hb hby d30_23) (ok rfl) (ok rfl) ?_
  rw [e0]
  exact ⟨rfl, N0, rfl⟩
theorem d29_0 : decode jdk_42_method_158_code 0 = .ok (.iload_n 0, 1) := by decide +kernel
theorem d29_1 : decode jdk_42_method_158_code 1 = .ok (.iload_n 1, 1) := by decide +kernel
theorem d29_2 : decode jdk_42_method_158_code 2 = .ok (.iload_n 2, 1) := by decide +kernel
theorem d29_3 : decode jdk_42_method_158_code 3 = .ok (.getstatic 1053, 3) := by decide +kernel
theorem d29_6 : decode jdk_42_method_158_code 6 = .ok (.invokestatic 1062, 3) := by decide +kernel
theorem d29_9 : decode jdk_42_method_158_code 9 = .ok (.pop, 1) := by decide +kernel
theorem d29_10 : decode jdk_42_method_158_code 10 = .ok (.return_, 1) := by decide +kernel
theorem pd_65354 : parseMethodDescriptor "(IIILjava/util/function/BiFunction;)I" = some ⟨[.int, .int, .int, (.object "java/util/function/BiFunction")], some .int⟩ := by decide +kernel
theorem efCbe (i j k : Int32) (m : MethodId) : entryFrame m #[(.int i), (.int j), (.int k)] 3 = mkF m 0 #[.val (.int i), .val (.int j), .val (.int k)] [] := by first | (simp [entryFrame, mkF, argsToLocals, Value.category]; done) | rfl
def QCbe (Z : State) (i j k zc : Int32) (fm : Value) (h0 : Heap) (n0 : Nat) (v : Option Value) (h : Heap) (L : List Loc) : Prop := v = none ∧ Fr n0 L ∧ h = h0
set_option maxRecDepth 65536 in
set_option maxHeartbeats 40000000 in
theorem rmCbe (l : Launch) (Z : State) (a0 : Array Value) (hw : ∀ d ∈ tables_1, d.before a0 Z = true) (ws : List Jvm.Cond) (i j k zc : Int32) (fm : Value) (h0 : Heap) (n0 : Nat) (Z0 : n0 ≤ h0.size) (O0 : Old Z n0 h0) (S_CS : Sta Z Z.heap "java/lang/String" "COMPACT_STRINGS" "Z" (.int zc)) (hzc : ¬ zc = 0) (S_FM : Sta Z Z.heap "jdk/internal/util/Preconditions" "SIOOBE_FORMATTER" "Ljava/util/function/BiFunction;" fm) (hfm : fm.isRef = true) (S_AD : Sta Z Z.heap "java/lang/StringUTF16" "$assertionsDisabled" "Z" (.int (1 : Int32))) (S_HI : Sta Z Z.heap "java/lang/StringUTF16" "HI_BYTE_SHIFT" "I" (.int (0 : Int32))) (S_LO : Sta Z Z.heap "java/lang/StringUTF16" "LO_BYTE_SHIFT" "I" (.int (8 : Int32))) (hi0 : ¬ (i < (0 : Int32))) (hij : ¬ (j < i)) (hjk : ¬ (k < j)) :
    OwnLaw l (⟨"java/lang/String", "checkBoundsBeginEnd", "(III)V"⟩ : MethodName) jdk_42_method_158_code 3 none ws (rR 1 0 0 15) #[(.int i), (.int j), (.int k)] Z h0 (QCbe Z i j k zc fm h0 n0) := by
  refine own_enter (plainFor_of_name pn_java_lang_String) (efCbe i j k) ?_
  intro p e s m below meth c s₁ Bd hx hby hml hZ hown X0 e0
  have N0 := Fr.nil n0
  have K0 : Keep h0 h0 [] := Keep.refl _ _
  refine P1.iloadN X0.here hx (hb hby d29_0) rfl ?_
  refine P1.iloadN X0.here hx (hb hby d29_1) rfl ?_
  refine P1.iloadN X0.here hx (hb hby d29_2) rfl ?_
  obtain ⟨T4, X4, e4, st4⟩ := getS2 X0 hx hZ hown (host := "") (Or.inl (own_w hw 73 rfl)) Via.refl e0 (S_FM.ext O0.2) (g := (mkF m 3 #[.val (.int i), .val (.int j), .val (.int k)] [(.int k), (.int j), (.int i)])) rfl (hb hby d29_3)
  refine Goes.step (T' := T4) (g' := (mkF m 6 #[.val (.int i), .val (.int j), .val (.int k)] [fm, (.int k), (.int j), (.int i)])) st4 ?_
  refine P1.callS X4 hx hZ hown (own_w hw 132 rfl) (own_w hw 133 rfl) (own_w hw 74 rfl) (own_w hw 134 rfl) (by decide) (rmCft l Z a0 hw [] i j k fm h0 n0 Z0 O0 hi0 hij hjk (own_cat hfm)) hml [(.int i), (.int j), (.int k), fm] [] (lenOf pd_65354 rfl) rfl rfl (hb hby d29_6) rfl e4 (ok rfl) (ok rfl) (ok rfl) (ok rfl) ?_
  intro v5 T5 L5 q5 X5
  obtain ⟨rfl, N5q, hE5⟩ := q5
  have N5 := Fr.app N0 N5q
  show Goes p e below _ T5 (mkF m 9 #[.val (.int i), .val (.int j), .val (.int k)] [(.int i)])
  refine P1.pop X5.here hx (hb hby d29_9) rfl ?_
  refine Goes.retV X5 hx Bd.notSynchronized Bd.returns (hb hby d29_10) (ok rfl) (ok rfl) ?_
  rw [hE5]
  exact ⟨rfl, N5, rfl⟩
theorem d19_0 : decode jdk_52_method_3_code 0 = .ok (.iload_n 0, 1) := by decide +kernel
theorem d19_1 : decode jdk_52_method_3_code 1 = .ok (.ifCond .ge 11, 3) := by decide +kernel
theorem d19_12 : decode jdk_52_method_3_code 12 = .ok (.iload_n 0, 1) := by decide +kernel
theorem d19_13 : decode jdk_52_method_3_code 13 = .ok (.ldc 20, 2) := by decide +kernel
theorem d19_15 : decode jdk_52_method_3_code 15 = .ok (.if_icmp .lt 40, 3) := by decide +kernel
theorem d19_55 : decode jdk_52_method_3_code 55 = .ok (.iload_n 0, 1) := by decide +kernel
theorem d19_56 : decode jdk_52_method_3_code 56 = .ok (.iconst 1, 1) := by decide +kernel
theorem d19_57 : decode jdk_52_method_3_code 57 = .ok (.ishl, 1) := by decide +kernel
theorem d19_58 : decode jdk_52_method_3_code 58 = .ok (.ireturn, 1) := by decide +kernel
theorem pn_java_lang_StringUTF16 : plainName "java/lang/StringUTF16" = true := by first | (simp [plainName, overriddenIn]; done) | decide +kernel
theorem efNl1  (m : MethodId) : entryFrame m #[(.int (1 : Int32))] 1 = mkF m 0 #[.val (.int (1 : Int32))] [] := by first | (simp [entryFrame, mkF, argsToLocals, Value.category]; done) | rfl
def QNl1 (Z : State)  (h0 : Heap) (n0 : Nat) (v : Option Value) (h : Heap) (L : List Loc) : Prop := v = some (.int (2 : Int32)) ∧ Fr n0 L ∧ h = h0
set_option maxRecDepth 65536 in
set_option maxHeartbeats 40000000 in
theorem rmNl1 (l : Launch) (Z : State) (a0 : Array Value) (hw : ∀ d ∈ tables_1, d.before a0 Z = true) (ws : List Jvm.Cond)  (h0 : Heap) (n0 : Nat) (Z0 : n0 ≤ h0.size) (O0 : Old Z n0 h0) :
    OwnLaw l y28_ jdk_52_method_3_code 1 (some .int) ws (rR 0 0 0 0) #[(.int (1 : Int32))] Z h0 (QNl1 Z  h0 n0) := by
  refine own_enter (plainFor_of_name pn_java_lang_StringUTF16) (efNl1 ) ?_
  intro p e s m below meth c s₁ Bd hx hby hml hZ hown X0 e0
  have N0 := Fr.nil n0
  have K0 : Keep h0 h0 [] := Keep.refl _ _
  refine P1.iloadN X0.here hx (hb hby d19_0) rfl ?_
  refine P1.ifYes X0.here hx 12 (hb hby d19_1) ((if0 _ _).trans (flt (by decide : ¬ ((1 : Int32) < (0 : Int32)))).2.1) (by decide) (by decide) ?_
  refine P1.iloadN X0.here hx (hb hby d19_12) rfl ?_
  refine P1.ldcI X0 hx hZ hown (own_w hw 89 rfl) (hb hby d19_13) ?_
  refine P1.icmpYes X0.here hx 55 (hb hby d19_15) (tlt (by decide : (1 : Int32) < (1073741823 : Int32))).1 (by decide) (by decide) ?_
  refine P1.iloadN X0.here hx (hb hby d19_55) rfl ?_
  refine P1.iconst X0.here hx (1 : Int32) (hb hby d19_56) rfl ?_
  refine P1.ishl X0.here hx (hb hby d19_57) ?_
  have rw6 : ((1 : Int32) <<< ((1 : Int32) &&& 31)) = (2 : Int32) := by decide
  rw [rw6]
  refine Goes.retI X0 hx Bd.notSynchronized Bd.returns (hb hby d19_58) (ok rfl) (ok rfl) ?_
  rw [e0]
  exact ⟨rfl, N0, rfl⟩
theorem efNl2  (m : MethodId) : entryFrame m #[(.int (2 : Int32))] 1 = mkF m 0 #[.val (.int (2 : Int32))] [] := by first | (simp [entryFrame, mkF, argsToLocals, Value.category]; done) | rfl
def QNl2 (Z : State)  (h0 : Heap) (n0 : Nat) (v : Option Value) (h : Heap) (L : List Loc) : Prop := v = some (.int (4 : Int32)) ∧ Fr n0 L ∧ h = h0
set_option maxRecDepth 65536 in
set_option maxHeartbeats 40000000 in
theorem rmNl2 (l : Launch) (Z : State) (a0 : Array Value) (hw : ∀ d ∈ tables_1, d.before a0 Z = true) (ws : List Jvm.Cond)  (h0 : Heap) (n0 : Nat) (Z0 : n0 ≤ h0.size) (O0 : Old Z n0 h0) :
    OwnLaw l y28_ jdk_52_method_3_code 1 (some .int) ws (rR 0 0 0 0) #[(.int (2 : Int32))] Z h0 (QNl2 Z  h0 n0) := by
  refine own_enter (plainFor_of_name pn_java_lang_StringUTF16) (efNl2 ) ?_
  intro p e s m below meth c s₁ Bd hx hby hml hZ hown X0 e0
  have N0 := Fr.nil n0
  have K0 : Keep h0 h0 [] := Keep.refl _ _
  refine P1.iloadN X0.here hx (hb hby d19_0) rfl ?_
  refine P1.ifYes X0.here hx 12 (hb hby d19_1) ((if0 _ _).trans (flt (by decide : ¬ ((2 : Int32) < (0 : Int32)))).2.1) (by decide) (by decide) ?_
  refine P1.iloadN X0.here hx (hb hby d19_12) rfl ?_
  refine P1.ldcI X0 hx hZ hown (own_w hw 89 rfl) (hb hby d19_13) ?_
  refine P1.icmpYes X0.here hx 55 (hb hby d19_15) (tlt (by decide : (2 : Int32) < (1073741823 : Int32))).1 (by decide) (by decide) ?_
  refine P1.iloadN X0.here hx (hb hby d19_55) rfl ?_
  refine P1.iconst X0.here hx (1 : Int32) (hb hby d19_56) rfl ?_
  refine P1.ishl X0.here hx (hb hby d19_57) ?_
  have rw7 : ((2 : Int32) <<< ((1 : Int32) &&& 31)) = (4 : Int32) := by decide
  rw [rw7]
  refine Goes.retI X0 hx Bd.notSynchronized Bd.returns (hb hby d19_58) (ok rfl) (ok rfl) ?_
  rw [e0]
  exact ⟨rfl, N0, rfl⟩
theorem efNl3  (m : MethodId) : entryFrame m #[(.int (3 : Int32))] 1 = mkF m 0 #[.val (.int (3 : Int32))] [] := by first | (simp [entryFrame, mkF, argsToLocals, Value.category]; done) | rfl
def QNl3 (Z : State)  (h0 : Heap) (n0 : Nat) (v : Option Value) (h : Heap) (L : List Loc) : Prop := v = some (.int (6 : Int32)) ∧ Fr n0 L ∧ h = h0
set_option maxRecDepth 65536 in
set_option maxHeartbeats 40000000 in
theorem rmNl3 (l : Launch) (Z : State) (a0 : Array Value) (hw : ∀ d ∈ tables_1, d.before a0 Z = true) (ws : List Jvm.Cond)  (h0 : Heap) (n0 : Nat) (Z0 : n0 ≤ h0.size) (O0 : Old Z n0 h0) :
    OwnLaw l y28_ jdk_52_method_3_code 1 (some .int) ws (rR 0 0 0 0) #[(.int (3 : Int32))] Z h0 (QNl3 Z  h0 n0) := by
  refine own_enter (plainFor_of_name pn_java_lang_StringUTF16) (efNl3 ) ?_
  intro p e s m below meth c s₁ Bd hx hby hml hZ hown X0 e0
  have N0 := Fr.nil n0
  have K0 : Keep h0 h0 [] := Keep.refl _ _
  refine P1.iloadN X0.here hx (hb hby d19_0) rfl ?_
  refine P1.ifYes X0.here hx 12 (hb hby d19_1) ((if0 _ _).trans (flt (by decide : ¬ ((3 : Int32) < (0 : Int32)))).2.1) (by decide) (by decide) ?_
  refine P1.iloadN X0.here hx (hb hby d19_12) rfl ?_
  refine P1.ldcI X0 hx hZ hown (own_w hw 89 rfl) (hb hby d19_13) ?_
  refine P1.icmpYes X0.here hx 55 (hb hby d19_15) (tlt (by decide : (3 : Int32) < (1073741823 : Int32))).1 (by decide) (by decide) ?_
  refine P1.iloadN X0.here hx (hb hby d19_55) rfl ?_
  refine P1.iconst X0.here hx (1 : Int32) (hb hby d19_56) rfl ?_
  refine P1.ishl X0.here hx (hb hby d19_57) ?_
  have rw8 : ((3 : Int32) <<< ((1 : Int32) &&& 31)) = (6 : Int32) := by decide
  rw [rw8]
  refine Goes.retI X0 hx Bd.notSynchronized Bd.returns (hb hby d19_58) (ok rfl) (ok rfl) ?_
  rw [e0]
  exact ⟨rfl, N0, rfl⟩
theorem d24_0 : decode jdk_52_method_6_code 0 = .ok (.aload_n 0, 1) := by decide +kernel
theorem d24_1 : decode jdk_52_method_6_code 1 = .ok (.arraylength, 1) := by decide +kernel
theorem d24_2 : decode jdk_52_method_6_code 2 = .ok (.iconst 1, 1) := by decide +kernel
theorem d24_3 : decode jdk_52_method_6_code 3 = .ok (.ishr, 1) := by decide +kernel
theorem d24_4 : decode jdk_52_method_6_code 4 = .ok (.ireturn, 1) := by decide +kernel
theorem efUl2 (r : Addr) (m : MethodId) : entryFrame m #[(.ref r)] 1 = mkF m 0 #[.val (.ref r)] [] := by first | (simp [entryFrame, mkF, argsToLocals, Value.category]; done) | rfl
def QUl2 (Z : State) (r : Addr) (kr : ClassId) (vs : List Value) (h0 : Heap) (n0 : Nat) (v : Option Value) (h : Heap) (L : List Loc) : Prop := v = some (.int (1 : Int32)) ∧ Fr n0 L ∧ h = h0
set_option maxRecDepth 65536 in
set_option maxHeartbeats 40000000 in
theorem rmUl2 (l : Launch) (Z : State) (a0 : Array Value) (hw : ∀ d ∈ tables_1, d.before a0 Z = true) (ws : List Jvm.Cond) (r : Addr) (kr : ClassId) (vs : List Value) (h0 : Heap) (n0 : Nat) (Z0 : n0 ≤ h0.size) (O0 : Old Z n0 h0) (Vr : Arv Z h0 r kr .byte (2 : Int32) vs (.int (0 : Int32))) :
    OwnLaw l y26_ jdk_52_method_6_code 1 (some .int) ws (rR 0 0 0 0) #[(.ref r)] Z h0 (QUl2 Z r kr vs h0 n0) := by
  refine own_enter (plainFor_of_name pn_java_lang_StringUTF16) (efUl2 r) ?_
  intro p e s m below meth c s₁ Bd hx hby hml hZ hown X0 e0
  have N0 := Fr.nil n0
  have K0 : Keep h0 h0 [] := Keep.refl _ _
  refine P1.aloadN X0.here hx (hb hby d24_0) rfl rfl ?_
  obtain ⟨cl9, Ar9, qk9, sl9, nz9, ha9, fi9⟩ := id Vr
  have al10 : cl9.slots.size.toInt32 = (2 : Int32) := len_of sl9 nz9
  refine Goes.step (T' := s₁) (g' := (mkF m 2 #[.val (.ref r)] [(.int (2 : Int32))])) (fun t_ k_ => X0.arraylength hx (by rw [e0]; exact Ar9.1) (State.isArrayOf_alike hZ.alike Ar9.2.1) (g := (mkF m 1 #[.val (.ref r)] [(.ref r)])) rfl rfl (hb hby d24_1) _ <| by rw [al10]; exact k_) ?_
  refine P1.iconst X0.here hx (1 : Int32) (hb hby d24_2) rfl ?_
  refine P1.ishr X0.here hx (hb hby d24_3) ?_
  have rw11 : ((2 : Int32) >>> ((1 : Int32) &&& 31)) = (1 : Int32) := by decide
  rw [rw11]
  refine Goes.retI X0 hx Bd.notSynchronized Bd.returns (hb hby d24_4) (ok rfl) (ok rfl) ?_
  rw [e0]
  exact ⟨rfl, N0, rfl⟩
theorem efUl4 (r : Addr) (m : MethodId) : entryFrame m #[(.ref r)] 1 = mkF m 0 #[.val (.ref r)] [] := by first | (simp [entryFrame, mkF, argsToLocals, Value.category]; done) | rfl
def QUl4 (Z : State) (r : Addr) (kr : ClassId) (vs : List Value) (h0 : Heap) (n0 : Nat) (v : Option Value) (h : Heap) (L : List Loc) : Prop := v = some (.int (2 : Int32)) ∧ Fr n0 L ∧ h = h0
set_option maxRecDepth 65536 in
set_option maxHeartbeats 40000000 in
theorem rmUl4 (l : Launch) (Z : State) (a0 : Array Value) (hw : ∀ d ∈ tables_1, d.before a0 Z = true) (ws : List Jvm.Cond) (r : Addr) (kr : ClassId) (vs : List Value) (h0 : Heap) (n0 : Nat) (Z0 : n0 ≤ h0.size) (O0 : Old Z n0 h0) (Vr : Arv Z h0 r kr .byte (4 : Int32) vs (.int (0 : Int32))) :
    OwnLaw l y26_ jdk_52_method_6_code 1 (some .int) ws (rR 0 0 0 0) #[(.ref r)] Z h0 (QUl4 Z r kr vs h0 n0) := by
  refine own_enter (plainFor_of_name pn_java_lang_StringUTF16) (efUl4 r) ?_
  intro p e s m below meth c s₁ Bd hx hby hml hZ hown X0 e0
  have N0 := Fr.nil n0
  have K0 : Keep h0 h0 [] := Keep.refl _ _
  refine P1.aloadN X0.here hx (hb hby d24_0) rfl rfl ?_
  obtain ⟨cl12, Ar12, qk12, sl12, nz12, ha12, fi12⟩ := id Vr
  have al13 : cl12.slots.size.toInt32 = (4 : Int32) := len_of sl12 nz12
  refine Goes.step (T' := s₁) (g' := (mkF m 2 #[.val (.ref r)] [(.int (4 : Int32))])) (fun t_ k_ => X0.arraylength hx (by rw [e0]; exact Ar12.1) (State.isArrayOf_alike hZ.alike Ar12.2.1) (g := (mkF m 1 #[.val (.ref r)] [(.ref r)])) rfl rfl (hb hby d24_1) _ <| by rw [al13]; exact k_) ?_
  refine P1.iconst X0.here hx (1 : Int32) (hb hby d24_2) rfl ?_
  refine P1.ishr X0.here hx (hb hby d24_3) ?_
  have rw14 : ((4 : Int32) >>> ((1 : Int32) &&& 31)) = (2 : Int32) := by decide
  rw [rw14]
  refine Goes.retI X0 hx Bd.notSynchronized Bd.returns (hb hby d24_4) (ok rfl) (ok rfl) ?_
  rw [e0]
  exact ⟨rfl, N0, rfl⟩
theorem efUl6 (r : Addr) (m : MethodId) : entryFrame m #[(.ref r)] 1 = mkF m 0 #[.val (.ref r)] [] := by first | (simp [entryFrame, mkF, argsToLocals, Value.category]; done) | rfl
def QUl6 (Z : State) (r : Addr) (kr : ClassId) (vs : List Value) (h0 : Heap) (n0 : Nat) (v : Option Value) (h : Heap) (L : List Loc) : Prop := v = some (.int (3 : Int32)) ∧ Fr n0 L ∧ h = h0
set_option maxRecDepth 65536 in
set_option maxHeartbeats 40000000 in
theorem rmUl6 (l : Launch) (Z : State) (a0 : Array Value) (hw : ∀ d ∈ tables_1, d.before a0 Z = true) (ws : List Jvm.Cond) (r : Addr) (kr : ClassId) (vs : List Value) (h0 : Heap) (n0 : Nat) (Z0 : n0 ≤ h0.size) (O0 : Old Z n0 h0) (Vr : Arv Z h0 r kr .byte (6 : Int32) vs (.int (0 : Int32))) :
    OwnLaw l y26_ jdk_52_method_6_code 1 (some .int) ws (rR 0 0 0 0) #[(.ref r)] Z h0 (QUl6 Z r kr vs h0 n0) := by
  refine own_enter (plainFor_of_name pn_java_lang_StringUTF16) (efUl6 r) ?_
  intro p e s m below meth c s₁ Bd hx hby hml hZ hown X0 e0
  have N0 := Fr.nil n0
  have K0 : Keep h0 h0 [] := Keep.refl _ _
  refine P1.aloadN X0.here hx (hb hby d24_0) rfl rfl ?_
  obtain ⟨cl15, Ar15, qk15, sl15, nz15, ha15, fi15⟩ := id Vr
  have al16 : cl15.slots.size.toInt32 = (6 : Int32) := len_of sl15 nz15
  refine Goes.step (T' := s₁) (g' := (mkF m 2 #[.val (.ref r)] [(.int (6 : Int32))])) (fun t_ k_ => X0.arraylength hx (by rw [e0]; exact Ar15.1) (State.isArrayOf_alike hZ.alike Ar15.2.1) (g := (mkF m 1 #[.val (.ref r)] [(.ref r)])) rfl rfl (hb hby d24_1) _ <| by rw [al16]; exact k_) ?_
  refine P1.iconst X0.here hx (1 : Int32) (hb hby d24_2) rfl ?_
  refine P1.ishr X0.here hx (hb hby d24_3) ?_
  have rw17 : ((6 : Int32) >>> ((1 : Int32) &&& 31)) = (3 : Int32) := by decide
  rw [rw17]
  refine Goes.retI X0 hx Bd.notSynchronized Bd.returns (hb hby d24_4) (ok rfl) (ok rfl) ?_
  rw [e0]
  exact ⟨rfl, N0, rfl⟩
theorem d11_0 : decode jdk_52_method_15_code 0 = .ok (.iload_n 1, 1) := by decide +kernel
theorem d11_1 : decode jdk_52_method_15_code 1 = .ok (.aload_n 0, 1) := by decide +kernel
theorem d11_2 : decode jdk_52_method_15_code 2 = .ok (.arraylength, 1) := by decide +kernel
theorem d11_3 : decode jdk_52_method_15_code 3 = .ok (.isub, 1) := by decide +kernel
theorem d11_4 : decode jdk_52_method_15_code 4 = .ok (.bipush 31, 2) := by decide +kernel
theorem d11_6 : decode jdk_52_method_15_code 6 = .ok (.iushr, 1) := by decide +kernel
theorem d11_7 : decode jdk_52_method_15_code 7 = .ok (.i2b, 1) := by decide +kernel
theorem d11_8 : decode jdk_52_method_15_code 8 = .ok (.ireturn, 1) := by decide +kernel
theorem efCf1_1 (r : Addr) (m : MethodId) : entryFrame m #[(.ref r), (.int (1 : Int32))] 2 = mkF m 0 #[.val (.ref r), .val (.int (1 : Int32))] [] := by first | (simp [entryFrame, mkF, argsToLocals, Value.category]; done) | rfl
def QCf1_1 (Z : State) (r : Addr) (kr : ClassId) (vs : List Value) (h0 : Heap) (n0 : Nat) (v : Option Value) (h : Heap) (L : List Loc) : Prop := v = some (.int (0 : Int32)) ∧ Fr n0 L ∧ h = h0
set_option maxRecDepth 65536 in
set_option maxHeartbeats 40000000 in
theorem rmCf1_1 (l : Launch) (Z : State) (a0 : Array Value) (hw : ∀ d ∈ tables_1, d.before a0 Z = true) (ws : List Jvm.Cond) (r : Addr) (kr : ClassId) (vs : List Value) (h0 : Heap) (n0 : Nat) (Z0 : n0 ≤ h0.size) (O0 : Old Z n0 h0) (Vr : Arv Z h0 r kr .byte (1 : Int32) vs (.int (0 : Int32))) :
    OwnLaw l y20_ jdk_52_method_15_code 2 (some .byte) ws (rR 0 0 0 0) #[(.ref r), (.int (1 : Int32))] Z h0 (QCf1_1 Z r kr vs h0 n0) := by
  refine own_enter (plainFor_of_name pn_java_lang_StringUTF16) (efCf1_1 r) ?_
  intro p e s m below meth c s₁ Bd hx hby hml hZ hown X0 e0
  have N0 := Fr.nil n0
  have K0 : Keep h0 h0 [] := Keep.refl _ _
  refine P1.iloadN X0.here hx (hb hby d11_0) rfl ?_
  refine P1.aloadN X0.here hx (hb hby d11_1) rfl rfl ?_
  obtain ⟨cl18, Ar18, qk18, sl18, nz18, ha18, fi18⟩ := id Vr
  have al19 : cl18.slots.size.toInt32 = (1 : Int32) := len_of sl18 nz18
  refine Goes.step (T' := s₁) (g' := (mkF m 3 #[.val (.ref r), .val (.int (1 : Int32))] [(.int (1 : Int32)), (.int (1 : Int32))])) (fun t_ k_ => X0.arraylength hx (by rw [e0]; exact Ar18.1) (State.isArrayOf_alike hZ.alike Ar18.2.1) (g := (mkF m 2 #[.val (.ref r), .val (.int (1 : Int32))] [(.ref r), (.int (1 : Int32))])) rfl rfl (hb hby d11_2) _ <| by rw [al19]; exact k_) ?_
  refine P1.isub X0.here hx (hb hby d11_3) ?_
  have rw20 : ((1 : Int32) - (1 : Int32)) = (0 : Int32) := by decide
  rw [rw20]
  refine P1.bipush X0.here hx (31 : Int32) (hb hby d11_4) rfl ?_
  refine Goes.step (T' := s₁) (g' := (mkF m 7 #[.val (.ref r), .val (.int (1 : Int32))] [(.int (((0 : Int32).toUInt32 >>> ((31 : Int32) &&& 31).toUInt32).toInt32))])) (fun t_ k_ => XS.iushr X0.here hx rfl (hb hby d11_6) rfl k_) ?_
  have rw21 : (((0 : Int32).toUInt32 >>> ((31 : Int32) &&& 31).toUInt32).toInt32) = (0 : Int32) := by decide
  rw [rw21]
  refine P1.i2b X0.here hx (hb hby d11_7) ?_
  have rw22 : ((0 : Int32).toInt8.toInt32) = (0 : Int32) := by decide
  rw [rw22]
  refine Goes.retN X0 hx Bd.notSynchronized (t := .byte) Bd.returns (by simp) (hb hby d11_8) (ok rfl) (ok rfl) ?_
  rw [e0]
  exact ⟨rfl, N0, rfl⟩
theorem efCf1_2 (r : Addr) (m : MethodId) : entryFrame m #[(.ref r), (.int (1 : Int32))] 2 = mkF m 0 #[.val (.ref r), .val (.int (1 : Int32))] [] := by first | (simp [entryFrame, mkF, argsToLocals, Value.category]; done) | rfl
def QCf1_2 (Z : State) (r : Addr) (kr : ClassId) (vs : List Value) (h0 : Heap) (n0 : Nat) (v : Option Value) (h : Heap) (L : List Loc) : Prop := v = some (.int (1 : Int32)) ∧ Fr n0 L ∧ h = h0
set_option maxRecDepth 65536 in
set_option maxHeartbeats 40000000 in
theorem rmCf1_2 (l : Launch) (Z : State) (a0 : Array Value) (hw : ∀ d ∈ tables_1, d.before a0 Z = true) (ws : List Jvm.Cond) (r : Addr) (kr : ClassId) (vs : List Value) (h0 : Heap) (n0 : Nat) (Z0 : n0 ≤ h0.size) (O0 : Old Z n0 h0) (Vr : Arv Z h0 r kr .byte (2 : Int32) vs (.int (0 : Int32))) :
    OwnLaw l y20_ jdk_52_method_15_code 2 (some .byte) ws (rR 0 0 0 0) #[(.ref r), (.int (1 : Int32))] Z h0 (QCf1_2 Z r kr vs h0 n0) := by
  refine own_enter (plainFor_of_name pn_java_lang_StringUTF16) (efCf1_2 r) ?_
  intro p e s m below meth c s₁ Bd hx hby hml hZ hown X0 e0
  have N0 := Fr.nil n0
  have K0 : Keep h0 h0 [] := Keep.refl _ _
  refine P1.iloadN X0.here hx (hb hby d11_0) rfl ?_
  refine P1.aloadN X0.here hx (hb hby d11_1) rfl rfl ?_
  obtain ⟨cl23, Ar23, qk23, sl23, nz23, ha23, fi23⟩ := id Vr
  have al24 : cl23.slots.size.toInt32 = (2 : Int32) := len_of sl23 nz23
  refine Goes.step (T' := s₁) (g' := (mkF m 3 #[.val (.ref r), .val (.int (1 : Int32))] [(.int (2 : Int32)), (.int (1 : Int32))])) (fun t_ k_ => X0.arraylength hx (by rw [e0]; exact Ar23.1) (State.isArrayOf_alike hZ.alike Ar23.2.1) (g := (mkF m 2 #[.val (.ref r), .val (.int (1 : Int32))] [(.ref r), (.int (1 : Int32))])) rfl rfl (hb hby d11_2) _ <| by rw [al24]; exact k_) ?_
  refine P1.isub X0.here hx (hb hby d11_3) ?_
  have rw25 : ((1 : Int32) - (2 : Int32)) = (-1 : Int32) := by decide
  rw [rw25]
  refine P1.bipush X0.here hx (31 : Int32) (hb hby d11_4) rfl ?_
  refine Goes.step (T' := s₁) (g' := (mkF m 7 #[.val (.ref r), .val (.int (1 : Int32))] [(.int (((-1 : Int32).toUInt32 >>> ((31 : Int32) &&& 31).toUInt32).toInt32))])) (fun t_ k_ => XS.iushr X0.here hx rfl (hb hby d11_6) rfl k_) ?_
  have rw26 : (((-1 : Int32).toUInt32 >>> ((31 : Int32) &&& 31).toUInt32).toInt32) = (1 : Int32) := by decide
  rw [rw26]
  refine P1.i2b X0.here hx (hb hby d11_7) ?_
  have rw27 : ((1 : Int32).toInt8.toInt32) = (1 : Int32) := by decide
  rw [rw27]
  refine Goes.retN X0 hx Bd.notSynchronized (t := .byte) Bd.returns (by simp) (hb hby d11_8) (ok rfl) (ok rfl) ?_
  rw [e0]
  exact ⟨rfl, N0, rfl⟩
theorem efCf2_2 (r : Addr) (m : MethodId) : entryFrame m #[(.ref r), (.int (2 : Int32))] 2 = mkF m 0 #[.val (.ref r), .val (.int (2 : Int32))] [] := by first | (simp [entryFrame, mkF, argsToLocals, Value.category]; done) | rfl
def QCf2_2 (Z : State) (r : Addr) (kr : ClassId) (vs : List Value) (h0 : Heap) (n0 : Nat) (v : Option Value) (h : Heap) (L : List Loc) : Prop := v = some (.int (0 : Int32)) ∧ Fr n0 L ∧ h = h0
set_option maxRecDepth 65536 in
set_option maxHeartbeats 40000000 in
theorem rmCf2_2 (l : Launch) (Z : State) (a0 : Array Value) (hw : ∀ d ∈ tables_1, d.before a0 Z = true) (ws : List Jvm.Cond) (r : Addr) (kr : ClassId) (vs : List Value) (h0 : Heap) (n0 : Nat) (Z0 : n0 ≤ h0.size) (O0 : Old Z n0 h0) (Vr : Arv Z h0 r kr .byte (2 : Int32) vs (.int (0 : Int32))) :
    OwnLaw l y20_ jdk_52_method_15_code 2 (some .byte) ws (rR 0 0 0 0) #[(.ref r), (.int (2 : Int32))] Z h0 (QCf2_2 Z r kr vs h0 n0) := by
  refine own_enter (plainFor_of_name pn_java_lang_StringUTF16) (efCf2_2 r) ?_
  intro p e s m below meth c s₁ Bd hx hby hml hZ hown X0 e0
  have N0 := Fr.nil n0
  have K0 : Keep h0 h0 [] := Keep.refl _ _
  refine P1.iloadN X0.here hx (hb hby d11_0) rfl ?_
  refine P1.aloadN X0.here hx (hb hby d11_1) rfl rfl ?_
  obtain ⟨cl28, Ar28, qk28, sl28, nz28, ha28, fi28⟩ := id Vr
  have al29 : cl28.slots.size.toInt32 = (2 : Int32) := len_of sl28 nz28
  refine Goes.step (T' := s₁) (g' := (mkF m 3 #[.val (.ref r), .val (.int (2 : Int32))] [(.int (2 : Int32)), (.int (2 : Int32))])) (fun t_ k_ => X0.arraylength hx (by rw [e0]; exact Ar28.1) (State.isArrayOf_alike hZ.alike Ar28.2.1) (g := (mkF m 2 #[.val (.ref r), .val (.int (2 : Int32))] [(.ref r), (.int (2 : Int32))])) rfl rfl (hb hby d11_2) _ <| by rw [al29]; exact k_) ?_
  refine P1.isub X0.here hx (hb hby d11_3) ?_
  have rw30 : ((2 : Int32) - (2 : Int32)) = (0 : Int32) := by decide
  rw [rw30]
  refine P1.bipush X0.here hx (31 : Int32) (hb hby d11_4) rfl ?_
  refine Goes.step (T' := s₁) (g' := (mkF m 7 #[.val (.ref r), .val (.int (2 : Int32))] [(.int (((0 : Int32).toUInt32 >>> ((31 : Int32) &&& 31).toUInt32).toInt32))])) (fun t_ k_ => XS.iushr X0.here hx rfl (hb hby d11_6) rfl k_) ?_
  have rw31 : (((0 : Int32).toUInt32 >>> ((31 : Int32) &&& 31).toUInt32).toInt32) = (0 : Int32) := by decide
  rw [rw31]
  refine P1.i2b X0.here hx (hb hby d11_7) ?_
  have rw32 : ((0 : Int32).toInt8.toInt32) = (0 : Int32) := by decide
  rw [rw32]
  refine Goes.retN X0 hx Bd.notSynchronized (t := .byte) Bd.returns (by simp) (hb hby d11_8) (ok rfl) (ok rfl) ?_
  rw [e0]
  exact ⟨rfl, N0, rfl⟩
theorem efCf2_4 (r : Addr) (m : MethodId) : entryFrame m #[(.ref r), (.int (2 : Int32))] 2 = mkF m 0 #[.val (.ref r), .val (.int (2 : Int32))] [] := by first | (simp [entryFrame, mkF, argsToLocals, Value.category]; done) | rfl
def QCf2_4 (Z : State) (r : Addr) (kr : ClassId) (vs : List Value) (h0 : Heap) (n0 : Nat) (v : Option Value) (h : Heap) (L : List Loc) : Prop := v = some (.int (1 : Int32)) ∧ Fr n0 L ∧ h = h0
set_option maxRecDepth 65536 in
set_option maxHeartbeats 40000000 in
theorem rmCf2_4 (l : Launch) (Z : State) (a0 : Array Value) (hw : ∀ d ∈ tables_1, d.before a0 Z = true) (ws : List Jvm.Cond) (r : Addr) (kr : ClassId) (vs : List Value) (h0 : Heap) (n0 : Nat) (Z0 : n0 ≤ h0.size) (O0 : Old Z n0 h0) (Vr : Arv Z h0 r kr .byte (4 : Int32) vs (.int (0 : Int32))) :
    OwnLaw l y20_ jdk_52_method_15_code 2 (some .byte) ws (rR 0 0 0 0) #[(.ref r), (.int (2 : Int32))] Z h0 (QCf2_4 Z r kr vs h0 n0) := by
  refine own_enter (plainFor_of_name pn_java_lang_StringUTF16) (efCf2_4 r) ?_
  intro p e s m below meth c s₁ Bd hx hby hml hZ hown X0 e0
  have N0 := Fr.nil n0
  have K0 : Keep h0 h0 [] := Keep.refl _ _
  refine P1.iloadN X0.here hx (hb hby d11_0) rfl ?_
  refine P1.aloadN X0.here hx (hb hby d11_1) rfl rfl ?_
  obtain ⟨cl33, Ar33, qk33, sl33, nz33, ha33, fi33⟩ := id Vr
  have al34 : cl33.slots.size.toInt32 = (4 : Int32) := len_of sl33 nz33
  refine Goes.step (T' := s₁) (g' := (mkF m 3 #[.val (.ref r), .val (.int (2 : Int32))] [(.int (4 : Int32)), (.int (2 : Int32))])) (fun t_ k_ => X0.arraylength hx (by rw [e0]; exact Ar33.1) (State.isArrayOf_alike hZ.alike Ar33.2.1) (g := (mkF m 2 #[.val (.ref r), .val (.int (2 : Int32))] [(.ref r), (.int (2 : Int32))])) rfl rfl (hb hby d11_2) _ <| by rw [al34]; exact k_) ?_
  refine P1.isub X0.here hx (hb hby d11_3) ?_
  have rw35 : ((2 : Int32) - (4 : Int32)) = (-2 : Int32) := by decide
  rw [rw35]
  refine P1.bipush X0.here hx (31 : Int32) (hb hby d11_4) rfl ?_
  refine Goes.step (T' := s₁) (g' := (mkF m 7 #[.val (.ref r), .val (.int (2 : Int32))] [(.int (((-2 : Int32).toUInt32 >>> ((31 : Int32) &&& 31).toUInt32).toInt32))])) (fun t_ k_ => XS.iushr X0.here hx rfl (hb hby d11_6) rfl k_) ?_
  have rw36 : (((-2 : Int32).toUInt32 >>> ((31 : Int32) &&& 31).toUInt32).toInt32) = (1 : Int32) := by decide
  rw [rw36]
  refine P1.i2b X0.here hx (hb hby d11_7) ?_
  have rw37 : ((1 : Int32).toInt8.toInt32) = (1 : Int32) := by decide
  rw [rw37]
  refine Goes.retN X0 hx Bd.notSynchronized (t := .byte) Bd.returns (by simp) (hb hby d11_8) (ok rfl) (ok rfl) ?_
  rw [e0]
  exact ⟨rfl, N0, rfl⟩
theorem efCf3_3 (r : Addr) (m : MethodId) : entryFrame m #[(.ref r), (.int (3 : Int32))] 2 = mkF m 0 #[.val (.ref r), .val (.int (3 : Int32))] [] := by first | (simp [entryFrame, mkF, argsToLocals, Value.category]; done) | rfl
def QCf3_3 (Z : State) (r : Addr) (kr : ClassId) (vs : List Value) (h0 : Heap) (n0 : Nat) (v : Option Value) (h : Heap) (L : List Loc) : Prop := v = some (.int (0 : Int32)) ∧ Fr n0 L ∧ h = h0
set_option maxRecDepth 65536 in
set_option maxHeartbeats 40000000 in
theorem rmCf3_3 (l : Launch) (Z : State) (a0 : Array Value) (hw : ∀ d ∈ tables_1, d.before a0 Z = true) (ws : List Jvm.Cond) (r : Addr) (kr : ClassId) (vs : List Value) (h0 : Heap) (n0 : Nat) (Z0 : n0 ≤ h0.size) (O0 : Old Z n0 h0) (Vr : Arv Z h0 r kr .byte (3 : Int32) vs (.int (0 : Int32))) :
    OwnLaw l y20_ jdk_52_method_15_code 2 (some .byte) ws (rR 0 0 0 0) #[(.ref r), (.int (3 : Int32))] Z h0 (QCf3_3 Z r kr vs h0 n0) := by
  refine own_enter (plainFor_of_name pn_java_lang_StringUTF16) (efCf3_3 r) ?_
  intro p e s m below meth c s₁ Bd hx hby hml hZ hown X0 e0
  have N0 := Fr.nil n0
  have K0 : Keep h0 h0 [] := Keep.refl _ _
  refine P1.iloadN X0.here hx (hb hby d11_0) rfl ?_
  refine P1.aloadN X0.here hx (hb hby d11_1) rfl rfl ?_
  obtain ⟨cl38, Ar38, qk38, sl38, nz38, ha38, fi38⟩ := id Vr
  have al39 : cl38.slots.size.toInt32 = (3 : Int32) := len_of sl38 nz38
  refine Goes.step (T' := s₁) (g' := (mkF m 3 #[.val (.ref r), .val (.int (3 : Int32))] [(.int (3 : Int32)), (.int (3 : Int32))])) (fun t_ k_ => X0.arraylength hx (by rw [e0]; exact Ar38.1) (State.isArrayOf_alike hZ.alike Ar38.2.1) (g := (mkF m 2 #[.val (.ref r), .val (.int (3 : Int32))] [(.ref r), (.int (3 : Int32))])) rfl rfl (hb hby d11_2) _ <| by rw [al39]; exact k_) ?_
  refine P1.isub X0.here hx (hb hby d11_3) ?_
  have rw40 : ((3 : Int32) - (3 : Int32)) = (0 : Int32) := by decide
  rw [rw40]
  refine P1.bipush X0.here hx (31 : Int32) (hb hby d11_4) rfl ?_
  refine Goes.step (T' := s₁) (g' := (mkF m 7 #[.val (.ref r), .val (.int (3 : Int32))] [(.int (((0 : Int32).toUInt32 >>> ((31 : Int32) &&& 31).toUInt32).toInt32))])) (fun t_ k_ => XS.iushr X0.here hx rfl (hb hby d11_6) rfl k_) ?_
  have rw41 : (((0 : Int32).toUInt32 >>> ((31 : Int32) &&& 31).toUInt32).toInt32) = (0 : Int32) := by decide
  rw [rw41]
  refine P1.i2b X0.here hx (hb hby d11_7) ?_
  have rw42 : ((0 : Int32).toInt8.toInt32) = (0 : Int32) := by decide
  rw [rw42]
  refine Goes.retN X0 hx Bd.notSynchronized (t := .byte) Bd.returns (by simp) (hb hby d11_8) (ok rfl) (ok rfl) ?_
  rw [e0]
  exact ⟨rfl, N0, rfl⟩
theorem efCf3_6 (r : Addr) (m : MethodId) : entryFrame m #[(.ref r), (.int (3 : Int32))] 2 = mkF m 0 #[.val (.ref r), .val (.int (3 : Int32))] [] := by first | (simp [entryFrame, mkF, argsToLocals, Value.category]; done) | rfl
def QCf3_6 (Z : State) (r : Addr) (kr : ClassId) (vs : List Value) (h0 : Heap) (n0 : Nat) (v : Option Value) (h : Heap) (L : List Loc) : Prop := v = some (.int (1 : Int32)) ∧ Fr n0 L ∧ h = h0
set_option maxRecDepth 65536 in
set_option maxHeartbeats 40000000 in
theorem rmCf3_6 (l : Launch) (Z : State) (a0 : Array Value) (hw : ∀ d ∈ tables_1, d.before a0 Z = true) (ws : List Jvm.Cond) (r : Addr) (kr : ClassId) (vs : List Value) (h0 : Heap) (n0 : Nat) (Z0 : n0 ≤ h0.size) (O0 : Old Z n0 h0) (Vr : Arv Z h0 r kr .byte (6 : Int32) vs (.int (0 : Int32))) :
    OwnLaw l y20_ jdk_52_method_15_code 2 (some .byte) ws (rR 0 0 0 0) #[(.ref r), (.int (3 : Int32))] Z h0 (QCf3_6 Z r kr vs h0 n0) := by
  refine own_enter (plainFor_of_name pn_java_lang_StringUTF16) (efCf3_6 r) ?_
  intro p e s m below meth c s₁ Bd hx hby hml hZ hown X0 e0
  have N0 := Fr.nil n0
  have K0 : Keep h0 h0 [] := Keep.refl _ _
  refine P1.iloadN X0.here hx (hb hby d11_0) rfl ?_
  refine P1.aloadN X0.here hx (hb hby d11_1) rfl rfl ?_
  obtain ⟨cl43, Ar43, qk43, sl43, nz43, ha43, fi43⟩ := id Vr
  have al44 : cl43.slots.size.toInt32 = (6 : Int32) := len_of sl43 nz43
  refine Goes.step (T' := s₁) (g' := (mkF m 3 #[.val (.ref r), .val (.int (3 : Int32))] [(.int (6 : Int32)), (.int (3 : Int32))])) (fun t_ k_ => X0.arraylength hx (by rw [e0]; exact Ar43.1) (State.isArrayOf_alike hZ.alike Ar43.2.1) (g := (mkF m 2 #[.val (.ref r), .val (.int (3 : Int32))] [(.ref r), (.int (3 : Int32))])) rfl rfl (hb hby d11_2) _ <| by rw [al44]; exact k_) ?_
  refine P1.isub X0.here hx (hb hby d11_3) ?_
  have rw45 : ((3 : Int32) - (6 : Int32)) = (-3 : Int32) := by decide
  rw [rw45]
  refine P1.bipush X0.here hx (31 : Int32) (hb hby d11_4) rfl ?_
  refine Goes.step (T' := s₁) (g' := (mkF m 7 #[.val (.ref r), .val (.int (3 : Int32))] [(.int (((-3 : Int32).toUInt32 >>> ((31 : Int32) &&& 31).toUInt32).toInt32))])) (fun t_ k_ => XS.iushr X0.here hx rfl (hb hby d11_6) rfl k_) ?_
  have rw46 : (((-3 : Int32).toUInt32 >>> ((31 : Int32) &&& 31).toUInt32).toInt32) = (1 : Int32) := by decide
  rw [rw46]
  refine P1.i2b X0.here hx (hb hby d11_7) ?_
  have rw47 : ((1 : Int32).toInt8.toInt32) = (1 : Int32) := by decide
  rw [rw47]
  refine Goes.retN X0 hx Bd.notSynchronized (t := .byte) Bd.returns (by simp) (hb hby d11_8) (ok rfl) (ok rfl) ?_
  rw [e0]
  exact ⟨rfl, N0, rfl⟩
theorem d21_0 : decode jdk_52_method_5_code 0 = .ok (.getstatic 44, 3) := by decide +kernel
theorem d21_3 : decode jdk_52_method_5_code 3 = .ok (.ifCond .ne 25, 3) := by decide +kernel
theorem d21_28 : decode jdk_52_method_5_code 28 = .ok (.iload_n 1, 1) := by decide +kernel
theorem d21_29 : decode jdk_52_method_5_code 29 = .ok (.iconst 1, 1) := by decide +kernel
theorem d21_30 : decode jdk_52_method_5_code 30 = .ok (.ishl, 1) := by decide +kernel
theorem d21_31 : decode jdk_52_method_5_code 31 = .ok (.istore_n 1, 1) := by decide +kernel
theorem d21_32 : decode jdk_52_method_5_code 32 = .ok (.aload_n 0, 1) := by decide +kernel
theorem d21_33 : decode jdk_52_method_5_code 33 = .ok (.iload_n 1, 1) := by decide +kernel
theorem d21_34 : decode jdk_52_method_5_code 34 = .ok (.iinc 1 1, 3) := by decide +kernel
theorem d21_37 : decode jdk_52_method_5_code 37 = .ok (.baload, 1) := by decide +kernel
theorem d21_38 : decode jdk_52_method_5_code 38 = .ok (.sipush 255, 3) := by decide +kernel
theorem d21_41 : decode jdk_52_method_5_code 41 = .ok (.iand, 1) := by decide +kernel
theorem d21_42 : decode jdk_52_method_5_code 42 = .ok (.getstatic 59, 3) := by decide +kernel
theorem d21_45 : decode jdk_52_method_5_code 45 = .ok (.ishl, 1) := by decide +kernel
theorem d21_46 : decode jdk_52_method_5_code 46 = .ok (.aload_n 0, 1) := by decide +kernel
theorem d21_47 : decode jdk_52_method_5_code 47 = .ok (.iload_n 1, 1) := by decide +kernel
theorem d21_48 : decode jdk_52_method_5_code 48 = .ok (.baload, 1) := by decide +kernel
theorem d21_49 : decode jdk_52_method_5_code 49 = .ok (.sipush 255, 3) := by decide +kernel
theorem d21_52 : decode jdk_52_method_5_code 52 = .ok (.iand, 1) := by decide +kernel
theorem d21_53 : decode jdk_52_method_5_code 53 = .ok (.getstatic 63, 3) := by decide +kernel
theorem d21_56 : decode jdk_52_method_5_code 56 = .ok (.ishl, 1) := by decide +kernel
theorem d21_57 : decode jdk_52_method_5_code 57 = .ok (.ior, 1) := by decide +kernel
theorem d21_58 : decode jdk_52_method_5_code 58 = .ok (.i2c, 1) := by decide +kernel
theorem d21_59 : decode jdk_52_method_5_code 59 = .ok (.ireturn, 1) := by decide +kernel
theorem efGc0 (r : Addr) (m : MethodId) : entryFrame m #[(.ref r), (.int (0 : Int32))] 2 = mkF m 0 #[.val (.ref r), .val (.int (0 : Int32))] [] := by first | (simp [entryFrame, mkF, argsToLocals, Value.category]; done) | rfl
def QGc0 (Z : State) (r : Addr) (kr : ClassId) (N : Int32) (vs : List Value) (q zc : Int32) (fm : Value) (h0 : Heap) (n0 : Nat) (v : Option Value) (h : Heap) (L : List Loc) : Prop := v = some (.int q) ∧ Fr n0 L ∧ h = h0
set_option maxRecDepth 65536 in
set_option maxHeartbeats 40000000 in
theorem rmGc0 (l : Launch) (Z : State) (a0 : Array Value) (hw : ∀ d ∈ tables_1, d.before a0 Z = true) (ws : List Jvm.Cond) (r : Addr) (kr : ClassId) (N : Int32) (vs : List Value) (q zc : Int32) (fm : Value) (h0 : Heap) (n0 : Nat) (Z0 : n0 ≤ h0.size) (O0 : Old Z n0 h0) (S_CS : Sta Z Z.heap "java/lang/String" "COMPACT_STRINGS" "Z" (.int zc)) (hzc : ¬ zc = 0) (S_FM : Sta Z Z.heap "jdk/internal/util/Preconditions" "SIOOBE_FORMATTER" "Ljava/util/function/BiFunction;" fm) (hfm : fm.isRef = true) (S_AD : Sta Z Z.heap "java/lang/StringUTF16" "$assertionsDisabled" "Z" (.int (1 : Int32))) (S_HI : Sta Z Z.heap "java/lang/StringUTF16" "HI_BYTE_SHIFT" "I" (.int (0 : Int32))) (S_LO : Sta Z Z.heap "java/lang/StringUTF16" "LO_BYTE_SHIFT" "I" (.int (8 : Int32))) (Vr : Arv Z h0 r kr .byte N vs (.int (0 : Int32))) (ub0 : ¬ (0 : Int32) < 0 ∧ (0 : Int32) < N) (ub1 : ¬ (1 : Int32) < 0 ∧ (1 : Int32) < N) (ue0 : vs.getD (0 : Int32).toNatClampNeg (.int (0 : Int32)) = .int (StrChars.lo8 q)) (ue1 : vs.getD (1 : Int32).toNatClampNeg (.int (0 : Int32)) = .int (StrChars.hi8 q)) (hq : C16 q) :
    OwnLaw l y25_ jdk_52_method_5_code 2 (some .char) ws (rR 0 0 0 0) #[(.ref r), (.int (0 : Int32))] Z h0 (QGc0 Z r kr N vs q zc fm h0 n0) := by
  refine own_enter (plainFor_of_name pn_java_lang_StringUTF16) (efGc0 r) ?_
  intro p e s m below meth c s₁ Bd hx hby hml hZ hown X0 e0
  have N0 := Fr.nil n0
  have K0 : Keep h0 h0 [] := Keep.refl _ _
  obtain ⟨T48, X48, e48, st48⟩ := getS2 X0 hx hZ hown (host := "") (Or.inl (own_w hw 93 rfl)) Via.refl e0 (S_AD.ext O0.2) (g := (mkF m 0 #[.val (.ref r), .val (.int (0 : Int32))] [])) rfl (hb hby d21_0)
  refine Goes.step (T' := T48) (g' := (mkF m 3 #[.val (.ref r), .val (.int (0 : Int32))] [(.int (1 : Int32))])) st48 ?_
  refine P1.ifYes X48.here hx 28 (hb hby d21_3) ((if0 _ _).trans (feq (by decide : ¬ ((1 : Int32) = (0 : Int32)))).2) (by decide) (by decide) ?_
  refine P1.iloadN X48.here hx (hb hby d21_28) rfl ?_
  refine P1.iconst X48.here hx (1 : Int32) (hb hby d21_29) rfl ?_
  refine P1.ishl X48.here hx (hb hby d21_30) ?_
  have rw49 : ((0 : Int32) <<< ((1 : Int32) &&& 31)) = (0 : Int32) := by decide
  rw [rw49]
  refine P1.istoreN X48.here hx #[.val (.ref r), .val (.int (0 : Int32))] (hb hby d21_31) rfl ?_
  refine P1.aloadN X48.here hx (hb hby d21_32) rfl rfl ?_
  refine P1.iloadN X48.here hx (hb hby d21_33) rfl ?_
  refine P1.iinc X48.here hx #[.val (.ref r), .val (.int ((0 : Int32) + (1 : Int32)))] (hb hby d21_34) rfl rfl ?_
  have rw50 : ((0 : Int32) + (1 : Int32)) = (1 : Int32) := by decide
  rw [rw50]
  obtain ⟨cl51, Ar51, qk51, sl51, nz51, ha51, fi51⟩ := id Vr
  have i52 := inb_of (j := (0 : Int32)) sl51 ub0
  refine Goes.step (T' := T48) (g' := (mkF m 38 #[.val (.ref r), .val (.int (1 : Int32))] [(.int (StrChars.lo8 q))])) (fun t_ k_ => X48.baloadBytes hx (j := (0 : Int32)) (v := (.int (StrChars.lo8 q))) (by rw [e48]; exact Ar51.1) (State.isArrayOf_alike hZ.alike Ar51.2.1) Ar51.2.2 i52 (Has.at ha51 i52 ue0) (g := (mkF m 37 #[.val (.ref r), .val (.int (1 : Int32))] [(.int (0 : Int32)), (.ref r)])) rfl rfl (hb hby d21_37) _ k_) ?_
  refine P1.sipush X48.here hx (255 : Int32) (hb hby d21_38) rfl ?_
  refine P1.iand X48.here hx (hb hby d21_41) ?_
  obtain ⟨T53, X53, e53, st53⟩ := getS2 X48 hx hZ hown (host := "") (Or.inl (own_w hw 94 rfl)) Via.refl e48 (S_HI.ext O0.2) (g := (mkF m 42 #[.val (.ref r), .val (.int (1 : Int32))] [(.int ((StrChars.lo8 q) &&& (255 : Int32)))])) rfl (hb hby d21_42)
  refine Goes.step (T' := T53) (g' := (mkF m 45 #[.val (.ref r), .val (.int (1 : Int32))] [(.int (0 : Int32)), (.int ((StrChars.lo8 q) &&& (255 : Int32)))])) st53 ?_
  refine P1.ishl X53.here hx (hb hby d21_45) ?_
  refine P1.aloadN X53.here hx (hb hby d21_46) rfl rfl ?_
  refine P1.iloadN X53.here hx (hb hby d21_47) rfl ?_
  obtain ⟨cl54, Ar54, qk54, sl54, nz54, ha54, fi54⟩ := id Vr
  have i55 := inb_of (j := (1 : Int32)) sl54 ub1
  refine Goes.step (T' := T53) (g' := (mkF m 49 #[.val (.ref r), .val (.int (1 : Int32))] [(.int (StrChars.hi8 q)), (.int (((StrChars.lo8 q) &&& (255 : Int32)) <<< ((0 : Int32) &&& 31)))])) (fun t_ k_ => X53.baloadBytes hx (j := (1 : Int32)) (v := (.int (StrChars.hi8 q))) (by rw [e53]; exact Ar54.1) (State.isArrayOf_alike hZ.alike Ar54.2.1) Ar54.2.2 i55 (Has.at ha54 i55 ue1) (g := (mkF m 48 #[.val (.ref r), .val (.int (1 : Int32))] [(.int (1 : Int32)), (.ref r), (.int (((StrChars.lo8 q) &&& (255 : Int32)) <<< ((0 : Int32) &&& 31)))])) rfl rfl (hb hby d21_48) _ k_) ?_
  refine P1.sipush X53.here hx (255 : Int32) (hb hby d21_49) rfl ?_
  refine P1.iand X53.here hx (hb hby d21_52) ?_
  obtain ⟨T56, X56, e56, st56⟩ := getS2 X53 hx hZ hown (host := "") (Or.inl (own_w hw 95 rfl)) Via.refl e53 (S_LO.ext O0.2) (g := (mkF m 53 #[.val (.ref r), .val (.int (1 : Int32))] [(.int ((StrChars.hi8 q) &&& (255 : Int32))), (.int (((StrChars.lo8 q) &&& (255 : Int32)) <<< ((0 : Int32) &&& 31)))])) rfl (hb hby d21_53)
  refine Goes.step (T' := T56) (g' := (mkF m 56 #[.val (.ref r), .val (.int (1 : Int32))] [(.int (8 : Int32)), (.int ((StrChars.hi8 q) &&& (255 : Int32))), (.int (((StrChars.lo8 q) &&& (255 : Int32)) <<< ((0 : Int32) &&& 31)))])) st56 ?_
  refine P1.ishl X56.here hx (hb hby d21_56) ?_
  refine P1.ior X56.here hx (hb hby d21_57) ?_
  refine P1.i2c X56.here hx (hb hby d21_58) ?_
  have rw57 : (((((StrChars.lo8 q) &&& (255 : Int32)) <<< ((0 : Int32) &&& 31)) ||| (((StrChars.hi8 q) &&& (255 : Int32)) <<< ((8 : Int32) &&& 31))).toUInt32.toUInt16.toUInt32.toInt32) = q := StrChars.pair_says hq.1 hq.2
  rw [rw57]
  refine Goes.retN X56 hx Bd.notSynchronized (t := .char) Bd.returns (by simp) (hb hby d21_59) (ok rfl) (ok rfl) ?_
  rw [e56]
  exact ⟨by rw [hq.nc], N0, rfl⟩
theorem efGc1 (r : Addr) (m : MethodId) : entryFrame m #[(.ref r), (.int (1 : Int32))] 2 = mkF m 0 #[.val (.ref r), .val (.int (1 : Int32))] [] := by first | (simp [entryFrame, mkF, argsToLocals, Value.category]; done) | rfl
def QGc1 (Z : State) (r : Addr) (kr : ClassId) (N : Int32) (vs : List Value) (q zc : Int32) (fm : Value) (h0 : Heap) (n0 : Nat) (v : Option Value) (h : Heap) (L : List Loc) : Prop := v = some (.int q) ∧ Fr n0 L ∧ h = h0
set_option maxRecDepth 65536 in
set_option maxHeartbeats 40000000 in
theorem rmGc1 (l : Launch) (Z : State) (a0 : Array Value) (hw : ∀ d ∈ tables_1, d.before a0 Z = true) (ws : List Jvm.Cond) (r : Addr) (kr : ClassId) (N : Int32) (vs : List Value) (q zc : Int32) (fm : Value) (h0 : Heap) (n0 : Nat) (Z0 : n0 ≤ h0.size) (O0 : Old Z n0 h0) (S_CS : Sta Z Z.heap "java/lang/String" "COMPACT_STRINGS" "Z" (.int zc)) (hzc : ¬ zc = 0) (S_FM : Sta Z Z.heap "jdk/internal/util/Preconditions" "SIOOBE_FORMATTER" "Ljava/util/function/BiFunction;" fm) (hfm : fm.isRef = true) (S_AD : Sta Z Z.heap "java/lang/StringUTF16" "$assertionsDisabled" "Z" (.int (1 : Int32))) (S_HI : Sta Z Z.heap "java/lang/StringUTF16" "HI_BYTE_SHIFT" "I" (.int (0 : Int32))) (S_LO : Sta Z Z.heap "java/lang/StringUTF16" "LO_BYTE_SHIFT" "I" (.int (8 : Int32))) (Vr : Arv Z h0 r kr .byte N vs (.int (0 : Int32))) (ub0 : ¬ (2 : Int32) < 0 ∧ (2 : Int32) < N) (ub1 : ¬ (3 : Int32) < 0 ∧ (3 : Int32) < N) (ue0 : vs.getD (2 : Int32).toNatClampNeg (.int (0 : Int32)) = .int (StrChars.lo8 q)) (ue1 : vs.getD (3 : Int32).toNatClampNeg (.int (0 : Int32)) = .int (StrChars.hi8 q)) (hq : C16 q) :
    OwnLaw l y25_ jdk_52_method_5_code 2 (some .char) ws (rR 0 0 0 0) #[(.ref r), (.int (1 : Int32))] Z h0 (QGc1 Z r kr N vs q zc fm h0 n0) := by
  refine own_enter (plainFor_of_name pn_java_lang_StringUTF16) (efGc1 r) ?_
  intro p e s m below meth c s₁ Bd hx hby hml hZ hown X0 e0
  have N0 := Fr.nil n0
  have K0 : Keep h0 h0 [] := Keep.refl _ _
  obtain ⟨T58, X58, e58, st58⟩ := getS2 X0 hx hZ hown (host := "") (Or.inl (own_w hw 93 rfl)) Via.refl e0 (S_AD.ext O0.2) (g := (mkF m 0 #[.val (.ref r), .val (.int (1 : Int32))] [])) rfl (hb hby d21_0)
  refine Goes.step (T' := T58) (g' := (mkF m 3 #[.val (.ref r), .val (.int (1 : Int32))] [(.int (1 : Int32))])) st58 ?_
  refine P1.ifYes X58.here hx 28 (hb hby d21_3) ((if0 _ _).trans (feq (by decide : ¬ ((1 : Int32) = (0 : Int32)))).2) (by decide) (by decide) ?_
  refine P1.iloadN X58.here hx (hb hby d21_28) rfl ?_
  refine P1.iconst X58.here hx (1 : Int32) (hb hby d21_29) rfl ?_
  refine P1.ishl X58.here hx (hb hby d21_30) ?_
  have rw59 : ((1 : Int32) <<< ((1 : Int32) &&& 31)) = (2 : Int32) := by decide
  rw [rw59]
  refine P1.istoreN X58.here hx #[.val (.ref r), .val (.int (2 : Int32))] (hb hby d21_31) rfl ?_
  refine P1.aloadN X58.here hx (hb hby d21_32) rfl rfl ?_
  refine P1.iloadN X58.here hx (hb hby d21_33) rfl ?_
  refine P1.iinc X58.here hx #[.val (.ref r), .val (.int ((2 : Int32) + (1 : Int32)))] (hb hby d21_34) rfl rfl ?_
  have rw60 : ((2 : Int32) + (1 : Int32)) = (3 : Int32) := by decide
  rw [rw60]
  obtain ⟨cl61, Ar61, qk61, sl61, nz61, ha61, fi61⟩ := id Vr
  have i62 := inb_of (j := (2 : Int32)) sl61 ub0
  refine Goes.step (T' := T58) (g' := (mkF m 38 #[.val (.ref r), .val (.int (3 : Int32))] [(.int (StrChars.lo8 q))])) (fun t_ k_ => X58.baloadBytes hx (j := (2 : Int32)) (v := (.int (StrChars.lo8 q))) (by rw [e58]; exact Ar61.1) (State.isArrayOf_alike hZ.alike Ar61.2.1) Ar61.2.2 i62 (Has.at ha61 i62 ue0) (g := (mkF m 37 #[.val (.ref r), .val (.int (3 : Int32))] [(.int (2 : Int32)), (.ref r)])) rfl rfl (hb hby d21_37) _ k_) ?_
  refine P1.sipush X58.here hx (255 : Int32) (hb hby d21_38) rfl ?_
  refine P1.iand X58.here hx (hb hby d21_41) ?_
  obtain ⟨T63, X63, e63, st63⟩ := getS2 X58 hx hZ hown (host := "") (Or.inl (own_w hw 94 rfl)) Via.refl e58 (S_HI.ext O0.2) (g := (mkF m 42 #[.val (.ref r), .val (.int (3 : Int32))] [(.int ((StrChars.lo8 q) &&& (255 : Int32)))])) rfl (hb hby d21_42)
  refine Goes.step (T' := T63) (g' := (mkF m 45 #[.val (.ref r), .val (.int (3 : Int32))] [(.int (0 : Int32)), (.int ((StrChars.lo8 q) &&& (255 : Int32)))])) st63 ?_
  refine P1.ishl X63.here hx (hb hby d21_45) ?_
  refine P1.aloadN X63.here hx (hb hby d21_46) rfl rfl ?_
  refine P1.iloadN X63.here hx (hb hby d21_47) rfl ?_
  obtain ⟨cl64, Ar64, qk64, sl64, nz64, ha64, fi64⟩ := id Vr
  have i65 := inb_of (j := (3 : Int32)) sl64 ub1
  refine Goes.step (T' := T63) (g' := (mkF m 49 #[.val (.ref r), .val (.int (3 : Int32))] [(.int (StrChars.hi8 q)), (.int (((StrChars.lo8 q) &&& (255 : Int32)) <<< ((0 : Int32) &&& 31)))])) (fun t_ k_ => X63.baloadBytes hx (j := (3 : Int32)) (v := (.int (StrChars.hi8 q))) (by rw [e63]; exact Ar64.1) (State.isArrayOf_alike hZ.alike Ar64.2.1) Ar64.2.2 i65 (Has.at ha64 i65 ue1) (g := (mkF m 48 #[.val (.ref r), .val (.int (3 : Int32))] [(.int (3 : Int32)), (.ref r), (.int (((StrChars.lo8 q) &&& (255 : Int32)) <<< ((0 : Int32) &&& 31)))])) rfl rfl (hb hby d21_48) _ k_) ?_
  refine P1.sipush X63.here hx (255 : Int32) (hb hby d21_49) rfl ?_
  refine P1.iand X63.here hx (hb hby d21_52) ?_
  obtain ⟨T66, X66, e66, st66⟩ := getS2 X63 hx hZ hown (host := "") (Or.inl (own_w hw 95 rfl)) Via.refl e63 (S_LO.ext O0.2) (g := (mkF m 53 #[.val (.ref r), .val (.int (3 : Int32))] [(.int ((StrChars.hi8 q) &&& (255 : Int32))), (.int (((StrChars.lo8 q) &&& (255 : Int32)) <<< ((0 : Int32) &&& 31)))])) rfl (hb hby d21_53)
  refine Goes.step (T' := T66) (g' := (mkF m 56 #[.val (.ref r), .val (.int (3 : Int32))] [(.int (8 : Int32)), (.int ((StrChars.hi8 q) &&& (255 : Int32))), (.int (((StrChars.lo8 q) &&& (255 : Int32)) <<< ((0 : Int32) &&& 31)))])) st66 ?_
  refine P1.ishl X66.here hx (hb hby d21_56) ?_
  refine P1.ior X66.here hx (hb hby d21_57) ?_
  refine P1.i2c X66.here hx (hb hby d21_58) ?_
  have rw67 : (((((StrChars.lo8 q) &&& (255 : Int32)) <<< ((0 : Int32) &&& 31)) ||| (((StrChars.hi8 q) &&& (255 : Int32)) <<< ((8 : Int32) &&& 31))).toUInt32.toUInt16.toUInt32.toInt32) = q := StrChars.pair_says hq.1 hq.2
  rw [rw67]
  refine Goes.retN X66 hx Bd.notSynchronized (t := .char) Bd.returns (by simp) (hb hby d21_59) (ok rfl) (ok rfl) ?_
  rw [e66]
  exact ⟨by rw [hq.nc], N0, rfl⟩
theorem efGc2 (r : Addr) (m : MethodId) : entryFrame m #[(.ref r), (.int (2 : Int32))] 2 = mkF m 0 #[.val (.ref r), .val (.int (2 : Int32))] [] := by first | (simp [entryFrame, mkF, argsToLocals, Value.category]; done) | rfl
def QGc2 (Z : State) (r : Addr) (kr : ClassId) (N : Int32) (vs : List Value) (q zc : Int32) (fm : Value) (h0 : Heap) (n0 : Nat) (v : Option Value) (h : Heap) (L : List Loc) : Prop := v = some (.int q) ∧ Fr n0 L ∧ h = h0
set_option maxRecDepth 65536 in
set_option maxHeartbeats 40000000 in
theorem rmGc2 (l : Launch) (Z : State) (a0 : Array Value) (hw : ∀ d ∈ tables_1, d.before a0 Z = true) (ws : List Jvm.Cond) (r : Addr) (kr : ClassId) (N : Int32) (vs : List Value) (q zc : Int32) (fm : Value) (h0 : Heap) (n0 : Nat) (Z0 : n0 ≤ h0.size) (O0 : Old Z n0 h0) (S_CS : Sta Z Z.heap "java/lang/String" "COMPACT_STRINGS" "Z" (.int zc)) (hzc : ¬ zc = 0) (S_FM : Sta Z Z.heap "jdk/internal/util/Preconditions" "SIOOBE_FORMATTER" "Ljava/util/function/BiFunction;" fm) (hfm : fm.isRef = true) (S_AD : Sta Z Z.heap "java/lang/StringUTF16" "$assertionsDisabled" "Z" (.int (1 : Int32))) (S_HI : Sta Z Z.heap "java/lang/StringUTF16" "HI_BYTE_SHIFT" "I" (.int (0 : Int32))) (S_LO : Sta Z Z.heap "java/lang/StringUTF16" "LO_BYTE_SHIFT" "I" (.int (8 : Int32))) (Vr : Arv Z h0 r kr .byte N vs (.int (0 : Int32))) (ub0 : ¬ (4 : Int32) < 0 ∧ (4 : Int32) < N) (ub1 : ¬ (5 : Int32) < 0 ∧ (5 : Int32) < N) (ue0 : vs.getD (4 : Int32).toNatClampNeg (.int (0 : Int32)) = .int (StrChars.lo8 q)) (ue1 : vs.getD (5 : Int32).toNatClampNeg (.int (0 : Int32)) = .int (StrChars.hi8 q)) (hq : C16 q) :
    OwnLaw l y25_ jdk_52_method_5_code 2 (some .char) ws (rR 0 0 0 0) #[(.ref r), (.int (2 : Int32))] Z h0 (QGc2 Z r kr N vs q zc fm h0 n0) := by
  refine own_enter (plainFor_of_name pn_java_lang_StringUTF16) (efGc2 r) ?_
  intro p e s m below meth c s₁ Bd hx hby hml hZ hown X0 e0
  have N0 := Fr.nil n0
  have K0 : Keep h0 h0 [] := Keep.refl _ _
  obtain ⟨T68, X68, e68, st68⟩ := getS2 X0 hx hZ hown (host := "") (Or.inl (own_w hw 93 rfl)) Via.refl e0 (S_AD.ext O0.2) (g := (mkF m 0 #[.val (.ref r), .val (.int (2 : Int32))] [])) rfl (hb hby d21_0)
  refine Goes.step (T' := T68) (g' := (mkF m 3 #[.val (.ref r), .val (.int (2 : Int32))] [(.int (1 : Int32))])) st68 ?_
  refine P1.ifYes X68.here hx 28 (hb hby d21_3) ((if0 _ _).trans (feq (by decide : ¬ ((1 : Int32) = (0 : Int32)))).2) (by decide) (by decide) ?_
  refine P1.iloadN X68.here hx (hb hby d21_28) rfl ?_
  refine P1.iconst X68.here hx (1 : Int32) (hb hby d21_29) rfl ?_
  refine P1.ishl X68.here hx (hb hby d21_30) ?_
  have rw69 : ((2 : Int32) <<< ((1 : Int32) &&& 31)) = (4 : Int32) := by decide
  rw [rw69]
  refine P1.istoreN X68.here hx #[.val (.ref r), .val (.int (4 : Int32))] (hb hby d21_31) rfl ?_
  refine P1.aloadN X68.here hx (hb hby d21_32) rfl rfl ?_
  refine P1.iloadN X68.here hx (hb hby d21_33) rfl ?_
  refine P1.iinc X68.here hx #[.val (.ref r), .val (.int ((4 : Int32) + (1 : Int32)))] (hb hby d21_34) rfl rfl ?_
  have rw70 : ((4 : Int32) + (1 : Int32)) = (5 : Int32) := by decide
  rw [rw70]
  obtain ⟨cl71, Ar71, qk71, sl71, nz71, ha71, fi71⟩ := id Vr
  have i72 := inb_of (j := (4 : Int32)) sl71 ub0
  refine Goes.step (T' := T68) (g' := (mkF m 38 #[.val (.ref r), .val (.int (5 : Int32))] [(.int (StrChars.lo8 q))])) (fun t_ k_ => X68.baloadBytes hx (j := (4 : Int32)) (v := (.int (StrChars.lo8 q))) (by rw [e68]; exact Ar71.1) (State.isArrayOf_alike hZ.alike Ar71.2.1) Ar71.2.2 i72 (Has.at ha71 i72 ue0) (g := (mkF m 37 #[.val (.ref r), .val (.int (5 : Int32))] [(.int (4 : Int32)), (.ref r)])) rfl rfl (hb hby d21_37) _ k_) ?_
  refine P1.sipush X68.here hx (255 : Int32) (hb hby d21_38) rfl ?_
  refine P1.iand X68.here hx (hb hby d21_41) ?_
  obtain ⟨T73, X73, e73, st73⟩ := getS2 X68 hx hZ hown (host := "") (Or.inl (own_w hw 94 rfl)) Via.refl e68 (S_HI.ext O0.2) (g := (mkF m 42 #[.val (.ref r), .val (.int (5 : Int32))] [(.int ((StrChars.lo8 q) &&& (255 : Int32)))])) rfl (hb hby d21_42)
  refine Goes.step (T' := T73) (g' := (mkF m 45 #[.val (.ref r), .val (.int (5 : Int32))] [(.int (0 : Int32)), (.int ((StrChars.lo8 q) &&& (255 : Int32)))])) st73 ?_
  refine P1.ishl X73.here hx (hb hby d21_45) ?_
  refine P1.aloadN X73.here hx (hb hby d21_46) rfl rfl ?_
  refine P1.iloadN X73.here hx (hb hby d21_47) rfl ?_
  obtain ⟨cl74, Ar74, qk74, sl74, nz74, ha74, fi74⟩ := id Vr
  have i75 := inb_of (j := (5 : Int32)) sl74 ub1
  refine Goes.step (T' := T73) (g' := (mkF m 49 #[.val (.ref r), .val (.int (5 : Int32))] [(.int (StrChars.hi8 q)), (.int (((StrChars.lo8 q) &&& (255 : Int32)) <<< ((0 : Int32) &&& 31)))])) (fun t_ k_ => X73.baloadBytes hx (j := (5 : Int32)) (v := (.int (StrChars.hi8 q))) (by rw [e73]; exact Ar74.1) (State.isArrayOf_alike hZ.alike Ar74.2.1) Ar74.2.2 i75 (Has.at ha74 i75 ue1) (g := (mkF m 48 #[.val (.ref r), .val (.int (5 : Int32))] [(.int (5 : Int32)), (.ref r), (.int (((StrChars.lo8 q) &&& (255 : Int32)) <<< ((0 : Int32) &&& 31)))])) rfl rfl (hb hby d21_48) _ k_) ?_
  refine P1.sipush X73.here hx (255 : Int32) (hb hby d21_49) rfl ?_
  refine P1.iand X73.here hx (hb hby d21_52) ?_
  obtain ⟨T76, X76, e76, st76⟩ := getS2 X73 hx hZ hown (host := "") (Or.inl (own_w hw 95 rfl)) Via.refl e73 (S_LO.ext O0.2) (g := (mkF m 53 #[.val (.ref r), .val (.int (5 : Int32))] [(.int ((StrChars.hi8 q) &&& (255 : Int32))), (.int (((StrChars.lo8 q) &&& (255 : Int32)) <<< ((0 : Int32) &&& 31)))])) rfl (hb hby d21_53)
  refine Goes.step (T' := T76) (g' := (mkF m 56 #[.val (.ref r), .val (.int (5 : Int32))] [(.int (8 : Int32)), (.int ((StrChars.hi8 q) &&& (255 : Int32))), (.int (((StrChars.lo8 q) &&& (255 : Int32)) <<< ((0 : Int32) &&& 31)))])) st76 ?_
  refine P1.ishl X76.here hx (hb hby d21_56) ?_
  refine P1.ior X76.here hx (hb hby d21_57) ?_
  refine P1.i2c X76.here hx (hb hby d21_58) ?_
  have rw77 : (((((StrChars.lo8 q) &&& (255 : Int32)) <<< ((0 : Int32) &&& 31)) ||| (((StrChars.hi8 q) &&& (255 : Int32)) <<< ((8 : Int32) &&& 31))).toUInt32.toUInt16.toUInt32.toInt32) = q := StrChars.pair_says hq.1 hq.2
  rw [rw77]
  refine Goes.retN X76 hx Bd.notSynchronized (t := .char) Bd.returns (by simp) (hb hby d21_59) (ok rfl) (ok rfl) ?_
  rw [e76]
  exact ⟨by rw [hq.nc], N0, rfl⟩
theorem d18_0 : decode jdk_52_method_2_code 0 = .ok (.iload_n 0, 1) := by decide +kernel
theorem d18_1 : decode jdk_52_method_2_code 1 = .ok (.invokestatic 11, 3) := by decide +kernel
theorem d18_4 : decode jdk_52_method_2_code 4 = .ok (.newarray .byte, 2) := by decide +kernel
theorem d18_6 : decode jdk_52_method_2_code 6 = .ok (.areturn, 1) := by decide +kernel
theorem pd_601 : parseMethodDescriptor "(I)I" = some ⟨[.int], some .int⟩ := by decide +kernel
theorem efNf1  (m : MethodId) : entryFrame m #[(.int (1 : Int32))] 1 = mkF m 0 #[.val (.int (1 : Int32))] [] := by first | (simp [entryFrame, mkF, argsToLocals, Value.category]; done) | rfl
def QNf1 (Z : State)  (h0 : Heap) (n0 : Nat) (v : Option Value) (h : Heap) (L : List Loc) : Prop := ∃ r kr, v = some (.ref r) ∧ Fr n0 L ∧ Keep h0 h [] ∧ h0.size ≤ r ∧ Arv Z h r kr .byte (2 : Int32) [(.int (0 : Int32)), (.int (0 : Int32))] (.int (0 : Int32))
set_option maxRecDepth 65536 in
set_option maxHeartbeats 40000000 in
theorem rmNf1 (l : Launch) (Z : State) (a0 : Array Value) (hw : ∀ d ∈ tables_1, d.before a0 Z = true) (ws : List Jvm.Cond)  (h0 : Heap) (n0 : Nat) (Z0 : n0 ≤ h0.size) (O0 : Old Z n0 h0) :
    OwnLaw l y27_ jdk_52_method_2_code 1 (some (.array .byte)) ws (rR 1 1 2 12) #[(.int (1 : Int32))] Z h0 (QNf1 Z  h0 n0) := by
  refine own_enter (plainFor_of_name pn_java_lang_StringUTF16) (efNf1 ) ?_
  intro p e s m below meth c s₁ Bd hx hby hml hZ hown X0 e0
  have N0 := Fr.nil n0
  have K0 : Keep h0 h0 [] := Keep.refl _ _
  refine P1.iloadN X0.here hx (hb hby d18_0) rfl ?_
  refine P1.callS X0 hx hZ hown (own_w hw 86 rfl) (own_w hw 87 rfl) (own_w hw 48 rfl) (own_w hw 88 rfl) (by decide) (rmNl1 l Z a0 hw []  h0 n0 Z0 O0 ) hml [(.int (1 : Int32))] [] (lenOf pd_601 rfl) rfl rfl (hb hby d18_1) rfl e0 (ok rfl) (ok rfl) (ok rfl) (ok rfl) ?_
  intro v78 T78 L78 q78 X78
  obtain ⟨rfl, N78q, hE78⟩ := q78
  have N78 := Fr.app N0 N78q
  show Goes p e below _ T78 (mkF m 4 #[.val (.int (1 : Int32))] [(.int (2 : Int32))])
  obtain ⟨T79, h79, k79, X79, e79, E79, A79, st79⟩ := newP X78 hx hZ (own_w hw 24 rfl) hE78 (g := (mkF m 4 #[.val (.int (1 : Int32))] [(.int (2 : Int32))])) rfl (hb hby d18_4) rfl (by decide) (cap := 2) (ok rfl) (ok rfl) (ok rfl) (ok rfl)
  obtain ⟨b79, g79⟩ : ∃ z, z = h0.size := ⟨_, rfl⟩
  rw [← g79] at A79 st79
  have ge_b79 : n0 ≤ b79 := Nat.le_trans Z0 (Nat.le_of_eq g79.symm)
  have sz_b79 : h0.size ≤ b79 := Nat.le_trans K0.1 (Nat.le_of_eq g79.symm)
  have V79 : Arv Z h79 b79 k79 .byte (2 : Int32) [(.int (0 : Int32)), (.int (0 : Int32))] (.int (0 : Int32)) := (Arv.new A79 (by decide)).pad (pad_rep [] (.int (0 : Int32)) 2)
  refine Goes.step (T' := T79) (g' := (mkF m 6 #[.val (.int (1 : Int32))] [(.ref b79)])) st79 ?_
  refine Goes.retA X79 hx Bd.notSynchronized Bd.returns rfl rfl (hb hby d18_6) (ok rfl) (ok rfl) ?_
  rw [e79]
  have K80 : Keep h0 h79 [] := K0.ext E79
  exact ⟨b79, k79, rfl, N78, K80, sz_b79, V79⟩
theorem d20_0 : decode jdk_52_method_4_code 0 = .ok (.getstatic 44, 3) := by decide +kernel
theorem d20_3 : decode jdk_52_method_4_code 3 = .ok (.ifCond .ne 25, 3) := by decide +kernel
theorem d20_28 : decode jdk_52_method_4_code 28 = .ok (.iload_n 1, 1) := by decide +kernel
theorem d20_29 : decode jdk_52_method_4_code 29 = .ok (.iconst 1, 1) := by decide +kernel
theorem d20_30 : decode jdk_52_method_4_code 30 = .ok (.ishl, 1) := by decide +kernel
theorem d20_31 : decode jdk_52_method_4_code 31 = .ok (.istore_n 1, 1) := by decide +kernel
theorem d20_32 : decode jdk_52_method_4_code 32 = .ok (.aload_n 0, 1) := by decide +kernel
theorem d20_33 : decode jdk_52_method_4_code 33 = .ok (.iload_n 1, 1) := by decide +kernel
theorem d20_34 : decode jdk_52_method_4_code 34 = .ok (.iinc 1 1, 3) := by decide +kernel
theorem d20_37 : decode jdk_52_method_4_code 37 = .ok (.iload_n 2, 1) := by decide +kernel
theorem d20_38 : decode jdk_52_method_4_code 38 = .ok (.getstatic 59, 3) := by decide +kernel
theorem d20_41 : decode jdk_52_method_4_code 41 = .ok (.ishr, 1) := by decide +kernel
theorem d20_42 : decode jdk_52_method_4_code 42 = .ok (.i2b, 1) := by decide +kernel
theorem d20_43 : decode jdk_52_method_4_code 43 = .ok (.bastore, 1) := by decide +kernel
theorem d20_44 : decode jdk_52_method_4_code 44 = .ok (.aload_n 0, 1) := by decide +kernel
theorem d20_45 : decode jdk_52_method_4_code 45 = .ok (.iload_n 1, 1) := by decide +kernel
theorem d20_46 : decode jdk_52_method_4_code 46 = .ok (.iload_n 2, 1) := by decide +kernel
theorem d20_47 : decode jdk_52_method_4_code 47 = .ok (.getstatic 63, 3) := by decide +kernel
theorem d20_50 : decode jdk_52_method_4_code 50 = .ok (.ishr, 1) := by decide +kernel
theorem d20_51 : decode jdk_52_method_4_code 51 = .ok (.i2b, 1) := by decide +kernel
theorem d20_52 : decode jdk_52_method_4_code 52 = .ok (.bastore, 1) := by decide +kernel
theorem d20_53 : decode jdk_52_method_4_code 53 = .ok (.return_, 1) := by decide +kernel
theorem efPc1_0 (r : Addr) (q : Int32) (m : MethodId) : entryFrame m #[(.ref r), (.int (0 : Int32)), (.int q)] 3 = mkF m 0 #[.val (.ref r), .val (.int (0 : Int32)), .val (.int q)] [] := by first | (simp [entryFrame, mkF, argsToLocals, Value.category]; done) | rfl
def QPc1_0 (Z : State) (r : Addr) (kr : ClassId) (ue0 ue1 q zc : Int32) (fm : Value) (h0 : Heap) (n0 : Nat) (v : Option Value) (h : Heap) (L : List Loc) : Prop := v = none ∧ Fr n0 L ∧ Keep h0 h [r] ∧ Arv Z h r kr .byte (2 : Int32) [(.int (StrChars.lo8 q)), (.int (StrChars.hi8 q))] (.int (0 : Int32))
set_option maxRecDepth 65536 in
set_option maxHeartbeats 40000000 in
theorem rmPc1_0 (l : Launch) (Z : State) (a0 : Array Value) (hw : ∀ d ∈ tables_1, d.before a0 Z = true) (ws : List Jvm.Cond) (r : Addr) (kr : ClassId) (ue0 ue1 q zc : Int32) (fm : Value) (h0 : Heap) (n0 : Nat) (Z0 : n0 ≤ h0.size) (O0 : Old Z n0 h0) (S_CS : Sta Z Z.heap "java/lang/String" "COMPACT_STRINGS" "Z" (.int zc)) (hzc : ¬ zc = 0) (S_FM : Sta Z Z.heap "jdk/internal/util/Preconditions" "SIOOBE_FORMATTER" "Ljava/util/function/BiFunction;" fm) (hfm : fm.isRef = true) (S_AD : Sta Z Z.heap "java/lang/StringUTF16" "$assertionsDisabled" "Z" (.int (1 : Int32))) (S_HI : Sta Z Z.heap "java/lang/StringUTF16" "HI_BYTE_SHIFT" "I" (.int (0 : Int32))) (S_LO : Sta Z Z.heap "java/lang/StringUTF16" "LO_BYTE_SHIFT" "I" (.int (8 : Int32))) (gr : n0 ≤ r) (Vr : Arv Z h0 r kr .byte (2 : Int32) [(.int ue0), (.int ue1)] (.int (0 : Int32))) :
    OwnLaw l y30_ jdk_52_method_4_code 3 none ws (rR 0 0 0 0) #[(.ref r), (.int (0 : Int32)), (.int q)] Z h0 (QPc1_0 Z r kr ue0 ue1 q zc fm h0 n0) := by
  refine own_enter (plainFor_of_name pn_java_lang_StringUTF16) (efPc1_0 r q) ?_
  intro p e s m below meth c s₁ Bd hx hby hml hZ hown X0 e0
  have N0 := Fr.nil n0
  have K0 : Keep h0 h0 [] := Keep.refl _ _
  have K0 : Keep h0 h0 [r] := Keep.refl _ _
  obtain ⟨T81, X81, e81, st81⟩ := getS2 X0 hx hZ hown (host := "") (Or.inl (own_w hw 93 rfl)) Via.refl e0 (S_AD.ext O0.2) (g := (mkF m 0 #[.val (.ref r), .val (.int (0 : Int32)), .val (.int q)] [])) rfl (hb hby d20_0)
  refine Goes.step (T' := T81) (g' := (mkF m 3 #[.val (.ref r), .val (.int (0 : Int32)), .val (.int q)] [(.int (1 : Int32))])) st81 ?_
  refine P1.ifYes X81.here hx 28 (hb hby d20_3) ((if0 _ _).trans (feq (by decide : ¬ ((1 : Int32) = (0 : Int32)))).2) (by decide) (by decide) ?_
  refine P1.iloadN X81.here hx (hb hby d20_28) rfl ?_
  refine P1.iconst X81.here hx (1 : Int32) (hb hby d20_29) rfl ?_
  refine P1.ishl X81.here hx (hb hby d20_30) ?_
  have rw82 : ((0 : Int32) <<< ((1 : Int32) &&& 31)) = (0 : Int32) := by decide
  rw [rw82]
  refine P1.istoreN X81.here hx #[.val (.ref r), .val (.int (0 : Int32)), .val (.int q)] (hb hby d20_31) rfl ?_
  refine P1.aloadN X81.here hx (hb hby d20_32) rfl rfl ?_
  refine P1.iloadN X81.here hx (hb hby d20_33) rfl ?_
  refine P1.iinc X81.here hx #[.val (.ref r), .val (.int ((0 : Int32) + (1 : Int32))), .val (.int q)] (hb hby d20_34) rfl rfl ?_
  have rw83 : ((0 : Int32) + (1 : Int32)) = (1 : Int32) := by decide
  rw [rw83]
  refine P1.iloadN X81.here hx (hb hby d20_37) rfl ?_
  obtain ⟨T84, X84, e84, st84⟩ := getS2 X81 hx hZ hown (host := "") (Or.inl (own_w hw 94 rfl)) Via.refl e81 (S_HI.ext O0.2) (g := (mkF m 38 #[.val (.ref r), .val (.int (1 : Int32)), .val (.int q)] [(.int q), (.int (0 : Int32)), (.ref r)])) rfl (hb hby d20_38)
  refine Goes.step (T' := T84) (g' := (mkF m 41 #[.val (.ref r), .val (.int (1 : Int32)), .val (.int q)] [(.int (0 : Int32)), (.int q), (.int (0 : Int32)), (.ref r)])) st84 ?_
  refine P1.ishr X84.here hx (hb hby d20_41) ?_
  have rw85 : (q >>> ((0 : Int32) &&& 31)) = q := StrChars.shr0 q
  rw [rw85]
  refine P1.i2b X84.here hx (hb hby d20_42) ?_
  obtain ⟨cl86, Ar86, qk86, sl86, nz86, ha86, fi86⟩ := id Vr
  obtain ⟨T87, h87, X87, e87, W87, st87⟩ := stB X84 hx hZ e84 Ar86 (j := (0 : Int32)) (inb_of sl86 ⟨by decide, by decide⟩) (g := (mkF m 43 #[.val (.ref r), .val (.int (1 : Int32)), .val (.int q)] [(.int (q.toInt8.toInt32)), (.int (0 : Int32)), (.ref r)])) rfl rfl (hb hby d20_43)
  rw [(own_nb8 q)] at W87
  have V87 : Arv Z h87 r kr .byte (2 : Int32) [(.int (q.toInt8.toInt32)), (.int ue1)] (.int (0 : Int32)) := Arv.set Ar86 qk86 sl86 nz86 ha86 fi86 ((own_nb8 q) ▸ fits_nar_byte (q.toInt8.toInt32)) W87 0 rfl (ok rfl)
  have N87 := Fr.snoc X87 N0 gr
  refine Goes.step (T' := T87) (g' := (mkF m 44 #[.val (.ref r), .val (.int (1 : Int32)), .val (.int q)] [])) st87 ?_
  refine P1.aloadN X87.here hx (hb hby d20_44) rfl rfl ?_
  refine P1.iloadN X87.here hx (hb hby d20_45) rfl ?_
  refine P1.iloadN X87.here hx (hb hby d20_46) rfl ?_
  have O89 : Old Z n0 h87 := O0.wr W87 gr
  obtain ⟨T88, X88, e88, st88⟩ := getS2 X87 hx hZ hown (host := "") (Or.inl (own_w hw 95 rfl)) Via.refl e87 (S_LO.ext O89.2) (g := (mkF m 47 #[.val (.ref r), .val (.int (1 : Int32)), .val (.int q)] [(.int q), (.int (1 : Int32)), (.ref r)])) rfl (hb hby d20_47)
  refine Goes.step (T' := T88) (g' := (mkF m 50 #[.val (.ref r), .val (.int (1 : Int32)), .val (.int q)] [(.int (8 : Int32)), (.int q), (.int (1 : Int32)), (.ref r)])) st88 ?_
  refine P1.ishr X88.here hx (hb hby d20_50) ?_
  refine P1.i2b X88.here hx (hb hby d20_51) ?_
  obtain ⟨cl90, Ar90, qk90, sl90, nz90, ha90, fi90⟩ := id V87
  obtain ⟨T91, h91, X91, e91, W91, st91⟩ := stB X88 hx hZ e88 Ar90 (j := (1 : Int32)) (inb_of sl90 ⟨by decide, by decide⟩) (g := (mkF m 52 #[.val (.ref r), .val (.int (1 : Int32)), .val (.int q)] [(.int ((q >>> ((8 : Int32) &&& 31)).toInt8.toInt32)), (.int (1 : Int32)), (.ref r)])) rfl rfl (hb hby d20_52)
  rw [(own_nb8 (q >>> ((8 : Int32) &&& 31)))] at W91
  have V91 : Arv Z h91 r kr .byte (2 : Int32) [(.int (q.toInt8.toInt32)), (.int ((q >>> ((8 : Int32) &&& 31)).toInt8.toInt32))] (.int (0 : Int32)) := Arv.set Ar90 qk90 sl90 nz90 ha90 fi90 ((own_nb8 (q >>> ((8 : Int32) &&& 31))) ▸ fits_nar_byte ((q >>> ((8 : Int32) &&& 31)).toInt8.toInt32)) W91 1 rfl (ok rfl)
  have N91 := Fr.snoc X91 N87 gr
  refine Goes.step (T' := T91) (g' := (mkF m 53 #[.val (.ref r), .val (.int (1 : Int32)), .val (.int q)] [])) st91 ?_
  refine Goes.retV X91 hx Bd.notSynchronized Bd.returns (hb hby d20_53) (ok rfl) (ok rfl) ?_
  rw [e91]
  have K92 : Keep h0 h87 [r] := K0.wr W87 (Or.inl (by simp))
  have K93 : Keep h0 h91 [r] := K92.wr W91 (Or.inl (by simp))
  exact ⟨rfl, N91, K93, V91⟩
theorem d17_0 : decode jdk_52_method_14_code 0 = .ok (.iload_n 2, 1) := by decide +kernel
theorem d17_1 : decode jdk_52_method_14_code 1 = .ok (.invokestatic 107, 3) := by decide +kernel
theorem d17_4 : decode jdk_52_method_14_code 4 = .ok (.astore_n 3, 1) := by decide +kernel
theorem d17_5 : decode jdk_52_method_14_code 5 = .ok (.iconst 0, 1) := by decide +kernel
theorem d17_6 : decode jdk_52_method_14_code 6 = .ok (.istore 4, 2) := by decide +kernel
theorem d17_8 : decode jdk_52_method_14_code 8 = .ok (.iload 4, 2) := by decide +kernel
theorem d17_10 : decode jdk_52_method_14_code 10 = .ok (.iload_n 2, 1) := by decide +kernel
theorem d17_11 : decode jdk_52_method_14_code 11 = .ok (.if_icmp .ge 21, 3) := by decide +kernel
theorem d17_14 : decode jdk_52_method_14_code 14 = .ok (.aload_n 3, 1) := by decide +kernel
theorem d17_15 : decode jdk_52_method_14_code 15 = .ok (.iload 4, 2) := by decide +kernel
theorem d17_17 : decode jdk_52_method_14_code 17 = .ok (.aload_n 0, 1) := by decide +kernel
theorem d17_18 : decode jdk_52_method_14_code 18 = .ok (.iload_n 1, 1) := by decide +kernel
theorem d17_19 : decode jdk_52_method_14_code 19 = .ok (.caload, 1) := by decide +kernel
theorem d17_20 : decode jdk_52_method_14_code 20 = .ok (.invokestatic 111, 3) := by decide +kernel
theorem d17_23 : decode jdk_52_method_14_code 23 = .ok (.iinc 1 1, 3) := by decide +kernel
theorem d17_26 : decode jdk_52_method_14_code 26 = .ok (.iinc 4 1, 3) := by decide +kernel
theorem d17_29 : decode jdk_52_method_14_code 29 = .ok (.goto (-21), 3) := by decide +kernel
theorem d17_32 : decode jdk_52_method_14_code 32 = .ok (.aload_n 3, 1) := by decide +kernel
theorem d17_33 : decode jdk_52_method_14_code 33 = .ok (.areturn, 1) := by decide +kernel
theorem pd_1003 : parseMethodDescriptor "(I)[B" = some ⟨[.int], some (.array .byte)⟩ := by decide +kernel
theorem pd_1925 : parseMethodDescriptor "([BII)V" = some ⟨[(.array .byte), .int, .int], none⟩ := by decide +kernel
theorem efTb1 (b : Addr) (m : MethodId) : entryFrame m #[(.ref b), (.int (0 : Int32)), (.int (1 : Int32))] 5 = mkF m 0 #[.val (.ref b), .val (.int (0 : Int32)), .val (.int (1 : Int32)), .unset, .unset] [] := by first | (simp [entryFrame, mkF, argsToLocals, Value.category]; done) | rfl
def QTb1 (Z : State) (b : Addr) (kb : ClassId) (c0 zc : Int32) (fm : Value) (h0 : Heap) (n0 : Nat) (v : Option Value) (h : Heap) (L : List Loc) : Prop := ∃ r kr, v = some (.ref r) ∧ Fr n0 L ∧ Keep h0 h [] ∧ h0.size ≤ r ∧ Arv Z h r kr .byte (2 : Int32) [(.int (StrChars.lo8 c0)), (.int (StrChars.hi8 c0))] (.int (0 : Int32))
set_option maxRecDepth 65536 in
set_option maxHeartbeats 40000000 in
theorem rmTb1 (l : Launch) (Z : State) (a0 : Array Value) (hw : ∀ d ∈ tables_1, d.before a0 Z = true) (ws : List Jvm.Cond) (b : Addr) (kb : ClassId) (c0 zc : Int32) (fm : Value) (h0 : Heap) (n0 : Nat) (Z0 : n0 ≤ h0.size) (O0 : Old Z n0 h0) (S_CS : Sta Z Z.heap "java/lang/String" "COMPACT_STRINGS" "Z" (.int zc)) (hzc : ¬ zc = 0) (S_FM : Sta Z Z.heap "jdk/internal/util/Preconditions" "SIOOBE_FORMATTER" "Ljava/util/function/BiFunction;" fm) (hfm : fm.isRef = true) (S_AD : Sta Z Z.heap "java/lang/StringUTF16" "$assertionsDisabled" "Z" (.int (1 : Int32))) (S_HI : Sta Z Z.heap "java/lang/StringUTF16" "HI_BYTE_SHIFT" "I" (.int (0 : Int32))) (S_LO : Sta Z Z.heap "java/lang/StringUTF16" "LO_BYTE_SHIFT" "I" (.int (8 : Int32))) (Vb : Arv Z h0 b kb .char (1 : Int32) [(.int c0)] (.int (0 : Int32))) :
    OwnLaw l y31_ jdk_52_method_14_code 5 (some (.array .byte)) ws (rR 2 1 2 24) #[(.ref b), (.int (0 : Int32)), (.int (1 : Int32))] Z h0 (QTb1 Z b kb c0 zc fm h0 n0) := by
  refine own_enter (plainFor_of_name pn_java_lang_StringUTF16) (efTb1 b) ?_
  intro p e s m below meth c s₁ Bd hx hby hml hZ hown X0 e0
  have N0 := Fr.nil n0
  have K0 : Keep h0 h0 [] := Keep.refl _ _
  refine P1.iloadN X0.here hx (hb hby d17_0) rfl ?_
  refine P1.callS X0 hx hZ hown (own_w hw 83 rfl) (own_w hw 84 rfl) (own_w hw 48 rfl) (own_w hw 85 rfl) (by decide) (rmNf1 l Z a0 hw []  h0 n0 Z0 O0 ) hml [(.int (1 : Int32))] [] (lenOf pd_1003 rfl) rfl rfl (hb hby d17_1) rfl e0 (ok rfl) (ok rfl) (ok rfl) (ok rfl) ?_
  intro v94 T94 L94 q94 X94
  obtain ⟨r94, kr94, rfl, N94q, K94, szr94, g94V⟩ := q94
  have ge_r94 : n0 ≤ r94 := Nat.le_trans Z0 szr94
  have sz_r94 : h0.size ≤ r94 := Nat.le_trans K0.1 szr94
  have N94 := Fr.app N0 N94q
  show Goes p e below _ T94 (mkF m 4 #[.val (.ref b), .val (.int (0 : Int32)), .val (.int (1 : Int32)), .unset, .unset] [(.ref r94)])
  refine P1.astoreN X94.here hx #[.val (.ref b), .val (.int (0 : Int32)), .val (.int (1 : Int32)), .val (.ref r94), .unset] (hb hby d17_4) rfl rfl ?_
  refine P1.iconst X94.here hx (0 : Int32) (hb hby d17_5) rfl ?_
  refine P1.istore X94.here hx #[.val (.ref b), .val (.int (0 : Int32)), .val (.int (1 : Int32)), .val (.ref r94), .val (.int (0 : Int32))] (hb hby d17_6) rfl ?_
  refine P1.iload X94.here hx (hb hby d17_8) rfl ?_
  refine P1.iloadN X94.here hx (hb hby d17_10) rfl ?_
  refine P1.icmpNo X94.here hx (hb hby d17_11) (tlt (by decide : (0 : Int32) < (1 : Int32))).2.1 ?_
  refine P1.aloadN X94.here hx (hb hby d17_14) rfl rfl ?_
  refine P1.iload X94.here hx (hb hby d17_15) rfl ?_
  refine P1.aloadN X94.here hx (hb hby d17_17) rfl rfl ?_
  refine P1.iloadN X94.here hx (hb hby d17_18) rfl ?_
  have V95 : Arv Z T94.heap b kb .char (1 : Int32) [(.int c0)] (.int (0 : Int32)) := Vb.keep K94 nin0
  obtain ⟨cl96, Ar96, qk96, sl96, nz96, ha96, fi96⟩ := id V95
  have i97 := inb_of (j := (0 : Int32)) sl96 ⟨by decide, by decide⟩
  refine Goes.step (T' := T94) (g' := (mkF m 20 #[.val (.ref b), .val (.int (0 : Int32)), .val (.int (1 : Int32)), .val (.ref r94), .val (.int (0 : Int32))] [(.int c0), (.int (0 : Int32)), (.ref r94)])) (fun t_ k_ => X94.caload hx (j := (0 : Int32)) (v := (.int c0)) Ar96.1 (State.isArrayOf_alike hZ.alike Ar96.2.1) Ar96.2.2 i97 (Has.at ha96 i97 rfl) (g := (mkF m 19 #[.val (.ref b), .val (.int (0 : Int32)), .val (.int (1 : Int32)), .val (.ref r94), .val (.int (0 : Int32))] [(.int (0 : Int32)), (.ref b), (.int (0 : Int32)), (.ref r94)])) rfl rfl (hb hby d17_19) _ k_) ?_
  have Z98 : n0 ≤ T94.heap.size := Nat.le_trans Z0 K94.1
  have O99 : Old Z n0 T94.heap := O0.keep K94 all0
  refine P1.callS X94 hx hZ hown (own_w hw 90 rfl) (own_w hw 91 rfl) (own_w hw 48 rfl) (own_w hw 92 rfl) (by decide) (rmPc1_0 l Z a0 hw [] r94 kr94 (0 : Int32) (0 : Int32) c0 zc fm T94.heap n0 Z98 O99 S_CS hzc S_FM hfm S_AD S_HI S_LO ge_r94 g94V) hml [(.ref r94), (.int (0 : Int32)), (.int c0)] [] (lenOf pd_1925 rfl) rfl rfl (hb hby d17_20) rfl rfl (ok rfl) (ok rfl) (ok rfl) (ok rfl) ?_
  intro v100 T100 L100 q100 X100
  obtain ⟨rfl, N100q, K100, g100V⟩ := q100
  have N100 := Fr.app N94 N100q
  show Goes p e below _ T100 (mkF m 23 #[.val (.ref b), .val (.int (0 : Int32)), .val (.int (1 : Int32)), .val (.ref r94), .val (.int (0 : Int32))] [])
  refine P1.iinc X100.here hx #[.val (.ref b), .val (.int ((0 : Int32) + (1 : Int32))), .val (.int (1 : Int32)), .val (.ref r94), .val (.int (0 : Int32))] (hb hby d17_23) rfl rfl ?_
  have rw101 : ((0 : Int32) + (1 : Int32)) = (1 : Int32) := by decide
  rw [rw101]
  refine P1.iinc X100.here hx #[.val (.ref b), .val (.int (1 : Int32)), .val (.int (1 : Int32)), .val (.ref r94), .val (.int ((0 : Int32) + (1 : Int32)))] (hb hby d17_26) rfl rfl ?_
  have rw102 : ((0 : Int32) + (1 : Int32)) = (1 : Int32) := by decide
  rw [rw102]
  refine P1.goto X100.here hx 8 (hb hby d17_29) (by decide) (by decide) ?_
  refine P1.iload X100.here hx (hb hby d17_8) rfl ?_
  refine P1.iloadN X100.here hx (hb hby d17_10) rfl ?_
  refine P1.icmpYes X100.here hx 32 (hb hby d17_11) (flt (by decide : ¬ ((1 : Int32) < (1 : Int32)))).2.1 (by decide) (by decide) ?_
  refine P1.aloadN X100.here hx (hb hby d17_32) rfl rfl ?_
  refine Goes.retA X100 hx Bd.notSynchronized Bd.returns rfl rfl (hb hby d17_33) (ok rfl) (ok rfl) ?_
  have K103 : Keep h0 T94.heap [] := K0.trans K94 all0
  have K104 : Keep h0 T100.heap [] := K103.trans K100 (allS (Or.inr sz_r94) all0)
  exact ⟨r94, kr94, rfl, N100, K104, sz_r94, g100V⟩
theorem d10_0 : decode jdk_52_method_21_code 0 = .ok (.iconst 0, 1) := by decide +kernel
theorem d10_1 : decode jdk_52_method_21_code 1 = .ok (.istore 5, 2) := by decide +kernel
theorem d10_3 : decode jdk_52_method_21_code 3 = .ok (.iload 5, 2) := by decide +kernel
theorem d10_5 : decode jdk_52_method_21_code 5 = .ok (.iload 4, 2) := by decide +kernel
theorem d10_7 : decode jdk_52_method_21_code 7 = .ok (.if_icmp .ge 37, 3) := by decide +kernel
theorem d10_10 : decode jdk_52_method_21_code 10 = .ok (.aload_n 0, 1) := by decide +kernel
theorem d10_11 : decode jdk_52_method_21_code 11 = .ok (.iload_n 1, 1) := by decide +kernel
theorem d10_12 : decode jdk_52_method_21_code 12 = .ok (.caload, 1) := by decide +kernel
theorem d10_13 : decode jdk_52_method_21_code 13 = .ok (.istore 6, 2) := by decide +kernel
theorem d10_15 : decode jdk_52_method_21_code 15 = .ok (.iload 6, 2) := by decide +kernel
theorem d10_17 : decode jdk_52_method_21_code 17 = .ok (.sipush 255, 3) := by decide +kernel
theorem d10_20 : decode jdk_52_method_21_code 20 = .ok (.if_icmp .le 6, 3) := by decide +kernel
theorem d10_23 : decode jdk_52_method_21_code 23 = .ok (.iload 5, 2) := by decide +kernel
theorem d10_25 : decode jdk_52_method_21_code 25 = .ok (.ireturn, 1) := by decide +kernel
theorem d10_26 : decode jdk_52_method_21_code 26 = .ok (.aload_n 2, 1) := by decide +kernel
theorem d10_27 : decode jdk_52_method_21_code 27 = .ok (.iload_n 3, 1) := by decide +kernel
theorem d10_28 : decode jdk_52_method_21_code 28 = .ok (.iload 6, 2) := by decide +kernel
theorem d10_30 : decode jdk_52_method_21_code 30 = .ok (.i2b, 1) := by decide +kernel
theorem d10_31 : decode jdk_52_method_21_code 31 = .ok (.bastore, 1) := by decide +kernel
theorem d10_32 : decode jdk_52_method_21_code 32 = .ok (.iinc 1 1, 3) := by decide +kernel
theorem d10_35 : decode jdk_52_method_21_code 35 = .ok (.iinc 3 1, 3) := by decide +kernel
theorem d10_38 : decode jdk_52_method_21_code 38 = .ok (.iinc 5 1, 3) := by decide +kernel
theorem d10_41 : decode jdk_52_method_21_code 41 = .ok (.goto (-38), 3) := by decide +kernel
theorem d10_44 : decode jdk_52_method_21_code 44 = .ok (.iload 4, 2) := by decide +kernel
theorem d10_46 : decode jdk_52_method_21_code 46 = .ok (.ireturn, 1) := by decide +kernel
theorem efCq1 (b r : Addr) (m : MethodId) : entryFrame m #[(.ref b), (.int (0 : Int32)), (.ref r), (.int (0 : Int32)), (.int (1 : Int32))] 7 = mkF m 0 #[.val (.ref b), .val (.int (0 : Int32)), .val (.ref r), .val (.int (0 : Int32)), .val (.int (1 : Int32)), .unset, .unset] [] := by first | (simp [entryFrame, mkF, argsToLocals, Value.category]; done) | rfl
def QCq1 (Z : State) (b : Addr) (kb : ClassId) (c0 : Int32) (r : Addr) (kr : ClassId) (h0 : Heap) (n0 : Nat) (v : Option Value) (h : Heap) (L : List Loc) : Prop := Fr n0 L ∧ Keep h0 h [r] ∧ ((v = some (.int (1 : Int32)) ∧ (∀ c ∈ ([c0] : List Int32), ¬ (255 : Int32) < c) ∧ Arv Z h r kr .byte (1 : Int32) [(.int (StrChars.lo8 c0))] (.int (0 : Int32))) ∨ (v = some (.int (0 : Int32)) ∧ (255 : Int32) < c0))
set_option maxRecDepth 65536 in
set_option maxHeartbeats 40000000 in
theorem rmCq1 (l : Launch) (Z : State) (a0 : Array Value) (hw : ∀ d ∈ tables_1, d.before a0 Z = true) (ws : List Jvm.Cond) (b : Addr) (kb : ClassId) (c0 : Int32) (r : Addr) (kr : ClassId) (h0 : Heap) (n0 : Nat) (Z0 : n0 ≤ h0.size) (O0 : Old Z n0 h0) (Vb : Arv Z h0 b kb .char (1 : Int32) [(.int c0)] (.int (0 : Int32))) (gr : n0 ≤ r) (Vr : Arv Z h0 r kr .byte (1 : Int32) [(.int (0 : Int32))] (.int (0 : Int32))) (neb : b ≠ r) :
    OwnLaw l y24_ jdk_52_method_21_code 7 (some .int) ws (rR 0 0 0 0) #[(.ref b), (.int (0 : Int32)), (.ref r), (.int (0 : Int32)), (.int (1 : Int32))] Z h0 (QCq1 Z b kb c0 r kr h0 n0) := by
  refine own_enter (plainFor_of_name pn_java_lang_StringUTF16) (efCq1 b r) ?_
  intro p e s m below meth c s₁ Bd hx hby hml hZ hown X0 e0
  have N0 := Fr.nil n0
  have K0 : Keep h0 h0 [] := Keep.refl _ _
  have K0 : Keep h0 h0 [r] := Keep.refl _ _
  refine P1.iconst X0.here hx (0 : Int32) (hb hby d10_0) rfl ?_
  refine P1.istore X0.here hx #[.val (.ref b), .val (.int (0 : Int32)), .val (.ref r), .val (.int (0 : Int32)), .val (.int (1 : Int32)), .val (.int (0 : Int32)), .unset] (hb hby d10_1) rfl ?_
  refine P1.iload X0.here hx (hb hby d10_3) rfl ?_
  refine P1.iload X0.here hx (hb hby d10_5) rfl ?_
  refine P1.icmpNo X0.here hx (hb hby d10_7) (tlt (by decide : (0 : Int32) < (1 : Int32))).2.1 ?_
  refine P1.aloadN X0.here hx (hb hby d10_10) rfl rfl ?_
  refine P1.iloadN X0.here hx (hb hby d10_11) rfl ?_
  obtain ⟨cl105, Ar105, qk105, sl105, nz105, ha105, fi105⟩ := id Vb
  have i106 := inb_of (j := (0 : Int32)) sl105 ⟨by decide, by decide⟩
  refine Goes.step (T' := s₁) (g' := (mkF m 13 #[.val (.ref b), .val (.int (0 : Int32)), .val (.ref r), .val (.int (0 : Int32)), .val (.int (1 : Int32)), .val (.int (0 : Int32)), .unset] [(.int c0)])) (fun t_ k_ => X0.caload hx (j := (0 : Int32)) (v := (.int c0)) (by rw [e0]; exact Ar105.1) (State.isArrayOf_alike hZ.alike Ar105.2.1) Ar105.2.2 i106 (Has.at ha105 i106 rfl) (g := (mkF m 12 #[.val (.ref b), .val (.int (0 : Int32)), .val (.ref r), .val (.int (0 : Int32)), .val (.int (1 : Int32)), .val (.int (0 : Int32)), .unset] [(.int (0 : Int32)), (.ref b)])) rfl rfl (hb hby d10_12) _ k_) ?_
  refine P1.istore X0.here hx #[.val (.ref b), .val (.int (0 : Int32)), .val (.ref r), .val (.int (0 : Int32)), .val (.int (1 : Int32)), .val (.int (0 : Int32)), .val (.int c0)] (hb hby d10_13) rfl ?_
  refine P1.iload X0.here hx (hb hby d10_15) rfl ?_
  refine P1.sipush X0.here hx (255 : Int32) (hb hby d10_17) rfl ?_
  by_cases hb0 : (255 : Int32) < c0
  ·
    refine P1.icmpNo X0.here hx (hb hby d10_20) (tlt (hb0 : (255 : Int32) < c0)).2.2.2 ?_
    refine P1.iload X0.here hx (hb hby d10_23) rfl ?_
    refine Goes.retI X0 hx Bd.notSynchronized Bd.returns (hb hby d10_25) (ok rfl) (ok rfl) ?_
    rw [e0]
    exact ⟨N0, K0, Or.inr ⟨rfl, hb0⟩⟩
  ·
    refine P1.icmpYes X0.here hx 26 (hb hby d10_20) (flt (hb0 : ¬ ((255 : Int32) < c0))).2.2.2 (by decide) (by decide) ?_
    refine P1.aloadN X0.here hx (hb hby d10_26) rfl rfl ?_
    refine P1.iloadN X0.here hx (hb hby d10_27) rfl ?_
    refine P1.iload X0.here hx (hb hby d10_28) rfl ?_
    refine P1.i2b X0.here hx (hb hby d10_30) ?_
    obtain ⟨cl107, Ar107, qk107, sl107, nz107, ha107, fi107⟩ := id Vr
    obtain ⟨T108, h108, X108, e108, W108, st108⟩ := stB X0 hx hZ e0 Ar107 (j := (0 : Int32)) (inb_of sl107 ⟨by decide, by decide⟩) (g := (mkF m 31 #[.val (.ref b), .val (.int (0 : Int32)), .val (.ref r), .val (.int (0 : Int32)), .val (.int (1 : Int32)), .val (.int (0 : Int32)), .val (.int c0)] [(.int (c0.toInt8.toInt32)), (.int (0 : Int32)), (.ref r)])) rfl rfl (hb hby d10_31)
    rw [(own_nb8 c0)] at W108
    have V108 : Arv Z h108 r kr .byte (1 : Int32) [(.int (c0.toInt8.toInt32))] (.int (0 : Int32)) := Arv.set Ar107 qk107 sl107 nz107 ha107 fi107 ((own_nb8 c0) ▸ fits_nar_byte (c0.toInt8.toInt32)) W108 0 rfl (ok rfl)
    have N108 := Fr.snoc X108 N0 gr
    refine Goes.step (T' := T108) (g' := (mkF m 32 #[.val (.ref b), .val (.int (0 : Int32)), .val (.ref r), .val (.int (0 : Int32)), .val (.int (1 : Int32)), .val (.int (0 : Int32)), .val (.int c0)] [])) st108 ?_
    refine P1.iinc X108.here hx #[.val (.ref b), .val (.int ((0 : Int32) + (1 : Int32))), .val (.ref r), .val (.int (0 : Int32)), .val (.int (1 : Int32)), .val (.int (0 : Int32)), .val (.int c0)] (hb hby d10_32) rfl rfl ?_
    have rw109 : ((0 : Int32) + (1 : Int32)) = (1 : Int32) := by decide
    rw [rw109]
    refine P1.iinc X108.here hx #[.val (.ref b), .val (.int (1 : Int32)), .val (.ref r), .val (.int ((0 : Int32) + (1 : Int32))), .val (.int (1 : Int32)), .val (.int (0 : Int32)), .val (.int c0)] (hb hby d10_35) rfl rfl ?_
    have rw110 : ((0 : Int32) + (1 : Int32)) = (1 : Int32) := by decide
    rw [rw110]
    refine P1.iinc X108.here hx #[.val (.ref b), .val (.int (1 : Int32)), .val (.ref r), .val (.int (1 : Int32)), .val (.int (1 : Int32)), .val (.int ((0 : Int32) + (1 : Int32))), .val (.int c0)] (hb hby d10_38) rfl rfl ?_
    have rw111 : ((0 : Int32) + (1 : Int32)) = (1 : Int32) := by decide
    rw [rw111]
    refine P1.goto X108.here hx 3 (hb hby d10_41) (by decide) (by decide) ?_
    refine P1.iload X108.here hx (hb hby d10_3) rfl ?_
    refine P1.iload X108.here hx (hb hby d10_5) rfl ?_
    refine P1.icmpYes X108.here hx 44 (hb hby d10_7) (flt (by decide : ¬ ((1 : Int32) < (1 : Int32)))).2.1 (by decide) (by decide) ?_
    refine P1.iload X108.here hx (hb hby d10_44) rfl ?_
    refine Goes.retI X108 hx Bd.notSynchronized Bd.returns (hb hby d10_46) (ok rfl) (ok rfl) ?_
    rw [e108]
    have K112 : Keep h0 h108 [r] := K0.wr W108 (Or.inl (by simp))
    exact ⟨N108, K112, Or.inl ⟨rfl, (fun c hc => by simp only [List.mem_cons, List.not_mem_nil, or_false] at hc; rcases hc with rfl <;> assumption), V108⟩⟩
theorem d9_0 : decode jdk_52_method_16_code 0 = .ok (.iload_n 2, 1) := by decide +kernel
theorem d9_1 : decode jdk_52_method_16_code 1 = .ok (.newarray .byte, 2) := by decide +kernel
theorem d9_3 : decode jdk_52_method_16_code 3 = .ok (.astore_n 3, 1) := by decide +kernel
theorem d9_4 : decode jdk_52_method_16_code 4 = .ok (.aload_n 0, 1) := by decide +kernel
theorem d9_5 : decode jdk_52_method_16_code 5 = .ok (.iload_n 1, 1) := by decide +kernel
theorem d9_6 : decode jdk_52_method_16_code 6 = .ok (.aload_n 3, 1) := by decide +kernel
theorem d9_7 : decode jdk_52_method_16_code 7 = .ok (.iconst 0, 1) := by decide +kernel
theorem d9_8 : decode jdk_52_method_16_code 8 = .ok (.iload_n 2, 1) := by decide +kernel
theorem d9_9 : decode jdk_52_method_16_code 9 = .ok (.invokestatic 115, 3) := by decide +kernel
theorem d9_12 : decode jdk_52_method_16_code 12 = .ok (.istore 4, 2) := by decide +kernel
theorem d9_14 : decode jdk_52_method_16_code 14 = .ok (.iload 4, 2) := by decide +kernel
theorem d9_16 : decode jdk_52_method_16_code 16 = .ok (.iload_n 2, 1) := by decide +kernel
theorem d9_17 : decode jdk_52_method_16_code 17 = .ok (.if_icmp .eq 40, 3) := by decide +kernel
theorem d9_20 : decode jdk_52_method_16_code 20 = .ok (.aload_n 0, 1) := by decide +kernel
theorem d9_21 : decode jdk_52_method_16_code 21 = .ok (.iload_n 1, 1) := by decide +kernel
theorem d9_22 : decode jdk_52_method_16_code 22 = .ok (.iload_n 2, 1) := by decide +kernel
theorem d9_23 : decode jdk_52_method_16_code 23 = .ok (.invokestatic 119, 3) := by decide +kernel
theorem d9_26 : decode jdk_52_method_16_code 26 = .ok (.astore 5, 2) := by decide +kernel
theorem d9_28 : decode jdk_52_method_16_code 28 = .ok (.aload 5, 2) := by decide +kernel
theorem d9_30 : decode jdk_52_method_16_code 30 = .ok (.iload 4, 2) := by decide +kernel
theorem d9_32 : decode jdk_52_method_16_code 32 = .ok (.invokestatic 71, 3) := by decide +kernel
theorem d9_35 : decode jdk_52_method_16_code 35 = .ok (.sipush 255, 3) := by decide +kernel
theorem d9_38 : decode jdk_52_method_16_code 38 = .ok (.if_icmp .gt 16, 3) := by decide +kernel
theorem d9_54 : decode jdk_52_method_16_code 54 = .ok (.aload 5, 2) := by decide +kernel
theorem d9_56 : decode jdk_52_method_16_code 56 = .ok (.areturn, 1) := by decide +kernel
theorem d9_57 : decode jdk_52_method_16_code 57 = .ok (.aload_n 3, 1) := by decide +kernel
theorem d9_58 : decode jdk_52_method_16_code 58 = .ok (.areturn, 1) := by decide +kernel
theorem pd_3760 : parseMethodDescriptor "([CI[BII)I" = some ⟨[(.array .char), .int, (.array .byte), .int, .int], some .int⟩ := by decide +kernel
theorem pd_2491 : parseMethodDescriptor "([CII)[B" = some ⟨[(.array .char), .int, .int], some (.array .byte)⟩ := by decide +kernel
theorem pd_1319 : parseMethodDescriptor "([BI)C" = some ⟨[(.array .byte), .int], some .char⟩ := by decide +kernel
theorem efCm1 (b : Addr) (m : MethodId) : entryFrame m #[(.ref b), (.int (0 : Int32)), (.int (1 : Int32))] 6 = mkF m 0 #[.val (.ref b), .val (.int (0 : Int32)), .val (.int (1 : Int32)), .unset, .unset, .unset] [] := by first | (simp [entryFrame, mkF, argsToLocals, Value.category]; done) | rfl
def QCm1 (Z : State) (b : Addr) (kb : ClassId) (c0 zc : Int32) (fm : Value) (h0 : Heap) (n0 : Nat) (v : Option Value) (h : Heap) (L : List Loc) : Prop := ∃ r kr, v = some (.ref r) ∧ Fr n0 L ∧ Keep h0 h [] ∧ h0.size ≤ r ∧ (((∀ c ∈ ([c0] : List Int32), ¬ (255 : Int32) < c) ∧ Arv Z h r kr .byte (1 : Int32) [(.int (StrChars.lo8 c0))] (.int (0 : Int32))) ∨ ((∃ c ∈ ([c0] : List Int32), (255 : Int32) < c) ∧ Arv Z h r kr .byte (2 : Int32) [(.int (StrChars.lo8 c0)), (.int (StrChars.hi8 c0))] (.int (0 : Int32))))
set_option maxRecDepth 65536 in
set_option maxHeartbeats 40000000 in
theorem rmCm1 (l : Launch) (Z : State) (a0 : Array Value) (hw : ∀ d ∈ tables_1, d.before a0 Z = true) (ws : List Jvm.Cond) (b : Addr) (kb : ClassId) (c0 zc : Int32) (fm : Value) (h0 : Heap) (n0 : Nat) (Z0 : n0 ≤ h0.size) (O0 : Old Z n0 h0) (S_CS : Sta Z Z.heap "java/lang/String" "COMPACT_STRINGS" "Z" (.int zc)) (hzc : ¬ zc = 0) (S_FM : Sta Z Z.heap "jdk/internal/util/Preconditions" "SIOOBE_FORMATTER" "Ljava/util/function/BiFunction;" fm) (hfm : fm.isRef = true) (S_AD : Sta Z Z.heap "java/lang/StringUTF16" "$assertionsDisabled" "Z" (.int (1 : Int32))) (S_HI : Sta Z Z.heap "java/lang/StringUTF16" "HI_BYTE_SHIFT" "I" (.int (0 : Int32))) (S_LO : Sta Z Z.heap "java/lang/StringUTF16" "LO_BYTE_SHIFT" "I" (.int (8 : Int32))) (Vb : Arv Z h0 b kb .char (1 : Int32) [(.int c0)] (.int (0 : Int32))) (h_c0 : C16 c0) :
    OwnLaw l y23_ jdk_52_method_16_code 6 (some (.array .byte)) ws (rR 3 2 3 40) #[(.ref b), (.int (0 : Int32)), (.int (1 : Int32))] Z h0 (QCm1 Z b kb c0 zc fm h0 n0) := by
  refine own_enter (plainFor_of_name pn_java_lang_StringUTF16) (efCm1 b) ?_
  intro p e s m below meth c s₁ Bd hx hby hml hZ hown X0 e0
  have N0 := Fr.nil n0
  have K0 : Keep h0 h0 [] := Keep.refl _ _
  refine P1.iloadN X0.here hx (hb hby d9_0) rfl ?_
  obtain ⟨T113, h113, k113, X113, e113, E113, A113, st113⟩ := newP X0 hx hZ (own_w hw 24 rfl) e0 (g := (mkF m 1 #[.val (.ref b), .val (.int (0 : Int32)), .val (.int (1 : Int32)), .unset, .unset, .unset] [(.int (1 : Int32))])) rfl (hb hby d9_1) rfl (by decide) (cap := 1) (ok rfl) (ok rfl) (ok rfl) (ok rfl)
  obtain ⟨b113, g113⟩ : ∃ z, z = h0.size := ⟨_, rfl⟩
  rw [← g113] at A113 st113
  have ge_b113 : n0 ≤ b113 := Nat.le_trans Z0 (Nat.le_of_eq g113.symm)
  have sz_b113 : h0.size ≤ b113 := Nat.le_trans K0.1 (Nat.le_of_eq g113.symm)
  have V113 : Arv Z h113 b113 k113 .byte (1 : Int32) [(.int (0 : Int32))] (.int (0 : Int32)) := (Arv.new A113 (by decide)).pad (pad_rep [] (.int (0 : Int32)) 1)
  refine Goes.step (T' := T113) (g' := (mkF m 3 #[.val (.ref b), .val (.int (0 : Int32)), .val (.int (1 : Int32)), .unset, .unset, .unset] [(.ref b113)])) st113 ?_
  refine P1.astoreN X113.here hx #[.val (.ref b), .val (.int (0 : Int32)), .val (.int (1 : Int32)), .val (.ref b113), .unset, .unset] (hb hby d9_3) rfl rfl ?_
  refine P1.aloadN X113.here hx (hb hby d9_4) rfl rfl ?_
  refine P1.iloadN X113.here hx (hb hby d9_5) rfl ?_
  refine P1.aloadN X113.here hx (hb hby d9_6) rfl rfl ?_
  refine P1.iconst X113.here hx (0 : Int32) (hb hby d9_7) rfl ?_
  refine P1.iloadN X113.here hx (hb hby d9_8) rfl ?_
  have V114 : Arv Z h113 b kb .char (1 : Int32) [(.int c0)] (.int (0 : Int32)) := Vb.ext E113
  have ne115 : b ≠ b113 := Nat.ne_of_lt (Nat.lt_of_lt_of_le Vb.lt (Nat.le_of_eq g113.symm))
  have Z116 : n0 ≤ h113.size := Nat.le_trans Z0 E113.1
  have O117 : Old Z n0 h113 := O0.ext E113
  refine P1.callS X113 hx hZ hown (own_w hw 50 rfl) (own_w hw 51 rfl) (own_w hw 48 rfl) (own_w hw 52 rfl) (by decide) (rmCq1 l Z a0 hw [] b kb c0 b113 k113 h113 n0 Z116 O117 V114 ge_b113 V113 ne115) hml [(.ref b), (.int (0 : Int32)), (.ref b113), (.int (0 : Int32)), (.int (1 : Int32))] [] (lenOf pd_3760 rfl) rfl rfl (hb hby d9_9) rfl e113 (ok rfl) (ok rfl) (ok rfl) (ok rfl) ?_
  intro v118 T118 L118 q118 X118
  obtain ⟨N118q, K118, q118⟩ := q118
  have N118 := Fr.app N0 N118q
  rcases q118 with ⟨rfl, hall118, g118V⟩ | ⟨rfl, hbig118⟩
  ·
    show Goes p e below _ T118 (mkF m 12 #[.val (.ref b), .val (.int (0 : Int32)), .val (.int (1 : Int32)), .val (.ref b113), .unset, .unset] [(.int (1 : Int32))])
    refine P1.istore X118.here hx #[.val (.ref b), .val (.int (0 : Int32)), .val (.int (1 : Int32)), .val (.ref b113), .val (.int (1 : Int32)), .unset] (hb hby d9_12) rfl ?_
    refine P1.iload X118.here hx (hb hby d9_14) rfl ?_
    refine P1.iloadN X118.here hx (hb hby d9_16) rfl ?_
    refine P1.icmpYes X118.here hx 57 (hb hby d9_17) (teq (by decide : (1 : Int32) = (1 : Int32))).1 (by decide) (by decide) ?_
    refine P1.aloadN X118.here hx (hb hby d9_57) rfl rfl ?_
    refine Goes.retA X118 hx Bd.notSynchronized Bd.returns rfl rfl (hb hby d9_58) (ok rfl) (ok rfl) ?_
    have K119 : Keep h0 h113 [] := K0.ext E113
    have K120 : Keep h0 T118.heap [] := K119.trans K118 (allS (Or.inr sz_b113) all0)
    exact ⟨b113, k113, rfl, N118, K120, sz_b113, Or.inl ⟨hall118, g118V⟩⟩
  ·
    show Goes p e below _ T118 (mkF m 12 #[.val (.ref b), .val (.int (0 : Int32)), .val (.int (1 : Int32)), .val (.ref b113), .unset, .unset] [(.int (0 : Int32))])
    refine P1.istore X118.here hx #[.val (.ref b), .val (.int (0 : Int32)), .val (.int (1 : Int32)), .val (.ref b113), .val (.int (0 : Int32)), .unset] (hb hby d9_12) rfl ?_
    refine P1.iload X118.here hx (hb hby d9_14) rfl ?_
    refine P1.iloadN X118.here hx (hb hby d9_16) rfl ?_
    refine P1.icmpNo X118.here hx (hb hby d9_17) (feq (by decide : ¬ ((0 : Int32) = (1 : Int32)))).1 ?_
    refine P1.aloadN X118.here hx (hb hby d9_20) rfl rfl ?_
    refine P1.iloadN X118.here hx (hb hby d9_21) rfl ?_
    refine P1.iloadN X118.here hx (hb hby d9_22) rfl ?_
    have K121 : Keep h0 h113 [] := K0.ext E113
    have K122 : Keep h0 T118.heap [] := K121.trans K118 (allS (Or.inr sz_b113) all0)
    have Z123 : n0 ≤ T118.heap.size := Nat.le_trans Z116 K118.1
    have V124 : Arv Z T118.heap b kb .char (1 : Int32) [(.int c0)] (.int (0 : Int32)) := V114.keep K118 (ninS ne115 nin0)
    have O125 : Old Z n0 T118.heap := O117.keep K118 (allS ge_b113 all0)
    refine P1.callS X118 hx hZ hown (own_w hw 80 rfl) (own_w hw 81 rfl) (own_w hw 48 rfl) (own_w hw 82 rfl) (by decide) (rmTb1 l Z a0 hw [] b kb c0 zc fm T118.heap n0 Z123 O125 S_CS hzc S_FM hfm S_AD S_HI S_LO V124) hml [(.ref b), (.int (0 : Int32)), (.int (1 : Int32))] [] (lenOf pd_2491 rfl) rfl rfl (hb hby d9_23) rfl rfl (ok rfl) (ok rfl) (ok rfl) (ok rfl) ?_
    intro v126 T126 L126 q126 X126
    obtain ⟨r126, kr126, rfl, N126q, K126, szr126, g126V⟩ := q126
    have ge_r126 : n0 ≤ r126 := Nat.le_trans Z123 szr126
    have sz_r126 : h0.size ≤ r126 := Nat.le_trans K122.1 szr126
    have N126 := Fr.app N118 N126q
    show Goes p e below _ T126 (mkF m 26 #[.val (.ref b), .val (.int (0 : Int32)), .val (.int (1 : Int32)), .val (.ref b113), .val (.int (0 : Int32)), .unset] [(.ref r126)])
    refine P1.astore X126.here hx #[.val (.ref b), .val (.int (0 : Int32)), .val (.int (1 : Int32)), .val (.ref b113), .val (.int (0 : Int32)), .val (.ref r126)] (hb hby d9_26) rfl rfl ?_
    refine P1.aload X126.here hx (hb hby d9_28) rfl rfl ?_
    refine P1.iload X126.here hx (hb hby d9_30) rfl ?_
    have Z127 : n0 ≤ T126.heap.size := Nat.le_trans Z123 K126.1
    have O128 : Old Z n0 T126.heap := O125.keep K126 all0
    refine P1.callS X126 hx hZ hown (own_w hw 96 rfl) (own_w hw 97 rfl) (own_w hw 48 rfl) (own_w hw 98 rfl) (by decide) (rmGc0 l Z a0 hw [] r126 kr126 (2 : Int32) [(.int (StrChars.lo8 c0)), (.int (StrChars.hi8 c0))] c0 zc fm T126.heap n0 Z127 O128 S_CS hzc S_FM hfm S_AD S_HI S_LO g126V ⟨by decide, by decide⟩ ⟨by decide, by decide⟩ rfl rfl h_c0) hml [(.ref r126), (.int (0 : Int32))] [] (lenOf pd_1319 rfl) rfl rfl (hb hby d9_32) rfl rfl (ok rfl) (ok rfl) (ok rfl) (ok rfl) ?_
    intro v129 T129 L129 q129 X129
    obtain ⟨rfl, N129q, hE129⟩ := q129
    have N129 := Fr.app N126 N129q
    show Goes p e below _ T129 (mkF m 35 #[.val (.ref b), .val (.int (0 : Int32)), .val (.int (1 : Int32)), .val (.ref b113), .val (.int (0 : Int32)), .val (.ref r126)] [(.int c0)])
    refine P1.sipush X129.here hx (255 : Int32) (hb hby d9_35) rfl ?_
    refine P1.icmpYes X129.here hx 54 (hb hby d9_38) (tlt (hbig118 : (255 : Int32) < c0)).2.2.1 (by decide) (by decide) ?_
    refine P1.aload X129.here hx (hb hby d9_54) rfl rfl ?_
    refine Goes.retA X129 hx Bd.notSynchronized Bd.returns rfl rfl (hb hby d9_56) (ok rfl) (ok rfl) ?_
    rw [hE129]
    have K130 : Keep h0 T126.heap [] := K122.trans K126 all0
    exact ⟨r126, kr126, rfl, N129, K130, sz_r126, Or.inr ⟨⟨c0, by simp, hbig118⟩, g126V⟩⟩
theorem d4_0 : decode jdk_42_method_149_code 0 = .ok (.aload_n 0, 1) := by decide +kernel
theorem d4_1 : decode jdk_42_method_149_code 1 = .ok (.invokespecial 1, 3) := by decide +kernel
theorem d4_4 : decode jdk_42_method_149_code 4 = .ok (.iload_n 3, 1) := by decide +kernel
theorem d4_5 : decode jdk_42_method_149_code 5 = .ok (.ifCond .ne 22, 3) := by decide +kernel
theorem d4_8 : decode jdk_42_method_149_code 8 = .ok (.aload_n 0, 1) := by decide +kernel
theorem d4_9 : decode jdk_42_method_149_code 9 = .ok (.ldc 7, 2) := by decide +kernel
theorem d4_11 : decode jdk_42_method_149_code 11 = .ok (.getfield 9, 3) := by decide +kernel
theorem d4_14 : decode jdk_42_method_149_code 14 = .ok (.putfield 9, 3) := by decide +kernel
theorem d4_17 : decode jdk_42_method_149_code 17 = .ok (.aload_n 0, 1) := by decide +kernel
theorem d4_18 : decode jdk_42_method_149_code 18 = .ok (.ldc 7, 2) := by decide +kernel
theorem d4_20 : decode jdk_42_method_149_code 20 = .ok (.getfield 15, 3) := by decide +kernel
theorem d4_23 : decode jdk_42_method_149_code 23 = .ok (.putfield 15, 3) := by decide +kernel
theorem d4_26 : decode jdk_42_method_149_code 26 = .ok (.return_, 1) := by decide +kernel
theorem d4_27 : decode jdk_42_method_149_code 27 = .ok (.getstatic 38, 3) := by decide +kernel
theorem d4_30 : decode jdk_42_method_149_code 30 = .ok (.ifCond .eq 28, 3) := by decide +kernel
theorem d4_33 : decode jdk_42_method_149_code 33 = .ok (.aload_n 1, 1) := by decide +kernel
theorem d4_34 : decode jdk_42_method_149_code 34 = .ok (.iload_n 2, 1) := by decide +kernel
theorem d4_35 : decode jdk_42_method_149_code 35 = .ok (.iload_n 3, 1) := by decide +kernel
theorem d4_36 : decode jdk_42_method_149_code 36 = .ok (.invokestatic 177, 3) := by decide +kernel
theorem d4_39 : decode jdk_42_method_149_code 39 = .ok (.astore 5, 2) := by decide +kernel
theorem d4_41 : decode jdk_42_method_149_code 41 = .ok (.aload_n 0, 1) := by decide +kernel
theorem d4_42 : decode jdk_42_method_149_code 42 = .ok (.aload 5, 2) := by decide +kernel
theorem d4_44 : decode jdk_42_method_149_code 44 = .ok (.iload_n 3, 1) := by decide +kernel
theorem d4_45 : decode jdk_42_method_149_code 45 = .ok (.invokestatic 47, 3) := by decide +kernel
theorem d4_48 : decode jdk_42_method_149_code 48 = .ok (.putfield 15, 3) := by decide +kernel
theorem d4_51 : decode jdk_42_method_149_code 51 = .ok (.aload_n 0, 1) := by decide +kernel
theorem d4_52 : decode jdk_42_method_149_code 52 = .ok (.aload 5, 2) := by decide +kernel
theorem d4_54 : decode jdk_42_method_149_code 54 = .ok (.putfield 9, 3) := by decide +kernel
theorem d4_57 : decode jdk_42_method_149_code 57 = .ok (.return_, 1) := by decide +kernel
theorem pd_1313 : parseMethodDescriptor "([BI)B" = some ⟨[(.array .byte), .int], some .byte⟩ := by decide +kernel
theorem efSic1 (x b : Addr) (m : MethodId) : entryFrame m #[(.ref x), (.ref b), (.int (0 : Int32)), (.int (1 : Int32)), .null] 6 = mkF m 0 #[.val (.ref x), .val (.ref b), .val (.int (0 : Int32)), .val (.int (1 : Int32)), .val .null, .unset] [] := by first | (simp [entryFrame, mkF, argsToLocals, Value.category]; done) | rfl
def QSic1 (Z : State) (x b : Addr) (kb : ClassId) (c0 zc : Int32) (fm : Value) (h0 : Heap) (n0 : Nat) (v : Option Value) (h : Heap) (L : List Loc) : Prop := v = none ∧ Fr n0 L ∧ Keep h0 h [x] ∧ Exa Z h x "java/lang/String" ∧ ∃ t kb cd N2 vs, Fld Z h x "java/lang/String" "value" "[B" (.ref t) ∧ Fld Z h x "java/lang/String" "coder" "B" (.int cd) ∧ Arv Z h t kb .byte N2 vs (.int (0 : Int32)) ∧ StrChars.Road.CodA ([c0] : List Int32) cd N2 vs
set_option maxRecDepth 65536 in
set_option maxHeartbeats 40000000 in
theorem rmSic1 (l : Launch) (Z : State) (a0 : Array Value) (hw : ∀ d ∈ tables_1, d.before a0 Z = true) (ws : List Jvm.Cond) (x b : Addr) (kb : ClassId) (c0 zc : Int32) (fm : Value) (h0 : Heap) (n0 : Nat) (Z0 : n0 ≤ h0.size) (O0 : Old Z n0 h0) (S_CS : Sta Z Z.heap "java/lang/String" "COMPACT_STRINGS" "Z" (.int zc)) (hzc : ¬ zc = 0) (S_FM : Sta Z Z.heap "jdk/internal/util/Preconditions" "SIOOBE_FORMATTER" "Ljava/util/function/BiFunction;" fm) (hfm : fm.isRef = true) (S_AD : Sta Z Z.heap "java/lang/StringUTF16" "$assertionsDisabled" "Z" (.int (1 : Int32))) (S_HI : Sta Z Z.heap "java/lang/StringUTF16" "HI_BYTE_SHIFT" "I" (.int (0 : Int32))) (S_LO : Sta Z Z.heap "java/lang/StringUTF16" "LO_BYTE_SHIFT" "I" (.int (8 : Int32))) (gx : n0 ≤ x) (Ex : Exa Z h0 x "java/lang/String") (Vx : Fld Z h0 x "java/lang/String" "value" "[B" .null) (Cx : Fld Z h0 x "java/lang/String" "coder" "B" (.int (0 : Int32))) (Vb : Arv Z h0 b kb .char (1 : Int32) [(.int c0)] (.int (0 : Int32))) (h_c0 : C16 c0) :
    OwnLaw l y6_ jdk_42_method_149_code 6 none ws (rR 4 2 3 57) #[(.ref x), (.ref b), (.int (0 : Int32)), (.int (1 : Int32)), .null] Z h0 (QSic1 Z x b kb c0 zc fm h0 n0) := by
  refine own_enter (plainFor_of_name pn_java_lang_String) (efSic1 x b) ?_
  intro p e s m below meth c s₁ Bd hx hby hml hZ hown X0 e0
  have hnm := (name_of_methodNamed Bd.named Bd.method).1
  have N0 := Fr.nil n0
  have K0 : Keep h0 h0 [] := Keep.refl _ _
  have K0 : Keep h0 h0 [x] := Keep.refl _ _
  refine P1.aloadN X0.here hx (hb hby d4_0) rfl rfl ?_
  obtain ⟨T131, X131, e131, st131⟩ := initO X0 hx hZ hown (own_w hw 20 rfl) (own_w hw 21 rfl) (own_w hw 22 rfl) e0 (g := (mkF m 1 #[.val (.ref x), .val (.ref b), .val (.int (0 : Int32)), .val (.int (1 : Int32)), .val .null, .unset] [(.ref x)])) rfl (by rw [hml]; rfl) rfl (hb hby d4_1) (by decide) (W := 0) (by show 2 * 0 + _ ≤ _; exact Nat.le_of_eq rfl) (by decide)
  refine Goes.step (T' := T131) (g' := (mkF m 4 #[.val (.ref x), .val (.ref b), .val (.int (0 : Int32)), .val (.int (1 : Int32)), .val .null, .unset] [])) st131 ?_
  refine P1.iloadN X131.here hx (hb hby d4_4) rfl ?_
  refine P1.ifYes X131.here hx 27 (hb hby d4_5) ((if0 _ _).trans (feq (by decide : ¬ ((1 : Int32) = (0 : Int32)))).2) (by decide) (by decide) ?_
  obtain ⟨T132, X132, e132, st132⟩ := getS2 X131 hx hZ hown (host := "") (Or.inl (own_w hw 45 rfl)) Via.refl e131 (S_CS.ext O0.2) (g := (mkF m 27 #[.val (.ref x), .val (.ref b), .val (.int (0 : Int32)), .val (.int (1 : Int32)), .val .null, .unset] [])) rfl (hb hby d4_27)
  refine Goes.step (T' := T132) (g' := (mkF m 30 #[.val (.ref x), .val (.ref b), .val (.int (0 : Int32)), .val (.int (1 : Int32)), .val .null, .unset] [(.int zc)])) st132 ?_
  refine P1.ifNo X132.here hx (hb hby d4_30) ((if0 _ _).trans (feq (hzc : ¬ (zc = (0 : Int32)))).1) ?_
  refine P1.aloadN X132.here hx (hb hby d4_33) rfl rfl ?_
  refine P1.iloadN X132.here hx (hb hby d4_34) rfl ?_
  refine P1.iloadN X132.here hx (hb hby d4_35) rfl ?_
  refine P1.callS X132 hx hZ hown (own_w hw 46 rfl) (own_w hw 47 rfl) (own_w hw 48 rfl) (own_w hw 49 rfl) (by decide) (rmCm1 l Z a0 hw [] b kb c0 zc fm h0 n0 Z0 O0 S_CS hzc S_FM hfm S_AD S_HI S_LO Vb h_c0) hml [(.ref b), (.int (0 : Int32)), (.int (1 : Int32))] [] (lenOf pd_2491 rfl) rfl rfl (hb hby d4_36) rfl e132 (ok rfl) (ok rfl) (ok rfl) (ok rfl) ?_
  intro v133 T133 L133 q133 X133
  obtain ⟨r133, kr133, rfl, N133q, K133, szr133, q133⟩ := q133
  have ge_r133 : n0 ≤ r133 := Nat.le_trans Z0 szr133
  have sz_r133 : h0.size ≤ r133 := Nat.le_trans K0.1 szr133
  have N133 := Fr.app N0 N133q
  rcases q133 with ⟨hall133, g133V⟩ | ⟨hsome133, g133V⟩
  ·
    show Goes p e below _ T133 (mkF m 39 #[.val (.ref x), .val (.ref b), .val (.int (0 : Int32)), .val (.int (1 : Int32)), .val .null, .unset] [(.ref r133)])
    refine P1.astore X133.here hx #[.val (.ref x), .val (.ref b), .val (.int (0 : Int32)), .val (.int (1 : Int32)), .val .null, .val (.ref r133)] (hb hby d4_39) rfl rfl ?_
    refine P1.aloadN X133.here hx (hb hby d4_41) rfl rfl ?_
    refine P1.aload X133.here hx (hb hby d4_42) rfl rfl ?_
    refine P1.iloadN X133.here hx (hb hby d4_44) rfl ?_
    have Z134 : n0 ≤ T133.heap.size := Nat.le_trans Z0 K133.1
    have O135 : Old Z n0 T133.heap := O0.keep K133 all0
    refine P1.callS X133 hx hZ hown (own_w hw 53 rfl) (own_w hw 54 rfl) (own_w hw 48 rfl) (own_w hw 55 rfl) (by decide) (rmCf1_1 l Z a0 hw [] r133 kr133 [(.int (StrChars.lo8 c0))] T133.heap n0 Z134 O135 g133V) hml [(.ref r133), (.int (1 : Int32))] [(.ref x)] (lenOf pd_1313 rfl) rfl rfl (hb hby d4_45) rfl rfl (ok rfl) (ok rfl) (ok rfl) (ok rfl) ?_
    intro v136 T136 L136 q136 X136
    obtain ⟨rfl, N136q, hE136⟩ := q136
    have N136 := Fr.app N133 N136q
    show Goes p e below _ T136 (mkF m 48 #[.val (.ref x), .val (.ref b), .val (.int (0 : Int32)), .val (.int (1 : Int32)), .val .null, .val (.ref r133)] [(.int (0 : Int32)), (.ref x)])
    have F137 : Fld Z T133.heap x "java/lang/String" "coder" "B" (.int (0 : Int32)) := Cx.keep K133 nin0
    have E138 : Exa Z T133.heap x "java/lang/String" := Ex.keep K133
    obtain ⟨T139, h139, X139, e139, W139, st139⟩ := putFN X136 hx hZ hown (own_w hw 30 rfl) Via.refl hE136 F137 E138 (Or.inr ⟨(own_w hw 26 rfl), rfl, hnm⟩) (own_w hw 10 rfl) (ty := .byte) (v' := (.int (0 : Int32))) (by decide) rfl (by decide) (g := (mkF m 48 #[.val (.ref x), .val (.ref b), .val (.int (0 : Int32)), .val (.int (1 : Int32)), .val .null, .val (.ref r133)] [(.int (0 : Int32)), (.ref x)])) rfl rfl (hb hby d4_48)
    have Fw139 : Fld Z h139 x "java/lang/String" "coder" "B" (.int (0 : Int32)) := F137.same W139
    have N139 := Fr.snoc X139 N136 gx
    refine Goes.step (T' := T139) (g' := (mkF m 51 #[.val (.ref x), .val (.ref b), .val (.int (0 : Int32)), .val (.int (1 : Int32)), .val .null, .val (.ref r133)] [])) st139 ?_
    refine P1.aloadN X139.here hx (hb hby d4_51) rfl rfl ?_
    refine P1.aload X139.here hx (hb hby d4_52) rfl rfl ?_
    have F140 : Fld Z T133.heap x "java/lang/String" "value" "[B" .null := Vx.keep K133 nin0
    have F141 : Fld Z h139 x "java/lang/String" "value" "[B" .null := F140.other W139 (Or.inr (slot_ne (Or.inr (own_w hw 25 rfl)) (Or.inr (own_w hw 26 rfl)) (by decide) (t := (.array .byte)) (t' := .byte) (by decide) (by decide)))
    have E142 : Exa Z h139 x "java/lang/String" := E138.wr W139
    obtain ⟨T143, h143, X143, e143, W143, st143⟩ := putF X139 hx hZ hown (host := "") (Or.inl (own_w hw 29 rfl)) Via.refl e139 F141 E142 (Or.inr ⟨(own_w hw 25 rfl), rfl, hnm⟩) (own_w hw 10 rfl) (ty := (.array .byte)) (by decide) rfl rfl (g := (mkF m 54 #[.val (.ref x), .val (.ref b), .val (.int (0 : Int32)), .val (.int (1 : Int32)), .val .null, .val (.ref r133)] [(.ref r133), (.ref x)])) rfl rfl (hb hby d4_54)
    have Fw143 : Fld Z h143 x "java/lang/String" "value" "[B" (.ref r133) := F141.same W143
    have N143 := Fr.snoc X143 N139 gx
    refine Goes.step (T' := T143) (g' := (mkF m 57 #[.val (.ref x), .val (.ref b), .val (.int (0 : Int32)), .val (.int (1 : Int32)), .val .null, .val (.ref r133)] [])) st143 ?_
    refine Goes.retV X143 hx Bd.notSynchronized Bd.returns (hb hby d4_57) (ok rfl) (ok rfl) ?_
    rw [e143]
    have K144 : Keep h0 T133.heap [x] := K0.trans K133 all0
    have K145 : Keep h0 h139 [x] := K144.wr W139 (Or.inl (by simp))
    have K146 : Keep h0 h143 [x] := K145.wr W143 (Or.inl (by simp))
    have E147 : Exa Z h143 x "java/lang/String" := E142.wr W143
    have F148 : Fld Z h143 x "java/lang/String" "coder" "B" (.int (0 : Int32)) := Fw139.other W143 (Or.inr (slot_ne (Or.inr (own_w hw 26 rfl)) (Or.inr (own_w hw 25 rfl)) (by decide) (t := .byte) (t' := (.array .byte)) (by decide) (by decide)))
    have ne149 : x ≠ r133 := Nat.ne_of_lt (Nat.lt_of_lt_of_le Ex.lt szr133)
    have V150 : Arv Z h139 r133 kr133 .byte (1 : Int32) [(.int (StrChars.lo8 c0))] (.int (0 : Int32)) := g133V.other W139 (Ne.symm ne149)
    have V151 : Arv Z h143 r133 kr133 .byte (1 : Int32) [(.int (StrChars.lo8 c0))] (.int (0 : Int32)) := V150.other W143 (Ne.symm ne149)
    exact ⟨rfl, N143, K146, E147, r133, kr133, (0 : Int32), (1 : Int32), [(.int (StrChars.lo8 c0))], Fw143, F148, V151, (Or.inl ⟨rfl, rfl, rfl, hall133⟩)⟩
  ·
    show Goes p e below _ T133 (mkF m 39 #[.val (.ref x), .val (.ref b), .val (.int (0 : Int32)), .val (.int (1 : Int32)), .val .null, .unset] [(.ref r133)])
    refine P1.astore X133.here hx #[.val (.ref x), .val (.ref b), .val (.int (0 : Int32)), .val (.int (1 : Int32)), .val .null, .val (.ref r133)] (hb hby d4_39) rfl rfl ?_
    refine P1.aloadN X133.here hx (hb hby d4_41) rfl rfl ?_
    refine P1.aload X133.here hx (hb hby d4_42) rfl rfl ?_
    refine P1.iloadN X133.here hx (hb hby d4_44) rfl ?_
    have Z152 : n0 ≤ T133.heap.size := Nat.le_trans Z0 K133.1
    have O153 : Old Z n0 T133.heap := O0.keep K133 all0
    refine P1.callS X133 hx hZ hown (own_w hw 53 rfl) (own_w hw 54 rfl) (own_w hw 48 rfl) (own_w hw 55 rfl) (by decide) (rmCf1_2 l Z a0 hw [] r133 kr133 [(.int (StrChars.lo8 c0)), (.int (StrChars.hi8 c0))] T133.heap n0 Z152 O153 g133V) hml [(.ref r133), (.int (1 : Int32))] [(.ref x)] (lenOf pd_1313 rfl) rfl rfl (hb hby d4_45) rfl rfl (ok rfl) (ok rfl) (ok rfl) (ok rfl) ?_
    intro v154 T154 L154 q154 X154
    obtain ⟨rfl, N154q, hE154⟩ := q154
    have N154 := Fr.app N133 N154q
    show Goes p e below _ T154 (mkF m 48 #[.val (.ref x), .val (.ref b), .val (.int (0 : Int32)), .val (.int (1 : Int32)), .val .null, .val (.ref r133)] [(.int (1 : Int32)), (.ref x)])
    have F155 : Fld Z T133.heap x "java/lang/String" "coder" "B" (.int (0 : Int32)) := Cx.keep K133 nin0
    have E156 : Exa Z T133.heap x "java/lang/String" := Ex.keep K133
    obtain ⟨T157, h157, X157, e157, W157, st157⟩ := putFN X154 hx hZ hown (own_w hw 30 rfl) Via.refl hE154 F155 E156 (Or.inr ⟨(own_w hw 26 rfl), rfl, hnm⟩) (own_w hw 10 rfl) (ty := .byte) (v' := (.int (1 : Int32))) (by decide) rfl (by decide) (g := (mkF m 48 #[.val (.ref x), .val (.ref b), .val (.int (0 : Int32)), .val (.int (1 : Int32)), .val .null, .val (.ref r133)] [(.int (1 : Int32)), (.ref x)])) rfl rfl (hb hby d4_48)
    have Fw157 : Fld Z h157 x "java/lang/String" "coder" "B" (.int (1 : Int32)) := F155.same W157
    have N157 := Fr.snoc X157 N154 gx
    refine Goes.step (T' := T157) (g' := (mkF m 51 #[.val (.ref x), .val (.ref b), .val (.int (0 : Int32)), .val (.int (1 : Int32)), .val .null, .val (.ref r133)] [])) st157 ?_
    refine P1.aloadN X157.here hx (hb hby d4_51) rfl rfl ?_
    refine P1.aload X157.here hx (hb hby d4_52) rfl rfl ?_
    have F158 : Fld Z T133.heap x "java/lang/String" "value" "[B" .null := Vx.keep K133 nin0
    have F159 : Fld Z h157 x "java/lang/String" "value" "[B" .null := F158.other W157 (Or.inr (slot_ne (Or.inr (own_w hw 25 rfl)) (Or.inr (own_w hw 26 rfl)) (by decide) (t := (.array .byte)) (t' := .byte) (by decide) (by decide)))
    have E160 : Exa Z h157 x "java/lang/String" := E156.wr W157
    obtain ⟨T161, h161, X161, e161, W161, st161⟩ := putF X157 hx hZ hown (host := "") (Or.inl (own_w hw 29 rfl)) Via.refl e157 F159 E160 (Or.inr ⟨(own_w hw 25 rfl), rfl, hnm⟩) (own_w hw 10 rfl) (ty := (.array .byte)) (by decide) rfl rfl (g := (mkF m 54 #[.val (.ref x), .val (.ref b), .val (.int (0 : Int32)), .val (.int (1 : Int32)), .val .null, .val (.ref r133)] [(.ref r133), (.ref x)])) rfl rfl (hb hby d4_54)
    have Fw161 : Fld Z h161 x "java/lang/String" "value" "[B" (.ref r133) := F159.same W161
    have N161 := Fr.snoc X161 N157 gx
    refine Goes.step (T' := T161) (g' := (mkF m 57 #[.val (.ref x), .val (.ref b), .val (.int (0 : Int32)), .val (.int (1 : Int32)), .val .null, .val (.ref r133)] [])) st161 ?_
    refine Goes.retV X161 hx Bd.notSynchronized Bd.returns (hb hby d4_57) (ok rfl) (ok rfl) ?_
    rw [e161]
    have K162 : Keep h0 T133.heap [x] := K0.trans K133 all0
    have K163 : Keep h0 h157 [x] := K162.wr W157 (Or.inl (by simp))
    have K164 : Keep h0 h161 [x] := K163.wr W161 (Or.inl (by simp))
    have E165 : Exa Z h161 x "java/lang/String" := E160.wr W161
    have F166 : Fld Z h161 x "java/lang/String" "coder" "B" (.int (1 : Int32)) := Fw157.other W161 (Or.inr (slot_ne (Or.inr (own_w hw 26 rfl)) (Or.inr (own_w hw 25 rfl)) (by decide) (t := .byte) (t' := (.array .byte)) (by decide) (by decide)))
    have ne167 : x ≠ r133 := Nat.ne_of_lt (Nat.lt_of_lt_of_le Ex.lt szr133)
    have V168 : Arv Z h157 r133 kr133 .byte (2 : Int32) [(.int (StrChars.lo8 c0)), (.int (StrChars.hi8 c0))] (.int (0 : Int32)) := g133V.other W157 (Ne.symm ne167)
    have V169 : Arv Z h161 r133 kr133 .byte (2 : Int32) [(.int (StrChars.lo8 c0)), (.int (StrChars.hi8 c0))] (.int (0 : Int32)) := V168.other W161 (Ne.symm ne167)
    exact ⟨rfl, N161, K164, E165, r133, kr133, (1 : Int32), (2 : Int32), [(.int (StrChars.lo8 c0)), (.int (StrChars.hi8 c0))], Fw161, F166, V169, (Or.inr ⟨rfl, rfl, rfl, hsome133⟩)⟩
theorem d3_0 : decode jdk_42_method_3_code 0 = .ok (.aload_n 0, 1) := by decide +kernel
theorem d3_1 : decode jdk_42_method_3_code 1 = .ok (.aload_n 1, 1) := by decide +kernel
theorem d3_2 : decode jdk_42_method_3_code 2 = .ok (.iconst 0, 1) := by decide +kernel
theorem d3_3 : decode jdk_42_method_3_code 3 = .ok (.aload_n 1, 1) := by decide +kernel
theorem d3_4 : decode jdk_42_method_3_code 4 = .ok (.arraylength, 1) := by decide +kernel
theorem d3_5 : decode jdk_42_method_3_code 5 = .ok (.aconst_null, 1) := by decide +kernel
theorem d3_6 : decode jdk_42_method_3_code 6 = .ok (.invokespecial 27, 3) := by decide +kernel
theorem d3_9 : decode jdk_42_method_3_code 9 = .ok (.return_, 1) := by decide +kernel
theorem pd_23571 : parseMethodDescriptor "([CIILjava/lang/Void;)V" = some ⟨[(.array .char), .int, .int, (.object "java/lang/Void")], none⟩ := by decide +kernel
theorem efSi1 (x b : Addr) (m : MethodId) : entryFrame m #[(.ref x), (.ref b)] 2 = mkF m 0 #[.val (.ref x), .val (.ref b)] [] := by first | (simp [entryFrame, mkF, argsToLocals, Value.category]; done) | rfl
def QSi1 (Z : State) (x b : Addr) (kb : ClassId) (c0 zc : Int32) (fm : Value) (h0 : Heap) (n0 : Nat) (v : Option Value) (h : Heap) (L : List Loc) : Prop := v = none ∧ Fr n0 L ∧ Keep h0 h [x] ∧ Exa Z h x "java/lang/String" ∧ ∃ t kb cd N2 vs, Fld Z h x "java/lang/String" "value" "[B" (.ref t) ∧ Fld Z h x "java/lang/String" "coder" "B" (.int cd) ∧ Arv Z h t kb .byte N2 vs (.int (0 : Int32)) ∧ StrChars.Road.CodA ([c0] : List Int32) cd N2 vs
set_option maxRecDepth 65536 in
set_option maxHeartbeats 40000000 in
theorem rmSi1 (l : Launch) (Z : State) (a0 : Array Value) (hw : ∀ d ∈ tables_1, d.before a0 Z = true) (ws : List Jvm.Cond) (x b : Addr) (kb : ClassId) (c0 zc : Int32) (fm : Value) (h0 : Heap) (n0 : Nat) (Z0 : n0 ≤ h0.size) (O0 : Old Z n0 h0) (S_CS : Sta Z Z.heap "java/lang/String" "COMPACT_STRINGS" "Z" (.int zc)) (hzc : ¬ zc = 0) (S_FM : Sta Z Z.heap "jdk/internal/util/Preconditions" "SIOOBE_FORMATTER" "Ljava/util/function/BiFunction;" fm) (hfm : fm.isRef = true) (S_AD : Sta Z Z.heap "java/lang/StringUTF16" "$assertionsDisabled" "Z" (.int (1 : Int32))) (S_HI : Sta Z Z.heap "java/lang/StringUTF16" "HI_BYTE_SHIFT" "I" (.int (0 : Int32))) (S_LO : Sta Z Z.heap "java/lang/StringUTF16" "LO_BYTE_SHIFT" "I" (.int (8 : Int32))) (gx : n0 ≤ x) (Ex : Exa Z h0 x "java/lang/String") (Vx : Fld Z h0 x "java/lang/String" "value" "[B" .null) (Cx : Fld Z h0 x "java/lang/String" "coder" "B" (.int (0 : Int32))) (Vb : Arv Z h0 b kb .char (1 : Int32) [(.int c0)] (.int (0 : Int32))) (h_c0 : C16 c0) :
    OwnLaw l y5_ jdk_42_method_3_code 2 none ws (rR 5 2 3 74) #[(.ref x), (.ref b)] Z h0 (QSi1 Z x b kb c0 zc fm h0 n0) := by
  refine own_enter (plainFor_of_name pn_java_lang_String) (efSi1 x b) ?_
  intro p e s m below meth c s₁ Bd hx hby hml hZ hown X0 e0
  have N0 := Fr.nil n0
  have K0 : Keep h0 h0 [] := Keep.refl _ _
  have K0 : Keep h0 h0 [x] := Keep.refl _ _
  refine P1.aloadN X0.here hx (hb hby d3_0) rfl rfl ?_
  refine P1.aloadN X0.here hx (hb hby d3_1) rfl rfl ?_
  refine P1.iconst X0.here hx (0 : Int32) (hb hby d3_2) rfl ?_
  refine P1.aloadN X0.here hx (hb hby d3_3) rfl rfl ?_
  obtain ⟨cl170, Ar170, qk170, sl170, nz170, ha170, fi170⟩ := id Vb
  have al171 : cl170.slots.size.toInt32 = (1 : Int32) := len_of sl170 nz170
  refine Goes.step (T' := s₁) (g' := (mkF m 5 #[.val (.ref x), .val (.ref b)] [(.int (1 : Int32)), (.int (0 : Int32)), (.ref b), (.ref x)])) (fun t_ k_ => X0.arraylength hx (by rw [e0]; exact Ar170.1) (State.isArrayOf_alike hZ.alike Ar170.2.1) (g := (mkF m 4 #[.val (.ref x), .val (.ref b)] [(.ref b), (.int (0 : Int32)), (.ref b), (.ref x)])) rfl rfl (hb hby d3_4) _ <| by rw [al171]; exact k_) ?_
  refine P1.aconstNull X0.here hx (hb hby d3_5) ?_
  refine Goes.callC X0 hx (y := y6_) rfl hown (mvT hZ (own_w hw 16 rfl)) (mvT hZ (own_w hw 17 rfl)) (mvT hZ (own_w hw 19 rfl)) (by decide) (kc' := 2) (ks' := 3) (backOf (W := 0) (rmSic1 l Z a0 hw [] x b kb c0 zc fm h0 n0 Z0 O0 S_CS hzc S_FM hfm S_AD S_HI S_LO gx Ex Vx Cx Vb h_c0) hZ (own_w hw 19 rfl) (own_w hw 11 rfl) (ok rfl) (ok rfl)) (g := (mkF m 6 #[.val (.ref x), .val (.ref b)] [.null, (.int (1 : Int32)), (.int (0 : Int32)), (.ref b), (.ref x)])) (a := x) rfl (by rw [hml]; rfl) (argsL := [(.ref b), (.int (0 : Int32)), (.int (1 : Int32)), .null]) (rest := []) (lenOf pd_23571 rfl) rfl (by show 2 * 0 + _ ≤ _; exact Nat.le_of_eq rfl) (hb hby d3_6) rfl e0 (ok rfl) (ok rfl) ?_
  intro v172 T172 L172 q172 X172
  obtain ⟨rfl, N172q, K172, g172E, t172, kb172, cd172, N2172, vs172, g172v, g172c, g172V, g172O⟩ := q172
  have N172 := Fr.app N0 N172q
  show Goes p e below _ T172 (mkF m 9 #[.val (.ref x), .val (.ref b)] [])
  refine Goes.retV X172 hx Bd.notSynchronized Bd.returns (hb hby d3_9) (ok rfl) (ok rfl) ?_
  have K173 : Keep h0 T172.heap [x] := K0.trans K172 (allS (Or.inl (by simp)) all0)
  exact ⟨rfl, N172, K173, g172E, t172, kb172, cd172, N2172, vs172, g172v, g172c, g172V, g172O⟩
theorem efNf2  (m : MethodId) : entryFrame m #[(.int (2 : Int32))] 1 = mkF m 0 #[.val (.int (2 : Int32))] [] := by first | (simp [entryFrame, mkF, argsToLocals, Value.category]; done) | rfl
def QNf2 (Z : State)  (h0 : Heap) (n0 : Nat) (v : Option Value) (h : Heap) (L : List Loc) : Prop := ∃ r kr, v = some (.ref r) ∧ Fr n0 L ∧ Keep h0 h [] ∧ h0.size ≤ r ∧ Arv Z h r kr .byte (4 : Int32) [(.int (0 : Int32)), (.int (0 : Int32)), (.int (0 : Int32)), (.int (0 : Int32))] (.int (0 : Int32))
set_option maxRecDepth 65536 in
set_option maxHeartbeats 40000000 in
theorem rmNf2 (l : Launch) (Z : State) (a0 : Array Value) (hw : ∀ d ∈ tables_1, d.before a0 Z = true) (ws : List Jvm.Cond)  (h0 : Heap) (n0 : Nat) (Z0 : n0 ≤ h0.size) (O0 : Old Z n0 h0) :
    OwnLaw l y27_ jdk_52_method_2_code 1 (some (.array .byte)) ws (rR 1 1 4 12) #[(.int (2 : Int32))] Z h0 (QNf2 Z  h0 n0) := by
  refine own_enter (plainFor_of_name pn_java_lang_StringUTF16) (efNf2 ) ?_
  intro p e s m below meth c s₁ Bd hx hby hml hZ hown X0 e0
  have N0 := Fr.nil n0
  have K0 : Keep h0 h0 [] := Keep.refl _ _
  refine P1.iloadN X0.here hx (hb hby d18_0) rfl ?_
  refine P1.callS X0 hx hZ hown (own_w hw 86 rfl) (own_w hw 87 rfl) (own_w hw 48 rfl) (own_w hw 88 rfl) (by decide) (rmNl2 l Z a0 hw []  h0 n0 Z0 O0 ) hml [(.int (2 : Int32))] [] (lenOf pd_601 rfl) rfl rfl (hb hby d18_1) rfl e0 (ok rfl) (ok rfl) (ok rfl) (ok rfl) ?_
  intro v174 T174 L174 q174 X174
  obtain ⟨rfl, N174q, hE174⟩ := q174
  have N174 := Fr.app N0 N174q
  show Goes p e below _ T174 (mkF m 4 #[.val (.int (2 : Int32))] [(.int (4 : Int32))])
  obtain ⟨T175, h175, k175, X175, e175, E175, A175, st175⟩ := newP X174 hx hZ (own_w hw 24 rfl) hE174 (g := (mkF m 4 #[.val (.int (2 : Int32))] [(.int (4 : Int32))])) rfl (hb hby d18_4) rfl (by decide) (cap := 4) (ok rfl) (ok rfl) (ok rfl) (ok rfl)
  obtain ⟨b175, g175⟩ : ∃ z, z = h0.size := ⟨_, rfl⟩
  rw [← g175] at A175 st175
  have ge_b175 : n0 ≤ b175 := Nat.le_trans Z0 (Nat.le_of_eq g175.symm)
  have sz_b175 : h0.size ≤ b175 := Nat.le_trans K0.1 (Nat.le_of_eq g175.symm)
  have V175 : Arv Z h175 b175 k175 .byte (4 : Int32) [(.int (0 : Int32)), (.int (0 : Int32)), (.int (0 : Int32)), (.int (0 : Int32))] (.int (0 : Int32)) := (Arv.new A175 (by decide)).pad (pad_rep [] (.int (0 : Int32)) 4)
  refine Goes.step (T' := T175) (g' := (mkF m 6 #[.val (.int (2 : Int32))] [(.ref b175)])) st175 ?_
  refine Goes.retA X175 hx Bd.notSynchronized Bd.returns rfl rfl (hb hby d18_6) (ok rfl) (ok rfl) ?_
  rw [e175]
  have K176 : Keep h0 h175 [] := K0.ext E175
  exact ⟨b175, k175, rfl, N174, K176, sz_b175, V175⟩
theorem efPc2_0 (r : Addr) (q : Int32) (m : MethodId) : entryFrame m #[(.ref r), (.int (0 : Int32)), (.int q)] 3 = mkF m 0 #[.val (.ref r), .val (.int (0 : Int32)), .val (.int q)] [] := by first | (simp [entryFrame, mkF, argsToLocals, Value.category]; done) | rfl
def QPc2_0 (Z : State) (r : Addr) (kr : ClassId) (ue0 ue1 ue2 ue3 q zc : Int32) (fm : Value) (h0 : Heap) (n0 : Nat) (v : Option Value) (h : Heap) (L : List Loc) : Prop := v = none ∧ Fr n0 L ∧ Keep h0 h [r] ∧ Arv Z h r kr .byte (4 : Int32) [(.int (StrChars.lo8 q)), (.int (StrChars.hi8 q)), (.int ue2), (.int ue3)] (.int (0 : Int32))
set_option maxRecDepth 65536 in
set_option maxHeartbeats 40000000 in
theorem rmPc2_0 (l : Launch) (Z : State) (a0 : Array Value) (hw : ∀ d ∈ tables_1, d.before a0 Z = true) (ws : List Jvm.Cond) (r : Addr) (kr : ClassId) (ue0 ue1 ue2 ue3 q zc : Int32) (fm : Value) (h0 : Heap) (n0 : Nat) (Z0 : n0 ≤ h0.size) (O0 : Old Z n0 h0) (S_CS : Sta Z Z.heap "java/lang/String" "COMPACT_STRINGS" "Z" (.int zc)) (hzc : ¬ zc = 0) (S_FM : Sta Z Z.heap "jdk/internal/util/Preconditions" "SIOOBE_FORMATTER" "Ljava/util/function/BiFunction;" fm) (hfm : fm.isRef = true) (S_AD : Sta Z Z.heap "java/lang/StringUTF16" "$assertionsDisabled" "Z" (.int (1 : Int32))) (S_HI : Sta Z Z.heap "java/lang/StringUTF16" "HI_BYTE_SHIFT" "I" (.int (0 : Int32))) (S_LO : Sta Z Z.heap "java/lang/StringUTF16" "LO_BYTE_SHIFT" "I" (.int (8 : Int32))) (gr : n0 ≤ r) (Vr : Arv Z h0 r kr .byte (4 : Int32) [(.int ue0), (.int ue1), (.int ue2), (.int ue3)] (.int (0 : Int32))) :
    OwnLaw l y30_ jdk_52_method_4_code 3 none ws (rR 0 0 0 0) #[(.ref r), (.int (0 : Int32)), (.int q)] Z h0 (QPc2_0 Z r kr ue0 ue1 ue2 ue3 q zc fm h0 n0) := by
  refine own_enter (plainFor_of_name pn_java_lang_StringUTF16) (efPc2_0 r q) ?_
  intro p e s m below meth c s₁ Bd hx hby hml hZ hown X0 e0
  have N0 := Fr.nil n0
  have K0 : Keep h0 h0 [] := Keep.refl _ _
  have K0 : Keep h0 h0 [r] := Keep.refl _ _
  obtain ⟨T177, X177, e177, st177⟩ := getS2 X0 hx hZ hown (host := "") (Or.inl (own_w hw 93 rfl)) Via.refl e0 (S_AD.ext O0.2) (g := (mkF m 0 #[.val (.ref r), .val (.int (0 : Int32)), .val (.int q)] [])) rfl (hb hby d20_0)
  refine Goes.step (T' := T177) (g' := (mkF m 3 #[.val (.ref r), .val (.int (0 : Int32)), .val (.int q)] [(.int (1 : Int32))])) st177 ?_
  refine P1.ifYes X177.here hx 28 (hb hby d20_3) ((if0 _ _).trans (feq (by decide : ¬ ((1 : Int32) = (0 : Int32)))).2) (by decide) (by decide) ?_
  refine P1.iloadN X177.here hx (hb hby d20_28) rfl ?_
  refine P1.iconst X177.here hx (1 : Int32) (hb hby d20_29) rfl ?_
  refine P1.ishl X177.here hx (hb hby d20_30) ?_
  have rw178 : ((0 : Int32) <<< ((1 : Int32) &&& 31)) = (0 : Int32) := by decide
  rw [rw178]
  refine P1.istoreN X177.here hx #[.val (.ref r), .val (.int (0 : Int32)), .val (.int q)] (hb hby d20_31) rfl ?_
  refine P1.aloadN X177.here hx (hb hby d20_32) rfl rfl ?_
  refine P1.iloadN X177.here hx (hb hby d20_33) rfl ?_
  refine P1.iinc X177.here hx #[.val (.ref r), .val (.int ((0 : Int32) + (1 : Int32))), .val (.int q)] (hb hby d20_34) rfl rfl ?_
  have rw179 : ((0 : Int32) + (1 : Int32)) = (1 : Int32) := by decide
  rw [rw179]
  refine P1.iloadN X177.here hx (hb hby d20_37) rfl ?_
  obtain ⟨T180, X180, e180, st180⟩ := getS2 X177 hx hZ hown (host := "") (Or.inl (own_w hw 94 rfl)) Via.refl e177 (S_HI.ext O0.2) (g := (mkF m 38 #[.val (.ref r), .val (.int (1 : Int32)), .val (.int q)] [(.int q), (.int (0 : Int32)), (.ref r)])) rfl (hb hby d20_38)
  refine Goes.step (T' := T180) (g' := (mkF m 41 #[.val (.ref r), .val (.int (1 : Int32)), .val (.int q)] [(.int (0 : Int32)), (.int q), (.int (0 : Int32)), (.ref r)])) st180 ?_
  refine P1.ishr X180.here hx (hb hby d20_41) ?_
  have rw181 : (q >>> ((0 : Int32) &&& 31)) = q := StrChars.shr0 q
  rw [rw181]
  refine P1.i2b X180.here hx (hb hby d20_42) ?_
  obtain ⟨cl182, Ar182, qk182, sl182, nz182, ha182, fi182⟩ := id Vr
  obtain ⟨T183, h183, X183, e183, W183, st183⟩ := stB X180 hx hZ e180 Ar182 (j := (0 : Int32)) (inb_of sl182 ⟨by decide, by decide⟩) (g := (mkF m 43 #[.val (.ref r), .val (.int (1 : Int32)), .val (.int q)] [(.int (q.toInt8.toInt32)), (.int (0 : Int32)), (.ref r)])) rfl rfl (hb hby d20_43)
  rw [(own_nb8 q)] at W183
  have V183 : Arv Z h183 r kr .byte (4 : Int32) [(.int (q.toInt8.toInt32)), (.int ue1), (.int ue2), (.int ue3)] (.int (0 : Int32)) := Arv.set Ar182 qk182 sl182 nz182 ha182 fi182 ((own_nb8 q) ▸ fits_nar_byte (q.toInt8.toInt32)) W183 0 rfl (ok rfl)
  have N183 := Fr.snoc X183 N0 gr
  refine Goes.step (T' := T183) (g' := (mkF m 44 #[.val (.ref r), .val (.int (1 : Int32)), .val (.int q)] [])) st183 ?_
  refine P1.aloadN X183.here hx (hb hby d20_44) rfl rfl ?_
  refine P1.iloadN X183.here hx (hb hby d20_45) rfl ?_
  refine P1.iloadN X183.here hx (hb hby d20_46) rfl ?_
  have O185 : Old Z n0 h183 := O0.wr W183 gr
  obtain ⟨T184, X184, e184, st184⟩ := getS2 X183 hx hZ hown (host := "") (Or.inl (own_w hw 95 rfl)) Via.refl e183 (S_LO.ext O185.2) (g := (mkF m 47 #[.val (.ref r), .val (.int (1 : Int32)), .val (.int q)] [(.int q), (.int (1 : Int32)), (.ref r)])) rfl (hb hby d20_47)
  refine Goes.step (T' := T184) (g' := (mkF m 50 #[.val (.ref r), .val (.int (1 : Int32)), .val (.int q)] [(.int (8 : Int32)), (.int q), (.int (1 : Int32)), (.ref r)])) st184 ?_
  refine P1.ishr X184.here hx (hb hby d20_50) ?_
  refine P1.i2b X184.here hx (hb hby d20_51) ?_
  obtain ⟨cl186, Ar186, qk186, sl186, nz186, ha186, fi186⟩ := id V183
  obtain ⟨T187, h187, X187, e187, W187, st187⟩ := stB X184 hx hZ e184 Ar186 (j := (1 : Int32)) (inb_of sl186 ⟨by decide, by decide⟩) (g := (mkF m 52 #[.val (.ref r), .val (.int (1 : Int32)), .val (.int q)] [(.int ((q >>> ((8 : Int32) &&& 31)).toInt8.toInt32)), (.int (1 : Int32)), (.ref r)])) rfl rfl (hb hby d20_52)
  rw [(own_nb8 (q >>> ((8 : Int32) &&& 31)))] at W187
  have V187 : Arv Z h187 r kr .byte (4 : Int32) [(.int (q.toInt8.toInt32)), (.int ((q >>> ((8 : Int32) &&& 31)).toInt8.toInt32)), (.int ue2), (.int ue3)] (.int (0 : Int32)) := Arv.set Ar186 qk186 sl186 nz186 ha186 fi186 ((own_nb8 (q >>> ((8 : Int32) &&& 31))) ▸ fits_nar_byte ((q >>> ((8 : Int32) &&& 31)).toInt8.toInt32)) W187 1 rfl (ok rfl)
  have N187 := Fr.snoc X187 N183 gr
  refine Goes.step (T' := T187) (g' := (mkF m 53 #[.val (.ref r), .val (.int (1 : Int32)), .val (.int q)] [])) st187 ?_
  refine Goes.retV X187 hx Bd.notSynchronized Bd.returns (hb hby d20_53) (ok rfl) (ok rfl) ?_
  rw [e187]
  have K188 : Keep h0 h183 [r] := K0.wr W183 (Or.inl (by simp))
  have K189 : Keep h0 h187 [r] := K188.wr W187 (Or.inl (by simp))
  exact ⟨rfl, N187, K189, V187⟩
theorem efPc2_1 (r : Addr) (q : Int32) (m : MethodId) : entryFrame m #[(.ref r), (.int (1 : Int32)), (.int q)] 3 = mkF m 0 #[.val (.ref r), .val (.int (1 : Int32)), .val (.int q)] [] := by first | (simp [entryFrame, mkF, argsToLocals, Value.category]; done) | rfl
def QPc2_1 (Z : State) (r : Addr) (kr : ClassId) (ue0 ue1 ue2 ue3 q zc : Int32) (fm : Value) (h0 : Heap) (n0 : Nat) (v : Option Value) (h : Heap) (L : List Loc) : Prop := v = none ∧ Fr n0 L ∧ Keep h0 h [r] ∧ Arv Z h r kr .byte (4 : Int32) [(.int ue0), (.int ue1), (.int (StrChars.lo8 q)), (.int (StrChars.hi8 q))] (.int (0 : Int32))
set_option maxRecDepth 65536 in
set_option maxHeartbeats 40000000 in
theorem rmPc2_1 (l : Launch) (Z : State) (a0 : Array Value) (hw : ∀ d ∈ tables_1, d.before a0 Z = true) (ws : List Jvm.Cond) (r : Addr) (kr : ClassId) (ue0 ue1 ue2 ue3 q zc : Int32) (fm : Value) (h0 : Heap) (n0 : Nat) (Z0 : n0 ≤ h0.size) (O0 : Old Z n0 h0) (S_CS : Sta Z Z.heap "java/lang/String" "COMPACT_STRINGS" "Z" (.int zc)) (hzc : ¬ zc = 0) (S_FM : Sta Z Z.heap "jdk/internal/util/Preconditions" "SIOOBE_FORMATTER" "Ljava/util/function/BiFunction;" fm) (hfm : fm.isRef = true) (S_AD : Sta Z Z.heap "java/lang/StringUTF16" "$assertionsDisabled" "Z" (.int (1 : Int32))) (S_HI : Sta Z Z.heap "java/lang/StringUTF16" "HI_BYTE_SHIFT" "I" (.int (0 : Int32))) (S_LO : Sta Z Z.heap "java/lang/StringUTF16" "LO_BYTE_SHIFT" "I" (.int (8 : Int32))) (gr : n0 ≤ r) (Vr : Arv Z h0 r kr .byte (4 : Int32) [(.int ue0), (.int ue1), (.int ue2), (.int ue3)] (.int (0 : Int32))) :
    OwnLaw l y30_ jdk_52_method_4_code 3 none ws (rR 0 0 0 0) #[(.ref r), (.int (1 : Int32)), (.int q)] Z h0 (QPc2_1 Z r kr ue0 ue1 ue2 ue3 q zc fm h0 n0) := by
  refine own_enter (plainFor_of_name pn_java_lang_StringUTF16) (efPc2_1 r q) ?_
  intro p e s m below meth c s₁ Bd hx hby hml hZ hown X0 e0
  have N0 := Fr.nil n0
  have K0 : Keep h0 h0 [] := Keep.refl _ _
  have K0 : Keep h0 h0 [r] := Keep.refl _ _
  obtain ⟨T190, X190, e190, st190⟩ := getS2 X0 hx hZ hown (host := "") (Or.inl (own_w hw 93 rfl)) Via.refl e0 (S_AD.ext O0.2) (g := (mkF m 0 #[.val (.ref r), .val (.int (1 : Int32)), .val (.int q)] [])) rfl (hb hby d20_0)
  refine Goes.step (T' := T190) (g' := (mkF m 3 #[.val (.ref r), .val (.int (1 : Int32)), .val (.int q)] [(.int (1 : Int32))])) st190 ?_
  refine P1.ifYes X190.here hx 28 (hb hby d20_3) ((if0 _ _).trans (feq (by decide : ¬ ((1 : Int32) = (0 : Int32)))).2) (by decide) (by decide) ?_
  refine P1.iloadN X190.here hx (hb hby d20_28) rfl ?_
  refine P1.iconst X190.here hx (1 : Int32) (hb hby d20_29) rfl ?_
  refine P1.ishl X190.here hx (hb hby d20_30) ?_
  have rw191 : ((1 : Int32) <<< ((1 : Int32) &&& 31)) = (2 : Int32) := by decide
  rw [rw191]
  refine P1.istoreN X190.here hx #[.val (.ref r), .val (.int (2 : Int32)), .val (.int q)] (hb hby d20_31) rfl ?_
  refine P1.aloadN X190.here hx (hb hby d20_32) rfl rfl ?_
  refine P1.iloadN X190.here hx (hb hby d20_33) rfl ?_
  refine P1.iinc X190.here hx #[.val (.ref r), .val (.int ((2 : Int32) + (1 : Int32))), .val (.int q)] (hb hby d20_34) rfl rfl ?_
  have rw192 : ((2 : Int32) + (1 : Int32)) = (3 : Int32) := by decide
  rw [rw192]
  refine P1.iloadN X190.here hx (hb hby d20_37) rfl ?_
  obtain ⟨T193, X193, e193, st193⟩ := getS2 X190 hx hZ hown (host := "") (Or.inl (own_w hw 94 rfl)) Via.refl e190 (S_HI.ext O0.2) (g := (mkF m 38 #[.val (.ref r), .val (.int (3 : Int32)), .val (.int q)] [(.int q), (.int (2 : Int32)), (.ref r)])) rfl (hb hby d20_38)
  refine Goes.step (T' := T193) (g' := (mkF m 41 #[.val (.ref r), .val (.int (3 : Int32)), .val (.int q)] [(.int (0 : Int32)), (.int q), (.int (2 : Int32)), (.ref r)])) st193 ?_
  refine P1.ishr X193.here hx (hb hby d20_41) ?_
  have rw194 : (q >>> ((0 : Int32) &&& 31)) = q := StrChars.shr0 q
  rw [rw194]
  refine P1.i2b X193.here hx (hb hby d20_42) ?_
  obtain ⟨cl195, Ar195, qk195, sl195, nz195, ha195, fi195⟩ := id Vr
  obtain ⟨T196, h196, X196, e196, W196, st196⟩ := stB X193 hx hZ e193 Ar195 (j := (2 : Int32)) (inb_of sl195 ⟨by decide, by decide⟩) (g := (mkF m 43 #[.val (.ref r), .val (.int (3 : Int32)), .val (.int q)] [(.int (q.toInt8.toInt32)), (.int (2 : Int32)), (.ref r)])) rfl rfl (hb hby d20_43)
  rw [(own_nb8 q)] at W196
  have V196 : Arv Z h196 r kr .byte (4 : Int32) [(.int ue0), (.int ue1), (.int (q.toInt8.toInt32)), (.int ue3)] (.int (0 : Int32)) := Arv.set Ar195 qk195 sl195 nz195 ha195 fi195 ((own_nb8 q) ▸ fits_nar_byte (q.toInt8.toInt32)) W196 2 rfl (ok rfl)
  have N196 := Fr.snoc X196 N0 gr
  refine Goes.step (T' := T196) (g' := (mkF m 44 #[.val (.ref r), .val (.int (3 : Int32)), .val (.int q)] [])) st196 ?_
  refine P1.aloadN X196.here hx (hb hby d20_44) rfl rfl ?_
  refine P1.iloadN X196.here hx (hb hby d20_45) rfl ?_
  refine P1.iloadN X196.here hx (hb hby d20_46) rfl ?_
  have O198 : Old Z n0 h196 := O0.wr W196 gr
  obtain ⟨T197, X197, e197, st197⟩ := getS2 X196 hx hZ hown (host := "") (Or.inl (own_w hw 95 rfl)) Via.refl e196 (S_LO.ext O198.2) (g := (mkF m 47 #[.val (.ref r), .val (.int (3 : Int32)), .val (.int q)] [(.int q), (.int (3 : Int32)), (.ref r)])) rfl (hb hby d20_47)
  refine Goes.step (T' := T197) (g' := (mkF m 50 #[.val (.ref r), .val (.int (3 : Int32)), .val (.int q)] [(.int (8 : Int32)), (.int q), (.int (3 : Int32)), (.ref r)])) st197 ?_
  refine P1.ishr X197.here hx (hb hby d20_50) ?_
  refine P1.i2b X197.here hx (hb hby d20_51) ?_
  obtain ⟨cl199, Ar199, qk199, sl199, nz199, ha199, fi199⟩ := id V196
  obtain ⟨T200, h200, X200, e200, W200, st200⟩ := stB X197 hx hZ e197 Ar199 (j := (3 : Int32)) (inb_of sl199 ⟨by decide, by decide⟩) (g := (mkF m 52 #[.val (.ref r), .val (.int (3 : Int32)), .val (.int q)] [(.int ((q >>> ((8 : Int32) &&& 31)).toInt8.toInt32)), (.int (3 : Int32)), (.ref r)])) rfl rfl (hb hby d20_52)
  rw [(own_nb8 (q >>> ((8 : Int32) &&& 31)))] at W200
  have V200 : Arv Z h200 r kr .byte (4 : Int32) [(.int ue0), (.int ue1), (.int (q.toInt8.toInt32)), (.int ((q >>> ((8 : Int32) &&& 31)).toInt8.toInt32))] (.int (0 : Int32)) := Arv.set Ar199 qk199 sl199 nz199 ha199 fi199 ((own_nb8 (q >>> ((8 : Int32) &&& 31))) ▸ fits_nar_byte ((q >>> ((8 : Int32) &&& 31)).toInt8.toInt32)) W200 3 rfl (ok rfl)
  have N200 := Fr.snoc X200 N196 gr
  refine Goes.step (T' := T200) (g' := (mkF m 53 #[.val (.ref r), .val (.int (3 : Int32)), .val (.int q)] [])) st200 ?_
  refine Goes.retV X200 hx Bd.notSynchronized Bd.returns (hb hby d20_53) (ok rfl) (ok rfl) ?_
  rw [e200]
  have K201 : Keep h0 h196 [r] := K0.wr W196 (Or.inl (by simp))
  have K202 : Keep h0 h200 [r] := K201.wr W200 (Or.inl (by simp))
  exact ⟨rfl, N200, K202, V200⟩
theorem efTb2 (b : Addr) (m : MethodId) : entryFrame m #[(.ref b), (.int (0 : Int32)), (.int (2 : Int32))] 5 = mkF m 0 #[.val (.ref b), .val (.int (0 : Int32)), .val (.int (2 : Int32)), .unset, .unset] [] := by first | (simp [entryFrame, mkF, argsToLocals, Value.category]; done) | rfl
def QTb2 (Z : State) (b : Addr) (kb : ClassId) (c0 c1 zc : Int32) (fm : Value) (h0 : Heap) (n0 : Nat) (v : Option Value) (h : Heap) (L : List Loc) : Prop := ∃ r kr, v = some (.ref r) ∧ Fr n0 L ∧ Keep h0 h [] ∧ h0.size ≤ r ∧ Arv Z h r kr .byte (4 : Int32) [(.int (StrChars.lo8 c0)), (.int (StrChars.hi8 c0)), (.int (StrChars.lo8 c1)), (.int (StrChars.hi8 c1))] (.int (0 : Int32))
set_option maxRecDepth 65536 in
set_option maxHeartbeats 40000000 in
theorem rmTb2 (l : Launch) (Z : State) (a0 : Array Value) (hw : ∀ d ∈ tables_1, d.before a0 Z = true) (ws : List Jvm.Cond) (b : Addr) (kb : ClassId) (c0 c1 zc : Int32) (fm : Value) (h0 : Heap) (n0 : Nat) (Z0 : n0 ≤ h0.size) (O0 : Old Z n0 h0) (S_CS : Sta Z Z.heap "java/lang/String" "COMPACT_STRINGS" "Z" (.int zc)) (hzc : ¬ zc = 0) (S_FM : Sta Z Z.heap "jdk/internal/util/Preconditions" "SIOOBE_FORMATTER" "Ljava/util/function/BiFunction;" fm) (hfm : fm.isRef = true) (S_AD : Sta Z Z.heap "java/lang/StringUTF16" "$assertionsDisabled" "Z" (.int (1 : Int32))) (S_HI : Sta Z Z.heap "java/lang/StringUTF16" "HI_BYTE_SHIFT" "I" (.int (0 : Int32))) (S_LO : Sta Z Z.heap "java/lang/StringUTF16" "LO_BYTE_SHIFT" "I" (.int (8 : Int32))) (Vb : Arv Z h0 b kb .char (2 : Int32) [(.int c0), (.int c1)] (.int (0 : Int32))) :
    OwnLaw l y31_ jdk_52_method_14_code 5 (some (.array .byte)) ws (rR 2 1 4 24) #[(.ref b), (.int (0 : Int32)), (.int (2 : Int32))] Z h0 (QTb2 Z b kb c0 c1 zc fm h0 n0) := by
  refine own_enter (plainFor_of_name pn_java_lang_StringUTF16) (efTb2 b) ?_
  intro p e s m below meth c s₁ Bd hx hby hml hZ hown X0 e0
  have N0 := Fr.nil n0
  have K0 : Keep h0 h0 [] := Keep.refl _ _
  refine P1.iloadN X0.here hx (hb hby d17_0) rfl ?_
  refine P1.callS X0 hx hZ hown (own_w hw 83 rfl) (own_w hw 84 rfl) (own_w hw 48 rfl) (own_w hw 85 rfl) (by decide) (rmNf2 l Z a0 hw []  h0 n0 Z0 O0 ) hml [(.int (2 : Int32))] [] (lenOf pd_1003 rfl) rfl rfl (hb hby d17_1) rfl e0 (ok rfl) (ok rfl) (ok rfl) (ok rfl) ?_
  intro v203 T203 L203 q203 X203
  obtain ⟨r203, kr203, rfl, N203q, K203, szr203, g203V⟩ := q203
  have ge_r203 : n0 ≤ r203 := Nat.le_trans Z0 szr203
  have sz_r203 : h0.size ≤ r203 := Nat.le_trans K0.1 szr203
  have N203 := Fr.app N0 N203q
  show Goes p e below _ T203 (mkF m 4 #[.val (.ref b), .val (.int (0 : Int32)), .val (.int (2 : Int32)), .unset, .unset] [(.ref r203)])
  refine P1.astoreN X203.here hx #[.val (.ref b), .val (.int (0 : Int32)), .val (.int (2 : Int32)), .val (.ref r203), .unset] (hb hby d17_4) rfl rfl ?_
  refine P1.iconst X203.here hx (0 : Int32) (hb hby d17_5) rfl ?_
  refine P1.istore X203.here hx #[.val (.ref b), .val (.int (0 : Int32)), .val (.int (2 : Int32)), .val (.ref r203), .val (.int (0 : Int32))] (hb hby d17_6) rfl ?_
  refine P1.iload X203.here hx (hb hby d17_8) rfl ?_
  refine P1.iloadN X203.here hx (hb hby d17_10) rfl ?_
  refine P1.icmpNo X203.here hx (hb hby d17_11) (tlt (by decide : (0 : Int32) < (2 : Int32))).2.1 ?_
  refine P1.aloadN X203.here hx (hb hby d17_14) rfl rfl ?_
  refine P1.iload X203.here hx (hb hby d17_15) rfl ?_
  refine P1.aloadN X203.here hx (hb hby d17_17) rfl rfl ?_
  refine P1.iloadN X203.here hx (hb hby d17_18) rfl ?_
  have V204 : Arv Z T203.heap b kb .char (2 : Int32) [(.int c0), (.int c1)] (.int (0 : Int32)) := Vb.keep K203 nin0
  obtain ⟨cl205, Ar205, qk205, sl205, nz205, ha205, fi205⟩ := id V204
  have i206 := inb_of (j := (0 : Int32)) sl205 ⟨by decide, by decide⟩
  refine Goes.step (T' := T203) (g' := (mkF m 20 #[.val (.ref b), .val (.int (0 : Int32)), .val (.int (2 : Int32)), .val (.ref r203), .val (.int (0 : Int32))] [(.int c0), (.int (0 : Int32)), (.ref r203)])) (fun t_ k_ => X203.caload hx (j := (0 : Int32)) (v := (.int c0)) Ar205.1 (State.isArrayOf_alike hZ.alike Ar205.2.1) Ar205.2.2 i206 (Has.at ha205 i206 rfl) (g := (mkF m 19 #[.val (.ref b), .val (.int (0 : Int32)), .val (.int (2 : Int32)), .val (.ref r203), .val (.int (0 : Int32))] [(.int (0 : Int32)), (.ref b), (.int (0 : Int32)), (.ref r203)])) rfl rfl (hb hby d17_19) _ k_) ?_
  have Z207 : n0 ≤ T203.heap.size := Nat.le_trans Z0 K203.1
  have O208 : Old Z n0 T203.heap := O0.keep K203 all0
  refine P1.callS X203 hx hZ hown (own_w hw 90 rfl) (own_w hw 91 rfl) (own_w hw 48 rfl) (own_w hw 92 rfl) (by decide) (rmPc2_0 l Z a0 hw [] r203 kr203 (0 : Int32) (0 : Int32) (0 : Int32) (0 : Int32) c0 zc fm T203.heap n0 Z207 O208 S_CS hzc S_FM hfm S_AD S_HI S_LO ge_r203 g203V) hml [(.ref r203), (.int (0 : Int32)), (.int c0)] [] (lenOf pd_1925 rfl) rfl rfl (hb hby d17_20) rfl rfl (ok rfl) (ok rfl) (ok rfl) (ok rfl) ?_
  intro v209 T209 L209 q209 X209
  obtain ⟨rfl, N209q, K209, g209V⟩ := q209
  have N209 := Fr.app N203 N209q
  show Goes p e below _ T209 (mkF m 23 #[.val (.ref b), .val (.int (0 : Int32)), .val (.int (2 : Int32)), .val (.ref r203), .val (.int (0 : Int32))] [])
  refine P1.iinc X209.here hx #[.val (.ref b), .val (.int ((0 : Int32) + (1 : Int32))), .val (.int (2 : Int32)), .val (.ref r203), .val (.int (0 : Int32))] (hb hby d17_23) rfl rfl ?_
  have rw210 : ((0 : Int32) + (1 : Int32)) = (1 : Int32) := by decide
  rw [rw210]
  refine P1.iinc X209.here hx #[.val (.ref b), .val (.int (1 : Int32)), .val (.int (2 : Int32)), .val (.ref r203), .val (.int ((0 : Int32) + (1 : Int32)))] (hb hby d17_26) rfl rfl ?_
  have rw211 : ((0 : Int32) + (1 : Int32)) = (1 : Int32) := by decide
  rw [rw211]
  refine P1.goto X209.here hx 8 (hb hby d17_29) (by decide) (by decide) ?_
  refine P1.iload X209.here hx (hb hby d17_8) rfl ?_
  refine P1.iloadN X209.here hx (hb hby d17_10) rfl ?_
  refine P1.icmpNo X209.here hx (hb hby d17_11) (tlt (by decide : (1 : Int32) < (2 : Int32))).2.1 ?_
  refine P1.aloadN X209.here hx (hb hby d17_14) rfl rfl ?_
  refine P1.iload X209.here hx (hb hby d17_15) rfl ?_
  refine P1.aloadN X209.here hx (hb hby d17_17) rfl rfl ?_
  refine P1.iloadN X209.here hx (hb hby d17_18) rfl ?_
  have ne212 : b ≠ r203 := Nat.ne_of_lt (Nat.lt_of_lt_of_le Vb.lt szr203)
  have V213 : Arv Z T209.heap b kb .char (2 : Int32) [(.int c0), (.int c1)] (.int (0 : Int32)) := V204.keep K209 (ninS ne212 nin0)
  obtain ⟨cl214, Ar214, qk214, sl214, nz214, ha214, fi214⟩ := id V213
  have i215 := inb_of (j := (1 : Int32)) sl214 ⟨by decide, by decide⟩
  refine Goes.step (T' := T209) (g' := (mkF m 20 #[.val (.ref b), .val (.int (1 : Int32)), .val (.int (2 : Int32)), .val (.ref r203), .val (.int (1 : Int32))] [(.int c1), (.int (1 : Int32)), (.ref r203)])) (fun t_ k_ => X209.caload hx (j := (1 : Int32)) (v := (.int c1)) Ar214.1 (State.isArrayOf_alike hZ.alike Ar214.2.1) Ar214.2.2 i215 (Has.at ha214 i215 rfl) (g := (mkF m 19 #[.val (.ref b), .val (.int (1 : Int32)), .val (.int (2 : Int32)), .val (.ref r203), .val (.int (1 : Int32))] [(.int (1 : Int32)), (.ref b), (.int (1 : Int32)), (.ref r203)])) rfl rfl (hb hby d17_19) _ k_) ?_
  have Z216 : n0 ≤ T209.heap.size := Nat.le_trans Z207 K209.1
  have O217 : Old Z n0 T209.heap := O208.keep K209 (allS ge_r203 all0)
  refine P1.callS X209 hx hZ hown (own_w hw 90 rfl) (own_w hw 91 rfl) (own_w hw 48 rfl) (own_w hw 92 rfl) (by decide) (rmPc2_1 l Z a0 hw [] r203 kr203 (StrChars.lo8 c0) (StrChars.hi8 c0) (0 : Int32) (0 : Int32) c1 zc fm T209.heap n0 Z216 O217 S_CS hzc S_FM hfm S_AD S_HI S_LO ge_r203 g209V) hml [(.ref r203), (.int (1 : Int32)), (.int c1)] [] (lenOf pd_1925 rfl) rfl rfl (hb hby d17_20) rfl rfl (ok rfl) (ok rfl) (ok rfl) (ok rfl) ?_
  intro v218 T218 L218 q218 X218
  obtain ⟨rfl, N218q, K218, g218V⟩ := q218
  have N218 := Fr.app N209 N218q
  show Goes p e below _ T218 (mkF m 23 #[.val (.ref b), .val (.int (1 : Int32)), .val (.int (2 : Int32)), .val (.ref r203), .val (.int (1 : Int32))] [])
  refine P1.iinc X218.here hx #[.val (.ref b), .val (.int ((1 : Int32) + (1 : Int32))), .val (.int (2 : Int32)), .val (.ref r203), .val (.int (1 : Int32))] (hb hby d17_23) rfl rfl ?_
  have rw219 : ((1 : Int32) + (1 : Int32)) = (2 : Int32) := by decide
  rw [rw219]
  refine P1.iinc X218.here hx #[.val (.ref b), .val (.int (2 : Int32)), .val (.int (2 : Int32)), .val (.ref r203), .val (.int ((1 : Int32) + (1 : Int32)))] (hb hby d17_26) rfl rfl ?_
  have rw220 : ((1 : Int32) + (1 : Int32)) = (2 : Int32) := by decide
  rw [rw220]
  refine P1.goto X218.here hx 8 (hb hby d17_29) (by decide) (by decide) ?_
  refine P1.iload X218.here hx (hb hby d17_8) rfl ?_
  refine P1.iloadN X218.here hx (hb hby d17_10) rfl ?_
  refine P1.icmpYes X218.here hx 32 (hb hby d17_11) (flt (by decide : ¬ ((2 : Int32) < (2 : Int32)))).2.1 (by decide) (by decide) ?_
  refine P1.aloadN X218.here hx (hb hby d17_32) rfl rfl ?_
  refine Goes.retA X218 hx Bd.notSynchronized Bd.returns rfl rfl (hb hby d17_33) (ok rfl) (ok rfl) ?_
  have K221 : Keep h0 T203.heap [] := K0.trans K203 all0
  have K222 : Keep h0 T209.heap [] := K221.trans K209 (allS (Or.inr sz_r203) all0)
  have K223 : Keep h0 T218.heap [] := K222.trans K218 (allS (Or.inr sz_r203) all0)
  exact ⟨r203, kr203, rfl, N218, K223, sz_r203, g218V⟩
theorem efCq2 (b r : Addr) (m : MethodId) : entryFrame m #[(.ref b), (.int (0 : Int32)), (.ref r), (.int (0 : Int32)), (.int (2 : Int32))] 7 = mkF m 0 #[.val (.ref b), .val (.int (0 : Int32)), .val (.ref r), .val (.int (0 : Int32)), .val (.int (2 : Int32)), .unset, .unset] [] := by first | (simp [entryFrame, mkF, argsToLocals, Value.category]; done) | rfl
def QCq2 (Z : State) (b : Addr) (kb : ClassId) (c0 c1 : Int32) (r : Addr) (kr : ClassId) (h0 : Heap) (n0 : Nat) (v : Option Value) (h : Heap) (L : List Loc) : Prop := Fr n0 L ∧ Keep h0 h [r] ∧ ((v = some (.int (2 : Int32)) ∧ (∀ c ∈ ([c0, c1] : List Int32), ¬ (255 : Int32) < c) ∧ Arv Z h r kr .byte (2 : Int32) [(.int (StrChars.lo8 c0)), (.int (StrChars.lo8 c1))] (.int (0 : Int32))) ∨ (v = some (.int (0 : Int32)) ∧ (255 : Int32) < c0) ∨ (v = some (.int (1 : Int32)) ∧ (255 : Int32) < c1))
set_option maxRecDepth 65536 in
set_option maxHeartbeats 40000000 in
theorem rmCq2 (l : Launch) (Z : State) (a0 : Array Value) (hw : ∀ d ∈ tables_1, d.before a0 Z = true) (ws : List Jvm.Cond) (b : Addr) (kb : ClassId) (c0 c1 : Int32) (r : Addr) (kr : ClassId) (h0 : Heap) (n0 : Nat) (Z0 : n0 ≤ h0.size) (O0 : Old Z n0 h0) (Vb : Arv Z h0 b kb .char (2 : Int32) [(.int c0), (.int c1)] (.int (0 : Int32))) (gr : n0 ≤ r) (Vr : Arv Z h0 r kr .byte (2 : Int32) [(.int (0 : Int32)), (.int (0 : Int32))] (.int (0 : Int32))) (neb : b ≠ r) :
    OwnLaw l y24_ jdk_52_method_21_code 7 (some .int) ws (rR 0 0 0 0) #[(.ref b), (.int (0 : Int32)), (.ref r), (.int (0 : Int32)), (.int (2 : Int32))] Z h0 (QCq2 Z b kb c0 c1 r kr h0 n0) := by
  refine own_enter (plainFor_of_name pn_java_lang_StringUTF16) (efCq2 b r) ?_
  intro p e s m below meth c s₁ Bd hx hby hml hZ hown X0 e0
  have N0 := Fr.nil n0
  have K0 : Keep h0 h0 [] := Keep.refl _ _
  have K0 : Keep h0 h0 [r] := Keep.refl _ _
  refine P1.iconst X0.here hx (0 : Int32) (hb hby d10_0) rfl ?_
  refine P1.istore X0.here hx #[.val (.ref b), .val (.int (0 : Int32)), .val (.ref r), .val (.int (0 : Int32)), .val (.int (2 : Int32)), .val (.int (0 : Int32)), .unset] (hb hby d10_1) rfl ?_
  refine P1.iload X0.here hx (hb hby d10_3) rfl ?_
  refine P1.iload X0.here hx (hb hby d10_5) rfl ?_
  refine P1.icmpNo X0.here hx (hb hby d10_7) (tlt (by decide : (0 : Int32) < (2 : Int32))).2.1 ?_
  refine P1.aloadN X0.here hx (hb hby d10_10) rfl rfl ?_
  refine P1.iloadN X0.here hx (hb hby d10_11) rfl ?_
  obtain ⟨cl224, Ar224, qk224, sl224, nz224, ha224, fi224⟩ := id Vb
  have i225 := inb_of (j := (0 : Int32)) sl224 ⟨by decide, by decide⟩
  refine Goes.step (T' := s₁) (g' := (mkF m 13 #[.val (.ref b), .val (.int (0 : Int32)), .val (.ref r), .val (.int (0 : Int32)), .val (.int (2 : Int32)), .val (.int (0 : Int32)), .unset] [(.int c0)])) (fun t_ k_ => X0.caload hx (j := (0 : Int32)) (v := (.int c0)) (by rw [e0]; exact Ar224.1) (State.isArrayOf_alike hZ.alike Ar224.2.1) Ar224.2.2 i225 (Has.at ha224 i225 rfl) (g := (mkF m 12 #[.val (.ref b), .val (.int (0 : Int32)), .val (.ref r), .val (.int (0 : Int32)), .val (.int (2 : Int32)), .val (.int (0 : Int32)), .unset] [(.int (0 : Int32)), (.ref b)])) rfl rfl (hb hby d10_12) _ k_) ?_
  refine P1.istore X0.here hx #[.val (.ref b), .val (.int (0 : Int32)), .val (.ref r), .val (.int (0 : Int32)), .val (.int (2 : Int32)), .val (.int (0 : Int32)), .val (.int c0)] (hb hby d10_13) rfl ?_
  refine P1.iload X0.here hx (hb hby d10_15) rfl ?_
  refine P1.sipush X0.here hx (255 : Int32) (hb hby d10_17) rfl ?_
  by_cases hb0 : (255 : Int32) < c0
  ·
    refine P1.icmpNo X0.here hx (hb hby d10_20) (tlt (hb0 : (255 : Int32) < c0)).2.2.2 ?_
    refine P1.iload X0.here hx (hb hby d10_23) rfl ?_
    refine Goes.retI X0 hx Bd.notSynchronized Bd.returns (hb hby d10_25) (ok rfl) (ok rfl) ?_
    rw [e0]
    exact ⟨N0, K0, Or.inr (Or.inl ⟨rfl, hb0⟩)⟩
  ·
    refine P1.icmpYes X0.here hx 26 (hb hby d10_20) (flt (hb0 : ¬ ((255 : Int32) < c0))).2.2.2 (by decide) (by decide) ?_
    refine P1.aloadN X0.here hx (hb hby d10_26) rfl rfl ?_
    refine P1.iloadN X0.here hx (hb hby d10_27) rfl ?_
    refine P1.iload X0.here hx (hb hby d10_28) rfl ?_
    refine P1.i2b X0.here hx (hb hby d10_30) ?_
    obtain ⟨cl226, Ar226, qk226, sl226, nz226, ha226, fi226⟩ := id Vr
    obtain ⟨T227, h227, X227, e227, W227, st227⟩ := stB X0 hx hZ e0 Ar226 (j := (0 : Int32)) (inb_of sl226 ⟨by decide, by decide⟩) (g := (mkF m 31 #[.val (.ref b), .val (.int (0 : Int32)), .val (.ref r), .val (.int (0 : Int32)), .val (.int (2 : Int32)), .val (.int (0 : Int32)), .val (.int c0)] [(.int (c0.toInt8.toInt32)), (.int (0 : Int32)), (.ref r)])) rfl rfl (hb hby d10_31)
    rw [(own_nb8 c0)] at W227
    have V227 : Arv Z h227 r kr .byte (2 : Int32) [(.int (c0.toInt8.toInt32)), (.int (0 : Int32))] (.int (0 : Int32)) := Arv.set Ar226 qk226 sl226 nz226 ha226 fi226 ((own_nb8 c0) ▸ fits_nar_byte (c0.toInt8.toInt32)) W227 0 rfl (ok rfl)
    have N227 := Fr.snoc X227 N0 gr
    refine Goes.step (T' := T227) (g' := (mkF m 32 #[.val (.ref b), .val (.int (0 : Int32)), .val (.ref r), .val (.int (0 : Int32)), .val (.int (2 : Int32)), .val (.int (0 : Int32)), .val (.int c0)] [])) st227 ?_
    refine P1.iinc X227.here hx #[.val (.ref b), .val (.int ((0 : Int32) + (1 : Int32))), .val (.ref r), .val (.int (0 : Int32)), .val (.int (2 : Int32)), .val (.int (0 : Int32)), .val (.int c0)] (hb hby d10_32) rfl rfl ?_
    have rw228 : ((0 : Int32) + (1 : Int32)) = (1 : Int32) := by decide
    rw [rw228]
    refine P1.iinc X227.here hx #[.val (.ref b), .val (.int (1 : Int32)), .val (.ref r), .val (.int ((0 : Int32) + (1 : Int32))), .val (.int (2 : Int32)), .val (.int (0 : Int32)), .val (.int c0)] (hb hby d10_35) rfl rfl ?_
    have rw229 : ((0 : Int32) + (1 : Int32)) = (1 : Int32) := by decide
    rw [rw229]
    refine P1.iinc X227.here hx #[.val (.ref b), .val (.int (1 : Int32)), .val (.ref r), .val (.int (1 : Int32)), .val (.int (2 : Int32)), .val (.int ((0 : Int32) + (1 : Int32))), .val (.int c0)] (hb hby d10_38) rfl rfl ?_
    have rw230 : ((0 : Int32) + (1 : Int32)) = (1 : Int32) := by decide
    rw [rw230]
    refine P1.goto X227.here hx 3 (hb hby d10_41) (by decide) (by decide) ?_
    refine P1.iload X227.here hx (hb hby d10_3) rfl ?_
    refine P1.iload X227.here hx (hb hby d10_5) rfl ?_
    refine P1.icmpNo X227.here hx (hb hby d10_7) (tlt (by decide : (1 : Int32) < (2 : Int32))).2.1 ?_
    refine P1.aloadN X227.here hx (hb hby d10_10) rfl rfl ?_
    refine P1.iloadN X227.here hx (hb hby d10_11) rfl ?_
    have V231 : Arv Z h227 b kb .char (2 : Int32) [(.int c0), (.int c1)] (.int (0 : Int32)) := Vb.other W227 neb
    obtain ⟨cl232, Ar232, qk232, sl232, nz232, ha232, fi232⟩ := id V231
    have i233 := inb_of (j := (1 : Int32)) sl232 ⟨by decide, by decide⟩
    refine Goes.step (T' := T227) (g' := (mkF m 13 #[.val (.ref b), .val (.int (1 : Int32)), .val (.ref r), .val (.int (1 : Int32)), .val (.int (2 : Int32)), .val (.int (1 : Int32)), .val (.int c0)] [(.int c1)])) (fun t_ k_ => X227.caload hx (j := (1 : Int32)) (v := (.int c1)) (by rw [e227]; exact Ar232.1) (State.isArrayOf_alike hZ.alike Ar232.2.1) Ar232.2.2 i233 (Has.at ha232 i233 rfl) (g := (mkF m 12 #[.val (.ref b), .val (.int (1 : Int32)), .val (.ref r), .val (.int (1 : Int32)), .val (.int (2 : Int32)), .val (.int (1 : Int32)), .val (.int c0)] [(.int (1 : Int32)), (.ref b)])) rfl rfl (hb hby d10_12) _ k_) ?_
    refine P1.istore X227.here hx #[.val (.ref b), .val (.int (1 : Int32)), .val (.ref r), .val (.int (1 : Int32)), .val (.int (2 : Int32)), .val (.int (1 : Int32)), .val (.int c1)] (hb hby d10_13) rfl ?_
    refine P1.iload X227.here hx (hb hby d10_15) rfl ?_
    refine P1.sipush X227.here hx (255 : Int32) (hb hby d10_17) rfl ?_
    by_cases hb1 : (255 : Int32) < c1
    ·
      refine P1.icmpNo X227.here hx (hb hby d10_20) (tlt (hb1 : (255 : Int32) < c1)).2.2.2 ?_
      refine P1.iload X227.here hx (hb hby d10_23) rfl ?_
      refine Goes.retI X227 hx Bd.notSynchronized Bd.returns (hb hby d10_25) (ok rfl) (ok rfl) ?_
      rw [e227]
      have K234 : Keep h0 h227 [r] := K0.wr W227 (Or.inl (by simp))
      exact ⟨N227, K234, Or.inr (Or.inr ⟨rfl, hb1⟩)⟩
    ·
      refine P1.icmpYes X227.here hx 26 (hb hby d10_20) (flt (hb1 : ¬ ((255 : Int32) < c1))).2.2.2 (by decide) (by decide) ?_
      refine P1.aloadN X227.here hx (hb hby d10_26) rfl rfl ?_
      refine P1.iloadN X227.here hx (hb hby d10_27) rfl ?_
      refine P1.iload X227.here hx (hb hby d10_28) rfl ?_
      refine P1.i2b X227.here hx (hb hby d10_30) ?_
      obtain ⟨cl235, Ar235, qk235, sl235, nz235, ha235, fi235⟩ := id V227
      obtain ⟨T236, h236, X236, e236, W236, st236⟩ := stB X227 hx hZ e227 Ar235 (j := (1 : Int32)) (inb_of sl235 ⟨by decide, by decide⟩) (g := (mkF m 31 #[.val (.ref b), .val (.int (1 : Int32)), .val (.ref r), .val (.int (1 : Int32)), .val (.int (2 : Int32)), .val (.int (1 : Int32)), .val (.int c1)] [(.int (c1.toInt8.toInt32)), (.int (1 : Int32)), (.ref r)])) rfl rfl (hb hby d10_31)
      rw [(own_nb8 c1)] at W236
      have V236 : Arv Z h236 r kr .byte (2 : Int32) [(.int (c0.toInt8.toInt32)), (.int (c1.toInt8.toInt32))] (.int (0 : Int32)) := Arv.set Ar235 qk235 sl235 nz235 ha235 fi235 ((own_nb8 c1) ▸ fits_nar_byte (c1.toInt8.toInt32)) W236 1 rfl (ok rfl)
      have N236 := Fr.snoc X236 N227 gr
      refine Goes.step (T' := T236) (g' := (mkF m 32 #[.val (.ref b), .val (.int (1 : Int32)), .val (.ref r), .val (.int (1 : Int32)), .val (.int (2 : Int32)), .val (.int (1 : Int32)), .val (.int c1)] [])) st236 ?_
      refine P1.iinc X236.here hx #[.val (.ref b), .val (.int ((1 : Int32) + (1 : Int32))), .val (.ref r), .val (.int (1 : Int32)), .val (.int (2 : Int32)), .val (.int (1 : Int32)), .val (.int c1)] (hb hby d10_32) rfl rfl ?_
      have rw237 : ((1 : Int32) + (1 : Int32)) = (2 : Int32) := by decide
      rw [rw237]
      refine P1.iinc X236.here hx #[.val (.ref b), .val (.int (2 : Int32)), .val (.ref r), .val (.int ((1 : Int32) + (1 : Int32))), .val (.int (2 : Int32)), .val (.int (1 : Int32)), .val (.int c1)] (hb hby d10_35) rfl rfl ?_
      have rw238 : ((1 : Int32) + (1 : Int32)) = (2 : Int32) := by decide
      rw [rw238]
      refine P1.iinc X236.here hx #[.val (.ref b), .val (.int (2 : Int32)), .val (.ref r), .val (.int (2 : Int32)), .val (.int (2 : Int32)), .val (.int ((1 : Int32) + (1 : Int32))), .val (.int c1)] (hb hby d10_38) rfl rfl ?_
      have rw239 : ((1 : Int32) + (1 : Int32)) = (2 : Int32) := by decide
      rw [rw239]
      refine P1.goto X236.here hx 3 (hb hby d10_41) (by decide) (by decide) ?_
      refine P1.iload X236.here hx (hb hby d10_3) rfl ?_
      refine P1.iload X236.here hx (hb hby d10_5) rfl ?_
      refine P1.icmpYes X236.here hx 44 (hb hby d10_7) (flt (by decide : ¬ ((2 : Int32) < (2 : Int32)))).2.1 (by decide) (by decide) ?_
      refine P1.iload X236.here hx (hb hby d10_44) rfl ?_
      refine Goes.retI X236 hx Bd.notSynchronized Bd.returns (hb hby d10_46) (ok rfl) (ok rfl) ?_
      rw [e236]
      have K240 : Keep h0 h227 [r] := K0.wr W227 (Or.inl (by simp))
      have K241 : Keep h0 h236 [r] := K240.wr W236 (Or.inl (by simp))
      exact ⟨N236, K241, Or.inl ⟨rfl, (fun c hc => by simp only [List.mem_cons, List.not_mem_nil, or_false] at hc; rcases hc with rfl | rfl <;> assumption), V236⟩⟩
theorem efCm2 (b : Addr) (m : MethodId) : entryFrame m #[(.ref b), (.int (0 : Int32)), (.int (2 : Int32))] 6 = mkF m 0 #[.val (.ref b), .val (.int (0 : Int32)), .val (.int (2 : Int32)), .unset, .unset, .unset] [] := by first | (simp [entryFrame, mkF, argsToLocals, Value.category]; done) | rfl
def QCm2 (Z : State) (b : Addr) (kb : ClassId) (c0 c1 zc : Int32) (fm : Value) (h0 : Heap) (n0 : Nat) (v : Option Value) (h : Heap) (L : List Loc) : Prop := ∃ r kr, v = some (.ref r) ∧ Fr n0 L ∧ Keep h0 h [] ∧ h0.size ≤ r ∧ (((∀ c ∈ ([c0, c1] : List Int32), ¬ (255 : Int32) < c) ∧ Arv Z h r kr .byte (2 : Int32) [(.int (StrChars.lo8 c0)), (.int (StrChars.lo8 c1))] (.int (0 : Int32))) ∨ ((∃ c ∈ ([c0, c1] : List Int32), (255 : Int32) < c) ∧ Arv Z h r kr .byte (4 : Int32) [(.int (StrChars.lo8 c0)), (.int (StrChars.hi8 c0)), (.int (StrChars.lo8 c1)), (.int (StrChars.hi8 c1))] (.int (0 : Int32))))
set_option maxRecDepth 65536 in
set_option maxHeartbeats 40000000 in
theorem rmCm2 (l : Launch) (Z : State) (a0 : Array Value) (hw : ∀ d ∈ tables_1, d.before a0 Z = true) (ws : List Jvm.Cond) (b : Addr) (kb : ClassId) (c0 c1 zc : Int32) (fm : Value) (h0 : Heap) (n0 : Nat) (Z0 : n0 ≤ h0.size) (O0 : Old Z n0 h0) (S_CS : Sta Z Z.heap "java/lang/String" "COMPACT_STRINGS" "Z" (.int zc)) (hzc : ¬ zc = 0) (S_FM : Sta Z Z.heap "jdk/internal/util/Preconditions" "SIOOBE_FORMATTER" "Ljava/util/function/BiFunction;" fm) (hfm : fm.isRef = true) (S_AD : Sta Z Z.heap "java/lang/StringUTF16" "$assertionsDisabled" "Z" (.int (1 : Int32))) (S_HI : Sta Z Z.heap "java/lang/StringUTF16" "HI_BYTE_SHIFT" "I" (.int (0 : Int32))) (S_LO : Sta Z Z.heap "java/lang/StringUTF16" "LO_BYTE_SHIFT" "I" (.int (8 : Int32))) (Vb : Arv Z h0 b kb .char (2 : Int32) [(.int c0), (.int c1)] (.int (0 : Int32))) (h_c0 : C16 c0) (h_c1 : C16 c1) :
    OwnLaw l y23_ jdk_52_method_16_code 6 (some (.array .byte)) ws (rR 3 2 6 40) #[(.ref b), (.int (0 : Int32)), (.int (2 : Int32))] Z h0 (QCm2 Z b kb c0 c1 zc fm h0 n0) := by
  refine own_enter (plainFor_of_name pn_java_lang_StringUTF16) (efCm2 b) ?_
  intro p e s m below meth c s₁ Bd hx hby hml hZ hown X0 e0
  have N0 := Fr.nil n0
  have K0 : Keep h0 h0 [] := Keep.refl _ _
  refine P1.iloadN X0.here hx (hb hby d9_0) rfl ?_
  obtain ⟨T242, h242, k242, X242, e242, E242, A242, st242⟩ := newP X0 hx hZ (own_w hw 24 rfl) e0 (g := (mkF m 1 #[.val (.ref b), .val (.int (0 : Int32)), .val (.int (2 : Int32)), .unset, .unset, .unset] [(.int (2 : Int32))])) rfl (hb hby d9_1) rfl (by decide) (cap := 2) (ok rfl) (ok rfl) (ok rfl) (ok rfl)
  obtain ⟨b242, g242⟩ : ∃ z, z = h0.size := ⟨_, rfl⟩
  rw [← g242] at A242 st242
  have ge_b242 : n0 ≤ b242 := Nat.le_trans Z0 (Nat.le_of_eq g242.symm)
  have sz_b242 : h0.size ≤ b242 := Nat.le_trans K0.1 (Nat.le_of_eq g242.symm)
  have V242 : Arv Z h242 b242 k242 .byte (2 : Int32) [(.int (0 : Int32)), (.int (0 : Int32))] (.int (0 : Int32)) := (Arv.new A242 (by decide)).pad (pad_rep [] (.int (0 : Int32)) 2)
  refine Goes.step (T' := T242) (g' := (mkF m 3 #[.val (.ref b), .val (.int (0 : Int32)), .val (.int (2 : Int32)), .unset, .unset, .unset] [(.ref b242)])) st242 ?_
  refine P1.astoreN X242.here hx #[.val (.ref b), .val (.int (0 : Int32)), .val (.int (2 : Int32)), .val (.ref b242), .unset, .unset] (hb hby d9_3) rfl rfl ?_
  refine P1.aloadN X242.here hx (hb hby d9_4) rfl rfl ?_
  refine P1.iloadN X242.here hx (hb hby d9_5) rfl ?_
  refine P1.aloadN X242.here hx (hb hby d9_6) rfl rfl ?_
  refine P1.iconst X242.here hx (0 : Int32) (hb hby d9_7) rfl ?_
  refine P1.iloadN X242.here hx (hb hby d9_8) rfl ?_
  have V243 : Arv Z h242 b kb .char (2 : Int32) [(.int c0), (.int c1)] (.int (0 : Int32)) := Vb.ext E242
  have ne244 : b ≠ b242 := Nat.ne_of_lt (Nat.lt_of_lt_of_le Vb.lt (Nat.le_of_eq g242.symm))
  have Z245 : n0 ≤ h242.size := Nat.le_trans Z0 E242.1
  have O246 : Old Z n0 h242 := O0.ext E242
  refine P1.callS X242 hx hZ hown (own_w hw 50 rfl) (own_w hw 51 rfl) (own_w hw 48 rfl) (own_w hw 52 rfl) (by decide) (rmCq2 l Z a0 hw [] b kb c0 c1 b242 k242 h242 n0 Z245 O246 V243 ge_b242 V242 ne244) hml [(.ref b), (.int (0 : Int32)), (.ref b242), (.int (0 : Int32)), (.int (2 : Int32))] [] (lenOf pd_3760 rfl) rfl rfl (hb hby d9_9) rfl e242 (ok rfl) (ok rfl) (ok rfl) (ok rfl) ?_
  intro v247 T247 L247 q247 X247
  obtain ⟨N247q, K247, q247⟩ := q247
  have N247 := Fr.app N0 N247q
  rcases q247 with ⟨rfl, hall247, g247V⟩ | ⟨rfl, hbig247⟩ | ⟨rfl, hbig247⟩
  ·
    show Goes p e below _ T247 (mkF m 12 #[.val (.ref b), .val (.int (0 : Int32)), .val (.int (2 : Int32)), .val (.ref b242), .unset, .unset] [(.int (2 : Int32))])
    refine P1.istore X247.here hx #[.val (.ref b), .val (.int (0 : Int32)), .val (.int (2 : Int32)), .val (.ref b242), .val (.int (2 : Int32)), .unset] (hb hby d9_12) rfl ?_
    refine P1.iload X247.here hx (hb hby d9_14) rfl ?_
    refine P1.iloadN X247.here hx (hb hby d9_16) rfl ?_
    refine P1.icmpYes X247.here hx 57 (hb hby d9_17) (teq (by decide : (2 : Int32) = (2 : Int32))).1 (by decide) (by decide) ?_
    refine P1.aloadN X247.here hx (hb hby d9_57) rfl rfl ?_
    refine Goes.retA X247 hx Bd.notSynchronized Bd.returns rfl rfl (hb hby d9_58) (ok rfl) (ok rfl) ?_
    have K248 : Keep h0 h242 [] := K0.ext E242
    have K249 : Keep h0 T247.heap [] := K248.trans K247 (allS (Or.inr sz_b242) all0)
    exact ⟨b242, k242, rfl, N247, K249, sz_b242, Or.inl ⟨hall247, g247V⟩⟩
  ·
    show Goes p e below _ T247 (mkF m 12 #[.val (.ref b), .val (.int (0 : Int32)), .val (.int (2 : Int32)), .val (.ref b242), .unset, .unset] [(.int (0 : Int32))])
    refine P1.istore X247.here hx #[.val (.ref b), .val (.int (0 : Int32)), .val (.int (2 : Int32)), .val (.ref b242), .val (.int (0 : Int32)), .unset] (hb hby d9_12) rfl ?_
    refine P1.iload X247.here hx (hb hby d9_14) rfl ?_
    refine P1.iloadN X247.here hx (hb hby d9_16) rfl ?_
    refine P1.icmpNo X247.here hx (hb hby d9_17) (feq (by decide : ¬ ((0 : Int32) = (2 : Int32)))).1 ?_
    refine P1.aloadN X247.here hx (hb hby d9_20) rfl rfl ?_
    refine P1.iloadN X247.here hx (hb hby d9_21) rfl ?_
    refine P1.iloadN X247.here hx (hb hby d9_22) rfl ?_
    have K250 : Keep h0 h242 [] := K0.ext E242
    have K251 : Keep h0 T247.heap [] := K250.trans K247 (allS (Or.inr sz_b242) all0)
    have Z252 : n0 ≤ T247.heap.size := Nat.le_trans Z245 K247.1
    have V253 : Arv Z T247.heap b kb .char (2 : Int32) [(.int c0), (.int c1)] (.int (0 : Int32)) := V243.keep K247 (ninS ne244 nin0)
    have O254 : Old Z n0 T247.heap := O246.keep K247 (allS ge_b242 all0)
    refine P1.callS X247 hx hZ hown (own_w hw 80 rfl) (own_w hw 81 rfl) (own_w hw 48 rfl) (own_w hw 82 rfl) (by decide) (rmTb2 l Z a0 hw [] b kb c0 c1 zc fm T247.heap n0 Z252 O254 S_CS hzc S_FM hfm S_AD S_HI S_LO V253) hml [(.ref b), (.int (0 : Int32)), (.int (2 : Int32))] [] (lenOf pd_2491 rfl) rfl rfl (hb hby d9_23) rfl rfl (ok rfl) (ok rfl) (ok rfl) (ok rfl) ?_
    intro v255 T255 L255 q255 X255
    obtain ⟨r255, kr255, rfl, N255q, K255, szr255, g255V⟩ := q255
    have ge_r255 : n0 ≤ r255 := Nat.le_trans Z252 szr255
    have sz_r255 : h0.size ≤ r255 := Nat.le_trans K251.1 szr255
    have N255 := Fr.app N247 N255q
    show Goes p e below _ T255 (mkF m 26 #[.val (.ref b), .val (.int (0 : Int32)), .val (.int (2 : Int32)), .val (.ref b242), .val (.int (0 : Int32)), .unset] [(.ref r255)])
    refine P1.astore X255.here hx #[.val (.ref b), .val (.int (0 : Int32)), .val (.int (2 : Int32)), .val (.ref b242), .val (.int (0 : Int32)), .val (.ref r255)] (hb hby d9_26) rfl rfl ?_
    refine P1.aload X255.here hx (hb hby d9_28) rfl rfl ?_
    refine P1.iload X255.here hx (hb hby d9_30) rfl ?_
    have Z256 : n0 ≤ T255.heap.size := Nat.le_trans Z252 K255.1
    have O257 : Old Z n0 T255.heap := O254.keep K255 all0
    refine P1.callS X255 hx hZ hown (own_w hw 96 rfl) (own_w hw 97 rfl) (own_w hw 48 rfl) (own_w hw 98 rfl) (by decide) (rmGc0 l Z a0 hw [] r255 kr255 (4 : Int32) [(.int (StrChars.lo8 c0)), (.int (StrChars.hi8 c0)), (.int (StrChars.lo8 c1)), (.int (StrChars.hi8 c1))] c0 zc fm T255.heap n0 Z256 O257 S_CS hzc S_FM hfm S_AD S_HI S_LO g255V ⟨by decide, by decide⟩ ⟨by decide, by decide⟩ rfl rfl h_c0) hml [(.ref r255), (.int (0 : Int32))] [] (lenOf pd_1319 rfl) rfl rfl (hb hby d9_32) rfl rfl (ok rfl) (ok rfl) (ok rfl) (ok rfl) ?_
    intro v258 T258 L258 q258 X258
    obtain ⟨rfl, N258q, hE258⟩ := q258
    have N258 := Fr.app N255 N258q
    show Goes p e below _ T258 (mkF m 35 #[.val (.ref b), .val (.int (0 : Int32)), .val (.int (2 : Int32)), .val (.ref b242), .val (.int (0 : Int32)), .val (.ref r255)] [(.int c0)])
    refine P1.sipush X258.here hx (255 : Int32) (hb hby d9_35) rfl ?_
    refine P1.icmpYes X258.here hx 54 (hb hby d9_38) (tlt (hbig247 : (255 : Int32) < c0)).2.2.1 (by decide) (by decide) ?_
    refine P1.aload X258.here hx (hb hby d9_54) rfl rfl ?_
    refine Goes.retA X258 hx Bd.notSynchronized Bd.returns rfl rfl (hb hby d9_56) (ok rfl) (ok rfl) ?_
    rw [hE258]
    have K259 : Keep h0 T255.heap [] := K251.trans K255 all0
    exact ⟨r255, kr255, rfl, N258, K259, sz_r255, Or.inr ⟨⟨c0, by simp, hbig247⟩, g255V⟩⟩
  ·
    show Goes p e below _ T247 (mkF m 12 #[.val (.ref b), .val (.int (0 : Int32)), .val (.int (2 : Int32)), .val (.ref b242), .unset, .unset] [(.int (1 : Int32))])
    refine P1.istore X247.here hx #[.val (.ref b), .val (.int (0 : Int32)), .val (.int (2 : Int32)), .val (.ref b242), .val (.int (1 : Int32)), .unset] (hb hby d9_12) rfl ?_
    refine P1.iload X247.here hx (hb hby d9_14) rfl ?_
    refine P1.iloadN X247.here hx (hb hby d9_16) rfl ?_
    refine P1.icmpNo X247.here hx (hb hby d9_17) (feq (by decide : ¬ ((1 : Int32) = (2 : Int32)))).1 ?_
    refine P1.aloadN X247.here hx (hb hby d9_20) rfl rfl ?_
    refine P1.iloadN X247.here hx (hb hby d9_21) rfl ?_
    refine P1.iloadN X247.here hx (hb hby d9_22) rfl ?_
    have K260 : Keep h0 h242 [] := K0.ext E242
    have K261 : Keep h0 T247.heap [] := K260.trans K247 (allS (Or.inr sz_b242) all0)
    have Z262 : n0 ≤ T247.heap.size := Nat.le_trans Z245 K247.1
    have V263 : Arv Z T247.heap b kb .char (2 : Int32) [(.int c0), (.int c1)] (.int (0 : Int32)) := V243.keep K247 (ninS ne244 nin0)
    have O264 : Old Z n0 T247.heap := O246.keep K247 (allS ge_b242 all0)
    refine P1.callS X247 hx hZ hown (own_w hw 80 rfl) (own_w hw 81 rfl) (own_w hw 48 rfl) (own_w hw 82 rfl) (by decide) (rmTb2 l Z a0 hw [] b kb c0 c1 zc fm T247.heap n0 Z262 O264 S_CS hzc S_FM hfm S_AD S_HI S_LO V263) hml [(.ref b), (.int (0 : Int32)), (.int (2 : Int32))] [] (lenOf pd_2491 rfl) rfl rfl (hb hby d9_23) rfl rfl (ok rfl) (ok rfl) (ok rfl) (ok rfl) ?_
    intro v265 T265 L265 q265 X265
    obtain ⟨r265, kr265, rfl, N265q, K265, szr265, g265V⟩ := q265
    have ge_r265 : n0 ≤ r265 := Nat.le_trans Z262 szr265
    have sz_r265 : h0.size ≤ r265 := Nat.le_trans K261.1 szr265
    have N265 := Fr.app N247 N265q
    show Goes p e below _ T265 (mkF m 26 #[.val (.ref b), .val (.int (0 : Int32)), .val (.int (2 : Int32)), .val (.ref b242), .val (.int (1 : Int32)), .unset] [(.ref r265)])
    refine P1.astore X265.here hx #[.val (.ref b), .val (.int (0 : Int32)), .val (.int (2 : Int32)), .val (.ref b242), .val (.int (1 : Int32)), .val (.ref r265)] (hb hby d9_26) rfl rfl ?_
    refine P1.aload X265.here hx (hb hby d9_28) rfl rfl ?_
    refine P1.iload X265.here hx (hb hby d9_30) rfl ?_
    have Z266 : n0 ≤ T265.heap.size := Nat.le_trans Z262 K265.1
    have O267 : Old Z n0 T265.heap := O264.keep K265 all0
    refine P1.callS X265 hx hZ hown (own_w hw 96 rfl) (own_w hw 97 rfl) (own_w hw 48 rfl) (own_w hw 98 rfl) (by decide) (rmGc1 l Z a0 hw [] r265 kr265 (4 : Int32) [(.int (StrChars.lo8 c0)), (.int (StrChars.hi8 c0)), (.int (StrChars.lo8 c1)), (.int (StrChars.hi8 c1))] c1 zc fm T265.heap n0 Z266 O267 S_CS hzc S_FM hfm S_AD S_HI S_LO g265V ⟨by decide, by decide⟩ ⟨by decide, by decide⟩ rfl rfl h_c1) hml [(.ref r265), (.int (1 : Int32))] [] (lenOf pd_1319 rfl) rfl rfl (hb hby d9_32) rfl rfl (ok rfl) (ok rfl) (ok rfl) (ok rfl) ?_
    intro v268 T268 L268 q268 X268
    obtain ⟨rfl, N268q, hE268⟩ := q268
    have N268 := Fr.app N265 N268q
    show Goes p e below _ T268 (mkF m 35 #[.val (.ref b), .val (.int (0 : Int32)), .val (.int (2 : Int32)), .val (.ref b242), .val (.int (1 : Int32)), .val (.ref r265)] [(.int c1)])
    refine P1.sipush X268.here hx (255 : Int32) (hb hby d9_35) rfl ?_
    refine P1.icmpYes X268.here hx 54 (hb hby d9_38) (tlt (hbig247 : (255 : Int32) < c1)).2.2.1 (by decide) (by decide) ?_
    refine P1.aload X268.here hx (hb hby d9_54) rfl rfl ?_
    refine Goes.retA X268 hx Bd.notSynchronized Bd.returns rfl rfl (hb hby d9_56) (ok rfl) (ok rfl) ?_
    rw [hE268]
    have K269 : Keep h0 T265.heap [] := K261.trans K265 all0
    exact ⟨r265, kr265, rfl, N268, K269, sz_r265, Or.inr ⟨⟨c1, by simp, hbig247⟩, g265V⟩⟩
theorem efSic2 (x b : Addr) (m : MethodId) : entryFrame m #[(.ref x), (.ref b), (.int (0 : Int32)), (.int (2 : Int32)), .null] 6 = mkF m 0 #[.val (.ref x), .val (.ref b), .val (.int (0 : Int32)), .val (.int (2 : Int32)), .val .null, .unset] [] := by first | (simp [entryFrame, mkF, argsToLocals, Value.category]; done) | rfl
def QSic2 (Z : State) (x b : Addr) (kb : ClassId) (c0 c1 zc : Int32) (fm : Value) (h0 : Heap) (n0 : Nat) (v : Option Value) (h : Heap) (L : List Loc) : Prop := v = none ∧ Fr n0 L ∧ Keep h0 h [x] ∧ Exa Z h x "java/lang/String" ∧ ∃ t kb cd N2 vs, Fld Z h x "java/lang/String" "value" "[B" (.ref t) ∧ Fld Z h x "java/lang/String" "coder" "B" (.int cd) ∧ Arv Z h t kb .byte N2 vs (.int (0 : Int32)) ∧ StrChars.Road.CodA ([c0, c1] : List Int32) cd N2 vs
set_option maxRecDepth 65536 in
set_option maxHeartbeats 40000000 in
theorem rmSic2 (l : Launch) (Z : State) (a0 : Array Value) (hw : ∀ d ∈ tables_1, d.before a0 Z = true) (ws : List Jvm.Cond) (x b : Addr) (kb : ClassId) (c0 c1 zc : Int32) (fm : Value) (h0 : Heap) (n0 : Nat) (Z0 : n0 ≤ h0.size) (O0 : Old Z n0 h0) (S_CS : Sta Z Z.heap "java/lang/String" "COMPACT_STRINGS" "Z" (.int zc)) (hzc : ¬ zc = 0) (S_FM : Sta Z Z.heap "jdk/internal/util/Preconditions" "SIOOBE_FORMATTER" "Ljava/util/function/BiFunction;" fm) (hfm : fm.isRef = true) (S_AD : Sta Z Z.heap "java/lang/StringUTF16" "$assertionsDisabled" "Z" (.int (1 : Int32))) (S_HI : Sta Z Z.heap "java/lang/StringUTF16" "HI_BYTE_SHIFT" "I" (.int (0 : Int32))) (S_LO : Sta Z Z.heap "java/lang/StringUTF16" "LO_BYTE_SHIFT" "I" (.int (8 : Int32))) (gx : n0 ≤ x) (Ex : Exa Z h0 x "java/lang/String") (Vx : Fld Z h0 x "java/lang/String" "value" "[B" .null) (Cx : Fld Z h0 x "java/lang/String" "coder" "B" (.int (0 : Int32))) (Vb : Arv Z h0 b kb .char (2 : Int32) [(.int c0), (.int c1)] (.int (0 : Int32))) (h_c0 : C16 c0) (h_c1 : C16 c1) :
    OwnLaw l y6_ jdk_42_method_149_code 6 none ws (rR 4 2 6 57) #[(.ref x), (.ref b), (.int (0 : Int32)), (.int (2 : Int32)), .null] Z h0 (QSic2 Z x b kb c0 c1 zc fm h0 n0) := by
  refine own_enter (plainFor_of_name pn_java_lang_String) (efSic2 x b) ?_
  intro p e s m below meth c s₁ Bd hx hby hml hZ hown X0 e0
  have hnm := (name_of_methodNamed Bd.named Bd.method).1
  have N0 := Fr.nil n0
  have K0 : Keep h0 h0 [] := Keep.refl _ _
  have K0 : Keep h0 h0 [x] := Keep.refl _ _
  refine P1.aloadN X0.here hx (hb hby d4_0) rfl rfl ?_
  obtain ⟨T270, X270, e270, st270⟩ := initO X0 hx hZ hown (own_w hw 20 rfl) (own_w hw 21 rfl) (own_w hw 22 rfl) e0 (g := (mkF m 1 #[.val (.ref x), .val (.ref b), .val (.int (0 : Int32)), .val (.int (2 : Int32)), .val .null, .unset] [(.ref x)])) rfl (by rw [hml]; rfl) rfl (hb hby d4_1) (by decide) (W := 0) (by show 2 * 0 + _ ≤ _; exact Nat.le_of_eq rfl) (by decide)
  refine Goes.step (T' := T270) (g' := (mkF m 4 #[.val (.ref x), .val (.ref b), .val (.int (0 : Int32)), .val (.int (2 : Int32)), .val .null, .unset] [])) st270 ?_
  refine P1.iloadN X270.here hx (hb hby d4_4) rfl ?_
  refine P1.ifYes X270.here hx 27 (hb hby d4_5) ((if0 _ _).trans (feq (by decide : ¬ ((2 : Int32) = (0 : Int32)))).2) (by decide) (by decide) ?_
  obtain ⟨T271, X271, e271, st271⟩ := getS2 X270 hx hZ hown (host := "") (Or.inl (own_w hw 45 rfl)) Via.refl e270 (S_CS.ext O0.2) (g := (mkF m 27 #[.val (.ref x), .val (.ref b), .val (.int (0 : Int32)), .val (.int (2 : Int32)), .val .null, .unset] [])) rfl (hb hby d4_27)
  refine Goes.step (T' := T271) (g' := (mkF m 30 #[.val (.ref x), .val (.ref b), .val (.int (0 : Int32)), .val (.int (2 : Int32)), .val .null, .unset] [(.int zc)])) st271 ?_
  refine P1.ifNo X271.here hx (hb hby d4_30) ((if0 _ _).trans (feq (hzc : ¬ (zc = (0 : Int32)))).1) ?_
  refine P1.aloadN X271.here hx (hb hby d4_33) rfl rfl ?_
  refine P1.iloadN X271.here hx (hb hby d4_34) rfl ?_
  refine P1.iloadN X271.here hx (hb hby d4_35) rfl ?_
  refine P1.callS X271 hx hZ hown (own_w hw 46 rfl) (own_w hw 47 rfl) (own_w hw 48 rfl) (own_w hw 49 rfl) (by decide) (rmCm2 l Z a0 hw [] b kb c0 c1 zc fm h0 n0 Z0 O0 S_CS hzc S_FM hfm S_AD S_HI S_LO Vb h_c0 h_c1) hml [(.ref b), (.int (0 : Int32)), (.int (2 : Int32))] [] (lenOf pd_2491 rfl) rfl rfl (hb hby d4_36) rfl e271 (ok rfl) (ok rfl) (ok rfl) (ok rfl) ?_
  intro v272 T272 L272 q272 X272
  obtain ⟨r272, kr272, rfl, N272q, K272, szr272, q272⟩ := q272
  have ge_r272 : n0 ≤ r272 := Nat.le_trans Z0 szr272
  have sz_r272 : h0.size ≤ r272 := Nat.le_trans K0.1 szr272
  have N272 := Fr.app N0 N272q
  rcases q272 with ⟨hall272, g272V⟩ | ⟨hsome272, g272V⟩
  ·
    show Goes p e below _ T272 (mkF m 39 #[.val (.ref x), .val (.ref b), .val (.int (0 : Int32)), .val (.int (2 : Int32)), .val .null, .unset] [(.ref r272)])
    refine P1.astore X272.here hx #[.val (.ref x), .val (.ref b), .val (.int (0 : Int32)), .val (.int (2 : Int32)), .val .null, .val (.ref r272)] (hb hby d4_39) rfl rfl ?_
    refine P1.aloadN X272.here hx (hb hby d4_41) rfl rfl ?_
    refine P1.aload X272.here hx (hb hby d4_42) rfl rfl ?_
    refine P1.iloadN X272.here hx (hb hby d4_44) rfl ?_
    have Z273 : n0 ≤ T272.heap.size := Nat.le_trans Z0 K272.1
    have O274 : Old Z n0 T272.heap := O0.keep K272 all0
    refine P1.callS X272 hx hZ hown (own_w hw 53 rfl) (own_w hw 54 rfl) (own_w hw 48 rfl) (own_w hw 55 rfl) (by decide) (rmCf2_2 l Z a0 hw [] r272 kr272 [(.int (StrChars.lo8 c0)), (.int (StrChars.lo8 c1))] T272.heap n0 Z273 O274 g272V) hml [(.ref r272), (.int (2 : Int32))] [(.ref x)] (lenOf pd_1313 rfl) rfl rfl (hb hby d4_45) rfl rfl (ok rfl) (ok rfl) (ok rfl) (ok rfl) ?_
    intro v275 T275 L275 q275 X275
    obtain ⟨rfl, N275q, hE275⟩ := q275
    have N275 := Fr.app N272 N275q
    show Goes p e below _ T275 (mkF m 48 #[.val (.ref x), .val (.ref b), .val (.int (0 : Int32)), .val (.int (2 : Int32)), .val .null, .val (.ref r272)] [(.int (0 : Int32)), (.ref x)])
    have F276 : Fld Z T272.heap x "java/lang/String" "coder" "B" (.int (0 : Int32)) := Cx.keep K272 nin0
    have E277 : Exa Z T272.heap x "java/lang/String" := Ex.keep K272
    obtain ⟨T278, h278, X278, e278, W278, st278⟩ := putFN X275 hx hZ hown (own_w hw 30 rfl) Via.refl hE275 F276 E277 (Or.inr ⟨(own_w hw 26 rfl), rfl, hnm⟩) (own_w hw 10 rfl) (ty := .byte) (v' := (.int (0 : Int32))) (by decide) rfl (by decide) (g := (mkF m 48 #[.val (.ref x), .val (.ref b), .val (.int (0 : Int32)), .val (.int (2 : Int32)), .val .null, .val (.ref r272)] [(.int (0 : Int32)), (.ref x)])) rfl rfl (hb hby d4_48)
    have Fw278 : Fld Z h278 x "java/lang/String" "coder" "B" (.int (0 : Int32)) := F276.same W278
    have N278 := Fr.snoc X278 N275 gx
    refine Goes.step (T' := T278) (g' := (mkF m 51 #[.val (.ref x), .val (.ref b), .val (.int (0 : Int32)), .val (.int (2 : Int32)), .val .null, .val (.ref r272)] [])) st278 ?_
    refine P1.aloadN X278.here hx (hb hby d4_51) rfl rfl ?_
    refine P1.aload X278.here hx (hb hby d4_52) rfl rfl ?_
    have F279 : Fld Z T272.heap x "java/lang/String" "value" "[B" .null := Vx.keep K272 nin0
    have F280 : Fld Z h278 x "java/lang/String" "value" "[B" .null := F279.other W278 (Or.inr (slot_ne (Or.inr (own_w hw 25 rfl)) (Or.inr (own_w hw 26 rfl)) (by decide) (t := (.array .byte)) (t' := .byte) (by decide) (by decide)))
    have E281 : Exa Z h278 x "java/lang/String" := E277.wr W278
    obtain ⟨T282, h282, X282, e282, W282, st282⟩ := putF X278 hx hZ hown (host := "") (Or.inl (own_w hw 29 rfl)) Via.refl e278 F280 E281 (Or.inr ⟨(own_w hw 25 rfl), rfl, hnm⟩) (own_w hw 10 rfl) (ty := (.array .byte)) (by decide) rfl rfl (g := (mkF m 54 #[.val (.ref x), .val (.ref b), .val (.int (0 : Int32)), .val (.int (2 : Int32)), .val .null, .val (.ref r272)] [(.ref r272), (.ref x)])) rfl rfl (hb hby d4_54)
    have Fw282 : Fld Z h282 x "java/lang/String" "value" "[B" (.ref r272) := F280.same W282
    have N282 := Fr.snoc X282 N278 gx
    refine Goes.step (T' := T282) (g' := (mkF m 57 #[.val (.ref x), .val (.ref b), .val (.int (0 : Int32)), .val (.int (2 : Int32)), .val .null, .val (.ref r272)] [])) st282 ?_
    refine Goes.retV X282 hx Bd.notSynchronized Bd.returns (hb hby d4_57) (ok rfl) (ok rfl) ?_
    rw [e282]
    have K283 : Keep h0 T272.heap [x] := K0.trans K272 all0
    have K284 : Keep h0 h278 [x] := K283.wr W278 (Or.inl (by simp))
    have K285 : Keep h0 h282 [x] := K284.wr W282 (Or.inl (by simp))
    have E286 : Exa Z h282 x "java/lang/String" := E281.wr W282
    have F287 : Fld Z h282 x "java/lang/String" "coder" "B" (.int (0 : Int32)) := Fw278.other W282 (Or.inr (slot_ne (Or.inr (own_w hw 26 rfl)) (Or.inr (own_w hw 25 rfl)) (by decide) (t := .byte) (t' := (.array .byte)) (by decide) (by decide)))
    have ne288 : x ≠ r272 := Nat.ne_of_lt (Nat.lt_of_lt_of_le Ex.lt szr272)
    have V289 : Arv Z h278 r272 kr272 .byte (2 : Int32) [(.int (StrChars.lo8 c0)), (.int (StrChars.lo8 c1))] (.int (0 : Int32)) := g272V.other W278 (Ne.symm ne288)
    have V290 : Arv Z h282 r272 kr272 .byte (2 : Int32) [(.int (StrChars.lo8 c0)), (.int (StrChars.lo8 c1))] (.int (0 : Int32)) := V289.other W282 (Ne.symm ne288)
    exact ⟨rfl, N282, K285, E286, r272, kr272, (0 : Int32), (2 : Int32), [(.int (StrChars.lo8 c0)), (.int (StrChars.lo8 c1))], Fw282, F287, V290, (Or.inl ⟨rfl, rfl, rfl, hall272⟩)⟩
  ·
    show Goes p e below _ T272 (mkF m 39 #[.val (.ref x), .val (.ref b), .val (.int (0 : Int32)), .val (.int (2 : Int32)), .val .null, .unset] [(.ref r272)])
    refine P1.astore X272.here hx #[.val (.ref x), .val (.ref b), .val (.int (0 : Int32)), .val (.int (2 : Int32)), .val .null, .val (.ref r272)] (hb hby d4_39) rfl rfl ?_
    refine P1.aloadN X272.here hx (hb hby d4_41) rfl rfl ?_
    refine P1.aload X272.here hx (hb hby d4_42) rfl rfl ?_
    refine P1.iloadN X272.here hx (hb hby d4_44) rfl ?_
    have Z291 : n0 ≤ T272.heap.size := Nat.le_trans Z0 K272.1
    have O292 : Old Z n0 T272.heap := O0.keep K272 all0
    refine P1.callS X272 hx hZ hown (own_w hw 53 rfl) (own_w hw 54 rfl) (own_w hw 48 rfl) (own_w hw 55 rfl) (by decide) (rmCf2_4 l Z a0 hw [] r272 kr272 [(.int (StrChars.lo8 c0)), (.int (StrChars.hi8 c0)), (.int (StrChars.lo8 c1)), (.int (StrChars.hi8 c1))] T272.heap n0 Z291 O292 g272V) hml [(.ref r272), (.int (2 : Int32))] [(.ref x)] (lenOf pd_1313 rfl) rfl rfl (hb hby d4_45) rfl rfl (ok rfl) (ok rfl) (ok rfl) (ok rfl) ?_
    intro v293 T293 L293 q293 X293
    obtain ⟨rfl, N293q, hE293⟩ := q293
    have N293 := Fr.app N272 N293q
    show Goes p e below _ T293 (mkF m 48 #[.val (.ref x), .val (.ref b), .val (.int (0 : Int32)), .val (.int (2 : Int32)), .val .null, .val (.ref r272)] [(.int (1 : Int32)), (.ref x)])
    have F294 : Fld Z T272.heap x "java/lang/String" "coder" "B" (.int (0 : Int32)) := Cx.keep K272 nin0
    have E295 : Exa Z T272.heap x "java/lang/String" := Ex.keep K272
    obtain ⟨T296, h296, X296, e296, W296, st296⟩ := putFN X293 hx hZ hown (own_w hw 30 rfl) Via.refl hE293 F294 E295 (Or.inr ⟨(own_w hw 26 rfl), rfl, hnm⟩) (own_w hw 10 rfl) (ty := .byte) (v' := (.int (1 : Int32))) (by decide) rfl (by decide) (g := (mkF m 48 #[.val (.ref x), .val (.ref b), .val (.int (0 : Int32)), .val (.int (2 : Int32)), .val .null, .val (.ref r272)] [(.int (1 : Int32)), (.ref x)])) rfl rfl (hb hby d4_48)
    have Fw296 : Fld Z h296 x "java/lang/String" "coder" "B" (.int (1 : Int32)) := F294.same W296
    have N296 := Fr.snoc X296 N293 gx
    refine Goes.step (T' := T296) (g' := (mkF m 51 #[.val (.ref x), .val (.ref b), .val (.int (0 : Int32)), .val (.int (2 : Int32)), .val .null, .val (.ref r272)] [])) st296 ?_
    refine P1.aloadN X296.here hx (hb hby d4_51) rfl rfl ?_
    refine P1.aload X296.here hx (hb hby d4_52) rfl rfl ?_
    have F297 : Fld Z T272.heap x "java/lang/String" "value" "[B" .null := Vx.keep K272 nin0
    have F298 : Fld Z h296 x "java/lang/String" "value" "[B" .null := F297.other W296 (Or.inr (slot_ne (Or.inr (own_w hw 25 rfl)) (Or.inr (own_w hw 26 rfl)) (by decide) (t := (.array .byte)) (t' := .byte) (by decide) (by decide)))
    have E299 : Exa Z h296 x "java/lang/String" := E295.wr W296
    obtain ⟨T300, h300, X300, e300, W300, st300⟩ := putF X296 hx hZ hown (host := "") (Or.inl (own_w hw 29 rfl)) Via.refl e296 F298 E299 (Or.inr ⟨(own_w hw 25 rfl), rfl, hnm⟩) (own_w hw 10 rfl) (ty := (.array .byte)) (by decide) rfl rfl (g := (mkF m 54 #[.val (.ref x), .val (.ref b), .val (.int (0 : Int32)), .val (.int (2 : Int32)), .val .null, .val (.ref r272)] [(.ref r272), (.ref x)])) rfl rfl (hb hby d4_54)
    have Fw300 : Fld Z h300 x "java/lang/String" "value" "[B" (.ref r272) := F298.same W300
    have N300 := Fr.snoc X300 N296 gx
    refine Goes.step (T' := T300) (g' := (mkF m 57 #[.val (.ref x), .val (.ref b), .val (.int (0 : Int32)), .val (.int (2 : Int32)), .val .null, .val (.ref r272)] [])) st300 ?_
    refine Goes.retV X300 hx Bd.notSynchronized Bd.returns (hb hby d4_57) (ok rfl) (ok rfl) ?_
    rw [e300]
    have K301 : Keep h0 T272.heap [x] := K0.trans K272 all0
    have K302 : Keep h0 h296 [x] := K301.wr W296 (Or.inl (by simp))
    have K303 : Keep h0 h300 [x] := K302.wr W300 (Or.inl (by simp))
    have E304 : Exa Z h300 x "java/lang/String" := E299.wr W300
    have F305 : Fld Z h300 x "java/lang/String" "coder" "B" (.int (1 : Int32)) := Fw296.other W300 (Or.inr (slot_ne (Or.inr (own_w hw 26 rfl)) (Or.inr (own_w hw 25 rfl)) (by decide) (t := .byte) (t' := (.array .byte)) (by decide) (by decide)))
    have ne306 : x ≠ r272 := Nat.ne_of_lt (Nat.lt_of_lt_of_le Ex.lt szr272)
    have V307 : Arv Z h296 r272 kr272 .byte (4 : Int32) [(.int (StrChars.lo8 c0)), (.int (StrChars.hi8 c0)), (.int (StrChars.lo8 c1)), (.int (StrChars.hi8 c1))] (.int (0 : Int32)) := g272V.other W296 (Ne.symm ne306)
    have V308 : Arv Z h300 r272 kr272 .byte (4 : Int32) [(.int (StrChars.lo8 c0)), (.int (StrChars.hi8 c0)), (.int (StrChars.lo8 c1)), (.int (StrChars.hi8 c1))] (.int (0 : Int32)) := V307.other W300 (Ne.symm ne306)
    exact ⟨rfl, N300, K303, E304, r272, kr272, (1 : Int32), (4 : Int32), [(.int (StrChars.lo8 c0)), (.int (StrChars.hi8 c0)), (.int (StrChars.lo8 c1)), (.int (StrChars.hi8 c1))], Fw300, F305, V308, (Or.inr ⟨rfl, rfl, rfl, hsome272⟩)⟩
theorem efSi2 (x b : Addr) (m : MethodId) : entryFrame m #[(.ref x), (.ref b)] 2 = mkF m 0 #[.val (.ref x), .val (.ref b)] [] := by first | (simp [entryFrame, mkF, argsToLocals, Value.category]; done) | rfl
def QSi2 (Z : State) (x b : Addr) (kb : ClassId) (c0 c1 zc : Int32) (fm : Value) (h0 : Heap) (n0 : Nat) (v : Option Value) (h : Heap) (L : List Loc) : Prop := v = none ∧ Fr n0 L ∧ Keep h0 h [x] ∧ Exa Z h x "java/lang/String" ∧ ∃ t kb cd N2 vs, Fld Z h x "java/lang/String" "value" "[B" (.ref t) ∧ Fld Z h x "java/lang/String" "coder" "B" (.int cd) ∧ Arv Z h t kb .byte N2 vs (.int (0 : Int32)) ∧ StrChars.Road.CodA ([c0, c1] : List Int32) cd N2 vs
set_option maxRecDepth 65536 in
set_option maxHeartbeats 40000000 in
theorem rmSi2 (l : Launch) (Z : State) (a0 : Array Value) (hw : ∀ d ∈ tables_1, d.before a0 Z = true) (ws : List Jvm.Cond) (x b : Addr) (kb : ClassId) (c0 c1 zc : Int32) (fm : Value) (h0 : Heap) (n0 : Nat) (Z0 : n0 ≤ h0.size) (O0 : Old Z n0 h0) (S_CS : Sta Z Z.heap "java/lang/String" "COMPACT_STRINGS" "Z" (.int zc)) (hzc : ¬ zc = 0) (S_FM : Sta Z Z.heap "jdk/internal/util/Preconditions" "SIOOBE_FORMATTER" "Ljava/util/function/BiFunction;" fm) (hfm : fm.isRef = true) (S_AD : Sta Z Z.heap "java/lang/StringUTF16" "$assertionsDisabled" "Z" (.int (1 : Int32))) (S_HI : Sta Z Z.heap "java/lang/StringUTF16" "HI_BYTE_SHIFT" "I" (.int (0 : Int32))) (S_LO : Sta Z Z.heap "java/lang/StringUTF16" "LO_BYTE_SHIFT" "I" (.int (8 : Int32))) (gx : n0 ≤ x) (Ex : Exa Z h0 x "java/lang/String") (Vx : Fld Z h0 x "java/lang/String" "value" "[B" .null) (Cx : Fld Z h0 x "java/lang/String" "coder" "B" (.int (0 : Int32))) (Vb : Arv Z h0 b kb .char (2 : Int32) [(.int c0), (.int c1)] (.int (0 : Int32))) (h_c0 : C16 c0) (h_c1 : C16 c1) :
    OwnLaw l y5_ jdk_42_method_3_code 2 none ws (rR 5 2 6 74) #[(.ref x), (.ref b)] Z h0 (QSi2 Z x b kb c0 c1 zc fm h0 n0) := by
  refine own_enter (plainFor_of_name pn_java_lang_String) (efSi2 x b) ?_
  intro p e s m below meth c s₁ Bd hx hby hml hZ hown X0 e0
  have N0 := Fr.nil n0
  have K0 : Keep h0 h0 [] := Keep.refl _ _
  have K0 : Keep h0 h0 [x] := Keep.refl _ _
  refine P1.aloadN X0.here hx (hb hby d3_0) rfl rfl ?_
  refine P1.aloadN X0.here hx (hb hby d3_1) rfl rfl ?_
  refine P1.iconst X0.here hx (0 : Int32) (hb hby d3_2) rfl ?_
  refine P1.aloadN X0.here hx (hb hby d3_3) rfl rfl ?_
  obtain ⟨cl309, Ar309, qk309, sl309, nz309, ha309, fi309⟩ := id Vb
  have al310 : cl309.slots.size.toInt32 = (2 : Int32) := len_of sl309 nz309
  refine Goes.step (T' := s₁) (g' := (mkF m 5 #[.val (.ref x), .val (.ref b)] [(.int (2 : Int32)), (.int (0 : Int32)), (.ref b), (.ref x)])) (fun t_ k_ => X0.arraylength hx (by rw [e0]; exact Ar309.1) (State.isArrayOf_alike hZ.alike Ar309.2.1) (g := (mkF m 4 #[.val (.ref x), .val (.ref b)] [(.ref b), (.int (0 : Int32)), (.ref b), (.ref x)])) rfl rfl (hb hby d3_4) _ <| by rw [al310]; exact k_) ?_
  refine P1.aconstNull X0.here hx (hb hby d3_5) ?_
  refine Goes.callC X0 hx (y := y6_) rfl hown (mvT hZ (own_w hw 16 rfl)) (mvT hZ (own_w hw 17 rfl)) (mvT hZ (own_w hw 19 rfl)) (by decide) (kc' := 2) (ks' := 6) (backOf (W := 0) (rmSic2 l Z a0 hw [] x b kb c0 c1 zc fm h0 n0 Z0 O0 S_CS hzc S_FM hfm S_AD S_HI S_LO gx Ex Vx Cx Vb h_c0 h_c1) hZ (own_w hw 19 rfl) (own_w hw 11 rfl) (ok rfl) (ok rfl)) (g := (mkF m 6 #[.val (.ref x), .val (.ref b)] [.null, (.int (2 : Int32)), (.int (0 : Int32)), (.ref b), (.ref x)])) (a := x) rfl (by rw [hml]; rfl) (argsL := [(.ref b), (.int (0 : Int32)), (.int (2 : Int32)), .null]) (rest := []) (lenOf pd_23571 rfl) rfl (by show 2 * 0 + _ ≤ _; exact Nat.le_of_eq rfl) (hb hby d3_6) rfl e0 (ok rfl) (ok rfl) ?_
  intro v311 T311 L311 q311 X311
  obtain ⟨rfl, N311q, K311, g311E, t311, kb311, cd311, N2311, vs311, g311v, g311c, g311V, g311O⟩ := q311
  have N311 := Fr.app N0 N311q
  show Goes p e below _ T311 (mkF m 9 #[.val (.ref x), .val (.ref b)] [])
  refine Goes.retV X311 hx Bd.notSynchronized Bd.returns (hb hby d3_9) (ok rfl) (ok rfl) ?_
  have K312 : Keep h0 T311.heap [x] := K0.trans K311 (allS (Or.inl (by simp)) all0)
  exact ⟨rfl, N311, K312, g311E, t311, kb311, cd311, N2311, vs311, g311v, g311c, g311V, g311O⟩
theorem efNf3  (m : MethodId) : entryFrame m #[(.int (3 : Int32))] 1 = mkF m 0 #[.val (.int (3 : Int32))] [] := by first | (simp [entryFrame, mkF, argsToLocals, Value.category]; done) | rfl
def QNf3 (Z : State)  (h0 : Heap) (n0 : Nat) (v : Option Value) (h : Heap) (L : List Loc) : Prop := ∃ r kr, v = some (.ref r) ∧ Fr n0 L ∧ Keep h0 h [] ∧ h0.size ≤ r ∧ Arv Z h r kr .byte (6 : Int32) [(.int (0 : Int32)), (.int (0 : Int32)), (.int (0 : Int32)), (.int (0 : Int32)), (.int (0 : Int32)), (.int (0 : Int32))] (.int (0 : Int32))
set_option maxRecDepth 65536 in
set_option maxHeartbeats 40000000 in
theorem rmNf3 (l : Launch) (Z : State) (a0 : Array Value) (hw : ∀ d ∈ tables_1, d.before a0 Z = true) (ws : List Jvm.Cond)  (h0 : Heap) (n0 : Nat) (Z0 : n0 ≤ h0.size) (O0 : Old Z n0 h0) :
    OwnLaw l y27_ jdk_52_method_2_code 1 (some (.array .byte)) ws (rR 1 1 6 12) #[(.int (3 : Int32))] Z h0 (QNf3 Z  h0 n0) := by
  refine own_enter (plainFor_of_name pn_java_lang_StringUTF16) (efNf3 ) ?_
  intro p e s m below meth c s₁ Bd hx hby hml hZ hown X0 e0
  have N0 := Fr.nil n0
  have K0 : Keep h0 h0 [] := Keep.refl _ _
  refine P1.iloadN X0.here hx (hb hby d18_0) rfl ?_
  refine P1.callS X0 hx hZ hown (own_w hw 86 rfl) (own_w hw 87 rfl) (own_w hw 48 rfl) (own_w hw 88 rfl) (by decide) (rmNl3 l Z a0 hw []  h0 n0 Z0 O0 ) hml [(.int (3 : Int32))] [] (lenOf pd_601 rfl) rfl rfl (hb hby d18_1) rfl e0 (ok rfl) (ok rfl) (ok rfl) (ok rfl) ?_
  intro v313 T313 L313 q313 X313
  obtain ⟨rfl, N313q, hE313⟩ := q313
  have N313 := Fr.app N0 N313q
  show Goes p e below _ T313 (mkF m 4 #[.val (.int (3 : Int32))] [(.int (6 : Int32))])
  obtain ⟨T314, h314, k314, X314, e314, E314, A314, st314⟩ := newP X313 hx hZ (own_w hw 24 rfl) hE313 (g := (mkF m 4 #[.val (.int (3 : Int32))] [(.int (6 : Int32))])) rfl (hb hby d18_4) rfl (by decide) (cap := 6) (ok rfl) (ok rfl) (ok rfl) (ok rfl)
  obtain ⟨b314, g314⟩ : ∃ z, z = h0.size := ⟨_, rfl⟩
  rw [← g314] at A314 st314
  have ge_b314 : n0 ≤ b314 := Nat.le_trans Z0 (Nat.le_of_eq g314.symm)
  have sz_b314 : h0.size ≤ b314 := Nat.le_trans K0.1 (Nat.le_of_eq g314.symm)
  have V314 : Arv Z h314 b314 k314 .byte (6 : Int32) [(.int (0 : Int32)), (.int (0 : Int32)), (.int (0 : Int32)), (.int (0 : Int32)), (.int (0 : Int32)), (.int (0 : Int32))] (.int (0 : Int32)) := (Arv.new A314 (by decide)).pad (pad_rep [] (.int (0 : Int32)) 6)
  refine Goes.step (T' := T314) (g' := (mkF m 6 #[.val (.int (3 : Int32))] [(.ref b314)])) st314 ?_
  refine Goes.retA X314 hx Bd.notSynchronized Bd.returns rfl rfl (hb hby d18_6) (ok rfl) (ok rfl) ?_
  rw [e314]
  have K315 : Keep h0 h314 [] := K0.ext E314
  exact ⟨b314, k314, rfl, N313, K315, sz_b314, V314⟩
theorem efPc3_0 (r : Addr) (q : Int32) (m : MethodId) : entryFrame m #[(.ref r), (.int (0 : Int32)), (.int q)] 3 = mkF m 0 #[.val (.ref r), .val (.int (0 : Int32)), .val (.int q)] [] := by first | (simp [entryFrame, mkF, argsToLocals, Value.category]; done) | rfl
def QPc3_0 (Z : State) (r : Addr) (kr : ClassId) (ue0 ue1 ue2 ue3 ue4 ue5 q zc : Int32) (fm : Value) (h0 : Heap) (n0 : Nat) (v : Option Value) (h : Heap) (L : List Loc) : Prop := v = none ∧ Fr n0 L ∧ Keep h0 h [r] ∧ Arv Z h r kr .byte (6 : Int32) [(.int (StrChars.lo8 q)), (.int (StrChars.hi8 q)), (.int ue2), (.int ue3), (.int ue4), (.int ue5)] (.int (0 : Int32))
set_option maxRecDepth 65536 in
set_option maxHeartbeats 40000000 in
theorem rmPc3_0 (l : Launch) (Z : State) (a0 : Array Value) (hw : ∀ d ∈ tables_1, d.before a0 Z = true) (ws : List Jvm.Cond) (r : Addr) (kr : ClassId) (ue0 ue1 ue2 ue3 ue4 ue5 q zc : Int32) (fm : Value) (h0 : Heap) (n0 : Nat) (Z0 : n0 ≤ h0.size) (O0 : Old Z n0 h0) (S_CS : Sta Z Z.heap "java/lang/String" "COMPACT_STRINGS" "Z" (.int zc)) (hzc : ¬ zc = 0) (S_FM : Sta Z Z.heap "jdk/internal/util/Preconditions" "SIOOBE_FORMATTER" "Ljava/util/function/BiFunction;" fm) (hfm : fm.isRef = true) (S_AD : Sta Z Z.heap "java/lang/StringUTF16" "$assertionsDisabled" "Z" (.int (1 : Int32))) (S_HI : Sta Z Z.heap "java/lang/StringUTF16" "HI_BYTE_SHIFT" "I" (.int (0 : Int32))) (S_LO : Sta Z Z.heap "java/lang/StringUTF16" "LO_BYTE_SHIFT" "I" (.int (8 : Int32))) (gr : n0 ≤ r) (Vr : Arv Z h0 r kr .byte (6 : Int32) [(.int ue0), (.int ue1), (.int ue2), (.int ue3), (.int ue4), (.int ue5)] (.int (0 : Int32))) :
    OwnLaw l y30_ jdk_52_method_4_code 3 none ws (rR 0 0 0 0) #[(.ref r), (.int (0 : Int32)), (.int q)] Z h0 (QPc3_0 Z r kr ue0 ue1 ue2 ue3 ue4 ue5 q zc fm h0 n0) := by
  refine own_enter (plainFor_of_name pn_java_lang_StringUTF16) (efPc3_0 r q) ?_
  intro p e s m below meth c s₁ Bd hx hby hml hZ hown X0 e0
  have N0 := Fr.nil n0
  have K0 : Keep h0 h0 [] := Keep.refl _ _
  have K0 : Keep h0 h0 [r] := Keep.refl _ _
  obtain ⟨T316, X316, e316, st316⟩ := getS2 X0 hx hZ hown (host := "") (Or.inl (own_w hw 93 rfl)) Via.refl e0 (S_AD.ext O0.2) (g := (mkF m 0 #[.val (.ref r), .val (.int (0 : Int32)), .val (.int q)] [])) rfl (hb hby d20_0)
  refine Goes.step (T' := T316) (g' := (mkF m 3 #[.val (.ref r), .val (.int (0 : Int32)), .val (.int q)] [(.int (1 : Int32))])) st316 ?_
  refine P1.ifYes X316.here hx 28 (hb hby d20_3) ((if0 _ _).trans (feq (by decide : ¬ ((1 : Int32) = (0 : Int32)))).2) (by decide) (by decide) ?_
  refine P1.iloadN X316.here hx (hb hby d20_28) rfl ?_
  refine P1.iconst X316.here hx (1 : Int32) (hb hby d20_29) rfl ?_
  refine P1.ishl X316.here hx (hb hby d20_30) ?_
  have rw317 : ((0 : Int32) <<< ((1 : Int32) &&& 31)) = (0 : Int32) := by decide
  rw [rw317]
  refine P1.istoreN X316.here hx #[.val (.ref r), .val (.int (0 : Int32)), .val (.int q)] (hb hby d20_31) rfl ?_
  refine P1.aloadN X316.here hx (hb hby d20_32) rfl rfl ?_
  refine P1.iloadN X316.here hx (hb hby d20_33) rfl ?_
  refine P1.iinc X316.here hx #[.val (.ref r), .val (.int ((0 : Int32) + (1 : Int32))), .val (.int q)] (hb hby d20_34) rfl rfl ?_
  have rw318 : ((0 : Int32) + (1 : Int32)) = (1 : Int32) := by decide
  rw [rw318]
  refine P1.iloadN X316.here hx (hb hby d20_37) rfl ?_
  obtain ⟨T319, X319, e319, st319⟩ := getS2 X316 hx hZ hown (host := "") (Or.inl (own_w hw 94 rfl)) Via.refl e316 (S_HI.ext O0.2) (g := (mkF m 38 #[.val (.ref r), .val (.int (1 : Int32)), .val (.int q)] [(.int q), (.int (0 : Int32)), (.ref r)])) rfl (hb hby d20_38)
  refine Goes.step (T' := T319) (g' := (mkF m 41 #[.val (.ref r), .val (.int (1 : Int32)), .val (.int q)] [(.int (0 : Int32)), (.int q), (.int (0 : Int32)), (.ref r)])) st319 ?_
  refine P1.ishr X319.here hx (hb hby d20_41) ?_
  have rw320 : (q >>> ((0 : Int32) &&& 31)) = q := StrChars.shr0 q
  rw [rw320]
  refine P1.i2b X319.here hx (hb hby d20_42) ?_
  obtain ⟨cl321, Ar321, qk321, sl321, nz321, ha321, fi321⟩ := id Vr
  obtain ⟨T322, h322, X322, e322, W322, st322⟩ := stB X319 hx hZ e319 Ar321 (j := (0 : Int32)) (inb_of sl321 ⟨by decide, by decide⟩) (g := (mkF m 43 #[.val (.ref r), .val (.int (1 : Int32)), .val (.int q)] [(.int (q.toInt8.toInt32)), (.int (0 : Int32)), (.ref r)])) rfl rfl (hb hby d20_43)
  rw [(own_nb8 q)] at W322
  have V322 : Arv Z h322 r kr .byte (6 : Int32) [(.int (q.toInt8.toInt32)), (.int ue1), (.int ue2), (.int ue3), (.int ue4), (.int ue5)] (.int (0 : Int32)) := Arv.set Ar321 qk321 sl321 nz321 ha321 fi321 ((own_nb8 q) ▸ fits_nar_byte (q.toInt8.toInt32)) W322 0 rfl (ok rfl)
  have N322 := Fr.snoc X322 N0 gr
  refine Goes.step (T' := T322) (g' := (mkF m 44 #[.val (.ref r), .val (.int (1 : Int32)), .val (.int q)] [])) st322 ?_
  refine P1.aloadN X322.here hx (hb hby d20_44) rfl rfl ?_
  refine P1.iloadN X322.here hx (hb hby d20_45) rfl ?_
  refine P1.iloadN X322.here hx (hb hby d20_46) rfl ?_
  have O324 : Old Z n0 h322 := O0.wr W322 gr
  obtain ⟨T323, X323, e323, st323⟩ := getS2 X322 hx hZ hown (host := "") (Or.inl (own_w hw 95 rfl)) Via.refl e322 (S_LO.ext O324.2) (g := (mkF m 47 #[.val (.ref r), .val (.int (1 : Int32)), .val (.int q)] [(.int q), (.int (1 : Int32)), (.ref r)])) rfl (hb hby d20_47)
  refine Goes.step (T' := T323) (g' := (mkF m 50 #[.val (.ref r), .val (.int (1 : Int32)), .val (.int q)] [(.int (8 : Int32)), (.int q), (.int (1 : Int32)), (.ref r)])) st323 ?_
  refine P1.ishr X323.here hx (hb hby d20_50) ?_
  refine P1.i2b X323.here hx (hb hby d20_51) ?_
  obtain ⟨cl325, Ar325, qk325, sl325, nz325, ha325, fi325⟩ := id V322
  obtain ⟨T326, h326, X326, e326, W326, st326⟩ := stB X323 hx hZ e323 Ar325 (j := (1 : Int32)) (inb_of sl325 ⟨by decide, by decide⟩) (g := (mkF m 52 #[.val (.ref r), .val (.int (1 : Int32)), .val (.int q)] [(.int ((q >>> ((8 : Int32) &&& 31)).toInt8.toInt32)), (.int (1 : Int32)), (.ref r)])) rfl rfl (hb hby d20_52)
  rw [(own_nb8 (q >>> ((8 : Int32) &&& 31)))] at W326
  have V326 : Arv Z h326 r kr .byte (6 : Int32) [(.int (q.toInt8.toInt32)), (.int ((q >>> ((8 : Int32) &&& 31)).toInt8.toInt32)), (.int ue2), (.int ue3), (.int ue4), (.int ue5)] (.int (0 : Int32)) := Arv.set Ar325 qk325 sl325 nz325 ha325 fi325 ((own_nb8 (q >>> ((8 : Int32) &&& 31))) ▸ fits_nar_byte ((q >>> ((8 : Int32) &&& 31)).toInt8.toInt32)) W326 1 rfl (ok rfl)
  have N326 := Fr.snoc X326 N322 gr
  refine Goes.step (T' := T326) (g' := (mkF m 53 #[.val (.ref r), .val (.int (1 : Int32)), .val (.int q)] [])) st326 ?_
  refine Goes.retV X326 hx Bd.notSynchronized Bd.returns (hb hby d20_53) (ok rfl) (ok rfl) ?_
  rw [e326]
  have K327 : Keep h0 h322 [r] := K0.wr W322 (Or.inl (by simp))
  have K328 : Keep h0 h326 [r] := K327.wr W326 (Or.inl (by simp))
  exact ⟨rfl, N326, K328, V326⟩
theorem efPc3_1 (r : Addr) (q : Int32) (m : MethodId) : entryFrame m #[(.ref r), (.int (1 : Int32)), (.int q)] 3 = mkF m 0 #[.val (.ref r), .val (.int (1 : Int32)), .val (.int q)] [] := by first | (simp [entryFrame, mkF, argsToLocals, Value.category]; done) | rfl
def QPc3_1 (Z : State) (r : Addr) (kr : ClassId) (ue0 ue1 ue2 ue3 ue4 ue5 q zc : Int32) (fm : Value) (h0 : Heap) (n0 : Nat) (v : Option Value) (h : Heap) (L : List Loc) : Prop := v = none ∧ Fr n0 L ∧ Keep h0 h [r] ∧ Arv Z h r kr .byte (6 : Int32) [(.int ue0), (.int ue1), (.int (StrChars.lo8 q)), (.int (StrChars.hi8 q)), (.int ue4), (.int ue5)] (.int (0 : Int32))
set_option maxRecDepth 65536 in
set_option maxHeartbeats 40000000 in
theorem rmPc3_1 (l : Launch) (Z : State) (a0 : Array Value) (hw : ∀ d ∈ tables_1, d.before a0 Z = true) (ws : List Jvm.Cond) (r : Addr) (kr : ClassId) (ue0 ue1 ue2 ue3 ue4 ue5 q zc : Int32) (fm : Value) (h0 : Heap) (n0 : Nat) (Z0 : n0 ≤ h0.size) (O0 : Old Z n0 h0) (S_CS : Sta Z Z.heap "java/lang/String" "COMPACT_STRINGS" "Z" (.int zc)) (hzc : ¬ zc = 0) (S_FM : Sta Z Z.heap "jdk/internal/util/Preconditions" "SIOOBE_FORMATTER" "Ljava/util/function/BiFunction;" fm) (hfm : fm.isRef = true) (S_AD : Sta Z Z.heap "java/lang/StringUTF16" "$assertionsDisabled" "Z" (.int (1 : Int32))) (S_HI : Sta Z Z.heap "java/lang/StringUTF16" "HI_BYTE_SHIFT" "I" (.int (0 : Int32))) (S_LO : Sta Z Z.heap "java/lang/StringUTF16" "LO_BYTE_SHIFT" "I" (.int (8 : Int32))) (gr : n0 ≤ r) (Vr : Arv Z h0 r kr .byte (6 : Int32) [(.int ue0), (.int ue1), (.int ue2), (.int ue3), (.int ue4), (.int ue5)] (.int (0 : Int32))) :
    OwnLaw l y30_ jdk_52_method_4_code 3 none ws (rR 0 0 0 0) #[(.ref r), (.int (1 : Int32)), (.int q)] Z h0 (QPc3_1 Z r kr ue0 ue1 ue2 ue3 ue4 ue5 q zc fm h0 n0) := by
  refine own_enter (plainFor_of_name pn_java_lang_StringUTF16) (efPc3_1 r q) ?_
  intro p e s m below meth c s₁ Bd hx hby hml hZ hown X0 e0
  have N0 := Fr.nil n0
  have K0 : Keep h0 h0 [] := Keep.refl _ _
  have K0 : Keep h0 h0 [r] := Keep.refl _ _
  obtain ⟨T329, X329, e329, st329⟩ := getS2 X0 hx hZ hown (host := "") (Or.inl (own_w hw 93 rfl)) Via.refl e0 (S_AD.ext O0.2) (g := (mkF m 0 #[.val (.ref r), .val (.int (1 : Int32)), .val (.int q)] [])) rfl (hb hby d20_0)
  refine Goes.step (T' := T329) (g' := (mkF m 3 #[.val (.ref r), .val (.int (1 : Int32)), .val (.int q)] [(.int (1 : Int32))])) st329 ?_
  refine P1.ifYes X329.here hx 28 (hb hby d20_3) ((if0 _ _).trans (feq (by decide : ¬ ((1 : Int32) = (0 : Int32)))).2) (by decide) (by decide) ?_
  refine P1.iloadN X329.here hx (hb hby d20_28) rfl ?_
  refine P1.iconst X329.here hx (1 : Int32) (hb hby d20_29) rfl ?_
  refine P1.ishl X329.here hx (hb hby d20_30) ?_
  have rw330 : ((1 : Int32) <<< ((1 : Int32) &&& 31)) = (2 : Int32) := by decide
  rw [rw330]
  refine P1.istoreN X329.here hx #[.val (.ref r), .val (.int (2 : Int32)), .val (.int q)] (hb hby d20_31) rfl ?_
  refine P1.aloadN X329.here hx (hb hby d20_32) rfl rfl ?_
  refine P1.iloadN X329.here hx (hb hby d20_33) rfl ?_
  refine P1.iinc X329.here hx #[.val (.ref r), .val (.int ((2 : Int32) + (1 : Int32))), .val (.int q)] (hb hby d20_34) rfl rfl ?_
  have rw331 : ((2 : Int32) + (1 : Int32)) = (3 : Int32) := by decide
  rw [rw331]
  refine P1.iloadN X329.here hx (hb hby d20_37) rfl ?_
  obtain ⟨T332, X332, e332, st332⟩ := getS2 X329 hx hZ hown (host := "") (Or.inl (own_w hw 94 rfl)) Via.refl e329 (S_HI.ext O0.2) (g := (mkF m 38 #[.val (.ref r), .val (.int (3 : Int32)), .val (.int q)] [(.int q), (.int (2 : Int32)), (.ref r)])) rfl (hb hby d20_38)
  refine Goes.step (T' := T332) (g' := (mkF m 41 #[.val (.ref r), .val (.int (3 : Int32)), .val (.int q)] [(.int (0 : Int32)), (.int q), (.int (2 : Int32)), (.ref r)])) st332 ?_
  refine P1.ishr X332.here hx (hb hby d20_41) ?_
  have rw333 : (q >>> ((0 : Int32) &&& 31)) = q := StrChars.shr0 q
  rw [rw333]
  refine P1.i2b X332.here hx (hb hby d20_42) ?_
  obtain ⟨cl334, Ar334, qk334, sl334, nz334, ha334, fi334⟩ := id Vr
  obtain ⟨T335, h335, X335, e335, W335, st335⟩ := stB X332 hx hZ e332 Ar334 (j := (2 : Int32)) (inb_of sl334 ⟨by decide, by decide⟩) (g := (mkF m 43 #[.val (.ref r), .val (.int (3 : Int32)), .val (.int q)] [(.int (q.toInt8.toInt32)), (.int (2 : Int32)), (.ref r)])) rfl rfl (hb hby d20_43)
  rw [(own_nb8 q)] at W335
  have V335 : Arv Z h335 r kr .byte (6 : Int32) [(.int ue0), (.int ue1), (.int (q.toInt8.toInt32)), (.int ue3), (.int ue4), (.int ue5)] (.int (0 : Int32)) := Arv.set Ar334 qk334 sl334 nz334 ha334 fi334 ((own_nb8 q) ▸ fits_nar_byte (q.toInt8.toInt32)) W335 2 rfl (ok rfl)
  have N335 := Fr.snoc X335 N0 gr
  refine Goes.step (T' := T335) (g' := (mkF m 44 #[.val (.ref r), .val (.int (3 : Int32)), .val (.int q)] [])) st335 ?_
  refine P1.aloadN X335.here hx (hb hby d20_44) rfl rfl ?_
  refine P1.iloadN X335.here hx (hb hby d20_45) rfl ?_
  refine P1.iloadN X335.here hx (hb hby d20_46) rfl ?_
  have O337 : Old Z n0 h335 := O0.wr W335 gr
  obtain ⟨T336, X336, e336, st336⟩ := getS2 X335 hx hZ hown (host := "") (Or.inl (own_w hw 95 rfl)) Via.refl e335 (S_LO.ext O337.2) (g := (mkF m 47 #[.val (.ref r), .val (.int (3 : Int32)), .val (.int q)] [(.int q), (.int (3 : Int32)), (.ref r)])) rfl (hb hby d20_47)
  refine Goes.step (T' := T336) (g' := (mkF m 50 #[.val (.ref r), .val (.int (3 : Int32)), .val (.int q)] [(.int (8 : Int32)), (.int q), (.int (3 : Int32)), (.ref r)])) st336 ?_
  refine P1.ishr X336.here hx (hb hby d20_50) ?_
  refine P1.i2b X336.here hx (hb hby d20_51) ?_
  obtain ⟨cl338, Ar338, qk338, sl338, nz338, ha338, fi338⟩ := id V335
  obtain ⟨T339, h339, X339, e339, W339, st339⟩ := stB X336 hx hZ e336 Ar338 (j := (3 : Int32)) (inb_of sl338 ⟨by decide, by decide⟩) (g := (mkF m 52 #[.val (.ref r), .val (.int (3 : Int32)), .val (.int q)] [(.int ((q >>> ((8 : Int32) &&& 31)).toInt8.toInt32)), (.int (3 : Int32)), (.ref r)])) rfl rfl (hb hby d20_52)
  rw [(own_nb8 (q >>> ((8 : Int32) &&& 31)))] at W339
  have V339 : Arv Z h339 r kr .byte (6 : Int32) [(.int ue0), (.int ue1), (.int (q.toInt8.toInt32)), (.int ((q >>> ((8 : Int32) &&& 31)).toInt8.toInt32)), (.int ue4), (.int ue5)] (.int (0 : Int32)) := Arv.set Ar338 qk338 sl338 nz338 ha338 fi338 ((own_nb8 (q >>> ((8 : Int32) &&& 31))) ▸ fits_nar_byte ((q >>> ((8 : Int32) &&& 31)).toInt8.toInt32)) W339 3 rfl (ok rfl)
  have N339 := Fr.snoc X339 N335 gr
  refine Goes.step (T' := T339) (g' := (mkF m 53 #[.val (.ref r), .val (.int (3 : Int32)), .val (.int q)] [])) st339 ?_
  refine Goes.retV X339 hx Bd.notSynchronized Bd.returns (hb hby d20_53) (ok rfl) (ok rfl) ?_
  rw [e339]
  have K340 : Keep h0 h335 [r] := K0.wr W335 (Or.inl (by simp))
  have K341 : Keep h0 h339 [r] := K340.wr W339 (Or.inl (by simp))
  exact ⟨rfl, N339, K341, V339⟩
theorem efPc3_2 (r : Addr) (q : Int32) (m : MethodId) : entryFrame m #[(.ref r), (.int (2 : Int32)), (.int q)] 3 = mkF m 0 #[.val (.ref r), .val (.int (2 : Int32)), .val (.int q)] [] := by first | (simp [entryFrame, mkF, argsToLocals, Value.category]; done) | rfl
def QPc3_2 (Z : State) (r : Addr) (kr : ClassId) (ue0 ue1 ue2 ue3 ue4 ue5 q zc : Int32) (fm : Value) (h0 : Heap) (n0 : Nat) (v : Option Value) (h : Heap) (L : List Loc) : Prop := v = none ∧ Fr n0 L ∧ Keep h0 h [r] ∧ Arv Z h r kr .byte (6 : Int32) [(.int ue0), (.int ue1), (.int ue2), (.int ue3), (.int (StrChars.lo8 q)), (.int (StrChars.hi8 q))] (.int (0 : Int32))
set_option maxRecDepth 65536 in
set_option maxHeartbeats 40000000 in
theorem rmPc3_2 (l : Launch) (Z : State) (a0 : Array Value) (hw : ∀ d ∈ tables_1, d.before a0 Z = true) (ws : List Jvm.Cond) (r : Addr) (kr : ClassId) (ue0 ue1 ue2 ue3 ue4 ue5 q zc : Int32) (fm : Value) (h0 : Heap) (n0 : Nat) (Z0 : n0 ≤ h0.size) (O0 : Old Z n0 h0) (S_CS : Sta Z Z.heap "java/lang/String" "COMPACT_STRINGS" "Z" (.int zc)) (hzc : ¬ zc = 0) (S_FM : Sta Z Z.heap "jdk/internal/util/Preconditions" "SIOOBE_FORMATTER" "Ljava/util/function/BiFunction;" fm) (hfm : fm.isRef = true) (S_AD : Sta Z Z.heap "java/lang/StringUTF16" "$assertionsDisabled" "Z" (.int (1 : Int32))) (S_HI : Sta Z Z.heap "java/lang/StringUTF16" "HI_BYTE_SHIFT" "I" (.int (0 : Int32))) (S_LO : Sta Z Z.heap "java/lang/StringUTF16" "LO_BYTE_SHIFT" "I" (.int (8 : Int32))) (gr : n0 ≤ r) (Vr : Arv Z h0 r kr .byte (6 : Int32) [(.int ue0), (.int ue1), (.int ue2), (.int ue3), (.int ue4), (.int ue5)] (.int (0 : Int32))) :
    OwnLaw l y30_ jdk_52_method_4_code 3 none ws (rR 0 0 0 0) #[(.ref r), (.int (2 : Int32)), (.int q)] Z h0 (QPc3_2 Z r kr ue0 ue1 ue2 ue3 ue4 ue5 q zc fm h0 n0) := by
  refine own_enter (plainFor_of_name pn_java_lang_StringUTF16) (efPc3_2 r q) ?_
  intro p e s m below meth c s₁ Bd hx hby hml hZ hown X0 e0
  have N0 := Fr.nil n0
  have K0 : Keep h0 h0 [] := Keep.refl _ _
  have K0 : Keep h0 h0 [r] := Keep.refl _ _
  obtain ⟨T342, X342, e342, st342⟩ := getS2 X0 hx hZ hown (host := "") (Or.inl (own_w hw 93 rfl)) Via.refl e0 (S_AD.ext O0.2) (g := (mkF m 0 #[.val (.ref r), .val (.int (2 : Int32)), .val (.int q)] [])) rfl (hb hby d20_0)
  refine Goes.step (T' := T342) (g' := (mkF m 3 #[.val (.ref r), .val (.int (2 : Int32)), .val (.int q)] [(.int (1 : Int32))])) st342 ?_
  refine P1.ifYes X342.here hx 28 (hb hby d20_3) ((if0 _ _).trans (feq (by decide : ¬ ((1 : Int32) = (0 : Int32)))).2) (by decide) (by decide) ?_
  refine P1.iloadN X342.here hx (hb hby d20_28) rfl ?_
  refine P1.iconst X342.here hx (1 : Int32) (hb hby d20_29) rfl ?_
  refine P1.ishl X342.here hx (hb hby d20_30) ?_
  have rw343 : ((2 : Int32) <<< ((1 : Int32) &&& 31)) = (4 : Int32) := by decide
  rw [rw343]
  refine P1.istoreN X342.here hx #[.val (.ref r), .val (.int (4 : Int32)), .val (.int q)] (hb hby d20_31) rfl ?_
  refine P1.aloadN X342.here hx (hb hby d20_32) rfl rfl ?_
  refine P1.iloadN X342.here hx (hb hby d20_33) rfl ?_
  refine P1.iinc X342.here hx #[.val (.ref r), .val (.int ((4 : Int32) + (1 : Int32))), .val (.int q)] (hb hby d20_34) rfl rfl ?_
  have rw344 : ((4 : Int32) + (1 : Int32)) = (5 : Int32) := by decide
  rw [rw344]
  refine P1.iloadN X342.here hx (hb hby d20_37) rfl ?_
  obtain ⟨T345, X345, e345, st345⟩ := getS2 X342 hx hZ hown (host := "") (Or.inl (own_w hw 94 rfl)) Via.refl e342 (S_HI.ext O0.2) (g := (mkF m 38 #[.val (.ref r), .val (.int (5 : Int32)), .val (.int q)] [(.int q), (.int (4 : Int32)), (.ref r)])) rfl (hb hby d20_38)
  refine Goes.step (T' := T345) (g' := (mkF m 41 #[.val (.ref r), .val (.int (5 : Int32)), .val (.int q)] [(.int (0 : Int32)), (.int q), (.int (4 : Int32)), (.ref r)])) st345 ?_
  refine P1.ishr X345.here hx (hb hby d20_41) ?_
  have rw346 : (q >>> ((0 : Int32) &&& 31)) = q := StrChars.shr0 q
  rw [rw346]
  refine P1.i2b X345.here hx (hb hby d20_42) ?_
  obtain ⟨cl347, Ar347, qk347, sl347, nz347, ha347, fi347⟩ := id Vr
  obtain ⟨T348, h348, X348, e348, W348, st348⟩ := stB X345 hx hZ e345 Ar347 (j := (4 : Int32)) (inb_of sl347 ⟨by decide, by decide⟩) (g := (mkF m 43 #[.val (.ref r), .val (.int (5 : Int32)), .val (.int q)] [(.int (q.toInt8.toInt32)), (.int (4 : Int32)), (.ref r)])) rfl rfl (hb hby d20_43)
  rw [(own_nb8 q)] at W348
  have V348 : Arv Z h348 r kr .byte (6 : Int32) [(.int ue0), (.int ue1), (.int ue2), (.int ue3), (.int (q.toInt8.toInt32)), (.int ue5)] (.int (0 : Int32)) := Arv.set Ar347 qk347 sl347 nz347 ha347 fi347 ((own_nb8 q) ▸ fits_nar_byte (q.toInt8.toInt32)) W348 4 rfl (ok rfl)
  have N348 := Fr.snoc X348 N0 gr
  refine Goes.step (T' := T348) (g' := (mkF m 44 #[.val (.ref r), .val (.int (5 : Int32)), .val (.int q)] [])) st348 ?_
  refine P1.aloadN X348.here hx (hb hby d20_44) rfl rfl ?_
  refine P1.iloadN X348.here hx (hb hby d20_45) rfl ?_
  refine P1.iloadN X348.here hx (hb hby d20_46) rfl ?_
  have O350 : Old Z n0 h348 := O0.wr W348 gr
  obtain ⟨T349, X349, e349, st349⟩ := getS2 X348 hx hZ hown (host := "") (Or.inl (own_w hw 95 rfl)) Via.refl e348 (S_LO.ext O350.2) (g := (mkF m 47 #[.val (.ref r), .val (.int (5 : Int32)), .val (.int q)] [(.int q), (.int (5 : Int32)), (.ref r)])) rfl (hb hby d20_47)
  refine Goes.step (T' := T349) (g' := (mkF m 50 #[.val (.ref r), .val (.int (5 : Int32)), .val (.int q)] [(.int (8 : Int32)), (.int q), (.int (5 : Int32)), (.ref r)])) st349 ?_
  refine P1.ishr X349.here hx (hb hby d20_50) ?_
  refine P1.i2b X349.here hx (hb hby d20_51) ?_
  obtain ⟨cl351, Ar351, qk351, sl351, nz351, ha351, fi351⟩ := id V348
  obtain ⟨T352, h352, X352, e352, W352, st352⟩ := stB X349 hx hZ e349 Ar351 (j := (5 : Int32)) (inb_of sl351 ⟨by decide, by decide⟩) (g := (mkF m 52 #[.val (.ref r), .val (.int (5 : Int32)), .val (.int q)] [(.int ((q >>> ((8 : Int32) &&& 31)).toInt8.toInt32)), (.int (5 : Int32)), (.ref r)])) rfl rfl (hb hby d20_52)
  rw [(own_nb8 (q >>> ((8 : Int32) &&& 31)))] at W352
  have V352 : Arv Z h352 r kr .byte (6 : Int32) [(.int ue0), (.int ue1), (.int ue2), (.int ue3), (.int (q.toInt8.toInt32)), (.int ((q >>> ((8 : Int32) &&& 31)).toInt8.toInt32))] (.int (0 : Int32)) := Arv.set Ar351 qk351 sl351 nz351 ha351 fi351 ((own_nb8 (q >>> ((8 : Int32) &&& 31))) ▸ fits_nar_byte ((q >>> ((8 : Int32) &&& 31)).toInt8.toInt32)) W352 5 rfl (ok rfl)
  have N352 := Fr.snoc X352 N348 gr
  refine Goes.step (T' := T352) (g' := (mkF m 53 #[.val (.ref r), .val (.int (5 : Int32)), .val (.int q)] [])) st352 ?_
  refine Goes.retV X352 hx Bd.notSynchronized Bd.returns (hb hby d20_53) (ok rfl) (ok rfl) ?_
  rw [e352]
  have K353 : Keep h0 h348 [r] := K0.wr W348 (Or.inl (by simp))
  have K354 : Keep h0 h352 [r] := K353.wr W352 (Or.inl (by simp))
  exact ⟨rfl, N352, K354, V352⟩
theorem efTb3 (b : Addr) (m : MethodId) : entryFrame m #[(.ref b), (.int (0 : Int32)), (.int (3 : Int32))] 5 = mkF m 0 #[.val (.ref b), .val (.int (0 : Int32)), .val (.int (3 : Int32)), .unset, .unset] [] := by first | (simp [entryFrame, mkF, argsToLocals, Value.category]; done) | rfl
def QTb3 (Z : State) (b : Addr) (kb : ClassId) (c0 c1 c2 zc : Int32) (fm : Value) (h0 : Heap) (n0 : Nat) (v : Option Value) (h : Heap) (L : List Loc) : Prop := ∃ r kr, v = some (.ref r) ∧ Fr n0 L ∧ Keep h0 h [] ∧ h0.size ≤ r ∧ Arv Z h r kr .byte (6 : Int32) [(.int (StrChars.lo8 c0)), (.int (StrChars.hi8 c0)), (.int (StrChars.lo8 c1)), (.int (StrChars.hi8 c1)), (.int (StrChars.lo8 c2)), (.int (StrChars.hi8 c2))] (.int (0 : Int32))
set_option maxRecDepth 65536 in
set_option maxHeartbeats 40000000 in
theorem rmTb3 (l : Launch) (Z : State) (a0 : Array Value) (hw : ∀ d ∈ tables_1, d.before a0 Z = true) (ws : List Jvm.Cond) (b : Addr) (kb : ClassId) (c0 c1 c2 zc : Int32) (fm : Value) (h0 : Heap) (n0 : Nat) (Z0 : n0 ≤ h0.size) (O0 : Old Z n0 h0) (S_CS : Sta Z Z.heap "java/lang/String" "COMPACT_STRINGS" "Z" (.int zc)) (hzc : ¬ zc = 0) (S_FM : Sta Z Z.heap "jdk/internal/util/Preconditions" "SIOOBE_FORMATTER" "Ljava/util/function/BiFunction;" fm) (hfm : fm.isRef = true) (S_AD : Sta Z Z.heap "java/lang/StringUTF16" "$assertionsDisabled" "Z" (.int (1 : Int32))) (S_HI : Sta Z Z.heap "java/lang/StringUTF16" "HI_BYTE_SHIFT" "I" (.int (0 : Int32))) (S_LO : Sta Z Z.heap "java/lang/StringUTF16" "LO_BYTE_SHIFT" "I" (.int (8 : Int32))) (Vb : Arv Z h0 b kb .char (3 : Int32) [(.int c0), (.int c1), (.int c2)] (.int (0 : Int32))) :
    OwnLaw l y31_ jdk_52_method_14_code 5 (some (.array .byte)) ws (rR 2 1 6 24) #[(.ref b), (.int (0 : Int32)), (.int (3 : Int32))] Z h0 (QTb3 Z b kb c0 c1 c2 zc fm h0 n0) := by
  refine own_enter (plainFor_of_name pn_java_lang_StringUTF16) (efTb3 b) ?_
  intro p e s m below meth c s₁ Bd hx hby hml hZ hown X0 e0
  have N0 := Fr.nil n0
  have K0 : Keep h0 h0 [] := Keep.refl _ _
  refine P1.iloadN X0.here hx (hb hby d17_0) rfl ?_
  refine P1.callS X0 hx hZ hown (own_w hw 83 rfl) (own_w hw 84 rfl) (own_w hw 48 rfl) (own_w hw 85 rfl) (by decide) (rmNf3 l Z a0 hw []  h0 n0 Z0 O0 ) hml [(.int (3 : Int32))] [] (lenOf pd_1003 rfl) rfl rfl (hb hby d17_1) rfl e0 (ok rfl) (ok rfl) (ok rfl) (ok rfl) ?_
  intro v355 T355 L355 q355 X355
  obtain ⟨r355, kr355, rfl, N355q, K355, szr355, g355V⟩ := q355
  have ge_r355 : n0 ≤ r355 := Nat.le_trans Z0 szr355
  have sz_r355 : h0.size ≤ r355 := Nat.le_trans K0.1 szr355
  have N355 := Fr.app N0 N355q
  show Goes p e below _ T355 (mkF m 4 #[.val (.ref b), .val (.int (0 : Int32)), .val (.int (3 : Int32)), .unset, .unset] [(.ref r355)])
  refine P1.astoreN X355.here hx #[.val (.ref b), .val (.int (0 : Int32)), .val (.int (3 : Int32)), .val (.ref r355), .unset] (hb hby d17_4) rfl rfl ?_
  refine P1.iconst X355.here hx (0 : Int32) (hb hby d17_5) rfl ?_
  refine P1.istore X355.here hx #[.val (.ref b), .val (.int (0 : Int32)), .val (.int (3 : Int32)), .val (.ref r355), .val (.int (0 : Int32))] (hb hby d17_6) rfl ?_
  refine P1.iload X355.here hx (hb hby d17_8) rfl ?_
  refine P1.iloadN X355.here hx (hb hby d17_10) rfl ?_
  refine P1.icmpNo X355.here hx (hb hby d17_11) (tlt (by decide : (0 : Int32) < (3 : Int32))).2.1 ?_
  refine P1.aloadN X355.here hx (hb hby d17_14) rfl rfl ?_
  refine P1.iload X355.here hx (hb hby d17_15) rfl ?_
  refine P1.aloadN X355.here hx (hb hby d17_17) rfl rfl ?_
  refine P1.iloadN X355.here hx (hb hby d17_18) rfl ?_
  have V356 : Arv Z T355.heap b kb .char (3 : Int32) [(.int c0), (.int c1), (.int c2)] (.int (0 : Int32)) := Vb.keep K355 nin0
  obtain ⟨cl357, Ar357, qk357, sl357, nz357, ha357, fi357⟩ := id V356
  have i358 := inb_of (j := (0 : Int32)) sl357 ⟨by decide, by decide⟩
  refine Goes.step (T' := T355) (g' := (mkF m 20 #[.val (.ref b), .val (.int (0 : Int32)), .val (.int (3 : Int32)), .val (.ref r355), .val (.int (0 : Int32))] [(.int c0), (.int (0 : Int32)), (.ref r355)])) (fun t_ k_ => X355.caload hx (j := (0 : Int32)) (v := (.int c0)) Ar357.1 (State.isArrayOf_alike hZ.alike Ar357.2.1) Ar357.2.2 i358 (Has.at ha357 i358 rfl) (g := (mkF m 19 #[.val (.ref b), .val (.int (0 : Int32)), .val (.int (3 : Int32)), .val (.ref r355), .val (.int (0 : Int32))] [(.int (0 : Int32)), (.ref b), (.int (0 : Int32)), (.ref r355)])) rfl rfl (hb hby d17_19) _ k_) ?_
  have Z359 : n0 ≤ T355.heap.size := Nat.le_trans Z0 K355.1
  have O360 : Old Z n0 T355.heap := O0.keep K355 all0
  refine P1.callS X355 hx hZ hown (own_w hw 90 rfl) (own_w hw 91 rfl) (own_w hw 48 rfl) (own_w hw 92 rfl) (by decide) (rmPc3_0 l Z a0 hw [] r355 kr355 (0 : Int32) (0 : Int32) (0 : Int32) (0 : Int32) (0 : Int32) (0 : Int32) c0 zc fm T355.heap n0 Z359 O360 S_CS hzc S_FM hfm S_AD S_HI S_LO ge_r355 g355V) hml [(.ref r355), (.int (0 : Int32)), (.int c0)] [] (lenOf pd_1925 rfl) rfl rfl (hb hby d17_20) rfl rfl (ok rfl) (ok rfl) (ok rfl) (ok rfl) ?_
  intro v361 T361 L361 q361 X361
  obtain ⟨rfl, N361q, K361, g361V⟩ := q361
  have N361 := Fr.app N355 N361q
  show Goes p e below _ T361 (mkF m 23 #[.val (.ref b), .val (.int (0 : Int32)), .val (.int (3 : Int32)), .val (.ref r355), .val (.int (0 : Int32))] [])
  refine P1.iinc X361.here hx #[.val (.ref b), .val (.int ((0 : Int32) + (1 : Int32))), .val (.int (3 : Int32)), .val (.ref r355), .val (.int (0 : Int32))] (hb hby d17_23) rfl rfl ?_
  have rw362 : ((0 : Int32) + (1 : Int32)) = (1 : Int32) := by decide
  rw [rw362]
  refine P1.iinc X361.here hx #[.val (.ref b), .val (.int (1 : Int32)), .val (.int (3 : Int32)), .val (.ref r355), .val (.int ((0 : Int32) + (1 : Int32)))] (hb hby d17_26) rfl rfl ?_
  have rw363 : ((0 : Int32) + (1 : Int32)) = (1 : Int32) := by decide
  rw [rw363]
  refine P1.goto X361.here hx 8 (hb hby d17_29) (by decide) (by decide) ?_
  refine P1.iload X361.here hx (hb hby d17_8) rfl ?_
  refine P1.iloadN X361.here hx (hb hby d17_10) rfl ?_
  refine P1.icmpNo X361.here hx (hb hby d17_11) (tlt (by decide : (1 : Int32) < (3 : Int32))).2.1 ?_
  refine P1.aloadN X361.here hx (hb hby d17_14) rfl rfl ?_
  refine P1.iload X361.here hx (hb hby d17_15) rfl ?_
  refine P1.aloadN X361.here hx (hb hby d17_17) rfl rfl ?_
  refine P1.iloadN X361.here hx (hb hby d17_18) rfl ?_
  have ne364 : b ≠ r355 := Nat.ne_of_lt (Nat.lt_of_lt_of_le Vb.lt szr355)
  have V365 : Arv Z T361.heap b kb .char (3 : Int32) [(.int c0), (.int c1), (.int c2)] (.int (0 : Int32)) := V356.keep K361 (ninS ne364 nin0)
  obtain ⟨cl366, Ar366, qk366, sl366, nz366, ha366, fi366⟩ := id V365
  have i367 := inb_of (j := (1 : Int32)) sl366 ⟨by decide, by decide⟩
  refine Goes.step (T' := T361) (g' := (mkF m 20 #[.val (.ref b), .val (.int (1 : Int32)), .val (.int (3 : Int32)), .val (.ref r355), .val (.int (1 : Int32))] [(.int c1), (.int (1 : Int32)), (.ref r355)])) (fun t_ k_ => X361.caload hx (j := (1 : Int32)) (v := (.int c1)) Ar366.1 (State.isArrayOf_alike hZ.alike Ar366.2.1) Ar366.2.2 i367 (Has.at ha366 i367 rfl) (g := (mkF m 19 #[.val (.ref b), .val (.int (1 : Int32)), .val (.int (3 : Int32)), .val (.ref r355), .val (.int (1 : Int32))] [(.int (1 : Int32)), (.ref b), (.int (1 : Int32)), (.ref r355)])) rfl rfl (hb hby d17_19) _ k_) ?_
  have Z368 : n0 ≤ T361.heap.size := Nat.le_trans Z359 K361.1
  have O369 : Old Z n0 T361.heap := O360.keep K361 (allS ge_r355 all0)
  refine P1.callS X361 hx hZ hown (own_w hw 90 rfl) (own_w hw 91 rfl) (own_w hw 48 rfl) (own_w hw 92 rfl) (by decide) (rmPc3_1 l Z a0 hw [] r355 kr355 (StrChars.lo8 c0) (StrChars.hi8 c0) (0 : Int32) (0 : Int32) (0 : Int32) (0 : Int32) c1 zc fm T361.heap n0 Z368 O369 S_CS hzc S_FM hfm S_AD S_HI S_LO ge_r355 g361V) hml [(.ref r355), (.int (1 : Int32)), (.int c1)] [] (lenOf pd_1925 rfl) rfl rfl (hb hby d17_20) rfl rfl (ok rfl) (ok rfl) (ok rfl) (ok rfl) ?_
  intro v370 T370 L370 q370 X370
  obtain ⟨rfl, N370q, K370, g370V⟩ := q370
  have N370 := Fr.app N361 N370q
  show Goes p e below _ T370 (mkF m 23 #[.val (.ref b), .val (.int (1 : Int32)), .val (.int (3 : Int32)), .val (.ref r355), .val (.int (1 : Int32))] [])
  refine P1.iinc X370.here hx #[.val (.ref b), .val (.int ((1 : Int32) + (1 : Int32))), .val (.int (3 : Int32)), .val (.ref r355), .val (.int (1 : Int32))] (hb hby d17_23) rfl rfl ?_
  have rw371 : ((1 : Int32) + (1 : Int32)) = (2 : Int32) := by decide
  rw [rw371]
  refine P1.iinc X370.here hx #[.val (.ref b), .val (.int (2 : Int32)), .val (.int (3 : Int32)), .val (.ref r355), .val (.int ((1 : Int32) + (1 : Int32)))] (hb hby d17_26) rfl rfl ?_
  have rw372 : ((1 : Int32) + (1 : Int32)) = (2 : Int32) := by decide
  rw [rw372]
  refine P1.goto X370.here hx 8 (hb hby d17_29) (by decide) (by decide) ?_
  refine P1.iload X370.here hx (hb hby d17_8) rfl ?_
  refine P1.iloadN X370.here hx (hb hby d17_10) rfl ?_
  refine P1.icmpNo X370.here hx (hb hby d17_11) (tlt (by decide : (2 : Int32) < (3 : Int32))).2.1 ?_
  refine P1.aloadN X370.here hx (hb hby d17_14) rfl rfl ?_
  refine P1.iload X370.here hx (hb hby d17_15) rfl ?_
  refine P1.aloadN X370.here hx (hb hby d17_17) rfl rfl ?_
  refine P1.iloadN X370.here hx (hb hby d17_18) rfl ?_
  have V373 : Arv Z T370.heap b kb .char (3 : Int32) [(.int c0), (.int c1), (.int c2)] (.int (0 : Int32)) := V365.keep K370 (ninS ne364 nin0)
  obtain ⟨cl374, Ar374, qk374, sl374, nz374, ha374, fi374⟩ := id V373
  have i375 := inb_of (j := (2 : Int32)) sl374 ⟨by decide, by decide⟩
  refine Goes.step (T' := T370) (g' := (mkF m 20 #[.val (.ref b), .val (.int (2 : Int32)), .val (.int (3 : Int32)), .val (.ref r355), .val (.int (2 : Int32))] [(.int c2), (.int (2 : Int32)), (.ref r355)])) (fun t_ k_ => X370.caload hx (j := (2 : Int32)) (v := (.int c2)) Ar374.1 (State.isArrayOf_alike hZ.alike Ar374.2.1) Ar374.2.2 i375 (Has.at ha374 i375 rfl) (g := (mkF m 19 #[.val (.ref b), .val (.int (2 : Int32)), .val (.int (3 : Int32)), .val (.ref r355), .val (.int (2 : Int32))] [(.int (2 : Int32)), (.ref b), (.int (2 : Int32)), (.ref r355)])) rfl rfl (hb hby d17_19) _ k_) ?_
  have Z376 : n0 ≤ T370.heap.size := Nat.le_trans Z368 K370.1
  have O377 : Old Z n0 T370.heap := O369.keep K370 (allS ge_r355 all0)
  refine P1.callS X370 hx hZ hown (own_w hw 90 rfl) (own_w hw 91 rfl) (own_w hw 48 rfl) (own_w hw 92 rfl) (by decide) (rmPc3_2 l Z a0 hw [] r355 kr355 (StrChars.lo8 c0) (StrChars.hi8 c0) (StrChars.lo8 c1) (StrChars.hi8 c1) (0 : Int32) (0 : Int32) c2 zc fm T370.heap n0 Z376 O377 S_CS hzc S_FM hfm S_AD S_HI S_LO ge_r355 g370V) hml [(.ref r355), (.int (2 : Int32)), (.int c2)] [] (lenOf pd_1925 rfl) rfl rfl (hb hby d17_20) rfl rfl (ok rfl) (ok rfl) (ok rfl) (ok rfl) ?_
  intro v378 T378 L378 q378 X378
  obtain ⟨rfl, N378q, K378, g378V⟩ := q378
  have N378 := Fr.app N370 N378q
  show Goes p e below _ T378 (mkF m 23 #[.val (.ref b), .val (.int (2 : Int32)), .val (.int (3 : Int32)), .val (.ref r355), .val (.int (2 : Int32))] [])
  refine P1.iinc X378.here hx #[.val (.ref b), .val (.int ((2 : Int32) + (1 : Int32))), .val (.int (3 : Int32)), .val (.ref r355), .val (.int (2 : Int32))] (hb hby d17_23) rfl rfl ?_
  have rw379 : ((2 : Int32) + (1 : Int32)) = (3 : Int32) := by decide
  rw [rw379]
  refine P1.iinc X378.here hx #[.val (.ref b), .val (.int (3 : Int32)), .val (.int (3 : Int32)), .val (.ref r355), .val (.int ((2 : Int32) + (1 : Int32)))] (hb hby d17_26) rfl rfl ?_
  have rw380 : ((2 : Int32) + (1 : Int32)) = (3 : Int32) := by decide
  rw [rw380]
  refine P1.goto X378.here hx 8 (hb hby d17_29) (by decide) (by decide) ?_
  refine P1.iload X378.here hx (hb hby d17_8) rfl ?_
  refine P1.iloadN X378.here hx (hb hby d17_10) rfl ?_
  refine P1.icmpYes X378.here hx 32 (hb hby d17_11) (flt (by decide : ¬ ((3 : Int32) < (3 : Int32)))).2.1 (by decide) (by decide) ?_
  refine P1.aloadN X378.here hx (hb hby d17_32) rfl rfl ?_
  refine Goes.retA X378 hx Bd.notSynchronized Bd.returns rfl rfl (hb hby d17_33) (ok rfl) (ok rfl) ?_
  have K381 : Keep h0 T355.heap [] := K0.trans K355 all0
  have K382 : Keep h0 T361.heap [] := K381.trans K361 (allS (Or.inr sz_r355) all0)
  have K383 : Keep h0 T370.heap [] := K382.trans K370 (allS (Or.inr sz_r355) all0)
  have K384 : Keep h0 T378.heap [] := K383.trans K378 (allS (Or.inr sz_r355) all0)
  exact ⟨r355, kr355, rfl, N378, K384, sz_r355, g378V⟩
theorem efCq3 (b r : Addr) (m : MethodId) : entryFrame m #[(.ref b), (.int (0 : Int32)), (.ref r), (.int (0 : Int32)), (.int (3 : Int32))] 7 = mkF m 0 #[.val (.ref b), .val (.int (0 : Int32)), .val (.ref r), .val (.int (0 : Int32)), .val (.int (3 : Int32)), .unset, .unset] [] := by first | (simp [entryFrame, mkF, argsToLocals, Value.category]; done) | rfl
def QCq3 (Z : State) (b : Addr) (kb : ClassId) (c0 c1 c2 : Int32) (r : Addr) (kr : ClassId) (h0 : Heap) (n0 : Nat) (v : Option Value) (h : Heap) (L : List Loc) : Prop := Fr n0 L ∧ Keep h0 h [r] ∧ ((v = some (.int (3 : Int32)) ∧ (∀ c ∈ ([c0, c1, c2] : List Int32), ¬ (255 : Int32) < c) ∧ Arv Z h r kr .byte (3 : Int32) [(.int (StrChars.lo8 c0)), (.int (StrChars.lo8 c1)), (.int (StrChars.lo8 c2))] (.int (0 : Int32))) ∨ (v = some (.int (0 : Int32)) ∧ (255 : Int32) < c0) ∨ (v = some (.int (1 : Int32)) ∧ (255 : Int32) < c1) ∨ (v = some (.int (2 : Int32)) ∧ (255 : Int32) < c2))
set_option maxRecDepth 65536 in
set_option maxHeartbeats 40000000 in
theorem rmCq3 (l : Launch) (Z : State) (a0 : Array Value) (hw : ∀ d ∈ tables_1, d.before a0 Z = true) (ws : List Jvm.Cond) (b : Addr) (kb : ClassId) (c0 c1 c2 : Int32) (r : Addr) (kr : ClassId) (h0 : Heap) (n0 : Nat) (Z0 : n0 ≤ h0.size) (O0 : Old Z n0 h0) (Vb : Arv Z h0 b kb .char (3 : Int32) [(.int c0), (.int c1), (.int c2)] (.int (0 : Int32))) (gr : n0 ≤ r) (Vr : Arv Z h0 r kr .byte (3 : Int32) [(.int (0 : Int32)), (.int (0 : Int32)), (.int (0 : Int32))] (.int (0 : Int32))) (neb : b ≠ r) :
    OwnLaw l y24_ jdk_52_method_21_code 7 (some .int) ws (rR 0 0 0 0) #[(.ref b), (.int (0 : Int32)), (.ref r), (.int (0 : Int32)), (.int (3 : Int32))] Z h0 (QCq3 Z b kb c0 c1 c2 r kr h0 n0) := by
  refine own_enter (plainFor_of_name pn_java_lang_StringUTF16) (efCq3 b r) ?_
  intro p e s m below meth c s₁ Bd hx hby hml hZ hown X0 e0
  have N0 := Fr.nil n0
  have K0 : Keep h0 h0 [] := Keep.refl _ _
  have K0 : Keep h0 h0 [r] := Keep.refl _ _
  refine P1.iconst X0.here hx (0 : Int32) (hb hby d10_0) rfl ?_
  refine P1.istore X0.here hx #[.val (.ref b), .val (.int (0 : Int32)), .val (.ref r), .val (.int (0 : Int32)), .val (.int (3 : Int32)), .val (.int (0 : Int32)), .unset] (hb hby d10_1) rfl ?_
  refine P1.iload X0.here hx (hb hby d10_3) rfl ?_
  refine P1.iload X0.here hx (hb hby d10_5) rfl ?_
  refine P1.icmpNo X0.here hx (hb hby d10_7) (tlt (by decide : (0 : Int32) < (3 : Int32))).2.1 ?_
  refine P1.aloadN X0.here hx (hb hby d10_10) rfl rfl ?_
  refine P1.iloadN X0.here hx (hb hby d10_11) rfl ?_
  obtain ⟨cl385, Ar385, qk385, sl385, nz385, ha385, fi385⟩ := id Vb
  have i386 := inb_of (j := (0 : Int32)) sl385 ⟨by decide, by decide⟩
  refine Goes.step (T' := s₁) (g' := (mkF m 13 #[.val (.ref b), .val (.int (0 : Int32)), .val (.ref r), .val (.int (0 : Int32)), .val (.int (3 : Int32)), .val (.int (0 : Int32)), .unset] [(.int c0)])) (fun t_ k_ => X0.caload hx (j := (0 : Int32)) (v := (.int c0)) (by rw [e0]; exact Ar385.1) (State.isArrayOf_alike hZ.alike Ar385.2.1) Ar385.2.2 i386 (Has.at ha385 i386 rfl) (g := (mkF m 12 #[.val (.ref b), .val (.int (0 : Int32)), .val (.ref r), .val (.int (0 : Int32)), .val (.int (3 : Int32)), .val (.int (0 : Int32)), .unset] [(.int (0 : Int32)), (.ref b)])) rfl rfl (hb hby d10_12) _ k_) ?_
  refine P1.istore X0.here hx #[.val (.ref b), .val (.int (0 : Int32)), .val (.ref r), .val (.int (0 : Int32)), .val (.int (3 : Int32)), .val (.int (0 : Int32)), .val (.int c0)] (hb hby d10_13) rfl ?_
  refine P1.iload X0.here hx (hb hby d10_15) rfl ?_
  refine P1.sipush X0.here hx (255 : Int32) (hb hby d10_17) rfl ?_
  by_cases hb0 : (255 : Int32) < c0
  ·
    refine P1.icmpNo X0.here hx (hb hby d10_20) (tlt (hb0 : (255 : Int32) < c0)).2.2.2 ?_
    refine P1.iload X0.here hx (hb hby d10_23) rfl ?_
    refine Goes.retI X0 hx Bd.notSynchronized Bd.returns (hb hby d10_25) (ok rfl) (ok rfl) ?_
    rw [e0]
    exact ⟨N0, K0, Or.inr (Or.inl ⟨rfl, hb0⟩)⟩
  ·
    refine P1.icmpYes X0.here hx 26 (hb hby d10_20) (flt (hb0 : ¬ ((255 : Int32) < c0))).2.2.2 (by decide) (by decide) ?_
    refine P1.aloadN X0.here hx (hb hby d10_26) rfl rfl ?_
    refine P1.iloadN X0.here hx (hb hby d10_27) rfl ?_
    refine P1.iload X0.here hx (hb hby d10_28) rfl ?_
    refine P1.i2b X0.here hx (hb hby d10_30) ?_
    obtain ⟨cl387, Ar387, qk387, sl387, nz387, ha387, fi387⟩ := id Vr
    obtain ⟨T388, h388, X388, e388, W388, st388⟩ := stB X0 hx hZ e0 Ar387 (j := (0 : Int32)) (inb_of sl387 ⟨by decide, by decide⟩) (g := (mkF m 31 #[.val (.ref b), .val (.int (0 : Int32)), .val (.ref r), .val (.int (0 : Int32)), .val (.int (3 : Int32)), .val (.int (0 : Int32)), .val (.int c0)] [(.int (c0.toInt8.toInt32)), (.int (0 : Int32)), (.ref r)])) rfl rfl (hb hby d10_31)
    rw [(own_nb8 c0)] at W388
    have V388 : Arv Z h388 r kr .byte (3 : Int32) [(.int (c0.toInt8.toInt32)), (.int (0 : Int32)), (.int (0 : Int32))] (.int (0 : Int32)) := Arv.set Ar387 qk387 sl387 nz387 ha387 fi387 ((own_nb8 c0) ▸ fits_nar_byte (c0.toInt8.toInt32)) W388 0 rfl (ok rfl)
    have N388 := Fr.snoc X388 N0 gr
    refine Goes.step (T' := T388) (g' := (mkF m 32 #[.val (.ref b), .val (.int (0 : Int32)), .val (.ref r), .val (.int (0 : Int32)), .val (.int (3 : Int32)), .val (.int (0 : Int32)), .val (.int c0)] [])) st388 ?_
    refine P1.iinc X388.here hx #[.val (.ref b), .val (.int ((0 : Int32) + (1 : Int32))), .val (.ref r), .val (.int (0 : Int32)), .val (.int (3 : Int32)), .val (.int (0 : Int32)), .val (.int c0)] (hb hby d10_32) rfl rfl ?_
    have rw389 : ((0 : Int32) + (1 : Int32)) = (1 : Int32) := by decide
    rw [rw389]
    refine P1.iinc X388.here hx #[.val (.ref b), .val (.int (1 : Int32)), .val (.ref r), .val (.int ((0 : Int32) + (1 : Int32))), .val (.int (3 : Int32)), .val (.int (0 : Int32)), .val (.int c0)] (hb hby d10_35) rfl rfl ?_
    have rw390 : ((0 : Int32) + (1 : Int32)) = (1 : Int32) := by decide
    rw [rw390]
    refine P1.iinc X388.here hx #[.val (.ref b), .val (.int (1 : Int32)), .val (.ref r), .val (.int (1 : Int32)), .val (.int (3 : Int32)), .val (.int ((0 : Int32) + (1 : Int32))), .val (.int c0)] (hb hby d10_38) rfl rfl ?_
    have rw391 : ((0 : Int32) + (1 : Int32)) = (1 : Int32) := by decide
    rw [rw391]
    refine P1.goto X388.here hx 3 (hb hby d10_41) (by decide) (by decide) ?_
    refine P1.iload X388.here hx (hb hby d10_3) rfl ?_
    refine P1.iload X388.here hx (hb hby d10_5) rfl ?_
    refine P1.icmpNo X388.here hx (hb hby d10_7) (tlt (by decide : (1 : Int32) < (3 : Int32))).2.1 ?_
    refine P1.aloadN X388.here hx (hb hby d10_10) rfl rfl ?_
    refine P1.iloadN X388.here hx (hb hby d10_11) rfl ?_
    have V392 : Arv Z h388 b kb .char (3 : Int32) [(.int c0), (.int c1), (.int c2)] (.int (0 : Int32)) := Vb.other W388 neb
    obtain ⟨cl393, Ar393, qk393, sl393, nz393, ha393, fi393⟩ := id V392
    have i394 := inb_of (j := (1 : Int32)) sl393 ⟨by decide, by decide⟩
    refine Goes.step (T' := T388) (g' := (mkF m 13 #[.val (.ref b), .val (.int (1 : Int32)), .val (.ref r), .val (.int (1 : Int32)), .val (.int (3 : Int32)), .val (.int (1 : Int32)), .val (.int c0)] [(.int c1)])) (fun t_ k_ => X388.caload hx (j := (1 : Int32)) (v := (.int c1)) (by rw [e388]; exact Ar393.1) (State.isArrayOf_alike hZ.alike Ar393.2.1) Ar393.2.2 i394 (Has.at ha393 i394 rfl) (g := (mkF m 12 #[.val (.ref b), .val (.int (1 : Int32)), .val (.ref r), .val (.int (1 : Int32)), .val (.int (3 : Int32)), .val (.int (1 : Int32)), .val (.int c0)] [(.int (1 : Int32)), (.ref b)])) rfl rfl (hb hby d10_12) _ k_) ?_
    refine P1.istore X388.here hx #[.val (.ref b), .val (.int (1 : Int32)), .val (.ref r), .val (.int (1 : Int32)), .val (.int (3 : Int32)), .val (.int (1 : Int32)), .val (.int c1)] (hb hby d10_13) rfl ?_
    refine P1.iload X388.here hx (hb hby d10_15) rfl ?_
    refine P1.sipush X388.here hx (255 : Int32) (hb hby d10_17) rfl ?_
    by_cases hb1 : (255 : Int32) < c1
    ·
      refine P1.icmpNo X388.here hx (hb hby d10_20) (tlt (hb1 : (255 : Int32) < c1)).2.2.2 ?_
      refine P1.iload X388.here hx (hb hby d10_23) rfl ?_
      refine Goes.retI X388 hx Bd.notSynchronized Bd.returns (hb hby d10_25) (ok rfl) (ok rfl) ?_
      rw [e388]
      have K395 : Keep h0 h388 [r] := K0.wr W388 (Or.inl (by simp))
      exact ⟨N388, K395, Or.inr (Or.inr (Or.inl ⟨rfl, hb1⟩))⟩
    ·
      refine P1.icmpYes X388.here hx 26 (hb hby d10_20) (flt (hb1 : ¬ ((255 : Int32) < c1))).2.2.2 (by decide) (by decide) ?_
      refine P1.aloadN X388.here hx (hb hby d10_26) rfl rfl ?_
      refine P1.iloadN X388.here hx (hb hby d10_27) rfl ?_
      refine P1.iload X388.here hx (hb hby d10_28) rfl ?_
      refine P1.i2b X388.here hx (hb hby d10_30) ?_
      obtain ⟨cl396, Ar396, qk396, sl396, nz396, ha396, fi396⟩ := id V388
      obtain ⟨T397, h397, X397, e397, W397, st397⟩ := stB X388 hx hZ e388 Ar396 (j := (1 : Int32)) (inb_of sl396 ⟨by decide, by decide⟩) (g := (mkF m 31 #[.val (.ref b), .val (.int (1 : Int32)), .val (.ref r), .val (.int (1 : Int32)), .val (.int (3 : Int32)), .val (.int (1 : Int32)), .val (.int c1)] [(.int (c1.toInt8.toInt32)), (.int (1 : Int32)), (.ref r)])) rfl rfl (hb hby d10_31)
      rw [(own_nb8 c1)] at W397
      have V397 : Arv Z h397 r kr .byte (3 : Int32) [(.int (c0.toInt8.toInt32)), (.int (c1.toInt8.toInt32)), (.int (0 : Int32))] (.int (0 : Int32)) := Arv.set Ar396 qk396 sl396 nz396 ha396 fi396 ((own_nb8 c1) ▸ fits_nar_byte (c1.toInt8.toInt32)) W397 1 rfl (ok rfl)
      have N397 := Fr.snoc X397 N388 gr
      refine Goes.step (T' := T397) (g' := (mkF m 32 #[.val (.ref b), .val (.int (1 : Int32)), .val (.ref r), .val (.int (1 : Int32)), .val (.int (3 : Int32)), .val (.int (1 : Int32)), .val (.int c1)] [])) st397 ?_
      refine P1.iinc X397.here hx #[.val (.ref b), .val (.int ((1 : Int32) + (1 : Int32))), .val (.ref r), .val (.int (1 : Int32)), .val (.int (3 : Int32)), .val (.int (1 : Int32)), .val (.int c1)] (hb hby d10_32) rfl rfl ?_
      have rw398 : ((1 : Int32) + (1 : Int32)) = (2 : Int32) := by decide
      rw [rw398]
      refine P1.iinc X397.here hx #[.val (.ref b), .val (.int (2 : Int32)), .val (.ref r), .val (.int ((1 : Int32) + (1 : Int32))), .val (.int (3 : Int32)), .val (.int (1 : Int32)), .val (.int c1)] (hb hby d10_35) rfl rfl ?_
      have rw399 : ((1 : Int32) + (1 : Int32)) = (2 : Int32) := by decide
      rw [rw399]
      refine P1.iinc X397.here hx #[.val (.ref b), .val (.int (2 : Int32)), .val (.ref r), .val (.int (2 : Int32)), .val (.int (3 : Int32)), .val (.int ((1 : Int32) + (1 : Int32))), .val (.int c1)] (hb hby d10_38) rfl rfl ?_
      have rw400 : ((1 : Int32) + (1 : Int32)) = (2 : Int32) := by decide
      rw [rw400]
      refine P1.goto X397.here hx 3 (hb hby d10_41) (by decide) (by decide) ?_
      refine P1.iload X397.here hx (hb hby d10_3) rfl ?_
      refine P1.iload X397.here hx (hb hby d10_5) rfl ?_
      refine P1.icmpNo X397.here hx (hb hby d10_7) (tlt (by decide : (2 : Int32) < (3 : Int32))).2.1 ?_
      refine P1.aloadN X397.here hx (hb hby d10_10) rfl rfl ?_
      refine P1.iloadN X397.here hx (hb hby d10_11) rfl ?_
      have V401 : Arv Z h397 b kb .char (3 : Int32) [(.int c0), (.int c1), (.int c2)] (.int (0 : Int32)) := V392.other W397 neb
      obtain ⟨cl402, Ar402, qk402, sl402, nz402, ha402, fi402⟩ := id V401
      have i403 := inb_of (j := (2 : Int32)) sl402 ⟨by decide, by decide⟩
      refine Goes.step (T' := T397) (g' := (mkF m 13 #[.val (.ref b), .val (.int (2 : Int32)), .val (.ref r), .val (.int (2 : Int32)), .val (.int (3 : Int32)), .val (.int (2 : Int32)), .val (.int c1)] [(.int c2)])) (fun t_ k_ => X397.caload hx (j := (2 : Int32)) (v := (.int c2)) (by rw [e397]; exact Ar402.1) (State.isArrayOf_alike hZ.alike Ar402.2.1) Ar402.2.2 i403 (Has.at ha402 i403 rfl) (g := (mkF m 12 #[.val (.ref b), .val (.int (2 : Int32)), .val (.ref r), .val (.int (2 : Int32)), .val (.int (3 : Int32)), .val (.int (2 : Int32)), .val (.int c1)] [(.int (2 : Int32)), (.ref b)])) rfl rfl (hb hby d10_12) _ k_) ?_
      refine P1.istore X397.here hx #[.val (.ref b), .val (.int (2 : Int32)), .val (.ref r), .val (.int (2 : Int32)), .val (.int (3 : Int32)), .val (.int (2 : Int32)), .val (.int c2)] (hb hby d10_13) rfl ?_
      refine P1.iload X397.here hx (hb hby d10_15) rfl ?_
      refine P1.sipush X397.here hx (255 : Int32) (hb hby d10_17) rfl ?_
      by_cases hb2 : (255 : Int32) < c2
      ·
        refine P1.icmpNo X397.here hx (hb hby d10_20) (tlt (hb2 : (255 : Int32) < c2)).2.2.2 ?_
        refine P1.iload X397.here hx (hb hby d10_23) rfl ?_
        refine Goes.retI X397 hx Bd.notSynchronized Bd.returns (hb hby d10_25) (ok rfl) (ok rfl) ?_
        rw [e397]
        have K404 : Keep h0 h388 [r] := K0.wr W388 (Or.inl (by simp))
        have K405 : Keep h0 h397 [r] := K404.wr W397 (Or.inl (by simp))
        exact ⟨N397, K405, Or.inr (Or.inr (Or.inr ⟨rfl, hb2⟩))⟩
      ·
        refine P1.icmpYes X397.here hx 26 (hb hby d10_20) (flt (hb2 : ¬ ((255 : Int32) < c2))).2.2.2 (by decide) (by decide) ?_
        refine P1.aloadN X397.here hx (hb hby d10_26) rfl rfl ?_
        refine P1.iloadN X397.here hx (hb hby d10_27) rfl ?_
        refine P1.iload X397.here hx (hb hby d10_28) rfl ?_
        refine P1.i2b X397.here hx (hb hby d10_30) ?_
        obtain ⟨cl406, Ar406, qk406, sl406, nz406, ha406, fi406⟩ := id V397
        obtain ⟨T407, h407, X407, e407, W407, st407⟩ := stB X397 hx hZ e397 Ar406 (j := (2 : Int32)) (inb_of sl406 ⟨by decide, by decide⟩) (g := (mkF m 31 #[.val (.ref b), .val (.int (2 : Int32)), .val (.ref r), .val (.int (2 : Int32)), .val (.int (3 : Int32)), .val (.int (2 : Int32)), .val (.int c2)] [(.int (c2.toInt8.toInt32)), (.int (2 : Int32)), (.ref r)])) rfl rfl (hb hby d10_31)
        rw [(own_nb8 c2)] at W407
        have V407 : Arv Z h407 r kr .byte (3 : Int32) [(.int (c0.toInt8.toInt32)), (.int (c1.toInt8.toInt32)), (.int (c2.toInt8.toInt32))] (.int (0 : Int32)) := Arv.set Ar406 qk406 sl406 nz406 ha406 fi406 ((own_nb8 c2) ▸ fits_nar_byte (c2.toInt8.toInt32)) W407 2 rfl (ok rfl)
        have N407 := Fr.snoc X407 N397 gr
        refine Goes.step (T' := T407) (g' := (mkF m 32 #[.val (.ref b), .val (.int (2 : Int32)), .val (.ref r), .val (.int (2 : Int32)), .val (.int (3 : Int32)), .val (.int (2 : Int32)), .val (.int c2)] [])) st407 ?_
        refine P1.iinc X407.here hx #[.val (.ref b), .val (.int ((2 : Int32) + (1 : Int32))), .val (.ref r), .val (.int (2 : Int32)), .val (.int (3 : Int32)), .val (.int (2 : Int32)), .val (.int c2)] (hb hby d10_32) rfl rfl ?_
        have rw408 : ((2 : Int32) + (1 : Int32)) = (3 : Int32) := by decide
        rw [rw408]
        refine P1.iinc X407.here hx #[.val (.ref b), .val (.int (3 : Int32)), .val (.ref r), .val (.int ((2 : Int32) + (1 : Int32))), .val (.int (3 : Int32)), .val (.int (2 : Int32)), .val (.int c2)] (hb hby d10_35) rfl rfl ?_
        have rw409 : ((2 : Int32) + (1 : Int32)) = (3 : Int32) := by decide
        rw [rw409]
        refine P1.iinc X407.here hx #[.val (.ref b), .val (.int (3 : Int32)), .val (.ref r), .val (.int (3 : Int32)), .val (.int (3 : Int32)), .val (.int ((2 : Int32) + (1 : Int32))), .val (.int c2)] (hb hby d10_38) rfl rfl ?_
        have rw410 : ((2 : Int32) + (1 : Int32)) = (3 : Int32) := by decide
        rw [rw410]
        refine P1.goto X407.here hx 3 (hb hby d10_41) (by decide) (by decide) ?_
        refine P1.iload X407.here hx (hb hby d10_3) rfl ?_
        refine P1.iload X407.here hx (hb hby d10_5) rfl ?_
        refine P1.icmpYes X407.here hx 44 (hb hby d10_7) (flt (by decide : ¬ ((3 : Int32) < (3 : Int32)))).2.1 (by decide) (by decide) ?_
        refine P1.iload X407.here hx (hb hby d10_44) rfl ?_
        refine Goes.retI X407 hx Bd.notSynchronized Bd.returns (hb hby d10_46) (ok rfl) (ok rfl) ?_
        rw [e407]
        have K411 : Keep h0 h388 [r] := K0.wr W388 (Or.inl (by simp))
        have K412 : Keep h0 h397 [r] := K411.wr W397 (Or.inl (by simp))
        have K413 : Keep h0 h407 [r] := K412.wr W407 (Or.inl (by simp))
        exact ⟨N407, K413, Or.inl ⟨rfl, (fun c hc => by simp only [List.mem_cons, List.not_mem_nil, or_false] at hc; rcases hc with rfl | rfl | rfl <;> assumption), V407⟩⟩
theorem efCm3 (b : Addr) (m : MethodId) : entryFrame m #[(.ref b), (.int (0 : Int32)), (.int (3 : Int32))] 6 = mkF m 0 #[.val (.ref b), .val (.int (0 : Int32)), .val (.int (3 : Int32)), .unset, .unset, .unset] [] := by first | (simp [entryFrame, mkF, argsToLocals, Value.category]; done) | rfl
def QCm3 (Z : State) (b : Addr) (kb : ClassId) (c0 c1 c2 zc : Int32) (fm : Value) (h0 : Heap) (n0 : Nat) (v : Option Value) (h : Heap) (L : List Loc) : Prop := ∃ r kr, v = some (.ref r) ∧ Fr n0 L ∧ Keep h0 h [] ∧ h0.size ≤ r ∧ (((∀ c ∈ ([c0, c1, c2] : List Int32), ¬ (255 : Int32) < c) ∧ Arv Z h r kr .byte (3 : Int32) [(.int (StrChars.lo8 c0)), (.int (StrChars.lo8 c1)), (.int (StrChars.lo8 c2))] (.int (0 : Int32))) ∨ ((∃ c ∈ ([c0, c1, c2] : List Int32), (255 : Int32) < c) ∧ Arv Z h r kr .byte (6 : Int32) [(.int (StrChars.lo8 c0)), (.int (StrChars.hi8 c0)), (.int (StrChars.lo8 c1)), (.int (StrChars.hi8 c1)), (.int (StrChars.lo8 c2)), (.int (StrChars.hi8 c2))] (.int (0 : Int32))))
set_option maxRecDepth 65536 in
set_option maxHeartbeats 40000000 in
theorem rmCm3 (l : Launch) (Z : State) (a0 : Array Value) (hw : ∀ d ∈ tables_1, d.before a0 Z = true) (ws : List Jvm.Cond) (b : Addr) (kb : ClassId) (c0 c1 c2 zc : Int32) (fm : Value) (h0 : Heap) (n0 : Nat) (Z0 : n0 ≤ h0.size) (O0 : Old Z n0 h0) (S_CS : Sta Z Z.heap "java/lang/String" "COMPACT_STRINGS" "Z" (.int zc)) (hzc : ¬ zc = 0) (S_FM : Sta Z Z.heap "jdk/internal/util/Preconditions" "SIOOBE_FORMATTER" "Ljava/util/function/BiFunction;" fm) (hfm : fm.isRef = true) (S_AD : Sta Z Z.heap "java/lang/StringUTF16" "$assertionsDisabled" "Z" (.int (1 : Int32))) (S_HI : Sta Z Z.heap "java/lang/StringUTF16" "HI_BYTE_SHIFT" "I" (.int (0 : Int32))) (S_LO : Sta Z Z.heap "java/lang/StringUTF16" "LO_BYTE_SHIFT" "I" (.int (8 : Int32))) (Vb : Arv Z h0 b kb .char (3 : Int32) [(.int c0), (.int c1), (.int c2)] (.int (0 : Int32))) (h_c0 : C16 c0) (h_c1 : C16 c1) (h_c2 : C16 c2) :
    OwnLaw l y23_ jdk_52_method_16_code 6 (some (.array .byte)) ws (rR 3 2 9 40) #[(.ref b), (.int (0 : Int32)), (.int (3 : Int32))] Z h0 (QCm3 Z b kb c0 c1 c2 zc fm h0 n0) := by
  refine own_enter (plainFor_of_name pn_java_lang_StringUTF16) (efCm3 b) ?_
  intro p e s m below meth c s₁ Bd hx hby hml hZ hown X0 e0
  have N0 := Fr.nil n0
  have K0 : Keep h0 h0 [] := Keep.refl _ _
  refine P1.iloadN X0.here hx (hb hby d9_0) rfl ?_
  obtain ⟨T414, h414, k414, X414, e414, E414, A414, st414⟩ := newP X0 hx hZ (own_w hw 24 rfl) e0 (g := (mkF m 1 #[.val (.ref b), .val (.int (0 : Int32)), .val (.int (3 : Int32)), .unset, .unset, .unset] [(.int (3 : Int32))])) rfl (hb hby d9_1) rfl (by decide) (cap := 3) (ok rfl) (ok rfl) (ok rfl) (ok rfl)
  obtain ⟨b414, g414⟩ : ∃ z, z = h0.size := ⟨_, rfl⟩
  rw [← g414] at A414 st414
  have ge_b414 : n0 ≤ b414 := Nat.le_trans Z0 (Nat.le_of_eq g414.symm)
  have sz_b414 : h0.size ≤ b414 := Nat.le_trans K0.1 (Nat.le_of_eq g414.symm)
  have V414 : Arv Z h414 b414 k414 .byte (3 : Int32) [(.int (0 : Int32)), (.int (0 : Int32)), (.int (0 : Int32))] (.int (0 : Int32)) := (Arv.new A414 (by decide)).pad (pad_rep [] (.int (0 : Int32)) 3)
  refine Goes.step (T' := T414) (g' := (mkF m 3 #[.val (.ref b), .val (.int (0 : Int32)), .val (.int (3 : Int32)), .unset, .unset, .unset] [(.ref b414)])) st414 ?_
  refine P1.astoreN X414.here hx #[.val (.ref b), .val (.int (0 : Int32)), .val (.int (3 : Int32)), .val (.ref b414), .unset, .unset] (hb hby d9_3) rfl rfl ?_
  refine P1.aloadN X414.here hx (hb hby d9_4) rfl rfl ?_
  refine P1.iloadN X414.here hx (hb hby d9_5) rfl ?_
  refine P1.aloadN X414.here hx (hb hby d9_6) rfl rfl ?_
  refine P1.iconst X414.here hx (0 : Int32) (hb hby d9_7) rfl ?_
  refine P1.iloadN X414.here hx (hb hby d9_8) rfl ?_
  have V415 : Arv Z h414 b kb .char (3 : Int32) [(.int c0), (.int c1), (.int c2)] (.int (0 : Int32)) := Vb.ext E414
  have ne416 : b ≠ b414 := Nat.ne_of_lt (Nat.lt_of_lt_of_le Vb.lt (Nat.le_of_eq g414.symm))
  have Z417 : n0 ≤ h414.size := Nat.le_trans Z0 E414.1
  have O418 : Old Z n0 h414 := O0.ext E414
  refine P1.callS X414 hx hZ hown (own_w hw 50 rfl) (own_w hw 51 rfl) (own_w hw 48 rfl) (own_w hw 52 rfl) (by decide) (rmCq3 l Z a0 hw [] b kb c0 c1 c2 b414 k414 h414 n0 Z417 O418 V415 ge_b414 V414 ne416) hml [(.ref b), (.int (0 : Int32)), (.ref b414), (.int (0 : Int32)), (.int (3 : Int32))] [] (lenOf pd_3760 rfl) rfl rfl (hb hby d9_9) rfl e414 (ok rfl) (ok rfl) (ok rfl) (ok rfl) ?_
  intro v419 T419 L419 q419 X419
  obtain ⟨N419q, K419, q419⟩ := q419
  have N419 := Fr.app N0 N419q
  rcases q419 with ⟨rfl, hall419, g419V⟩ | ⟨rfl, hbig419⟩ | ⟨rfl, hbig419⟩ | ⟨rfl, hbig419⟩
  ·
    show Goes p e below _ T419 (mkF m 12 #[.val (.ref b), .val (.int (0 : Int32)), .val (.int (3 : Int32)), .val (.ref b414), .unset, .unset] [(.int (3 : Int32))])
    refine P1.istore X419.here hx #[.val (.ref b), .val (.int (0 : Int32)), .val (.int (3 : Int32)), .val (.ref b414), .val (.int (3 : Int32)), .unset] (hb hby d9_12) rfl ?_
    refine P1.iload X419.here hx (hb hby d9_14) rfl ?_
    refine P1.iloadN X419.here hx (hb hby d9_16) rfl ?_
    refine P1.icmpYes X419.here hx 57 (hb hby d9_17) (teq (by decide : (3 : Int32) = (3 : Int32))).1 (by decide) (by decide) ?_
    refine P1.aloadN X419.here hx (hb hby d9_57) rfl rfl ?_
    refine Goes.retA X419 hx Bd.notSynchronized Bd.returns rfl rfl (hb hby d9_58) (ok rfl) (ok rfl) ?_
    have K420 : Keep h0 h414 [] := K0.ext E414
    have K421 : Keep h0 T419.heap [] := K420.trans K419 (allS (Or.inr sz_b414) all0)
    exact ⟨b414, k414, rfl, N419, K421, sz_b414, Or.inl ⟨hall419, g419V⟩⟩
  ·
    show Goes p e below _ T419 (mkF m 12 #[.val (.ref b), .val (.int (0 : Int32)), .val (.int (3 : Int32)), .val (.ref b414), .unset, .unset] [(.int (0 : Int32))])
    refine P1.istore X419.here hx #[.val (.ref b), .val (.int (0 : Int32)), .val (.int (3 : Int32)), .val (.ref b414), .val (.int (0 : Int32)), .unset] (hb hby d9_12) rfl ?_
    refine P1.iload X419.here hx (hb hby d9_14) rfl ?_
    refine P1.iloadN X419.here hx (hb hby d9_16) rfl ?_
    refine P1.icmpNo X419.here hx (hb hby d9_17) (feq (by decide : ¬ ((0 : Int32) = (3 : Int32)))).1 ?_
    refine P1.aloadN X419.here hx (hb hby d9_20) rfl rfl ?_
    refine P1.iloadN X419.here hx (hb hby d9_21) rfl ?_
    refine P1.iloadN X419.here hx (hb hby d9_22) rfl ?_
    have K422 : Keep h0 h414 [] := K0.ext E414
    have K423 : Keep h0 T419.heap [] := K422.trans K419 (allS (Or.inr sz_b414) all0)
    have Z424 : n0 ≤ T419.heap.size := Nat.le_trans Z417 K419.1
    have V425 : Arv Z T419.heap b kb .char (3 : Int32) [(.int c0), (.int c1), (.int c2)] (.int (0 : Int32)) := V415.keep K419 (ninS ne416 nin0)
    have O426 : Old Z n0 T419.heap := O418.keep K419 (allS ge_b414 all0)
    refine P1.callS X419 hx hZ hown (own_w hw 80 rfl) (own_w hw 81 rfl) (own_w hw 48 rfl) (own_w hw 82 rfl) (by decide) (rmTb3 l Z a0 hw [] b kb c0 c1 c2 zc fm T419.heap n0 Z424 O426 S_CS hzc S_FM hfm S_AD S_HI S_LO V425) hml [(.ref b), (.int (0 : Int32)), (.int (3 : Int32))] [] (lenOf pd_2491 rfl) rfl rfl (hb hby d9_23) rfl rfl (ok rfl) (ok rfl) (ok rfl) (ok rfl) ?_
    intro v427 T427 L427 q427 X427
    obtain ⟨r427, kr427, rfl, N427q, K427, szr427, g427V⟩ := q427
    have ge_r427 : n0 ≤ r427 := Nat.le_trans Z424 szr427
    have sz_r427 : h0.size ≤ r427 := Nat.le_trans K423.1 szr427
    have N427 := Fr.app N419 N427q
    show Goes p e below _ T427 (mkF m 26 #[.val (.ref b), .val (.int (0 : Int32)), .val (.int (3 : Int32)), .val (.ref b414), .val (.int (0 : Int32)), .unset] [(.ref r427)])
    refine P1.astore X427.here hx #[.val (.ref b), .val (.int (0 : Int32)), .val (.int (3 : Int32)), .val (.ref b414), .val (.int (0 : Int32)), .val (.ref r427)] (hb hby d9_26) rfl rfl ?_
    refine P1.aload X427.here hx (hb hby d9_28) rfl rfl ?_
    refine P1.iload X427.here hx (hb hby d9_30) rfl ?_
    have Z428 : n0 ≤ T427.heap.size := Nat.le_trans Z424 K427.1
    have O429 : Old Z n0 T427.heap := O426.keep K427 all0
    refine P1.callS X427 hx hZ hown (own_w hw 96 rfl) (own_w hw 97 rfl) (own_w hw 48 rfl) (own_w hw 98 rfl) (by decide) (rmGc0 l Z a0 hw [] r427 kr427 (6 : Int32) [(.int (StrChars.lo8 c0)), (.int (StrChars.hi8 c0)), (.int (StrChars.lo8 c1)), (.int (StrChars.hi8 c1)), (.int (StrChars.lo8 c2)), (.int (StrChars.hi8 c2))] c0 zc fm T427.heap n0 Z428 O429 S_CS hzc S_FM hfm S_AD S_HI S_LO g427V ⟨by decide, by decide⟩ ⟨by decide, by decide⟩ rfl rfl h_c0) hml [(.ref r427), (.int (0 : Int32))] [] (lenOf pd_1319 rfl) rfl rfl (hb hby d9_32) rfl rfl (ok rfl) (ok rfl) (ok rfl) (ok rfl) ?_
    intro v430 T430 L430 q430 X430
    obtain ⟨rfl, N430q, hE430⟩ := q430
    have N430 := Fr.app N427 N430q
    show Goes p e below _ T430 (mkF m 35 #[.val (.ref b), .val (.int (0 : Int32)), .val (.int (3 : Int32)), .val (.ref b414), .val (.int (0 : Int32)), .val (.ref r427)] [(.int c0)])
    refine P1.sipush X430.here hx (255 : Int32) (hb hby d9_35) rfl ?_
    refine P1.icmpYes X430.here hx 54 (hb hby d9_38) (tlt (hbig419 : (255 : Int32) < c0)).2.2.1 (by decide) (by decide) ?_
    refine P1.aload X430.here hx (hb hby d9_54) rfl rfl ?_
    refine Goes.retA X430 hx Bd.notSynchronized Bd.returns rfl rfl (hb hby d9_56) (ok rfl) (ok rfl) ?_
    rw [hE430]
    have K431 : Keep h0 T427.heap [] := K423.trans K427 all0
    exact ⟨r427, kr427, rfl, N430, K431, sz_r427, Or.inr ⟨⟨c0, by simp, hbig419⟩, g427V⟩⟩
  ·
    show Goes p e below _ T419 (mkF m 12 #[.val (.ref b), .val (.int (0 : Int32)), .val (.int (3 : Int32)), .val (.ref b414), .unset, .unset] [(.int (1 : Int32))])
    refine P1.istore X419.here hx #[.val (.ref b), .val (.int (0 : Int32)), .val (.int (3 : Int32)), .val (.ref b414), .val (.int (1 : Int32)), .unset] (hb hby d9_12) rfl ?_
    refine P1.iload X419.here hx (hb hby d9_14) rfl ?_
    refine P1.iloadN X419.here hx (hb hby d9_16) rfl ?_
    refine P1.icmpNo X419.here hx (hb hby d9_17) (feq (by decide : ¬ ((1 : Int32) = (3 : Int32)))).1 ?_
    refine P1.aloadN X419.here hx (hb hby d9_20) rfl rfl ?_
    refine P1.iloadN X419.here hx (hb hby d9_21) rfl ?_
    refine P1.iloadN X419.here hx (hb hby d9_22) rfl ?_
    have K432 : Keep h0 h414 [] := K0.ext E414
    have K433 : Keep h0 T419.heap [] := K432.trans K419 (allS (Or.inr sz_b414) all0)
    have Z434 : n0 ≤ T419.heap.size := Nat.le_trans Z417 K419.1
    have V435 : Arv Z T419.heap b kb .char (3 : Int32) [(.int c0), (.int c1), (.int c2)] (.int (0 : Int32)) := V415.keep K419 (ninS ne416 nin0)
    have O436 : Old Z n0 T419.heap := O418.keep K419 (allS ge_b414 all0)
    refine P1.callS X419 hx hZ hown (own_w hw 80 rfl) (own_w hw 81 rfl) (own_w hw 48 rfl) (own_w hw 82 rfl) (by decide) (rmTb3 l Z a0 hw [] b kb c0 c1 c2 zc fm T419.heap n0 Z434 O436 S_CS hzc S_FM hfm S_AD S_HI S_LO V435) hml [(.ref b), (.int (0 : Int32)), (.int (3 : Int32))] [] (lenOf pd_2491 rfl) rfl rfl (hb hby d9_23) rfl rfl (ok rfl) (ok rfl) (ok rfl) (ok rfl) ?_
    intro v437 T437 L437 q437 X437
    obtain ⟨r437, kr437, rfl, N437q, K437, szr437, g437V⟩ := q437
    have ge_r437 : n0 ≤ r437 := Nat.le_trans Z434 szr437
    have sz_r437 : h0.size ≤ r437 := Nat.le_trans K433.1 szr437
    have N437 := Fr.app N419 N437q
    show Goes p e below _ T437 (mkF m 26 #[.val (.ref b), .val (.int (0 : Int32)), .val (.int (3 : Int32)), .val (.ref b414), .val (.int (1 : Int32)), .unset] [(.ref r437)])
    refine P1.astore X437.here hx #[.val (.ref b), .val (.int (0 : Int32)), .val (.int (3 : Int32)), .val (.ref b414), .val (.int (1 : Int32)), .val (.ref r437)] (hb hby d9_26) rfl rfl ?_
    refine P1.aload X437.here hx (hb hby d9_28) rfl rfl ?_
    refine P1.iload X437.here hx (hb hby d9_30) rfl ?_
    have Z438 : n0 ≤ T437.heap.size := Nat.le_trans Z434 K437.1
    have O439 : Old Z n0 T437.heap := O436.keep K437 all0
    refine P1.callS X437 hx hZ hown (own_w hw 96 rfl) (own_w hw 97 rfl) (own_w hw 48 rfl) (own_w hw 98 rfl) (by decide) (rmGc1 l Z a0 hw [] r437 kr437 (6 : Int32) [(.int (StrChars.lo8 c0)), (.int (StrChars.hi8 c0)), (.int (StrChars.lo8 c1)), (.int (StrChars.hi8 c1)), (.int (StrChars.lo8 c2)), (.int (StrChars.hi8 c2))] c1 zc fm T437.heap n0 Z438 O439 S_CS hzc S_FM hfm S_AD S_HI S_LO g437V ⟨by decide, by decide⟩ ⟨by decide, by decide⟩ rfl rfl h_c1) hml [(.ref r437), (.int (1 : Int32))] [] (lenOf pd_1319 rfl) rfl rfl (hb hby d9_32) rfl rfl (ok rfl) (ok rfl) (ok rfl) (ok rfl) ?_
    intro v440 T440 L440 q440 X440
    obtain ⟨rfl, N440q, hE440⟩ := q440
    have N440 := Fr.app N437 N440q
    show Goes p e below _ T440 (mkF m 35 #[.val (.ref b), .val (.int (0 : Int32)), .val (.int (3 : Int32)), .val (.ref b414), .val (.int (1 : Int32)), .val (.ref r437)] [(.int c1)])
    refine P1.sipush X440.here hx (255 : Int32) (hb hby d9_35) rfl ?_
    refine P1.icmpYes X440.here hx 54 (hb hby d9_38) (tlt (hbig419 : (255 : Int32) < c1)).2.2.1 (by decide) (by decide) ?_
    refine P1.aload X440.here hx (hb hby d9_54) rfl rfl ?_
    refine Goes.retA X440 hx Bd.notSynchronized Bd.returns rfl rfl (hb hby d9_56) (ok rfl) (ok rfl) ?_
    rw [hE440]
    have K441 : Keep h0 T437.heap [] := K433.trans K437 all0
    exact ⟨r437, kr437, rfl, N440, K441, sz_r437, Or.inr ⟨⟨c1, by simp, hbig419⟩, g437V⟩⟩
  ·
    show Goes p e below _ T419 (mkF m 12 #[.val (.ref b), .val (.int (0 : Int32)), .val (.int (3 : Int32)), .val (.ref b414), .unset, .unset] [(.int (2 : Int32))])
    refine P1.istore X419.here hx #[.val (.ref b), .val (.int (0 : Int32)), .val (.int (3 : Int32)), .val (.ref b414), .val (.int (2 : Int32)), .unset] (hb hby d9_12) rfl ?_
    refine P1.iload X419.here hx (hb hby d9_14) rfl ?_
    refine P1.iloadN X419.here hx (hb hby d9_16) rfl ?_
    refine P1.icmpNo X419.here hx (hb hby d9_17) (feq (by decide : ¬ ((2 : Int32) = (3 : Int32)))).1 ?_
    refine P1.aloadN X419.here hx (hb hby d9_20) rfl rfl ?_
    refine P1.iloadN X419.here hx (hb hby d9_21) rfl ?_
    refine P1.iloadN X419.here hx (hb hby d9_22) rfl ?_
    have K442 : Keep h0 h414 [] := K0.ext E414
    have K443 : Keep h0 T419.heap [] := K442.trans K419 (allS (Or.inr sz_b414) all0)
    have Z444 : n0 ≤ T419.heap.size := Nat.le_trans Z417 K419.1
    have V445 : Arv Z T419.heap b kb .char (3 : Int32) [(.int c0), (.int c1), (.int c2)] (.int (0 : Int32)) := V415.keep K419 (ninS ne416 nin0)
    have O446 : Old Z n0 T419.heap := O418.keep K419 (allS ge_b414 all0)
    refine P1.callS X419 hx hZ hown (own_w hw 80 rfl) (own_w hw 81 rfl) (own_w hw 48 rfl) (own_w hw 82 rfl) (by decide) (rmTb3 l Z a0 hw [] b kb c0 c1 c2 zc fm T419.heap n0 Z444 O446 S_CS hzc S_FM hfm S_AD S_HI S_LO V445) hml [(.ref b), (.int (0 : Int32)), (.int (3 : Int32))] [] (lenOf pd_2491 rfl) rfl rfl (hb hby d9_23) rfl rfl (ok rfl) (ok rfl) (ok rfl) (ok rfl) ?_
    intro v447 T447 L447 q447 X447
    obtain ⟨r447, kr447, rfl, N447q, K447, szr447, g447V⟩ := q447
    have ge_r447 : n0 ≤ r447 := Nat.le_trans Z444 szr447
    have sz_r447 : h0.size ≤ r447 := Nat.le_trans K443.1 szr447
    have N447 := Fr.app N419 N447q
    show Goes p e below _ T447 (mkF m 26 #[.val (.ref b), .val (.int (0 : Int32)), .val (.int (3 : Int32)), .val (.ref b414), .val (.int (2 : Int32)), .unset] [(.ref r447)])
    refine P1.astore X447.here hx #[.val (.ref b), .val (.int (0 : Int32)), .val (.int (3 : Int32)), .val (.ref b414), .val (.int (2 : Int32)), .val (.ref r447)] (hb hby d9_26) rfl rfl ?_
    refine P1.aload X447.here hx (hb hby d9_28) rfl rfl ?_
    refine P1.iload X447.here hx (hb hby d9_30) rfl ?_
    have Z448 : n0 ≤ T447.heap.size := Nat.le_trans Z444 K447.1
    have O449 : Old Z n0 T447.heap := O446.keep K447 all0
    refine P1.callS X447 hx hZ hown (own_w hw 96 rfl) (own_w hw 97 rfl) (own_w hw 48 rfl) (own_w hw 98 rfl) (by decide) (rmGc2 l Z a0 hw [] r447 kr447 (6 : Int32) [(.int (StrChars.lo8 c0)), (.int (StrChars.hi8 c0)), (.int (StrChars.lo8 c1)), (.int (StrChars.hi8 c1)), (.int (StrChars.lo8 c2)), (.int (StrChars.hi8 c2))] c2 zc fm T447.heap n0 Z448 O449 S_CS hzc S_FM hfm S_AD S_HI S_LO g447V ⟨by decide, by decide⟩ ⟨by decide, by decide⟩ rfl rfl h_c2) hml [(.ref r447), (.int (2 : Int32))] [] (lenOf pd_1319 rfl) rfl rfl (hb hby d9_32) rfl rfl (ok rfl) (ok rfl) (ok rfl) (ok rfl) ?_
    intro v450 T450 L450 q450 X450
    obtain ⟨rfl, N450q, hE450⟩ := q450
    have N450 := Fr.app N447 N450q
    show Goes p e below _ T450 (mkF m 35 #[.val (.ref b), .val (.int (0 : Int32)), .val (.int (3 : Int32)), .val (.ref b414), .val (.int (2 : Int32)), .val (.ref r447)] [(.int c2)])
    refine P1.sipush X450.here hx (255 : Int32) (hb hby d9_35) rfl ?_
    refine P1.icmpYes X450.here hx 54 (hb hby d9_38) (tlt (hbig419 : (255 : Int32) < c2)).2.2.1 (by decide) (by decide) ?_
    refine P1.aload X450.here hx (hb hby d9_54) rfl rfl ?_
    refine Goes.retA X450 hx Bd.notSynchronized Bd.returns rfl rfl (hb hby d9_56) (ok rfl) (ok rfl) ?_
    rw [hE450]
    have K451 : Keep h0 T447.heap [] := K443.trans K447 all0
    exact ⟨r447, kr447, rfl, N450, K451, sz_r447, Or.inr ⟨⟨c2, by simp, hbig419⟩, g447V⟩⟩
theorem efSic3 (x b : Addr) (m : MethodId) : entryFrame m #[(.ref x), (.ref b), (.int (0 : Int32)), (.int (3 : Int32)), .null] 6 = mkF m 0 #[.val (.ref x), .val (.ref b), .val (.int (0 : Int32)), .val (.int (3 : Int32)), .val .null, .unset] [] := by first | (simp [entryFrame, mkF, argsToLocals, Value.category]; done) | rfl
def QSic3 (Z : State) (x b : Addr) (kb : ClassId) (c0 c1 c2 zc : Int32) (fm : Value) (h0 : Heap) (n0 : Nat) (v : Option Value) (h : Heap) (L : List Loc) : Prop := v = none ∧ Fr n0 L ∧ Keep h0 h [x] ∧ Exa Z h x "java/lang/String" ∧ ∃ t kb cd N2 vs, Fld Z h x "java/lang/String" "value" "[B" (.ref t) ∧ Fld Z h x "java/lang/String" "coder" "B" (.int cd) ∧ Arv Z h t kb .byte N2 vs (.int (0 : Int32)) ∧ StrChars.Road.CodA ([c0, c1, c2] : List Int32) cd N2 vs
set_option maxRecDepth 65536 in
set_option maxHeartbeats 40000000 in
theorem rmSic3 (l : Launch) (Z : State) (a0 : Array Value) (hw : ∀ d ∈ tables_1, d.before a0 Z = true) (ws : List Jvm.Cond) (x b : Addr) (kb : ClassId) (c0 c1 c2 zc : Int32) (fm : Value) (h0 : Heap) (n0 : Nat) (Z0 : n0 ≤ h0.size) (O0 : Old Z n0 h0) (S_CS : Sta Z Z.heap "java/lang/String" "COMPACT_STRINGS" "Z" (.int zc)) (hzc : ¬ zc = 0) (S_FM : Sta Z Z.heap "jdk/internal/util/Preconditions" "SIOOBE_FORMATTER" "Ljava/util/function/BiFunction;" fm) (hfm : fm.isRef = true) (S_AD : Sta Z Z.heap "java/lang/StringUTF16" "$assertionsDisabled" "Z" (.int (1 : Int32))) (S_HI : Sta Z Z.heap "java/lang/StringUTF16" "HI_BYTE_SHIFT" "I" (.int (0 : Int32))) (S_LO : Sta Z Z.heap "java/lang/StringUTF16" "LO_BYTE_SHIFT" "I" (.int (8 : Int32))) (gx : n0 ≤ x) (Ex : Exa Z h0 x "java/lang/String") (Vx : Fld Z h0 x "java/lang/String" "value" "[B" .null) (Cx : Fld Z h0 x "java/lang/String" "coder" "B" (.int (0 : Int32))) (Vb : Arv Z h0 b kb .char (3 : Int32) [(.int c0), (.int c1), (.int c2)] (.int (0 : Int32))) (h_c0 : C16 c0) (h_c1 : C16 c1) (h_c2 : C16 c2) :
    OwnLaw l y6_ jdk_42_method_149_code 6 none ws (rR 4 2 9 57) #[(.ref x), (.ref b), (.int (0 : Int32)), (.int (3 : Int32)), .null] Z h0 (QSic3 Z x b kb c0 c1 c2 zc fm h0 n0) := by
  refine own_enter (plainFor_of_name pn_java_lang_String) (efSic3 x b) ?_
  intro p e s m below meth c s₁ Bd hx hby hml hZ hown X0 e0
  have hnm := (name_of_methodNamed Bd.named Bd.method).1
  have N0 := Fr.nil n0
  have K0 : Keep h0 h0 [] := Keep.refl _ _
  have K0 : Keep h0 h0 [x] := Keep.refl _ _
  refine P1.aloadN X0.here hx (hb hby d4_0) rfl rfl ?_
  obtain ⟨T452, X452, e452, st452⟩ := initO X0 hx hZ hown (own_w hw 20 rfl) (own_w hw 21 rfl) (own_w hw 22 rfl) e0 (g := (mkF m 1 #[.val (.ref x), .val (.ref b), .val (.int (0 : Int32)), .val (.int (3 : Int32)), .val .null, .unset] [(.ref x)])) rfl (by rw [hml]; rfl) rfl (hb hby d4_1) (by decide) (W := 0) (by show 2 * 0 + _ ≤ _; exact Nat.le_of_eq rfl) (by decide)
  refine Goes.step (T' := T452) (g' := (mkF m 4 #[.val (.ref x), .val (.ref b), .val (.int (0 : Int32)), .val (.int (3 : Int32)), .val .null, .unset] [])) st452 ?_
  refine P1.iloadN X452.here hx (hb hby d4_4) rfl ?_
  refine P1.ifYes X452.here hx 27 (hb hby d4_5) ((if0 _ _).trans (feq (by decide : ¬ ((3 : Int32) = (0 : Int32)))).2) (by decide) (by decide) ?_
  obtain ⟨T453, X453, e453, st453⟩ := getS2 X452 hx hZ hown (host := "") (Or.inl (own_w hw 45 rfl)) Via.refl e452 (S_CS.ext O0.2) (g := (mkF m 27 #[.val (.ref x), .val (.ref b), .val (.int (0 : Int32)), .val (.int (3 : Int32)), .val .null, .unset] [])) rfl (hb hby d4_27)
  refine Goes.step (T' := T453) (g' := (mkF m 30 #[.val (.ref x), .val (.ref b), .val (.int (0 : Int32)), .val (.int (3 : Int32)), .val .null, .unset] [(.int zc)])) st453 ?_
  refine P1.ifNo X453.here hx (hb hby d4_30) ((if0 _ _).trans (feq (hzc : ¬ (zc = (0 : Int32)))).1) ?_
  refine P1.aloadN X453.here hx (hb hby d4_33) rfl rfl ?_
  refine P1.iloadN X453.here hx (hb hby d4_34) rfl ?_
  refine P1.iloadN X453.here hx (hb hby d4_35) rfl ?_
  refine P1.callS X453 hx hZ hown (own_w hw 46 rfl) (own_w hw 47 rfl) (own_w hw 48 rfl) (own_w hw 49 rfl) (by decide) (rmCm3 l Z a0 hw [] b kb c0 c1 c2 zc fm h0 n0 Z0 O0 S_CS hzc S_FM hfm S_AD S_HI S_LO Vb h_c0 h_c1 h_c2) hml [(.ref b), (.int (0 : Int32)), (.int (3 : Int32))] [] (lenOf pd_2491 rfl) rfl rfl (hb hby d4_36) rfl e453 (ok rfl) (ok rfl) (ok rfl) (ok rfl) ?_
  intro v454 T454 L454 q454 X454
  obtain ⟨r454, kr454, rfl, N454q, K454, szr454, q454⟩ := q454
  have ge_r454 : n0 ≤ r454 := Nat.le_trans Z0 szr454
  have sz_r454 : h0.size ≤ r454 := Nat.le_trans K0.1 szr454
  have N454 := Fr.app N0 N454q
  rcases q454 with ⟨hall454, g454V⟩ | ⟨hsome454, g454V⟩
  ·
    show Goes p e below _ T454 (mkF m 39 #[.val (.ref x), .val (.ref b), .val (.int (0 : Int32)), .val (.int (3 : Int32)), .val .null, .unset] [(.ref r454)])
    refine P1.astore X454.here hx #[.val (.ref x), .val (.ref b), .val (.int (0 : Int32)), .val (.int (3 : Int32)), .val .null, .val (.ref r454)] (hb hby d4_39) rfl rfl ?_
    refine P1.aloadN X454.here hx (hb hby d4_41) rfl rfl ?_
    refine P1.aload X454.here hx (hb hby d4_42) rfl rfl ?_
    refine P1.iloadN X454.here hx (hb hby d4_44) rfl ?_
    have Z455 : n0 ≤ T454.heap.size := Nat.le_trans Z0 K454.1
    have O456 : Old Z n0 T454.heap := O0.keep K454 all0
    refine P1.callS X454 hx hZ hown (own_w hw 53 rfl) (own_w hw 54 rfl) (own_w hw 48 rfl) (own_w hw 55 rfl) (by decide) (rmCf3_3 l Z a0 hw [] r454 kr454 [(.int (StrChars.lo8 c0)), (.int (StrChars.lo8 c1)), (.int (StrChars.lo8 c2))] T454.heap n0 Z455 O456 g454V) hml [(.ref r454), (.int (3 : Int32))] [(.ref x)] (lenOf pd_1313 rfl) rfl rfl (hb hby d4_45) rfl rfl (ok rfl) (ok rfl) (ok rfl) (ok rfl) ?_
    intro v457 T457 L457 q457 X457
    obtain ⟨rfl, N457q, hE457⟩ := q457
    have N457 := Fr.app N454 N457q
    show Goes p e below _ T457 (mkF m 48 #[.val (.ref x), .val (.ref b), .val (.int (0 : Int32)), .val (.int (3 : Int32)), .val .null, .val (.ref r454)] [(.int (0 : Int32)), (.ref x)])
    have F458 : Fld Z T454.heap x "java/lang/String" "coder" "B" (.int (0 : Int32)) := Cx.keep K454 nin0
    have E459 : Exa Z T454.heap x "java/lang/String" := Ex.keep K454
    obtain ⟨T460, h460, X460, e460, W460, st460⟩ := putFN X457 hx hZ hown (own_w hw 30 rfl) Via.refl hE457 F458 E459 (Or.inr ⟨(own_w hw 26 rfl), rfl, hnm⟩) (own_w hw 10 rfl) (ty := .byte) (v' := (.int (0 : Int32))) (by decide) rfl (by decide) (g := (mkF m 48 #[.val (.ref x), .val (.ref b), .val (.int (0 : Int32)), .val (.int (3 : Int32)), .val .null, .val (.ref r454)] [(.int (0 : Int32)), (.ref x)])) rfl rfl (hb hby d4_48)
    have Fw460 : Fld Z h460 x "java/lang/String" "coder" "B" (.int (0 : Int32)) := F458.same W460
    have N460 := Fr.snoc X460 N457 gx
    refine Goes.step (T' := T460) (g' := (mkF m 51 #[.val (.ref x), .val (.ref b), .val (.int (0 : Int32)), .val (.int (3 : Int32)), .val .null, .val (.ref r454)] [])) st460 ?_
    refine P1.aloadN X460.here hx (hb hby d4_51) rfl rfl ?_
    refine P1.aload X460.here hx (hb hby d4_52) rfl rfl ?_
    have F461 : Fld Z T454.heap x "java/lang/String" "value" "[B" .null := Vx.keep K454 nin0
    have F462 : Fld Z h460 x "java/lang/String" "value" "[B" .null := F461.other W460 (Or.inr (slot_ne (Or.inr (own_w hw 25 rfl)) (Or.inr (own_w hw 26 rfl)) (by decide) (t := (.array .byte)) (t' := .byte) (by decide) (by decide)))
    have E463 : Exa Z h460 x "java/lang/String" := E459.wr W460
    obtain ⟨T464, h464, X464, e464, W464, st464⟩ := putF X460 hx hZ hown (host := "") (Or.inl (own_w hw 29 rfl)) Via.refl e460 F462 E463 (Or.inr ⟨(own_w hw 25 rfl), rfl, hnm⟩) (own_w hw 10 rfl) (ty := (.array .byte)) (by decide) rfl rfl (g := (mkF m 54 #[.val (.ref x), .val (.ref b), .val (.int (0 : Int32)), .val (.int (3 : Int32)), .val .null, .val (.ref r454)] [(.ref r454), (.ref x)])) rfl rfl (hb hby d4_54)
    have Fw464 : Fld Z h464 x "java/lang/String" "value" "[B" (.ref r454) := F462.same W464
    have N464 := Fr.snoc X464 N460 gx
    refine Goes.step (T' := T464) (g' := (mkF m 57 #[.val (.ref x), .val (.ref b), .val (.int (0 : Int32)), .val (.int (3 : Int32)), .val .null, .val (.ref r454)] [])) st464 ?_
    refine Goes.retV X464 hx Bd.notSynchronized Bd.returns (hb hby d4_57) (ok rfl) (ok rfl) ?_
    rw [e464]
    have K465 : Keep h0 T454.heap [x] := K0.trans K454 all0
    have K466 : Keep h0 h460 [x] := K465.wr W460 (Or.inl (by simp))
    have K467 : Keep h0 h464 [x] := K466.wr W464 (Or.inl (by simp))
    have E468 : Exa Z h464 x "java/lang/String" := E463.wr W464
    have F469 : Fld Z h464 x "java/lang/String" "coder" "B" (.int (0 : Int32)) := Fw460.other W464 (Or.inr (slot_ne (Or.inr (own_w hw 26 rfl)) (Or.inr (own_w hw 25 rfl)) (by decide) (t := .byte) (t' := (.array .byte)) (by decide) (by decide)))
    have ne470 : x ≠ r454 := Nat.ne_of_lt (Nat.lt_of_lt_of_le Ex.lt szr454)
    have V471 : Arv Z h460 r454 kr454 .byte (3 : Int32) [(.int (StrChars.lo8 c0)), (.int (StrChars.lo8 c1)), (.int (StrChars.lo8 c2))] (.int (0 : Int32)) := g454V.other W460 (Ne.symm ne470)
    have V472 : Arv Z h464 r454 kr454 .byte (3 : Int32) [(.int (StrChars.lo8 c0)), (.int (StrChars.lo8 c1)), (.int (StrChars.lo8 c2))] (.int (0 : Int32)) := V471.other W464 (Ne.symm ne470)
    exact ⟨rfl, N464, K467, E468, r454, kr454, (0 : Int32), (3 : Int32), [(.int (StrChars.lo8 c0)), (.int (StrChars.lo8 c1)), (.int (StrChars.lo8 c2))], Fw464, F469, V472, (Or.inl ⟨rfl, rfl, rfl, hall454⟩)⟩
  ·
    show Goes p e below _ T454 (mkF m 39 #[.val (.ref x), .val (.ref b), .val (.int (0 : Int32)), .val (.int (3 : Int32)), .val .null, .unset] [(.ref r454)])
    refine P1.astore X454.here hx #[.val (.ref x), .val (.ref b), .val (.int (0 : Int32)), .val (.int (3 : Int32)), .val .null, .val (.ref r454)] (hb hby d4_39) rfl rfl ?_
    refine P1.aloadN X454.here hx (hb hby d4_41) rfl rfl ?_
    refine P1.aload X454.here hx (hb hby d4_42) rfl rfl ?_
    refine P1.iloadN X454.here hx (hb hby d4_44) rfl ?_
    have Z473 : n0 ≤ T454.heap.size := Nat.le_trans Z0 K454.1
    have O474 : Old Z n0 T454.heap := O0.keep K454 all0
    refine P1.callS X454 hx hZ hown (own_w hw 53 rfl) (own_w hw 54 rfl) (own_w hw 48 rfl) (own_w hw 55 rfl) (by decide) (rmCf3_6 l Z a0 hw [] r454 kr454 [(.int (StrChars.lo8 c0)), (.int (StrChars.hi8 c0)), (.int (StrChars.lo8 c1)), (.int (StrChars.hi8 c1)), (.int (StrChars.lo8 c2)), (.int (StrChars.hi8 c2))] T454.heap n0 Z473 O474 g454V) hml [(.ref r454), (.int (3 : Int32))] [(.ref x)] (lenOf pd_1313 rfl) rfl rfl (hb hby d4_45) rfl rfl (ok rfl) (ok rfl) (ok rfl) (ok rfl) ?_
    intro v475 T475 L475 q475 X475
    obtain ⟨rfl, N475q, hE475⟩ := q475
    have N475 := Fr.app N454 N475q
    show Goes p e below _ T475 (mkF m 48 #[.val (.ref x), .val (.ref b), .val (.int (0 : Int32)), .val (.int (3 : Int32)), .val .null, .val (.ref r454)] [(.int (1 : Int32)), (.ref x)])
    have F476 : Fld Z T454.heap x "java/lang/String" "coder" "B" (.int (0 : Int32)) := Cx.keep K454 nin0
    have E477 : Exa Z T454.heap x "java/lang/String" := Ex.keep K454
    obtain ⟨T478, h478, X478, e478, W478, st478⟩ := putFN X475 hx hZ hown (own_w hw 30 rfl) Via.refl hE475 F476 E477 (Or.inr ⟨(own_w hw 26 rfl), rfl, hnm⟩) (own_w hw 10 rfl) (ty := .byte) (v' := (.int (1 : Int32))) (by decide) rfl (by decide) (g := (mkF m 48 #[.val (.ref x), .val (.ref b), .val (.int (0 : Int32)), .val (.int (3 : Int32)), .val .null, .val (.ref r454)] [(.int (1 : Int32)), (.ref x)])) rfl rfl (hb hby d4_48)
    have Fw478 : Fld Z h478 x "java/lang/String" "coder" "B" (.int (1 : Int32)) := F476.same W478
    have N478 := Fr.snoc X478 N475 gx
    refine Goes.step (T' := T478) (g' := (mkF m 51 #[.val (.ref x), .val (.ref b), .val (.int (0 : Int32)), .val (.int (3 : Int32)), .val .null, .val (.ref r454)] [])) st478 ?_
    refine P1.aloadN X478.here hx (hb hby d4_51) rfl rfl ?_
    refine P1.aload X478.here hx (hb hby d4_52) rfl rfl ?_
    have F479 : Fld Z T454.heap x "java/lang/String" "value" "[B" .null := Vx.keep K454 nin0
    have F480 : Fld Z h478 x "java/lang/String" "value" "[B" .null := F479.other W478 (Or.inr (slot_ne (Or.inr (own_w hw 25 rfl)) (Or.inr (own_w hw 26 rfl)) (by decide) (t := (.array .byte)) (t' := .byte) (by decide) (by decide)))
    have E481 : Exa Z h478 x "java/lang/String" := E477.wr W478
    obtain ⟨T482, h482, X482, e482, W482, st482⟩ := putF X478 hx hZ hown (host := "") (Or.inl (own_w hw 29 rfl)) Via.refl e478 F480 E481 (Or.inr ⟨(own_w hw 25 rfl), rfl, hnm⟩) (own_w hw 10 rfl) (ty := (.array .byte)) (by decide) rfl rfl (g := (mkF m 54 #[.val (.ref x), .val (.ref b), .val (.int (0 : Int32)), .val (.int (3 : Int32)), .val .null, .val (.ref r454)] [(.ref r454), (.ref x)])) rfl rfl (hb hby d4_54)
    have Fw482 : Fld Z h482 x "java/lang/String" "value" "[B" (.ref r454) := F480.same W482
    have N482 := Fr.snoc X482 N478 gx
    refine Goes.step (T' := T482) (g' := (mkF m 57 #[.val (.ref x), .val (.ref b), .val (.int (0 : Int32)), .val (.int (3 : Int32)), .val .null, .val (.ref r454)] [])) st482 ?_
    refine Goes.retV X482 hx Bd.notSynchronized Bd.returns (hb hby d4_57) (ok rfl) (ok rfl) ?_
    rw [e482]
    have K483 : Keep h0 T454.heap [x] := K0.trans K454 all0
    have K484 : Keep h0 h478 [x] := K483.wr W478 (Or.inl (by simp))
    have K485 : Keep h0 h482 [x] := K484.wr W482 (Or.inl (by simp))
    have E486 : Exa Z h482 x "java/lang/String" := E481.wr W482
    have F487 : Fld Z h482 x "java/lang/String" "coder" "B" (.int (1 : Int32)) := Fw478.other W482 (Or.inr (slot_ne (Or.inr (own_w hw 26 rfl)) (Or.inr (own_w hw 25 rfl)) (by decide) (t := .byte) (t' := (.array .byte)) (by decide) (by decide)))
    have ne488 : x ≠ r454 := Nat.ne_of_lt (Nat.lt_of_lt_of_le Ex.lt szr454)
    have V489 : Arv Z h478 r454 kr454 .byte (6 : Int32) [(.int (StrChars.lo8 c0)), (.int (StrChars.hi8 c0)), (.int (StrChars.lo8 c1)), (.int (StrChars.hi8 c1)), (.int (StrChars.lo8 c2)), (.int (StrChars.hi8 c2))] (.int (0 : Int32)) := g454V.other W478 (Ne.symm ne488)
    have V490 : Arv Z h482 r454 kr454 .byte (6 : Int32) [(.int (StrChars.lo8 c0)), (.int (StrChars.hi8 c0)), (.int (StrChars.lo8 c1)), (.int (StrChars.hi8 c1)), (.int (StrChars.lo8 c2)), (.int (StrChars.hi8 c2))] (.int (0 : Int32)) := V489.other W482 (Ne.symm ne488)
    exact ⟨rfl, N482, K485, E486, r454, kr454, (1 : Int32), (6 : Int32), [(.int (StrChars.lo8 c0)), (.int (StrChars.hi8 c0)), (.int (StrChars.lo8 c1)), (.int (StrChars.hi8 c1)), (.int (StrChars.lo8 c2)), (.int (StrChars.hi8 c2))], Fw482, F487, V490, (Or.inr ⟨rfl, rfl, rfl, hsome454⟩)⟩
theorem efSi3 (x b : Addr) (m : MethodId) : entryFrame m #[(.ref x), (.ref b)] 2 = mkF m 0 #[.val (.ref x), .val (.ref b)] [] := by first | (simp [entryFrame, mkF, argsToLocals, Value.category]; done) | rfl
def QSi3 (Z : State) (x b : Addr) (kb : ClassId) (c0 c1 c2 zc : Int32) (fm : Value) (h0 : Heap) (n0 : Nat) (v : Option Value) (h : Heap) (L : List Loc) : Prop := v = none ∧ Fr n0 L ∧ Keep h0 h [x] ∧ Exa Z h x "java/lang/String" ∧ ∃ t kb cd N2 vs, Fld Z h x "java/lang/String" "value" "[B" (.ref t) ∧ Fld Z h x "java/lang/String" "coder" "B" (.int cd) ∧ Arv Z h t kb .byte N2 vs (.int (0 : Int32)) ∧ StrChars.Road.CodA ([c0, c1, c2] : List Int32) cd N2 vs
set_option maxRecDepth 65536 in
set_option maxHeartbeats 40000000 in
theorem rmSi3 (l : Launch) (Z : State) (a0 : Array Value) (hw : ∀ d ∈ tables_1, d.before a0 Z = true) (ws : List Jvm.Cond) (x b : Addr) (kb : ClassId) (c0 c1 c2 zc : Int32) (fm : Value) (h0 : Heap) (n0 : Nat) (Z0 : n0 ≤ h0.size) (O0 : Old Z n0 h0) (S_CS : Sta Z Z.heap "java/lang/String" "COMPACT_STRINGS" "Z" (.int zc)) (hzc : ¬ zc = 0) (S_FM : Sta Z Z.heap "jdk/internal/util/Preconditions" "SIOOBE_FORMATTER" "Ljava/util/function/BiFunction;" fm) (hfm : fm.isRef = true) (S_AD : Sta Z Z.heap "java/lang/StringUTF16" "$assertionsDisabled" "Z" (.int (1 : Int32))) (S_HI : Sta Z Z.heap "java/lang/StringUTF16" "HI_BYTE_SHIFT" "I" (.int (0 : Int32))) (S_LO : Sta Z Z.heap "java/lang/StringUTF16" "LO_BYTE_SHIFT" "I" (.int (8 : Int32))) (gx : n0 ≤ x) (Ex : Exa Z h0 x "java/lang/String") (Vx : Fld Z h0 x "java/lang/String" "value" "[B" .null) (Cx : Fld Z h0 x "java/lang/String" "coder" "B" (.int (0 : Int32))) (Vb : Arv Z h0 b kb .char (3 : Int32) [(.int c0), (.int c1), (.int c2)] (.int (0 : Int32))) (h_c0 : C16 c0) (h_c1 : C16 c1) (h_c2 : C16 c2) :
    OwnLaw l y5_ jdk_42_method_3_code 2 none ws (rR 5 2 9 74) #[(.ref x), (.ref b)] Z h0 (QSi3 Z x b kb c0 c1 c2 zc fm h0 n0) := by
  refine own_enter (plainFor_of_name pn_java_lang_String) (efSi3 x b) ?_
  intro p e s m below meth c s₁ Bd hx hby hml hZ hown X0 e0
  have N0 := Fr.nil n0
  have K0 : Keep h0 h0 [] := Keep.refl _ _
  have K0 : Keep h0 h0 [x] := Keep.refl _ _
  refine P1.aloadN X0.here hx (hb hby d3_0) rfl rfl ?_
  refine P1.aloadN X0.here hx (hb hby d3_1) rfl rfl ?_
  refine P1.iconst X0.here hx (0 : Int32) (hb hby d3_2) rfl ?_
  refine P1.aloadN X0.here hx (hb hby d3_3) rfl rfl ?_
  obtain ⟨cl491, Ar491, qk491, sl491, nz491, ha491, fi491⟩ := id Vb
  have al492 : cl491.slots.size.toInt32 = (3 : Int32) := len_of sl491 nz491
  refine Goes.step (T' := s₁) (g' := (mkF m 5 #[.val (.ref x), .val (.ref b)] [(.int (3 : Int32)), (.int (0 : Int32)), (.ref b), (.ref x)])) (fun t_ k_ => X0.arraylength hx (by rw [e0]; exact Ar491.1) (State.isArrayOf_alike hZ.alike Ar491.2.1) (g := (mkF m 4 #[.val (.ref x), .val (.ref b)] [(.ref b), (.int (0 : Int32)), (.ref b), (.ref x)])) rfl rfl (hb hby d3_4) _ <| by rw [al492]; exact k_) ?_
  refine P1.aconstNull X0.here hx (hb hby d3_5) ?_
  refine Goes.callC X0 hx (y := y6_) rfl hown (mvT hZ (own_w hw 16 rfl)) (mvT hZ (own_w hw 17 rfl)) (mvT hZ (own_w hw 19 rfl)) (by decide) (kc' := 2) (ks' := 9) (backOf (W := 0) (rmSic3 l Z a0 hw [] x b kb c0 c1 c2 zc fm h0 n0 Z0 O0 S_CS hzc S_FM hfm S_AD S_HI S_LO gx Ex Vx Cx Vb h_c0 h_c1 h_c2) hZ (own_w hw 19 rfl) (own_w hw 11 rfl) (ok rfl) (ok rfl)) (g := (mkF m 6 #[.val (.ref x), .val (.ref b)] [.null, (.int (3 : Int32)), (.int (0 : Int32)), (.ref b), (.ref x)])) (a := x) rfl (by rw [hml]; rfl) (argsL := [(.ref b), (.int (0 : Int32)), (.int (3 : Int32)), .null]) (rest := []) (lenOf pd_23571 rfl) rfl (by show 2 * 0 + _ ≤ _; exact Nat.le_of_eq rfl) (hb hby d3_6) rfl e0 (ok rfl) (ok rfl) ?_
  intro v493 T493 L493 q493 X493
  obtain ⟨rfl, N493q, K493, g493E, t493, kb493, cd493, N2493, vs493, g493v, g493c, g493V, g493O⟩ := q493
  have N493 := Fr.app N0 N493q
  show Goes p e below _ T493 (mkF m 9 #[.val (.ref x), .val (.ref b)] [])
  refine Goes.retV X493 hx Bd.notSynchronized Bd.returns (hb hby d3_9) (ok rfl) (ok rfl) ?_
  have K494 : Keep h0 T493.heap [x] := K0.trans K493 (allS (Or.inl (by simp)) all0)
  exact ⟨rfl, N493, K494, g493E, t493, kb493, cd493, N2493, vs493, g493v, g493c, g493V, g493O⟩
theorem d2_0 : decode method_3_code 0 = .ok (.iload_n 0, 1) := by decide +kernel
theorem d2_1 : decode method_3_code 1 = .ok (.ifCond .gt 14, 3) := by decide +kernel
theorem d2_4 : decode method_3_code 4 = .ok (.new 10, 3) := by decide +kernel
theorem d2_7 : decode method_3_code 7 = .ok (.dup, 1) := by decide +kernel
theorem d2_8 : decode method_3_code 8 = .ok (.iconst 0, 1) := by decide +kernel
theorem d2_9 : decode method_3_code 9 = .ok (.newarray .char, 2) := by decide +kernel
theorem d2_11 : decode method_3_code 11 = .ok (.invokespecial 12, 3) := by decide +kernel
theorem d2_14 : decode method_3_code 14 = .ok (.areturn, 1) := by decide +kernel
theorem d2_15 : decode method_3_code 15 = .ok (.iload_n 0, 1) := by decide +kernel
theorem d2_16 : decode method_3_code 16 = .ok (.iconst 1, 1) := by decide +kernel
theorem d2_17 : decode method_3_code 17 = .ok (.if_icmp .ne 18, 3) := by decide +kernel
theorem d2_20 : decode method_3_code 20 = .ok (.new 10, 3) := by decide +kernel
theorem d2_23 : decode method_3_code 23 = .ok (.dup, 1) := by decide +kernel
theorem d2_24 : decode method_3_code 24 = .ok (.iconst 1, 1) := by decide +kernel
theorem d2_25 : decode method_3_code 25 = .ok (.newarray .char, 2) := by decide +kernel
theorem d2_27 : decode method_3_code 27 = .ok (.dup, 1) := by decide +kernel
theorem d2_28 : decode method_3_code 28 = .ok (.iconst 0, 1) := by decide +kernel
theorem d2_29 : decode method_3_code 29 = .ok (.iload_n 1, 1) := by decide +kernel
theorem d2_30 : decode method_3_code 30 = .ok (.castore, 1) := by decide +kernel
theorem d2_31 : decode method_3_code 31 = .ok (.invokespecial 12, 3) := by decide +kernel
theorem d2_34 : decode method_3_code 34 = .ok (.areturn, 1) := by decide +kernel
theorem d2_35 : decode method_3_code 35 = .ok (.iload_n 0, 1) := by decide +kernel
theorem d2_36 : decode method_3_code 36 = .ok (.iconst 2, 1) := by decide +kernel
theorem d2_37 : decode method_3_code 37 = .ok (.if_icmp .ne 22, 3) := by decide +kernel
theorem d2_40 : decode method_3_code 40 = .ok (.new 10, 3) := by decide +kernel
theorem d2_43 : decode method_3_code 43 = .ok (.dup, 1) := by decide +kernel
theorem d2_44 : decode method_3_code 44 = .ok (.iconst 2, 1) := by decide +kernel
theorem d2_45 : decode method_3_code 45 = .ok (.newarray .char, 2) := by decide +kernel
theorem d2_47 : decode method_3_code 47 = .ok (.dup, 1) := by decide +kernel
theorem d2_48 : decode method_3_code 48 = .ok (.iconst 0, 1) := by decide +kernel
theorem d2_49 : decode method_3_code 49 = .ok (.iload_n 1, 1) := by decide +kernel
theorem d2_50 : decode method_3_code 50 = .ok (.castore, 1) := by decide +kernel
theorem d2_51 : decode method_3_code 51 = .ok (.dup, 1) := by decide +kernel
theorem d2_52 : decode method_3_code 52 = .ok (.iconst 1, 1) := by decide +kernel
theorem d2_53 : decode method_3_code 53 = .ok (.iload_n 2, 1) := by decide +kernel
theorem d2_54 : decode method_3_code 54 = .ok (.castore, 1) := by decide +kernel
theorem d2_55 : decode method_3_code 55 = .ok (.invokespecial 12, 3) := by decide +kernel
theorem d2_58 : decode method_3_code 58 = .ok (.areturn, 1) := by decide +kernel
theorem d2_59 : decode method_3_code 59 = .ok (.new 10, 3) := by decide +kernel
theorem d2_62 : decode method_3_code 62 = .ok (.dup, 1) := by decide +kernel
theorem d2_63 : decode method_3_code 63 = .ok (.iconst 3, 1) := by decide +kernel
theorem d2_64 : decode method_3_code 64 = .ok (.newarray .char, 2) := by decide +kernel
theorem d2_66 : decode method_3_code 66 = .ok (.dup, 1) := by decide +kernel
theorem d2_67 : decode method_3_code 67 = .ok (.iconst 0, 1) := by decide +kernel
theorem d2_68 : decode method_3_code 68 = .ok (.iload_n 1, 1) := by decide +kernel
theorem d2_69 : decode method_3_code 69 = .ok (.castore, 1) := by decide +kernel
theorem d2_70 : decode method_3_code 70 = .ok (.dup, 1) := by decide +kernel
theorem d2_71 : decode method_3_code 71 = .ok (.iconst 1, 1) := by decide +kernel
theorem d2_72 : decode method_3_code 72 = .ok (.iload_n 2, 1) := by decide +kernel
theorem d2_73 : decode method_3_code 73 = .ok (.castore, 1) := by decide +kernel
theorem d2_74 : decode method_3_code 74 = .ok (.dup, 1) := by decide +kernel
theorem d2_75 : decode method_3_code 75 = .ok (.iconst 2, 1) := by decide +kernel
theorem d2_76 : decode method_3_code 76 = .ok (.iload_n 3, 1) := by decide +kernel
theorem d2_77 : decode method_3_code 77 = .ok (.castore, 1) := by decide +kernel
theorem d2_78 : decode method_3_code 78 = .ok (.invokespecial 12, 3) := by decide +kernel
theorem d2_81 : decode method_3_code 81 = .ok (.areturn, 1) := by decide +kernel
theorem pd_1017 : parseMethodDescriptor "([C)V" = some ⟨[(.array .char)], none⟩ := by decide +kernel
theorem efMk1 (q0 q1 q2 : Int32) (m : MethodId) : entryFrame m #[(.int (1 : Int32)), (.int q0), (.int q1), (.int q2)] 4 = mkF m 0 #[.val (.int (1 : Int32)), .val (.int q0), .val (.int q1), .val (.int q2)] [] := by first | (simp [entryFrame, mkF, argsToLocals, Value.category]; done) | rfl
def QMk1 (Z : State) (q0 q1 q2 zc : Int32) (fm : Value) (h0 : Heap) (n0 : Nat) (v : Option Value) (h : Heap) (L : List Loc) : Prop := ∃ x, v = some (.ref x) ∧ Fr n0 L ∧ Keep h0 h [] ∧ Exa Z h x "java/lang/String" ∧ ∃ t kb cd N2 vs, Fld Z h x "java/lang/String" "value" "[B" (.ref t) ∧ Fld Z h x "java/lang/String" "coder" "B" (.int cd) ∧ Arv Z h t kb .byte N2 vs (.int (0 : Int32)) ∧ StrChars.Road.CodA ([q0] : List Int32) cd N2 vs
set_option maxRecDepth 65536 in
set_option maxHeartbeats 40000000 in
theorem rmMk1 (l : Launch) (Z : State) (a0 : Array Value) (hw : ∀ d ∈ tables_1, d.before a0 Z = true) (ws : List Jvm.Cond) (q0 q1 q2 zc : Int32) (fm : Value) (h0 : Heap) (n0 : Nat) (Z0 : n0 ≤ h0.size) (O0 : Old Z n0 h0) (S_CS : Sta Z Z.heap "java/lang/String" "COMPACT_STRINGS" "Z" (.int zc)) (hzc : ¬ zc = 0) (S_FM : Sta Z Z.heap "jdk/internal/util/Preconditions" "SIOOBE_FORMATTER" "Ljava/util/function/BiFunction;" fm) (hfm : fm.isRef = true) (S_AD : Sta Z Z.heap "java/lang/StringUTF16" "$assertionsDisabled" "Z" (.int (1 : Int32))) (S_HI : Sta Z Z.heap "java/lang/StringUTF16" "HI_BYTE_SHIFT" "I" (.int (0 : Int32))) (S_LO : Sta Z Z.heap "java/lang/StringUTF16" "LO_BYTE_SHIFT" "I" (.int (8 : Int32))) (h_q0 : C16 q0) (h_q1 : C16 q1) (h_q2 : C16 q2) :
    OwnLaw l y2_ method_3_code 4 (some (.object "java/lang/String")) ws (rR 6 4 8 88) #[(.int (1 : Int32)), (.int q0), (.int q1), (.int q2)] Z h0 (QMk1 Z q0 q1 q2 zc fm h0 n0) := by
  refine own_enter (plainFor_of_name pn_com_example_epaulet_epaulet_io_InputFilesWithoutByteOrderMarkPinLaw) (efMk1 q0 q1 q2) ?_
  intro p e s m below meth c s₁ Bd hx hby hml hZ hown X0 e0
  have N0 := Fr.nil n0
  have K0 : Keep h0 h0 [] := Keep.refl _ _
  refine P1.iloadN X0.here hx (hb hby d2_0) rfl ?_
  refine P1.ifYes X0.here hx 15 (hb hby d2_1) ((if0 _ _).trans (tlt (by decide : (0 : Int32) < (1 : Int32))).2.2.1) (by decide) (by decide) ?_
  refine P1.iloadN X0.here hx (hb hby d2_15) rfl ?_
  refine P1.iconst X0.here hx (1 : Int32) (hb hby d2_16) rfl ?_
  refine P1.icmpNo X0.here hx (hb hby d2_17) (teq (by decide : (1 : Int32) = (1 : Int32))).2 ?_
  obtain ⟨T495, h495, X495, e495, E495, A495, D495, -, st495⟩ := newO X0 hx hZ hown (own_w hw 9 rfl) (own_w hw 10 rfl) (own_w hw 11 rfl) e0 (g := (mkF m 20 #[.val (.int (1 : Int32)), .val (.int q0), .val (.int q1), .val (.int q2)] [])) rfl (hb hby d2_20) (ok rfl) (ok rfl)
  obtain ⟨b495, g495⟩ : ∃ z, z = h0.size := ⟨_, rfl⟩
  rw [← g495] at A495 D495 st495
  have ge_b495 : n0 ≤ b495 := Nat.le_trans Z0 (Nat.le_of_eq g495.symm)
  have sz_b495 : h0.size ≤ b495 := Nat.le_trans K0.1 (Nat.le_of_eq g495.symm)
  have F495_value : Fld Z h495 b495 "java/lang/String" "value" "[B" .null := D495 (Or.inr (own_w hw 25 rfl)) (ty := (.array .byte)) (by decide)
  have F495_coder : Fld Z h495 b495 "java/lang/String" "coder" "B" (.int (0 : Int32)) := D495 (Or.inr (own_w hw 26 rfl)) (ty := .byte) (by decide)
  refine Goes.step (T' := T495) (g' := (mkF m 23 #[.val (.int (1 : Int32)), .val (.int q0), .val (.int q1), .val (.int q2)] [(.ref b495)])) st495 ?_
  refine P1.dup X495.here hx (hb hby d2_23) rfl ?_
  refine P1.iconst X495.here hx (1 : Int32) (hb hby d2_24) rfl ?_
  obtain ⟨T496, h496, k496, X496, e496, E496, A496, st496⟩ := newP X495 hx hZ (own_w hw 12 rfl) e495 (g := (mkF m 25 #[.val (.int (1 : Int32)), .val (.int q0), .val (.int q1), .val (.int q2)] [(.int (1 : Int32)), (.ref b495), (.ref b495)])) rfl (hb hby d2_25) rfl (by decide) (cap := 1) (ok rfl) (ok rfl) (ok rfl) (ok rfl)
  have Z497 : n0 ≤ h495.size := Nat.le_trans Z0 E495.1
  have K498 : Keep h0 h495 [] := K0.ext E495
  obtain ⟨b496, g496⟩ : ∃ z, z = h495.size := ⟨_, rfl⟩
  rw [← g496] at A496 st496
  have ge_b496 : n0 ≤ b496 := Nat.le_trans Z497 (Nat.le_of_eq g496.symm)
  have sz_b496 : h0.size ≤ b496 := Nat.le_trans K498.1 (Nat.le_of_eq g496.symm)
  have V496 : Arv Z h496 b496 k496 .char (1 : Int32) [(.int (0 : Int32))] (.int (0 : Int32)) := (Arv.new A496 (by decide)).pad (pad_rep [] (.int (0 : Int32)) 1)
  refine Goes.step (T' := T496) (g' := (mkF m 27 #[.val (.int (1 : Int32)), .val (.int q0), .val (.int q1), .val (.int q2)] [(.ref b496), (.ref b495), (.ref b495)])) st496 ?_
  refine P1.dup X496.here hx (hb hby d2_27) rfl ?_
  refine P1.iconst X496.here hx (0 : Int32) (hb hby d2_28) rfl ?_
  refine P1.iloadN X496.here hx (hb hby d2_29) rfl ?_
  obtain ⟨cl499, Ar499, qk499, sl499, nz499, ha499, fi499⟩ := id V496
  obtain ⟨T500, h500, X500, e500, W500, st500⟩ := stC X496 hx hZ e496 Ar499 (j := (0 : Int32)) (inb_of sl499 ⟨by decide, by decide⟩) (g := (mkF m 30 #[.val (.int (1 : Int32)), .val (.int q0), .val (.int q1), .val (.int q2)] [(.int q0), (.int (0 : Int32)), (.ref b496), (.ref b496), (.ref b495), (.ref b495)])) rfl rfl (hb hby d2_30)
  rw [h_q0.nc] at W500
  have V500 : Arv Z h500 b496 k496 .char (1 : Int32) [(.int q0)] (.int (0 : Int32)) := Arv.set Ar499 qk499 sl499 nz499 ha499 fi499 (h_q0.nc ▸ fits_nar_char q0) W500 0 rfl (ok rfl)
  have N500 := Fr.snoc X500 N0 ge_b496
  refine Goes.step (T' := T500) (g' := (mkF m 31 #[.val (.int (1 : Int32)), .val (.int q0), .val (.int q1), .val (.int q2)] [(.ref b496), (.ref b495), (.ref b495)])) st500 ?_
  have E501 : Exa Z h496 b495 "java/lang/String" := A495.ext E496
  have E502 : Exa Z h500 b495 "java/lang/String" := E501.wr W500
  have F503 : Fld Z h496 b495 "java/lang/String" "value" "[B" .null := F495_value.ext E496
  have ne504 : b495 ≠ b496 := Nat.ne_of_lt (Nat.lt_of_lt_of_le A495.lt (Nat.le_of_eq g496.symm))
  have F505 : Fld Z h500 b495 "java/lang/String" "value" "[B" .null := F503.other W500 (Or.inl ne504)
  have F506 : Fld Z h496 b495 "java/lang/String" "coder" "B" (.int (0 : Int32)) := F495_coder.ext E496
  have F507 : Fld Z h500 b495 "java/lang/String" "coder" "B" (.int (0 : Int32)) := F506.other W500 (Or.inl ne504)
  have Z508 : n0 ≤ h496.size := Nat.le_trans Z497 E496.1
  have Z509 : n0 ≤ h500.size := Nat.le_trans Z508 (Keep.of_wr W500).1
  have O510 : Old Z n0 h495 := O0.ext E495
  have O511 : Old Z n0 h496 := O510.ext E496
  have O512 : Old Z n0 h500 := O511.wr W500 ge_b496
  refine Goes.callC X500 hx (y := y5_) rfl hown (mvT hZ (own_w hw 13 rfl)) (mvT hZ (own_w hw 14 rfl)) (mvT hZ (own_w hw 15 rfl)) (by decide) (kc' := 2) (ks' := 3) (backOf (W := 1) (rmSi1 l Z a0 hw [] b495 b496 k496 q0 zc fm h500 n0 Z509 O512 S_CS hzc S_FM hfm S_AD S_HI S_LO ge_b495 E502 F505 F507 V500 h_q0) hZ (own_w hw 15 rfl) (own_w hw 11 rfl) (ok rfl) (ok rfl)) (g := (mkF m 31 #[.val (.int (1 : Int32)), .val (.int q0), .val (.int q1), .val (.int q2)] [(.ref b496), (.ref b495), (.ref b495)])) (a := b495) rfl (by rw [hml]; rfl) (argsL := [(.ref b496)]) (rest := [(.ref b495)]) (lenOf pd_1017 rfl) rfl (by show 2 * 0 + _ ≤ _; exact Nat.le_of_eq rfl) (hb hby d2_31) rfl e500 (ok rfl) (ok rfl) ?_
  intro v513 T513 L513 q513 X513
  obtain ⟨rfl, N513q, K513, g513E, t513, kb513, cd513, N2513, vs513, g513v, g513c, g513V, g513O⟩ := q513
  have N513 := Fr.app N500 N513q
  show Goes p e below _ T513 (mkF m 34 #[.val (.int (1 : Int32)), .val (.int q0), .val (.int q1), .val (.int q2)] [(.ref b495)])
  refine Goes.retA X513 hx Bd.notSynchronized Bd.returns rfl rfl (hb hby d2_34) (ok rfl) (ok rfl) ?_
  have K514 : Keep h0 h496 [] := K498.ext E496
  have K515 : Keep h0 h500 [] := K514.wr W500 (Or.inr sz_b496)
  have K516 : Keep h0 T513.heap [] := K515.trans K513 (allS (Or.inr sz_b495) all0)
  exact ⟨b495, rfl, N513, K516, g513E, t513, kb513, cd513, N2513, vs513, g513v, g513c, g513V, g513O⟩
theorem efMk2 (q0 q1 q2 : Int32) (m : MethodId) : entryFrame m #[(.int (2 : Int32)), (.int q0), (.int q1), (.int q2)] 4 = mkF m 0 #[.val (.int (2 : Int32)), .val (.int q0), .val (.int q1), .val (.int q2)] [] := by first | (simp [entryFrame, mkF, argsToLocals, Value.category]; done) | rfl
def QMk2 (Z : State) (q0 q1 q2 zc : Int32) (fm : Value) (h0 : Heap) (n0 : Nat) (v : Option Value) (h : Heap) (L : List Loc) : Prop := ∃ x, v = some (.ref x) ∧ Fr n0 L ∧ Keep h0 h [] ∧ Exa Z h x "java/lang/String" ∧ ∃ t kb cd N2 vs, Fld Z h x "java/lang/String" "value" "[B" (.ref t) ∧ Fld Z h x "java/lang/String" "coder" "B" (.int cd) ∧ Arv Z h t kb .byte N2 vs (.int (0 : Int32)) ∧ StrChars.Road.CodA ([q0, q1] : List Int32) cd N2 vs
set_option maxRecDepth 65536 in
set_option maxHeartbeats 40000000 in
theorem rmMk2 (l : Launch) (Z : State) (a0 : Array Value) (hw : ∀ d ∈ tables_1, d.before a0 Z = true) (ws : List Jvm.Cond) (q0 q1 q2 zc : Int32) (fm : Value) (h0 : Heap) (n0 : Nat) (Z0 : n0 ≤ h0.size) (O0 : Old Z n0 h0) (S_CS : Sta Z Z.heap "java/lang/String" "COMPACT_STRINGS" "Z" (.int zc)) (hzc : ¬ zc = 0) (S_FM : Sta Z Z.heap "jdk/internal/util/Preconditions" "SIOOBE_FORMATTER" "Ljava/util/function/BiFunction;" fm) (hfm : fm.isRef = true) (S_AD : Sta Z Z.heap "java/lang/StringUTF16" "$assertionsDisabled" "Z" (.int (1 : Int32))) (S_HI : Sta Z Z.heap "java/lang/StringUTF16" "HI_BYTE_SHIFT" "I" (.int (0 : Int32))) (S_LO : Sta Z Z.heap "java/lang/StringUTF16" "LO_BYTE_SHIFT" "I" (.int (8 : Int32))) (h_q0 : C16 q0) (h_q1 : C16 q1) (h_q2 : C16 q2) :
    OwnLaw l y2_ method_3_code 4 (some (.object "java/lang/String")) ws (rR 6 4 12 88) #[(.int (2 : Int32)), (.int q0), (.int q1), (.int q2)] Z h0 (QMk2 Z q0 q1 q2 zc fm h0 n0) := by
  refine own_enter (plainFor_of_name pn_com_example_epaulet_epaulet_io_InputFilesWithoutByteOrderMarkPinLaw) (efMk2 q0 q1 q2) ?_
  intro p e s m below meth c s₁ Bd hx hby hml hZ hown X0 e0
  have N0 := Fr.nil n0
  have K0 : Keep h0 h0 [] := Keep.refl _ _
  refine P1.iloadN X0.here hx (hb hby d2_0) rfl ?_
  refine P1.ifYes X0.here hx 15 (hb hby d2_1) ((if0 _ _).trans (tlt (by decide : (0 : Int32) < (2 : Int32))).2.2.1) (by decide) (by decide) ?_
  refine P1.iloadN X0.here hx (hb hby d2_15) rfl ?_
  refine P1.iconst X0.here hx (1 : Int32) (hb hby d2_16) rfl ?_
  refine P1.icmpYes X0.here hx 35 (hb hby d2_17) (feq (by decide : ¬ ((2 : Int32) = (1 : Int32)))).2 (by decide) (by decide) ?_
  refine P1.iloadN X0.here hx (hb hby d2_35) rfl ?_
  refine P1.iconst X0.here hx (2 : Int32) (hb hby d2_36) rfl ?_
  refine P1.icmpNo X0.here hx (hb hby d2_37) (teq (by decide : (2 : Int32) = (2 : Int32))).2 ?_
  obtain ⟨T517, h517, X517, e517, E517, A517, D517, -, st517⟩ := newO X0 hx hZ hown (own_w hw 9 rfl) (own_w hw 10 rfl) (own_w hw 11 rfl) e0 (g := (mkF m 40 #[.val (.int (2 : Int32)), .val (.int q0), .val (.int q1), .val (.int q2)] [])) rfl (hb hby d2_40) (ok rfl) (ok rfl)
  obtain ⟨b517, g517⟩ : ∃ z, z = h0.size := ⟨_, rfl⟩
  rw [← g517] at A517 D517 st517
  have ge_b517 : n0 ≤ b517 := Nat.le_trans Z0 (Nat.le_of_eq g517.symm)
  have sz_b517 : h0.size ≤ b517 := Nat.le_trans K0.1 (Nat.le_of_eq g517.symm)
  have F517_value : Fld Z h517 b517 "java/lang/String" "value" "[B" .null := D517 (Or.inr (own_w hw 25 rfl)) (ty := (.array .byte)) (by decide)
  have F517_coder : Fld Z h517 b517 "java/lang/String" "coder" "B" (.int (0 : Int32)) := D517 (Or.inr (own_w hw 26 rfl)) (ty := .byte) (by decide)
  refine Goes.step (T' := T517) (g' := (mkF m 43 #[.val (.int (2 : Int32)), .val (.int q0), .val (.int q1), .val (.int q2)] [(.ref b517)])) st517 ?_
  refine P1.dup X517.here hx (hb hby d2_43) rfl ?_
  refine P1.iconst X517.here hx (2 : Int32) (hb hby d2_44) rfl ?_
  obtain ⟨T518, h518, k518, X518, e518, E518, A518, st518⟩ := newP X517 hx hZ (own_w hw 12 rfl) e517 (g := (mkF m 45 #[.val (.int (2 : Int32)), .val (.int q0), .val (.int q1), .val (.int q2)] [(.int (2 : Int32)), (.ref b517), (.ref b517)])) rfl (hb hby d2_45) rfl (by decide) (cap := 2) (ok rfl) (ok rfl) (ok rfl) (ok rfl)
  have Z519 : n0 ≤ h517.size := Nat.le_trans Z0 E517.1
  have K520 : Keep h0 h517 [] := K0.ext E517
  obtain ⟨b518, g518⟩ : ∃ z, z = h517.size := ⟨_, rfl⟩
  rw [← g518] at A518 st518
  have ge_b518 : n0 ≤ b518 := Nat.le_trans Z519 (Nat.le_of_eq g518.symm)
  have sz_b518 : h0.size ≤ b518 := Nat.le_trans K520.1 (Nat.le_of_eq g518.symm)
  have V518 : Arv Z h518 b518 k518 .char (2 : Int32) [(.int (0 : Int32)), (.int (0 : Int32))] (.int (0 : Int32)) := (Arv.new A518 (by decide)).pad (pad_rep [] (.int (0 : Int32)) 2)
  refine Goes.step (T' := T518) (g' := (mkF m 47 #[.val (.int (2 : Int32)), .val (.int q0), .val (.int q1), .val (.int q2)] [(.ref b518), (.ref b517), (.ref b517)])) st518 ?_
  refine P1.dup X518.here hx (hb hby d2_47) rfl ?_
  refine P1.iconst X518.here hx (0 : Int32) (hb hby d2_48) rfl ?_
  refine P1.iloadN X518.here hx (hb hby d2_49) rfl ?_
  obtain ⟨cl521, Ar521, qk521, sl521, nz521, ha521, fi521⟩ := id V518
  obtain ⟨T522, h522, X522, e522, W522, st522⟩ := stC X518 hx hZ e518 Ar521 (j := (0 : Int32)) (inb_of sl521 ⟨by decide, by decide⟩) (g := (mkF m 50 #[.val (.int (2 : Int32)), .val (.int q0), .val (.int q1), .val (.int q2)] [(.int q0), (.int (0 : Int32)), (.ref b518), (.ref b518), (.ref b517), (.ref b517)])) rfl rfl (hb hby d2_50)
  rw [h_q0.nc] at W522
  have V522 : Arv Z h522 b518 k518 .char (2 : Int32) [(.int q0), (.int (0 : Int32))] (.int (0 : Int32)) := Arv.set Ar521 qk521 sl521 nz521 ha521 fi521 (h_q0.nc ▸ fits_nar_char q0) W522 0 rfl (ok rfl)
  have N522 := Fr.snoc X522 N0 ge_b518
  refine Goes.step (T' := T522) (g' := (mkF m 51 #[.val (.int (2 : Int32)), .val (.int q0), .val (.int q1), .val (.int q2)] [(.ref b518), (.ref b517), (.ref b517)])) st522 ?_
  refine P1.dup X522.here hx (hb hby d2_51) rfl ?_
  refine P1.iconst X522.here hx (1 : Int32) (hb hby d2_52) rfl ?_
  refine P1.iloadN X522.here hx (hb hby d2_53) rfl ?_
  obtain ⟨cl523, Ar523, qk523, sl523, nz523, ha523, fi523⟩ := id V522
  obtain ⟨T524, h524, X524, e524, W524, st524⟩ := stC X522 hx hZ e522 Ar523 (j := (1 : Int32)) (inb_of sl523 ⟨by decide, by decide⟩) (g := (mkF m 54 #[.val (.int (2 : Int32)), .val (.int q0), .val (.int q1), .val (.int q2)] [(.int q1), (.int (1 : Int32)), (.ref b518), (.ref b518), (.ref b517), (.ref b517)])) rfl rfl (hb hby d2_54)
  rw [h_q1.nc] at W524
  have V524 : Arv Z h524 b518 k518 .char (2 : Int32) [(.int q0), (.int q1)] (.int (0 : Int32)) := Arv.set Ar523 qk523 sl523 nz523 ha523 fi523 (h_q1.nc ▸ fits_nar_char q1) W524 1 rfl (ok rfl)
  have N524 := Fr.snoc X524 N522 ge_b518
  refine Goes.step (T' := T524) (g' := (mkF m 55 #[.val (.int (2 : Int32)), .val (.int q0), .val (.int q1), .val (.int q2)] [(.ref b518), (.ref b517), (.ref b517)])) st524 ?_
  have E525 : Exa Z h518 b517 "java/lang/String" := A517.ext E518
  have E526 : Exa Z h522 b517 "java/lang/String" := E525.wr W522
  have E527 : Exa Z h524 b517 "java/lang/String" := E526.wr W524
  have F528 : Fld Z h518 b517 "java/lang/String" "value" "[B" .null := F517_value.ext E518
  have ne529 : b517 ≠ b518 := Nat.ne_of_lt (Nat.lt_of_lt_of_le A517.lt (Nat.le_of_eq g518.symm))
  have F530 : Fld Z h522 b517 "java/lang/String" "value" "[B" .null := F528.other W522 (Or.inl ne529)
  have F531 : Fld Z h524 b517 "java/lang/String" "value" "[B" .null := F530.other W524 (Or.inl ne529)
  have F532 : Fld Z h518 b517 "java/lang/String" "coder" "B" (.int (0 : Int32)) := F517_coder.ext E518
  have F533 : Fld Z h522 b517 "java/lang/String" "coder" "B" (.int (0 : Int32)) := F532.other W522 (Or.inl ne529)
  have F534 : Fld Z h524 b517 "java/lang/String" "coder" "B" (.int (0 : Int32)) := F533.other W524 (Or.inl ne529)
  have Z535 : n0 ≤ h518.size := Nat.le_trans Z519 E518.1
  have Z536 : n0 ≤ h522.size := Nat.le_trans Z535 (Keep.of_wr W522).1
  have Z537 : n0 ≤ h524.size := Nat.le_trans Z536 (Keep.of_wr W524).1
  have O538 : Old Z n0 h517 := O0.ext E517
  have O539 : Old Z n0 h518 := O538.ext E518
  have O540 : Old Z n0 h522 := O539.wr W522 ge_b518
  have O541 : Old Z n0 h524 := O540.wr W524 ge_b518
  refine Goes.callC X524 hx (y := y5_) rfl hown (mvT hZ (own_w hw 13 rfl)) (mvT hZ (own_w hw 14 rfl)) (mvT hZ (own_w hw 15 rfl)) (by decide) (kc' := 2) (ks' := 6) (backOf (W := 1) (rmSi2 l Z a0 hw [] b517 b518 k518 q0 q1 zc fm h524 n0 Z537 O541 S_CS hzc S_FM hfm S_AD S_HI S_LO ge_b517 E527 F531 F534 V524 h_q0 h_q1) hZ (own_w hw 15 rfl) (own_w hw 11 rfl) (ok rfl) (ok rfl)) (g := (mkF m 55 #[.val (.int (2 : Int32)), .val (.int q0), .val (.int q1), .val (.int q2)] [(.ref b518), (.ref b517), (.ref b517)])) (a := b517) rfl (by rw [hml]; rfl) (argsL := [(.ref b518)]) (rest := [(.ref b517)]) (lenOf pd_1017 rfl) rfl (by show 2 * 0 + _ ≤ _; exact Nat.le_of_eq rfl) (hb hby d2_55) rfl e524 (ok rfl) (ok rfl) ?_
  intro v542 T542 L542 q542 X542
  obtain ⟨rfl, N542q, K542, g542E, t542, kb542, cd542, N2542, vs542, g542v, g542c, g542V, g542O⟩ := q542
  have N542 := Fr.app N524 N542q
  show Goes p e below _ T542 (mkF m 58 #[.val (.int (2 : Int32)), .val (.int q0), .val (.int q1), .val (.int q2)] [(.ref b517)])
  refine Goes.retA X542 hx Bd.notSynchronized Bd.returns rfl rfl (hb hby d2_58) (ok rfl) (ok rfl) ?_
  have K543 : Keep h0 h518 [] := K520.ext E518
  have K544 : Keep h0 h522 [] := K543.wr W522 (Or.inr sz_b518)
  have K545 : Keep h0 h524 [] := K544.wr W524 (Or.inr sz_b518)
  have K546 : Keep h0 T542.heap [] := K545.trans K542 (allS (Or.inr sz_b517) all0)
  exact ⟨b517, rfl, N542, K546, g542E, t542, kb542, cd542, N2542, vs542, g542v, g542c, g542V, g542O⟩
theorem efMk3 (q0 q1 q2 : Int32) (m : MethodId) : entryFrame m #[(.int (3 : Int32)), (.int q0), (.int q1), (.int q2)] 4 = mkF m 0 #[.val (.int (3 : Int32)), .val (.int q0), .val (.int q1), .val (.int q2)] [] := by first | (simp [entryFrame, mkF, argsToLocals, Value.category]; done) | rfl
def QMk3 (Z : State) (q0 q1 q2 zc : Int32) (fm : Value) (h0 : Heap) (n0 : Nat) (v : Option Value) (h : Heap) (L : List Loc) : Prop := ∃ x, v = some (.ref x) ∧ Fr n0 L ∧ Keep h0 h [] ∧ Exa Z h x "java/lang/String" ∧ ∃ t kb cd N2 vs, Fld Z h x "java/lang/String" "value" "[B" (.ref t) ∧ Fld Z h x "java/lang/String" "coder" "B" (.int cd) ∧ Arv Z h t kb .byte N2 vs (.int (0 : Int32)) ∧ StrChars.Road.CodA ([q0, q1, q2] : List Int32) cd N2 vs
set_option maxRecDepth 65536 in
set_option maxHeartbeats 40000000 in
theorem rmMk3 (l : Launch) (Z : State) (a0 : Array Value) (hw : ∀ d ∈ tables_1, d.before a0 Z = true) (ws : List Jvm.Cond) (q0 q1 q2 zc : Int32) (fm : Value) (h0 : Heap) (n0 : Nat) (Z0 : n0 ≤ h0.size) (O0 : Old Z n0 h0) (S_CS : Sta Z Z.heap "java/lang/String" "COMPACT_STRINGS" "Z" (.int zc)) (hzc : ¬ zc = 0) (S_FM : Sta Z Z.heap "jdk/internal/util/Preconditions" "SIOOBE_FORMATTER" "Ljava/util/function/BiFunction;" fm) (hfm : fm.isRef = true) (S_AD : Sta Z Z.heap "java/lang/StringUTF16" "$assertionsDisabled" "Z" (.int (1 : Int32))) (S_HI : Sta Z Z.heap "java/lang/StringUTF16" "HI_BYTE_SHIFT" "I" (.int (0 : Int32))) (S_LO : Sta Z Z.heap "java/lang/StringUTF16" "LO_BYTE_SHIFT" "I" (.int (8 : Int32))) (h_q0 : C16 q0) (h_q1 : C16 q1) (h_q2 : C16 q2) :
    OwnLaw l y2_ method_3_code 4 (some (.object "java/lang/String")) ws (rR 6 4 16 88) #[(.int (3 : Int32)), (.int q0), (.int q1), (.int q2)] Z h0 (QMk3 Z q0 q1 q2 zc fm h0 n0) := by
  refine own_enter (plainFor_of_name pn_com_example_epaulet_epaulet_io_InputFilesWithoutByteOrderMarkPinLaw) (efMk3 q0 q1 q2) ?_
  intro p e s m below meth c s₁ Bd hx hby hml hZ hown X0 e0
  have N0 := Fr.nil n0
  have K0 : Keep h0 h0 [] := Keep.refl _ _
  refine P1.iloadN X0.here hx (hb hby d2_0) rfl ?_
  refine P1.ifYes X0.here hx 15 (hb hby d2_1) ((if0 _ _).trans (tlt (by decide : (0 : Int32) < (3 : Int32))).2.2.1) (by decide) (by decide) ?_
  refine P1.iloadN X0.here hx (hb hby d2_15) rfl ?_
  refine P1.iconst X0.here hx (1 : Int32) (hb hby d2_16) rfl ?_
  refine P1.icmpYes X0.here hx 35 (hb hby d2_17) (feq (by decide : ¬ ((3 : Int32) = (1 : Int32)))).2 (by decide) (by decide) ?_
  refine P1.iloadN X0.here hx (hb hby d2_35) rfl ?_
  refine P1.iconst X0.here hx (2 : Int32) (hb hby d2_36) rfl ?_
  refine P1.icmpYes X0.here hx 59 (hb hby d2_37) (feq (by decide : ¬ ((3 : Int32) = (2 : Int32)))).2 (by decide) (by decide) ?_
  obtain ⟨T547, h547, X547, e547, E547, A547, D547, -, st547⟩ := newO X0 hx hZ hown (own_w hw 9 rfl) (own_w hw 10 rfl) (own_w hw 11 rfl) e0 (g := (mkF m 59 #[.val (.int (3 : Int32)), .val (.int q0), .val (.int q1), .val (.int q2)] [])) rfl (hb hby d2_59) (ok rfl) (ok rfl)
  obtain ⟨b547, g547⟩ : ∃ z, z = h0.size := ⟨_, rfl⟩
  rw [← g547] at A547 D547 st547
  have ge_b547 : n0 ≤ b547 := Nat.le_trans Z0 (Nat.le_of_eq g547.symm)
  have sz_b547 : h0.size ≤ b547 := Nat.le_trans K0.1 (Nat.le_of_eq g547.symm)
  have F547_value : Fld Z h547 b547 "java/lang/String" "value" "[B" .null := D547 (Or.inr (own_w hw 25 rfl)) (ty := (.array .byte)) (by decide)
  have F547_coder : Fld Z h547 b547 "java/lang/String" "coder" "B" (.int (0 : Int32)) := D547 (Or.inr (own_w hw 26 rfl)) (ty := .byte) (by decide)
  refine Goes.step (T' := T547) (g' := (mkF m 62 #[.val (.int (3 : Int32)), .val (.int q0), .val (.int q1), .val (.int q2)] [(.ref b547)])) st547 ?_
  refine P1.dup X547.here hx (hb hby d2_62) rfl ?_
  refine P1.iconst X547.here hx (3 : Int32) (hb hby d2_63) rfl ?_
  obtain ⟨T548, h548, k548, X548, e548, E548, A548, st548⟩ := newP X547 hx hZ (own_w hw 12 rfl) e547 (g := (mkF m 64 #[.val (.int (3 : Int32)), .val (.int q0), .val (.int q1), .val (.int q2)] [(.int (3 : Int32)), (.ref b547), (.ref b547)])) rfl (hb hby d2_64) rfl (by decide) (cap := 3) (ok rfl) (ok rfl) (ok rfl) (ok rfl)
  have Z549 : n0 ≤ h547.size := Nat.le_trans Z0 E547.1
  have K550 : Keep h0 h547 [] := K0.ext E547
  obtain ⟨b548, g548⟩ : ∃ z, z = h547.size := ⟨_, rfl⟩
  rw [← g548] at A548 st548
  have ge_b548 : n0 ≤ b548 := Nat.le_trans Z549 (Nat.le_of_eq g548.symm)
  have sz_b548 : h0.size ≤ b548 := Nat.le_trans K550.1 (Nat.le_of_eq g548.symm)
  have V548 : Arv Z h548 b548 k548 .char (3 : Int32) [(.int (0 : Int32)), (.int (0 : Int32)), (.int (0 : Int32))] (.int (0 : Int32)) := (Arv.new A548 (by decide)).pad (pad_rep [] (.int (0 : Int32)) 3)
  refine Goes.step (T' := T548) (g' := (mkF m 66 #[.val (.int (3 : Int32)), .val (.int q0), .val (.int q1), .val (.int q2)] [(.ref b548), (.ref b547), (.ref b547)])) st548 ?_
  refine P1.dup X548.here hx (hb hby d2_66) rfl ?_
  refine P1.iconst X548.here hx (0 : Int32) (hb hby d2_67) rfl ?_
  refine P1.iloadN X548.here hx (hb hby d2_68) rfl ?_
  obtain ⟨cl551, Ar551, qk551, sl551, nz551, ha551, fi551⟩ := id V548
  obtain ⟨T552, h552, X552, e552, W552, st552⟩ := stC X548 hx hZ e548 Ar551 (j := (0 : Int32)) (inb_of sl551 ⟨by decide, by decide⟩) (g := (mkF m 69 #[.val (.int (3 : Int32)), .val (.int q0), .val (.int q1), .val (.int q2)] [(.int q0), (.int (0 : Int32)), (.ref b548), (.ref b548), (.ref b547), (.ref b547)])) rfl rfl (hb hby d2_69)
  rw [h_q0.nc] at W552
  have V552 : Arv Z h552 b548 k548 .char (3 : Int32) [(.int q0), (.int (0 : Int32)), (.int (0 : Int32))] (.int (0 : Int32)) := Arv.set Ar551 qk551 sl551 nz551 ha551 fi551 (h_q0.nc ▸ fits_nar_char q0) W552 0 rfl (ok rfl)
  have N552 := Fr.snoc X552 N0 ge_b548
  refine Goes.step (T' := T552) (g' := (mkF m 70 #[.val (.int (3 : Int32)), .val (.int q0), .val (.int q1), .val (.int q2)] [(.ref b548), (.ref b547), (.ref b547)])) st552 ?_
  refine P1.dup X552.here hx (hb hby d2_70) rfl ?_
  refine P1.iconst X552.here hx (1 : Int32) (hb hby d2_71) rfl ?_
  refine P1.iloadN X552.here hx (hb hby d2_72) rfl ?_
  obtain ⟨cl553, Ar553, qk553, sl553, nz553, ha553, fi553⟩ := id V552
  obtain ⟨T554, h554, X554, e554, W554, st554⟩ := stC X552 hx hZ e552 Ar553 (j := (1 : Int32)) (inb_of sl553 ⟨by decide, by decide⟩) (g := (mkF m 73 #[.val (.int (3 : Int32)), .val (.int q0), .val (.int q1), .val (.int q2)] [(.int q1), (.int (1 : Int32)), (.ref b548), (.ref b548), (.ref b547), (.ref b547)])) rfl rfl (hb hby d2_73)
  rw [h_q1.nc] at W554
  have V554 : Arv Z h554 b548 k548 .char (3 : Int32) [(.int q0), (.int q1), (.int (0 : Int32))] (.int (0 : Int32)) := Arv.set Ar553 qk553 sl553 nz553 ha553 fi553 (h_q1.nc ▸ fits_nar_char q1) W554 1 rfl (ok rfl)
  have N554 := Fr.snoc X554 N552 ge_b548
  refine Goes.step (T' := T554) (g' := (mkF m 74 #[.val (.int (3 : Int32)), .val (.int q0), .val (.int q1), .val (.int q2)] [(.ref b548), (.ref b547), (.ref b547)])) st554 ?_
  refine P1.dup X554.here hx (hb hby d2_74) rfl ?_
  refine P1.iconst X554.here hx (2 : Int32) (hb hby d2_75) rfl ?_
  refine P1.iloadN X554.here hx (hb hby d2_76) rfl ?_
  obtain ⟨cl555, Ar555, qk555, sl555, nz555, ha555, fi555⟩ := id V554
  obtain ⟨T556, h556, X556, e556, W556, st556⟩ := stC X554 hx hZ e554 Ar555 (j := (2 : Int32)) (inb_of sl555 ⟨by decide, by decide⟩) (g := (mkF m 77 #[.val (.int (3 : Int32)), .val (.int q0), .val (.int q1), .val (.int q2)] [(.int q2), (.int (2 : Int32)), (.ref b548), (.ref b548), (.ref b547), (.ref b547)])) rfl rfl (hb hby d2_77)
  rw [h_q2.nc] at W556
  have V556 : Arv Z h556 b548 k548 .char (3 : Int32) [(.int q0), (.int q1), (.int q2)] (.int (0 : Int32)) := Arv.set Ar555 qk555 sl555 nz555 ha555 fi555 (h_q2.nc ▸ fits_nar_char q2) W556 2 rfl (ok rfl)
  have N556 := Fr.snoc X556 N554 ge_b548
  refine Goes.step (T' := T556) (g' := (mkF m 78 #[.val (.int (3 : Int32)), .val (.int q0), .val (.int q1), .val (.int q2)] [(.ref b548), (.ref b547), (.ref b547)])) st556 ?_
  have E557 : Exa Z h548 b547 "java/lang/String" := A547.ext E548
  have E558 : Exa Z h552 b547 "java/lang/String" := E557.wr W552
  have E559 : Exa Z h554 b547 "java/lang/String" := E558.wr W554
  have E560 : Exa Z h556 b547 "java/lang/String" := E559.wr W556
  have F561 : Fld Z h548 b547 "java/lang/String" "value" "[B" .null := F547_value.ext E548
  have ne562 : b547 ≠ b548 := Nat.ne_of_lt (Nat.lt_of_lt_of_le A547.lt (Nat.le_of_eq g548.symm))
  have F563 : Fld Z h552 b547 "java/lang/String" "value" "[B" .null := F561.other W552 (Or.inl ne562)
  have F564 : Fld Z h554 b547 "java/lang/String" "value" "[B" .null := F563.other W554 (Or.inl ne562)
  have F565 : Fld Z h556 b547 "java/lang/String" "value" "[B" .null := F564.other W556 (Or.inl ne562)
  have F566 : Fld Z h548 b547 "java/lang/String" "coder" "B" (.int (0 : Int32)) := F547_coder.ext E548
  have F567 : Fld Z h552 b547 "java/lang/String" "coder" "B" (.int (0 : Int32)) := F566.other W552 (Or.inl ne562)
  have F568 : Fld Z h554 b547 "java/lang/String" "coder" "B" (.int (0 : Int32)) := F567.other W554 (Or.inl ne562)
  have F569 : Fld Z h556 b547 "java/lang/String" "coder" "B" (.int (0 : Int32)) := F568.other W556 (Or.inl ne562)
  have Z570 : n0 ≤ h548.size := Nat.le_trans Z549 E548.1
  have Z571 : n0 ≤ h552.size := Nat.le_trans Z570 (Keep.of_wr W552).1
  have Z572 : n0 ≤ h554.size := Nat.le_trans Z571 (Keep.of_wr W554).1
  have Z573 : n0 ≤ h556.size := Nat.le_trans Z572 (Keep.of_wr W556).1
  have O574 : Old Z n0 h547 := O0.ext E547
  have O575 : Old Z n0 h548 := O574.ext E548
  have O576 : Old Z n0 h552 := O575.wr W552 ge_b548
  have O577 : Old Z n0 h554 := O576.wr W554 ge_b548
  have O578 : Old Z n0 h556 := O577.wr W556 ge_b548
  refine Goes.callC X556 hx (y := y5_) rfl hown (mvT hZ (own_w hw 13 rfl)) (mvT hZ (own_w hw 14 rfl)) (mvT hZ (own_w hw 15 rfl)) (by decide) (kc' := 2) (ks' := 9) (backOf (W := 1) (rmSi3 l Z a0 hw [] b547 b548 k548 q0 q1 q2 zc fm h556 n0 Z573 O578 S_CS hzc S_FM hfm S_AD S_HI S_LO ge_b547 E560 F565 F569 V556 h_q0 h_q1 h_q2) hZ (own_w hw 15 rfl) (own_w hw 11 rfl) (ok rfl) (ok rfl)) (g := (mkF m 78 #[.val (.int (3 : Int32)), .val (.int q0), .val (.int q1), .val (.int q2)] [(.ref b548), (.ref b547), (.ref b547)])) (a := b547) rfl (by rw [hml]; rfl) (argsL := [(.ref b548)]) (rest := [(.ref b547)]) (lenOf pd_1017 rfl) rfl (by show 2 * 0 + _ ≤ _; exact Nat.le_of_eq rfl) (hb hby d2_78) rfl e556 (ok rfl) (ok rfl) ?_
  intro v579 T579 L579 q579 X579
  obtain ⟨rfl, N579q, K579, g579E, t579, kb579, cd579, N2579, vs579, g579v, g579c, g579V, g579O⟩ := q579
  have N579 := Fr.app N556 N579q
  show Goes p e below _ T579 (mkF m 81 #[.val (.int (3 : Int32)), .val (.int q0), .val (.int q1), .val (.int q2)] [(.ref b547)])
  refine Goes.retA X579 hx Bd.notSynchronized Bd.returns rfl rfl (hb hby d2_81) (ok rfl) (ok rfl) ?_
  have K580 : Keep h0 h548 [] := K550.ext E548
  have K581 : Keep h0 h552 [] := K580.wr W552 (Or.inr sz_b548)
  have K582 : Keep h0 h554 [] := K581.wr W554 (Or.inr sz_b548)
  have K583 : Keep h0 h556 [] := K582.wr W556 (Or.inr sz_b548)
  have K584 : Keep h0 T579.heap [] := K583.trans K579 (allS (Or.inr sz_b547) all0)
  exact ⟨b547, rfl, N579, K584, g579E, t579, kb579, cd579, N2579, vs579, g579v, g579c, g579V, g579O⟩
theorem efSic0 (x b : Addr) (m : MethodId) : entryFrame m #[(.ref x), (.ref b), (.int (0 : Int32)), (.int (0 : Int32)), .null] 6 = mkF m 0 #[.val (.ref x), .val (.ref b), .val (.int (0 : Int32)), .val (.int (0 : Int32)), .val .null, .unset] [] := by first | (simp [entryFrame, mkF, argsToLocals, Value.category]; done) | rfl
def QSic0 (Z : State) (x b : Addr) (h0 : Heap) (n0 : Nat) (v : Option Value) (h : Heap) (L : List Loc) : Prop := v = none ∧ Fr n0 L ∧ Keep h0 h [x] ∧ Exa Z h x "java/lang/String" ∧ ∃ t kb cd N2 vs, Fld Z h x "java/lang/String" "value" "[B" (.ref t) ∧ Fld Z h x "java/lang/String" "coder" "B" (.int cd) ∧ Arv Z h t kb .byte N2 vs (.int (0 : Int32)) ∧ StrChars.Road.CodA ([] : List Int32) cd N2 vs
set_option maxRecDepth 65536 in
set_option maxHeartbeats 40000000 in
theorem rmSic0 (l : Launch) (Z : State) (a0 : Array Value) (hw : ∀ d ∈ tables_1, d.before a0 Z = true) (ws : List Jvm.Cond) (x b : Addr) (h0 : Heap) (n0 : Nat) (Z0 : n0 ≤ h0.size) (O0 : Old Z n0 h0) (gx : n0 ≤ x) (Ex : Exa Z h0 x "java/lang/String") (Vx : Fld Z h0 x "java/lang/String" "value" "[B" .null) (Cx : Fld Z h0 x "java/lang/String" "coder" "B" (.int (0 : Int32))) :
    OwnLawW l y6_ jdk_42_method_149_code 6 none ws (rR 1 4 8 12) #[(.ref x), (.ref b), (.int (0 : Int32)), (.int (0 : Int32)), .null] Z EL1 h0 (QSic0 Z x b h0 n0) := by
  refine own_enterW (plainFor_of_name pn_java_lang_String) (efSic0 x b) ?_
  intro p e s m below meth c s₁ Bd hx hby hml hZ hown X0 e0 hh hS0 CR0
  have hnm := (name_of_methodNamed Bd.named Bd.method).1
  have N0 := Fr.nil n0
  have hEL : EW Z a0 EL1 := own_EL hw
  have ks0 : h0.size ≤ h0.size := Nat.le_refl _
  have K0 : Keep h0 h0 [] := Keep.refl _ _
  have K0 : Keep h0 h0 [x] := Keep.refl _ _
  have sf_x : Safe Z EL1 s.vm h0 x := own_safeNull hZ.alike Ex Vx
  refine P1.aloadN X0.here hx (hb hby d4_0) rfl rfl ?_
  obtain ⟨T585, X585, e585, st585⟩ := initO X0 hx hZ hown (own_w hw 20 rfl) (own_w hw 21 rfl) (own_w hw 22 rfl) e0 (g := (mkF m 1 #[.val (.ref x), .val (.ref b), .val (.int (0 : Int32)), .val (.int (0 : Int32)), .val .null, .unset] [(.ref x)])) rfl (by rw [hml]; rfl) rfl (hb hby d4_1) (by decide) (W := 0) (by show 2 * 0 + _ ≤ _; exact Nat.le_of_eq rfl) (by decide)
  refine Goes.step (T' := T585) (g' := (mkF m 4 #[.val (.ref x), .val (.ref b), .val (.int (0 : Int32)), .val (.int (0 : Int32)), .val .null, .unset] [])) st585 ?_
  refine P1.iloadN X585.here hx (hb hby d4_4) rfl ?_
  refine P1.ifNo X585.here hx (hb hby d4_5) ((if0 _ _).trans (teq (by decide : (0 : Int32) = (0 : Int32))).2) ?_
  refine P1.aloadN X585.here hx (hb hby d4_8) rfl rfl ?_
  obtain ⟨la586, T586, h586, k1_586, lb586, lk586, X586, e586, E586, hS586, ks586, hZ, hown, LE586, LC586, LV586, LK586, -, -, CW586, -, hsf586, st586⟩ := ldcCH X585 hx hZ hown (own_w hw 23 rfl) (fun d hd => hw d (in_atoms d hd)) e585 hS0 ks0 hEL (by decide) CR0.1 (vs := []) (z := (0 : Int32)) (by decide) (by decide) rfl (g := (mkF m 9 #[.val (.ref x), .val (.ref b), .val (.int (0 : Int32)), .val (.int (0 : Int32)), .val .null, .unset] [(.ref x)])) rfl (hb hby d4_9) (n := 0) (by decide) (by decide) (ok rfl) (ok rfl)
  refine Goes.step (T' := T586) (g' := (mkF m 11 #[.val (.ref x), .val (.ref b), .val (.int (0 : Int32)), .val (.int (0 : Int32)), .val .null, .unset] [(.ref la586), (.ref x)])) st586 ?_
  obtain ⟨T587, X587, e587, st587⟩ := getF X586 hx hZ hown (host := "") (Or.inl (own_w hw 29 rfl)) Via.refl e586 LV586 (g := (mkF m 11 #[.val (.ref x), .val (.ref b), .val (.int (0 : Int32)), .val (.int (0 : Int32)), .val .null, .unset] [(.ref la586), (.ref x)])) rfl rfl (hb hby d4_11)
  refine Goes.step (T' := T587) (g' := (mkF m 14 #[.val (.ref x), .val (.ref b), .val (.int (0 : Int32)), .val (.int (0 : Int32)), .val .null, .unset] [(.ref lb586), (.ref x)])) st587 ?_
  have F588 : Fld Z h586 x "java/lang/String" "value" "[B" .null := Vx.ext E586
  have E589 : Exa Z h586 x "java/lang/String" := Ex.ext E586
  obtain ⟨T590, h590, X590, e590, W590, st590⟩ := putF X587 hx hZ hown (host := "") (Or.inl (own_w hw 29 rfl)) Via.refl e587 F588 E589 (Or.inr ⟨(own_w hw 25 rfl), rfl, hnm⟩) (own_w hw 10 rfl) (ty := (.array .byte)) (by decide) rfl rfl (g := (mkF m 14 #[.val (.ref x), .val (.ref b), .val (.int (0 : Int32)), .val (.int (0 : Int32)), .val .null, .unset] [(.ref lb586), (.ref x)])) rfl rfl (hb hby d4_14)
  have Fw590 : Fld Z h590 x "java/lang/String" "value" "[B" (.ref lb586) := F588.same W590
  have N590 := Fr.snoc X590 N0 gx
  refine Goes.step (T' := T590) (g' := (mkF m 17 #[.val (.ref x), .val (.ref b), .val (.int (0 : Int32)), .val (.int (0 : Int32)), .val .null, .unset] [])) st590 ?_
  refine P1.aloadN X590.here hx (hb hby d4_17) rfl rfl ?_
  have ks592 : k1_586 ≤ h590.size := Nat.le_trans ks586 (Keep.of_wr W590).1
  have CR593 : CHr Z EL1 s.vm h0 T586.vm h586 := CR0.trans CW586
  have sf594 : Safe Z EL1 T586.vm h586 x := CHr.safe CW586 Ex.lt sf_x
  have CR595 : CHr Z EL1 s.vm h0 T586.vm h590 := CR593.trans (CHr.wr W590 sf594 CR593.1)
  obtain ⟨la591, T591, h591, k1_591, lb591, lk591, X591, e591, E591, hS591, ks591, hZ, hown, LE591, LC591, LV591, LK591, -, -, CW591, -, hsf591, st591⟩ := ldcCH X590 hx hZ hown (own_w hw 23 rfl) (fun d hd => hw d (in_atoms d hd)) e590 hS586 ks592 hEL (by decide) CR595.1 (vs := []) (z := (0 : Int32)) (by decide) (by decide) rfl (g := (mkF m 18 #[.val (.ref x), .val (.ref b), .val (.int (0 : Int32)), .val (.int (0 : Int32)), .val .null, .unset] [(.ref x)])) rfl (hb hby d4_18) (n := 0) (by decide) (by decide) (ok rfl) (ok rfl)
  refine Goes.step (T' := T591) (g' := (mkF m 20 #[.val (.ref x), .val (.ref b), .val (.int (0 : Int32)), .val (.int (0 : Int32)), .val .null, .unset] [(.ref la591), (.ref x)])) st591 ?_
  obtain ⟨T596, X596, e596, st596⟩ := getF X591 hx hZ hown (host := "") (Or.inl (own_w hw 30 rfl)) Via.refl e591 LC591 (g := (mkF m 20 #[.val (.ref x), .val (.ref b), .val (.int (0 : Int32)), .val (.int (0 : Int32)), .val .null, .unset] [(.ref la591), (.ref x)])) rfl rfl (hb hby d4_20)
  refine Goes.step (T' := T596) (g' := (mkF m 23 #[.val (.ref x), .val (.ref b), .val (.int (0 : Int32)), .val (.int (0 : Int32)), .val .null, .unset] [(.int (0 : Int32)), (.ref x)])) st596 ?_
  have F597 : Fld Z h586 x "java/lang/String" "coder" "B" (.int (0 : Int32)) := Cx.ext E586
  have F598 : Fld Z h590 x "java/lang/String" "coder" "B" (.int (0 : Int32)) := F597.other W590 (Or.inr (slot_ne (Or.inr (own_w hw 26 rfl)) (Or.inr (own_w hw 25 rfl)) (by decide) (t := .byte) (t' := (.array .byte)) (by decide) (by decide)))
  have F599 : Fld Z h591 x "java/lang/String" "coder" "B" (.int (0 : Int32)) := F598.ext E591
  have E600 : Exa Z h590 x "java/lang/String" := E589.wr W590
  have E601 : Exa Z h591 x "java/lang/String" := E600.ext E591
  obtain ⟨T602, h602, X602, e602, W602, st602⟩ := putFN X596 hx hZ hown (own_w hw 30 rfl) Via.refl e596 F599 E601 (Or.inr ⟨(own_w hw 26 rfl), rfl, hnm⟩) (own_w hw 10 rfl) (ty := .byte) (v' := (.int (0 : Int32))) (by decide) rfl (by decide) (g := (mkF m 23 #[.val (.ref x), .val (.ref b), .val (.int (0 : Int32)), .val (.int (0 : Int32)), .val .null, .unset] [(.int (0 : Int32)), (.ref x)])) rfl rfl (hb hby d4_23)
  have Fw602 : Fld Z h602 x "java/lang/String" "coder" "B" (.int (0 : Int32)) := F599.same W602
  have N602 := Fr.snoc X602 N590 gx
  refine Goes.step (T' := T602) (g' := (mkF m 26 #[.val (.ref x), .val (.ref b), .val (.int (0 : Int32)), .val (.int (0 : Int32)), .val .null, .unset] [])) st602 ?_
  have ks603 : k1_591 ≤ h602.size := Nat.le_trans ks591 (Keep.of_wr W602).1
  have CR604 : CHr Z EL1 s.vm h0 T591.vm h591 := CR595.trans CW591
  have sf605 : Safe Z EL1 T586.vm h590 x := Safe.wr W590 sf594 CR593.1 sf594
  have sf606 : Safe Z EL1 T591.vm h591 x := CHr.safe CW591 E600.lt sf605
  have CR607 : CHr Z EL1 s.vm h0 T591.vm h602 := CR604.trans (CHr.wr W602 sf606 CR604.1)
  refine Goes.retVW X602 hx Bd.notSynchronized hS591 ks603 hZ hEL (hh ▸ CR607) e602 Bd.returns (hb hby d4_26) (ok rfl) (ok rfl) ?_
  have K608 : Keep h0 h586 [x] := K0.ext E586
  have K609 : Keep h0 h590 [x] := K608.wr W590 (Or.inl (by simp))
  have K610 : Keep h0 h591 [x] := K609.ext E591
  have K611 : Keep h0 h602 [x] := K610.wr W602 (Or.inl (by simp))
  have E612 : Exa Z h602 x "java/lang/String" := E601.wr W602
  have F613 : Fld Z h591 x "java/lang/String" "value" "[B" (.ref lb586) := Fw590.ext E591
  have F614 : Fld Z h602 x "java/lang/String" "value" "[B" (.ref lb586) := F613.other W602 (Or.inr (slot_ne (Or.inr (own_w hw 25 rfl)) (Or.inr (own_w hw 26 rfl)) (by decide) (t := (.array .byte)) (t' := .byte) (by decide) (by decide)))
  have ne615 : x ≠ lb586 := (hsf586 x sf594).2
  have V616 : Arv Z h590 lb586 lk586 .byte (0 : Int32) [] (.int (0 : Int32)) := LK586.other W590 (Ne.symm ne615)
  have V617 : Arv Z h591 lb586 lk586 .byte (0 : Int32) [] (.int (0 : Int32)) := V616.ext E591
  have V618 : Arv Z h602 lb586 lk586 .byte (0 : Int32) [] (.int (0 : Int32)) := V617.other W602 (Ne.symm ne615)
  exact ⟨rfl, N602, K611, E612, lb586, lk586, (0 : Int32), (0 : Int32), [], F614, Fw602, V618, (Or.inl ⟨rfl, rfl, rfl, fun _ q => nomatch q⟩)⟩
theorem efSi0 (x b : Addr) (m : MethodId) : entryFrame m #[(.ref x), (.ref b)] 2 = mkF m 0 #[.val (.ref x), .val (.ref b)] [] := by first | (simp [entryFrame, mkF, argsToLocals, Value.category]; done) | rfl
def QSi0 (Z : State) (x b : Addr) (kc : ClassId) (h0 : Heap) (n0 : Nat) (v : Option Value) (h : Heap) (L : List Loc) : Prop := v = none ∧ Fr n0 L ∧ Keep h0 h [x] ∧ Exa Z h x "java/lang/String" ∧ ∃ t kb cd N2 vs, Fld Z h x "java/lang/String" "value" "[B" (.ref t) ∧ Fld Z h x "java/lang/String" "coder" "B" (.int cd) ∧ Arv Z h t kb .byte N2 vs (.int (0 : Int32)) ∧ StrChars.Road.CodA ([] : List Int32) cd N2 vs
set_option maxRecDepth 65536 in
set_option maxHeartbeats 40000000 in
theorem rmSi0 (l : Launch) (Z : State) (a0 : Array Value) (hw : ∀ d ∈ tables_1, d.before a0 Z = true) (ws : List Jvm.Cond) (x b : Addr) (kc : ClassId) (h0 : Heap) (n0 : Nat) (Z0 : n0 ≤ h0.size) (O0 : Old Z n0 h0) (gx : n0 ≤ x) (Ex : Exa Z h0 x "java/lang/String") (Vx : Fld Z h0 x "java/lang/String" "value" "[B" .null) (Cx : Fld Z h0 x "java/lang/String" "coder" "B" (.int (0 : Int32))) (Vb : Arv Z h0 b kc .char (0 : Int32) [] (.int (0 : Int32))) :
    OwnLawW l y5_ jdk_42_method_3_code 2 none ws (rR 2 4 8 29) #[(.ref x), (.ref b)] Z EL1 h0 (QSi0 Z x b kc h0 n0) := by
  refine own_enterW (plainFor_of_name pn_java_lang_String) (efSi0 x b) ?_
  intro p e s m below meth c s₁ Bd hx hby hml hZ hown X0 e0 hh hS0 CR0
  have N0 := Fr.nil n0
  have hEL : EW Z a0 EL1 := own_EL hw
  have ks0 : h0.size ≤ h0.size := Nat.le_refl _
  have K0 : Keep h0 h0 [] := Keep.refl _ _
  have K0 : Keep h0 h0 [x] := Keep.refl _ _
  have sf_x : Safe Z EL1 s.vm h0 x := own_safeNull hZ.alike Ex Vx
  refine P1.aloadN X0.here hx (hb hby d3_0) rfl rfl ?_
  refine P1.aloadN X0.here hx (hb hby d3_1) rfl rfl ?_
  refine P1.iconst X0.here hx (0 : Int32) (hb hby d3_2) rfl ?_
  refine P1.aloadN X0.here hx (hb hby d3_3) rfl rfl ?_
  obtain ⟨cl619, Ar619, qk619, sl619, nz619, ha619, fi619⟩ := id Vb
  have al620 : cl619.slots.size.toInt32 = (0 : Int32) := len_of sl619 nz619
  refine Goes.step (T' := s₁) (g' := (mkF m 5 #[.val (.ref x), .val (.ref b)] [(.int (0 : Int32)), (.int (0 : Int32)), (.ref b), (.ref x)])) (fun t_ k_ => X0.arraylength hx (by rw [e0]; exact Ar619.1) (State.isArrayOf_alike hZ.alike Ar619.2.1) (g := (mkF m 4 #[.val (.ref x), .val (.ref b)] [(.ref b), (.int (0 : Int32)), (.ref b), (.ref x)])) rfl rfl (hb hby d3_4) _ <| by rw [al620]; exact k_) ?_
  refine P1.aconstNull X0.here hx (hb hby d3_5) ?_
  refine Goes.callCW X0 hx (y := y6_) hS0 ks0 hZ rfl hown (mvT hZ (own_w hw 16 rfl)) (mvT hZ (own_w hw 17 rfl)) (mvT hZ (own_w hw 19 rfl)) (by decide) (kc' := 4) (ks' := 8) (backOfSH (W := 0) (rmSic0 l Z a0 hw [] x b h0 n0 Z0 O0 gx Ex Vx Cx) hZ (own_w hw 19 rfl) (own_w hw 11 rfl) (ok rfl) (ok rfl) hEL CR0.1) (g := (mkF m 6 #[.val (.ref x), .val (.ref b)] [.null, (.int (0 : Int32)), (.int (0 : Int32)), (.ref b), (.ref x)])) (a := x) rfl (by rw [hml]; rfl) (argsL := [(.ref b), (.int (0 : Int32)), (.int (0 : Int32)), .null]) (rest := []) (lenOf pd_23571 rfl) rfl (by show 2 * 0 + _ ≤ _; exact Nat.le_of_eq rfl) (hb hby d3_6) rfl e0 (ok rfl) (ok rfl) ?_
  intro v621 T621 L621 q621 Y621
  obtain ⟨X621, hS621, hZ, hown, CW621⟩ := Y621
  obtain ⟨rfl, N621q, K621, g621E, t621, kb621, cd621, N2621, vs621, g621v, g621c, g621V, g621O⟩ := q621
  have N621 := Fr.app N0 N621q
  have ks621 : T621.heap.size ≤ T621.heap.size := Nat.le_refl _
  show Goes p e below _ T621 (mkF m 9 #[.val (.ref x), .val (.ref b)] [])
  have CR622 : CHr Z EL1 s.vm h0 T621.vm T621.heap := CR0.trans CW621
  refine Goes.retVW X621 hx Bd.notSynchronized hS621 ks621 hZ hEL (hh ▸ CR622) rfl Bd.returns (hb hby d3_9) (ok rfl) (ok rfl) ?_
  have K623 : Keep h0 T621.heap [x] := K0.trans K621 (allS (Or.inl (by simp)) all0)
  exact ⟨rfl, N621, K623, g621E, t621, kb621, cd621, N2621, vs621, g621v, g621c, g621V, g621O⟩
theorem efMk0 (q0 q1 q2 : Int32) (m : MethodId) : entryFrame m #[(.int (0 : Int32)), (.int q0), (.int q1), (.int q2)] 4 = mkF m 0 #[.val (.int (0 : Int32)), .val (.int q0), .val (.int q1), .val (.int q2)] [] := by first | (simp [entryFrame, mkF, argsToLocals, Value.category]; done) | rfl
def QMk0 (Z : State) (q0 q1 q2 : Int32) (h0 : Heap) (n0 : Nat) (v : Option Value) (h : Heap) (L : List Loc) : Prop := ∃ x, v = some (.ref x) ∧ Fr n0 L ∧ Keep h0 h [] ∧ Exa Z h x "java/lang/String" ∧ ∃ t kb cd N2 vs, Fld Z h x "java/lang/String" "value" "[B" (.ref t) ∧ Fld Z h x "java/lang/String" "coder" "B" (.int cd) ∧ Arv Z h t kb .byte N2 vs (.int (0 : Int32)) ∧ StrChars.Road.CodA ([] : List Int32) cd N2 vs
set_option maxRecDepth 65536 in
set_option maxHeartbeats 40000000 in
theorem rmMk0 (l : Launch) (Z : State) (a0 : Array Value) (hw : ∀ d ∈ tables_1, d.before a0 Z = true) (ws : List Jvm.Cond) (q0 q1 q2 : Int32) (h0 : Heap) (n0 : Nat) (Z0 : n0 ≤ h0.size) (O0 : Old Z n0 h0) :
    OwnLawW l y2_ method_3_code 4 (some (.object "java/lang/String")) ws (rR 3 6 12 43) #[(.int (0 : Int32)), (.int q0), (.int q1), (.int q2)] Z EL1 h0 (QMk0 Z q0 q1 q2 h0 n0) := by
  refine own_enterW (plainFor_of_name pn_com_example_epaulet_epaulet_io_InputFilesWithoutByteOrderMarkPinLaw) (efMk0 q0 q1 q2) ?_
  intro p e s m below meth c s₁ Bd hx hby hml hZ hown X0 e0 hh hS0 CR0
  have N0 := Fr.nil n0
  have hEL : EW Z a0 EL1 := own_EL hw
  have ks0 : h0.size ≤ h0.size := Nat.le_refl _
  have K0 : Keep h0 h0 [] := Keep.refl _ _
  refine P1.iloadN X0.here hx (hb hby d2_0) rfl ?_
  refine P1.ifNo X0.here hx (hb hby d2_1) ((if0 _ _).trans (flt (by decide : ¬ ((0 : Int32) < (0 : Int32)))).2.2.1) ?_
  obtain ⟨T624, h624, X624, e624, E624, A624, D624, -, st624⟩ := newO X0 hx hZ hown (own_w hw 9 rfl) (own_w hw 10 rfl) (own_w hw 11 rfl) e0 (g := (mkF m 4 #[.val (.int (0 : Int32)), .val (.int q0), .val (.int q1), .val (.int q2)] [])) rfl (hb hby d2_4) (ok rfl) (ok rfl)
  obtain ⟨b624, g624⟩ : ∃ z, z = h0.size := ⟨_, rfl⟩
  rw [← g624] at A624 D624 st624
  have ge_b624 : n0 ≤ b624 := Nat.le_trans Z0 (Nat.le_of_eq g624.symm)
  have sz_b624 : h0.size ≤ b624 := Nat.le_trans K0.1 (Nat.le_of_eq g624.symm)
  have sf_b624 : Safe Z EL1 s.vm h0 b624 := Safe.new (Nat.le_of_eq g624.symm)
  have F624_value : Fld Z h624 b624 "java/lang/String" "value" "[B" .null := D624 (Or.inr (own_w hw 25 rfl)) (ty := (.array .byte)) (by decide)
  have F624_coder : Fld Z h624 b624 "java/lang/String" "coder" "B" (.int (0 : Int32)) := D624 (Or.inr (own_w hw 26 rfl)) (ty := .byte) (by decide)
  refine Goes.step (T' := T624) (g' := (mkF m 7 #[.val (.int (0 : Int32)), .val (.int q0), .val (.int q1), .val (.int q2)] [(.ref b624)])) st624 ?_
  refine P1.dup X624.here hx (hb hby d2_7) rfl ?_
  refine P1.iconst X624.here hx (0 : Int32) (hb hby d2_8) rfl ?_
  obtain ⟨T625, h625, k625, X625, e625, E625, A625, st625⟩ := newP X624 hx hZ (own_w hw 12 rfl) e624 (g := (mkF m 9 #[.val (.int (0 : Int32)), .val (.int q0), .val (.int q1), .val (.int q2)] [(.int (0 : Int32)), (.ref b624), (.ref b624)])) rfl (hb hby d2_9) rfl (by decide) (cap := 0) (ok rfl) (ok rfl) (ok rfl) (ok rfl)
  have Z626 : n0 ≤ h624.size := Nat.le_trans Z0 E624.1
  have K627 : Keep h0 h624 [] := K0.ext E624
  obtain ⟨b625, g625⟩ : ∃ z, z = h624.size := ⟨_, rfl⟩
  rw [← g625] at A625 st625
  have ge_b625 : n0 ≤ b625 := Nat.le_trans Z626 (Nat.le_of_eq g625.symm)
  have sz_b625 : h0.size ≤ b625 := Nat.le_trans K627.1 (Nat.le_of_eq g625.symm)
  have sf_b625 : Safe Z EL1 s.vm h624 b625 := Safe.new (Nat.le_of_eq g625.symm)
  have V625 : Arv Z h625 b625 k625 .char (0 : Int32) [] (.int (0 : Int32)) := (Arv.new A625 (by decide)).pad (pad_rep [] (.int (0 : Int32)) 0)
  refine Goes.step (T' := T625) (g' := (mkF m 11 #[.val (.int (0 : Int32)), .val (.int q0), .val (.int q1), .val (.int q2)] [(.ref b625), (.ref b624), (.ref b624)])) st625 ?_
  have E628 : Exa Z h625 b624 "java/lang/String" := A624.ext E625
  have F629 : Fld Z h625 b624 "java/lang/String" "value" "[B" .null := F624_value.ext E625
  have F630 : Fld Z h625 b624 "java/lang/String" "coder" "B" (.int (0 : Int32)) := F624_coder.ext E625
  have Z631 : n0 ≤ h625.size := Nat.le_trans Z626 E625.1
  have O632 : Old Z n0 h624 := O0.ext E624
  have O633 : Old Z n0 h625 := O632.ext E625
  have CR634 : CHr Z EL1 s.vm h0 s.vm h624 := CR0.trans (CHr.ext E624 CR0.1)
  have CR635 : CHr Z EL1 s.vm h0 s.vm h625 := CR634.trans (CHr.ext E625 CR634.1)
  have ks637 : h0.size ≤ h624.size := Nat.le_trans ks0 E624.1
  have ks638 : h0.size ≤ h625.size := Nat.le_trans ks637 E625.1
  refine Goes.callCW X625 hx (y := y5_) hS0 ks638 hZ rfl hown (mvT hZ (own_w hw 13 rfl)) (mvT hZ (own_w hw 14 rfl)) (mvT hZ (own_w hw 15 rfl)) (by decide) (kc' := 4) (ks' := 8) (backOfSH (W := 1) (rmSi0 l Z a0 hw [] b624 b625 k625 h625 n0 Z631 O633 ge_b624 E628 F629 F630 V625) hZ (own_w hw 15 rfl) (own_w hw 11 rfl) (ok rfl) (ok rfl) hEL CR635.1) (g := (mkF m 11 #[.val (.int (0 : Int32)), .val (.int q0), .val (.int q1), .val (.int q2)] [(.ref b625), (.ref b624), (.ref b624)])) (a := b624) rfl (by rw [hml]; rfl) (argsL := [(.ref b625)]) (rest := [(.ref b624)]) (lenOf pd_1017 rfl) rfl (by show 2 * 0 + _ ≤ _; exact Nat.le_of_eq rfl) (hb hby d2_11) rfl e625 (ok rfl) (ok rfl) ?_
  intro v636 T636 L636 q636 Y636
  obtain ⟨X636, hS636, hZ, hown, CW636⟩ := Y636
  obtain ⟨rfl, N636q, K636, g636E, t636, kb636, cd636, N2636, vs636, g636v, g636c, g636V, g636O⟩ := q636
  have N636 := Fr.app N0 N636q
  have ks636 : T636.heap.size ≤ T636.heap.size := Nat.le_refl _
  show Goes p e below _ T636 (mkF m 14 #[.val (.int (0 : Int32)), .val (.int q0), .val (.int q1), .val (.int q2)] [(.ref b624)])
  have CR639 : CHr Z EL1 s.vm h0 T636.vm T636.heap := CR635.trans CW636
  refine Goes.retAW X636 hx Bd.notSynchronized hS636 ks636 hZ hEL (hh ▸ CR639) rfl Bd.returns rfl rfl (hb hby d2_14) (ok rfl) (ok rfl) ?_
  have K640 : Keep h0 h625 [] := K627.ext E625
  have K641 : Keep h0 T636.heap [] := K640.trans K636 (allS (Or.inr sz_b624) all0)
  exact ⟨b624, rfl, N636, K641, g636E, t636, kb636, cd636, N2636, vs636, g636v, g636c, g636V, g636O⟩
theorem d13_0 : decode jdk_42_method_154_code 0 = .ok (.getstatic 38, 3) := by decide +kernel
theorem d13_3 : decode jdk_42_method_154_code 3 = .ok (.ifCond .eq 14, 3) := by decide +kernel
theorem d13_6 : decode jdk_42_method_154_code 6 = .ok (.aload_n 0, 1) := by decide +kernel
theorem d13_7 : decode jdk_42_method_154_code 7 = .ok (.getfield 15, 3) := by decide +kernel
theorem d13_10 : decode jdk_42_method_154_code 10 = .ok (.ifCond .ne 7, 3) := by decide +kernel
theorem d13_17 : decode jdk_42_method_154_code 17 = .ok (.iconst 0, 1) := by decide +kernel
theorem d13_18 : decode jdk_42_method_154_code 18 = .ok (.ireturn, 1) := by decide +kernel
theorem efIsl (x : Addr) (m : MethodId) : entryFrame m #[(.ref x)] 1 = mkF m 0 #[.val (.ref x)] [] := by first | (simp [entryFrame, mkF, argsToLocals, Value.category]; done) | rfl
def QIsl (Z : State) (x : Addr) (zc : Int32) (fm : Value) (h0 : Heap) (n0 : Nat) (v : Option Value) (h : Heap) (L : List Loc) : Prop := v = some (.int 0) ∧ Fr n0 L ∧ h = h0
set_option maxRecDepth 65536 in
set_option maxHeartbeats 40000000 in
theorem rmIsl (l : Launch) (Z : State) (a0 : Array Value) (hw : ∀ d ∈ tables_1, d.before a0 Z = true) (ws : List Jvm.Cond) (x : Addr) (zc : Int32) (fm : Value) (h0 : Heap) (n0 : Nat) (Z0 : n0 ≤ h0.size) (O0 : Old Z n0 h0) (S_CS : Sta Z Z.heap "java/lang/String" "COMPACT_STRINGS" "Z" (.int zc)) (hzc : ¬ zc = 0) (S_FM : Sta Z Z.heap "jdk/internal/util/Preconditions" "SIOOBE_FORMATTER" "Ljava/util/function/BiFunction;" fm) (hfm : fm.isRef = true) (S_AD : Sta Z Z.heap "java/lang/StringUTF16" "$assertionsDisabled" "Z" (.int (1 : Int32))) (S_HI : Sta Z Z.heap "java/lang/StringUTF16" "HI_BYTE_SHIFT" "I" (.int (0 : Int32))) (S_LO : Sta Z Z.heap "java/lang/StringUTF16" "LO_BYTE_SHIFT" "I" (.int (8 : Int32))) (Cx : Fld Z h0 x "java/lang/String" "coder" "B" (.int (1 : Int32))) :
    OwnLaw l y13_ jdk_42_method_154_code 1 (some .boolean) ws (rR 0 0 0 0) #[(.ref x)] Z h0 (QIsl Z x zc fm h0 n0) := by
  refine own_enter (plainFor_of_name pn_java_lang_String) (efIsl x) ?_
  intro p e s m below meth c s₁ Bd hx hby hml hZ hown X0 e0
  have N0 := Fr.nil n0
  have K0 : Keep h0 h0 [] := Keep.refl _ _
  obtain ⟨T642, X642, e642, st642⟩ := getS2 X0 hx hZ hown (host := "") (Or.inl (own_w hw 45 rfl)) Via.refl e0 (S_CS.ext O0.2) (g := (mkF m 0 #[.val (.ref x)] [])) rfl (hb hby d13_0)
  refine Goes.step (T' := T642) (g' := (mkF m 3 #[.val (.ref x)] [(.int zc)])) st642 ?_
  refine P1.ifNo X642.here hx (hb hby d13_3) ((if0 _ _).trans (feq (hzc : ¬ (zc = (0 : Int32)))).1) ?_
  refine P1.aloadN X642.here hx (hb hby d13_6) rfl rfl ?_
  obtain ⟨T643, X643, e643, st643⟩ := getF X642 hx hZ hown (host := "") (Or.inl (own_w hw 30 rfl)) Via.refl e642 Cx (g := (mkF m 7 #[.val (.ref x)] [(.ref x)])) rfl rfl (hb hby d13_7)
  refine Goes.step (T' := T643) (g' := (mkF m 10 #[.val (.ref x)] [(.int (1 : Int32))])) st643 ?_
  refine P1.ifYes X643.here hx 17 (hb hby d13_10) ((if0 _ _).trans (feq (by decide : ¬ ((1 : Int32) = (0 : Int32)))).2) (by decide) (by decide) ?_
  refine P1.iconst X643.here hx (0 : Int32) (hb hby d13_17) rfl ?_
  refine Goes.retN X643 hx Bd.notSynchronized (t := .boolean) Bd.returns (by simp) (hb hby d13_18) (ok rfl) (ok rfl) ?_
  rw [e643]
  exact ⟨rfl, N0, rfl⟩
theorem d23_0 : decode jdk_52_method_91_code 0 = .ok (.iload_n 0, 1) := by decide +kernel
theorem d23_1 : decode jdk_52_method_91_code 1 = .ok (.aload_n 1, 1) := by decide +kernel
theorem d23_2 : decode jdk_52_method_91_code 2 = .ok (.invokestatic 48, 3) := by decide +kernel
theorem d23_5 : decode jdk_52_method_91_code 5 = .ok (.invokestatic 414, 3) := by decide +kernel
theorem d23_8 : decode jdk_52_method_91_code 8 = .ok (.return_, 1) := by decide +kernel
theorem pd_949 : parseMethodDescriptor "([B)I" = some ⟨[(.array .byte)], some .int⟩ := by decide +kernel
theorem pd_999 : parseMethodDescriptor "(II)V" = some ⟨[.int, .int], none⟩ := by decide +kernel
theorem efUk1 (t : Addr) (m : MethodId) : entryFrame m #[(.int (0 : Int32)), (.ref t)] 2 = mkF m 0 #[.val (.int (0 : Int32)), .val (.ref t)] [] := by first | (simp [entryFrame, mkF, argsToLocals, Value.category]; done) | rfl
def QUk1 (Z : State) (t : Addr) (kt : ClassId) (c0 zc : Int32) (fm : Value) (h0 : Heap) (n0 : Nat) (v : Option Value) (h : Heap) (L : List Loc) : Prop := v = none ∧ Fr n0 L ∧ h = h0
set_option maxRecDepth 65536 in
set_option maxHeartbeats 40000000 in
theorem rmUk1 (l : Launch) (Z : State) (a0 : Array Value) (hw : ∀ d ∈ tables_1, d.before a0 Z = true) (ws : List Jvm.Cond) (t : Addr) (kt : ClassId) (c0 zc : Int32) (fm : Value) (h0 : Heap) (n0 : Nat) (Z0 : n0 ≤ h0.size) (O0 : Old Z n0 h0) (S_CS : Sta Z Z.heap "java/lang/String" "COMPACT_STRINGS" "Z" (.int zc)) (hzc : ¬ zc = 0) (S_FM : Sta Z Z.heap "jdk/internal/util/Preconditions" "SIOOBE_FORMATTER" "Ljava/util/function/BiFunction;" fm) (hfm : fm.isRef = true) (S_AD : Sta Z Z.heap "java/lang/StringUTF16" "$assertionsDisabled" "Z" (.int (1 : Int32))) (S_HI : Sta Z Z.heap "java/lang/StringUTF16" "HI_BYTE_SHIFT" "I" (.int (0 : Int32))) (S_LO : Sta Z Z.heap "java/lang/StringUTF16" "LO_BYTE_SHIFT" "I" (.int (8 : Int32))) (Kt : Arv Z h0 t kt .byte (2 : Int32) [(.int (StrChars.lo8 c0)), (.int (StrChars.hi8 c0))] (.int (0 : Int32))) :
    OwnLaw l y19_ jdk_52_method_91_code 2 none ws (rR 2 0 0 27) #[(.int (0 : Int32)), (.ref t)] Z h0 (QUk1 Z t kt c0 zc fm h0 n0) := by
  refine own_enter (plainFor_of_name pn_java_lang_StringUTF16) (efUk1 t) ?_
  intro p e s m below meth c s₁ Bd hx hby hml hZ hown X0 e0
  have N0 := Fr.nil n0
  have K0 : Keep h0 h0 [] := Keep.refl _ _
  refine P1.iloadN X0.here hx (hb hby d23_0) rfl ?_
  refine P1.aloadN X0.here hx (hb hby d23_1) rfl rfl ?_
  refine P1.callS X0 hx hZ hown (own_w hw 105 rfl) (own_w hw 106 rfl) (own_w hw 48 rfl) (own_w hw 107 rfl) (by decide) (rmUl2 l Z a0 hw [] t kt [(.int (StrChars.lo8 c0)), (.int (StrChars.hi8 c0))] h0 n0 Z0 O0 Kt) hml [(.ref t)] [(.int (0 : Int32))] (lenOf pd_949 rfl) rfl rfl (hb hby d23_2) rfl e0 (ok rfl) (ok rfl) (ok rfl) (ok rfl) ?_
  intro v644 T644 L644 q644 X644
  obtain ⟨rfl, N644q, hE644⟩ := q644
  have N644 := Fr.app N0 N644q
  show Goes p e below _ T644 (mkF m 5 #[.val (.int (0 : Int32)), .val (.ref t)] [(.int (1 : Int32)), (.int (0 : Int32))])
  refine P1.callS X644 hx hZ hown (own_w hw 108 rfl) (own_w hw 71 rfl) (own_w hw 11 rfl) (own_w hw 72 rfl) (by decide) (rmSci l Z a0 hw [] (0 : Int32) (1 : Int32) zc fm h0 n0 Z0 O0 S_CS hzc S_FM hfm S_AD S_HI S_LO (by decide) (by decide)) hml [(.int (0 : Int32)), (.int (1 : Int32))] [] (lenOf pd_999 rfl) rfl rfl (hb hby d23_5) rfl hE644 (ok rfl) (ok rfl) (ok rfl) (ok rfl) ?_
  intro v645 T645 L645 q645 X645
  obtain ⟨rfl, N645q, hE645⟩ := q645
  have N645 := Fr.app N644 N645q
  show Goes p e below _ T645 (mkF m 8 #[.val (.int (0 : Int32)), .val (.ref t)] [])
  refine Goes.retV X645 hx Bd.notSynchronized Bd.returns (hb hby d23_8) (ok rfl) (ok rfl) ?_
  rw [hE645]
  exact ⟨rfl, N645, rfl⟩
theorem d22_0 : decode jdk_52_method_83_code 0 = .ok (.iload_n 1, 1) := by decide +kernel
theorem d22_1 : decode jdk_52_method_83_code 1 = .ok (.aload_n 0, 1) := by decide +kernel
theorem d22_2 : decode jdk_52_method_83_code 2 = .ok (.invokestatic 67, 3) := by decide +kernel
theorem d22_5 : decode jdk_52_method_83_code 5 = .ok (.aload_n 0, 1) := by decide +kernel
theorem d22_6 : decode jdk_52_method_83_code 6 = .ok (.iload_n 1, 1) := by decide +kernel
theorem d22_7 : decode jdk_52_method_83_code 7 = .ok (.invokestatic 71, 3) := by decide +kernel
theorem d22_10 : decode jdk_52_method_83_code 10 = .ok (.ireturn, 1) := by decide +kernel
theorem pd_1444 : parseMethodDescriptor "(I[B)V" = some ⟨[.int, (.array .byte)], none⟩ := by decide +kernel
theorem efUc1 (t : Addr) (m : MethodId) : entryFrame m #[(.ref t), (.int (0 : Int32))] 2 = mkF m 0 #[.val (.ref t), .val (.int (0 : Int32))] [] := by first | (simp [entryFrame, mkF, argsToLocals, Value.category]; done) | rfl
def QUc1 (Z : State) (t : Addr) (kt : ClassId) (c0 zc : Int32) (fm : Value) (h0 : Heap) (n0 : Nat) (v : Option Value) (h : Heap) (L : List Loc) : Prop := v = some (.int c0) ∧ Fr n0 L ∧ h = h0
set_option maxRecDepth 65536 in
set_option maxHeartbeats 40000000 in
theorem rmUc1 (l : Launch) (Z : State) (a0 : Array Value) (hw : ∀ d ∈ tables_1, d.before a0 Z = true) (ws : List Jvm.Cond) (t : Addr) (kt : ClassId) (c0 zc : Int32) (fm : Value) (h0 : Heap) (n0 : Nat) (Z0 : n0 ≤ h0.size) (O0 : Old Z n0 h0) (S_CS : Sta Z Z.heap "java/lang/String" "COMPACT_STRINGS" "Z" (.int zc)) (hzc : ¬ zc = 0) (S_FM : Sta Z Z.heap "jdk/internal/util/Preconditions" "SIOOBE_FORMATTER" "Ljava/util/function/BiFunction;" fm) (hfm : fm.isRef = true) (S_AD : Sta Z Z.heap "java/lang/StringUTF16" "$assertionsDisabled" "Z" (.int (1 : Int32))) (S_HI : Sta Z Z.heap "java/lang/StringUTF16" "HI_BYTE_SHIFT" "I" (.int (0 : Int32))) (S_LO : Sta Z Z.heap "java/lang/StringUTF16" "LO_BYTE_SHIFT" "I" (.int (8 : Int32))) (Kt : Arv Z h0 t kt .byte (2 : Int32) [(.int (StrChars.lo8 c0)), (.int (StrChars.hi8 c0))] (.int (0 : Int32))) (h_c0 : C16 c0) :
    OwnLaw l y17_ jdk_52_method_83_code 2 (some .char) ws (rR 3 0 0 40) #[(.ref t), (.int (0 : Int32))] Z h0 (QUc1 Z t kt c0 zc fm h0 n0) := by
  refine own_enter (plainFor_of_name pn_java_lang_StringUTF16) (efUc1 t) ?_
  intro p e s m below meth c s₁ Bd hx hby hml hZ hown X0 e0
  have N0 := Fr.nil n0
  have K0 : Keep h0 h0 [] := Keep.refl _ _
  refine P1.iloadN X0.here hx (hb hby d22_0) rfl ?_
  refine P1.aloadN X0.here hx (hb hby d22_1) rfl rfl ?_
  refine P1.callS X0 hx hZ hown (own_w hw 102 rfl) (own_w hw 103 rfl) (own_w hw 48 rfl) (own_w hw 104 rfl) (by decide) (rmUk1 l Z a0 hw [] t kt c0 zc fm h0 n0 Z0 O0 S_CS hzc S_FM hfm S_AD S_HI S_LO Kt) hml [(.int (0 : Int32)), (.ref t)] [] (lenOf pd_1444 rfl) rfl rfl (hb hby d22_2) rfl e0 (ok rfl) (ok rfl) (ok rfl) (ok rfl) ?_
  intro v646 T646 L646 q646 X646
  obtain ⟨rfl, N646q, hE646⟩ := q646
  have N646 := Fr.app N0 N646q
  show Goes p e below _ T646 (mkF m 5 #[.val (.ref t), .val (.int (0 : Int32))] [])
  refine P1.aloadN X646.here hx (hb hby d22_5) rfl rfl ?_
  refine P1.iloadN X646.here hx (hb hby d22_6) rfl ?_
  refine P1.callS X646 hx hZ hown (own_w hw 96 rfl) (own_w hw 97 rfl) (own_w hw 48 rfl) (own_w hw 98 rfl) (by decide) (rmGc0 l Z a0 hw [] t kt (2 : Int32) [(.int (StrChars.lo8 c0)), (.int (StrChars.hi8 c0))] c0 zc fm h0 n0 Z0 O0 S_CS hzc S_FM hfm S_AD S_HI S_LO Kt ⟨by decide, by decide⟩ ⟨by decide, by decide⟩ rfl rfl h_c0) hml [(.ref t), (.int (0 : Int32))] [] (lenOf pd_1319 rfl) rfl rfl (hb hby d22_7) rfl hE646 (ok rfl) (ok rfl) (ok rfl) (ok rfl) ?_
  intro v647 T647 L647 q647 X647
  obtain ⟨rfl, N647q, hE647⟩ := q647
  have N647 := Fr.app N646 N647q
  show Goes p e below _ T647 (mkF m 10 #[.val (.ref t), .val (.int (0 : Int32))] [(.int c0)])
  refine Goes.retN X647 hx Bd.notSynchronized (t := .char) Bd.returns (by simp) (hb hby d22_10) (ok rfl) (ok rfl) ?_
  rw [hE647]
  exact ⟨by rw [h_c0.nc], N647, rfl⟩
theorem d12_0 : decode jdk_42_method_56_code 0 = .ok (.aload_n 0, 1) := by decide +kernel
theorem d12_1 : decode jdk_42_method_56_code 1 = .ok (.invokevirtual 492, 3) := by decide +kernel
theorem d12_4 : decode jdk_42_method_56_code 4 = .ok (.ifCond .eq 12, 3) := by decide +kernel
theorem d12_16 : decode jdk_42_method_56_code 16 = .ok (.aload_n 0, 1) := by decide +kernel
theorem d12_17 : decode jdk_42_method_56_code 17 = .ok (.getfield 9, 3) := by decide +kernel
theorem d12_20 : decode jdk_42_method_56_code 20 = .ok (.iload_n 1, 1) := by decide +kernel
theorem d12_21 : decode jdk_42_method_56_code 21 = .ok (.invokestatic 498, 3) := by decide +kernel
theorem d12_24 : decode jdk_42_method_56_code 24 = .ok (.ireturn, 1) := by decide +kernel
theorem pd_392 : parseMethodDescriptor "()Z" = some ⟨[], some .boolean⟩ := by decide +kernel
theorem efCw1 (x : Addr) (m : MethodId) : entryFrame m #[(.ref x), (.int (0 : Int32))] 2 = mkF m 0 #[.val (.ref x), .val (.int (0 : Int32))] [] := by first | (simp [entryFrame, mkF, argsToLocals, Value.category]; done) | rfl
def QCw1 (Z : State) (x t : Addr) (kt : ClassId) (c0 zc : Int32) (fm : Value) (h0 : Heap) (n0 : Nat) (v : Option Value) (h : Heap) (L : List Loc) : Prop := v = some (.int c0) ∧ Fr n0 L ∧ h = h0
set_option maxRecDepth 65536 in
set_option maxHeartbeats 40000000 in
theorem rmCw1 (l : Launch) (Z : State) (a0 : Array Value) (hw : ∀ d ∈ tables_1, d.before a0 Z = true) (ws : List Jvm.Cond) (x t : Addr) (kt : ClassId) (c0 zc : Int32) (fm : Value) (h0 : Heap) (n0 : Nat) (Z0 : n0 ≤ h0.size) (O0 : Old Z n0 h0) (S_CS : Sta Z Z.heap "java/lang/String" "COMPACT_STRINGS" "Z" (.int zc)) (hzc : ¬ zc = 0) (S_FM : Sta Z Z.heap "jdk/internal/util/Preconditions" "SIOOBE_FORMATTER" "Ljava/util/function/BiFunction;" fm) (hfm : fm.isRef = true) (S_AD : Sta Z Z.heap "java/lang/StringUTF16" "$assertionsDisabled" "Z" (.int (1 : Int32))) (S_HI : Sta Z Z.heap "java/lang/StringUTF16" "HI_BYTE_SHIFT" "I" (.int (0 : Int32))) (S_LO : Sta Z Z.heap "java/lang/StringUTF16" "LO_BYTE_SHIFT" "I" (.int (8 : Int32))) (Ex : Exa Z h0 x "java/lang/String") (Vx : Fld Z h0 x "java/lang/String" "value" "[B" (.ref t)) (Cx : Fld Z h0 x "java/lang/String" "coder" "B" (.int (1 : Int32))) (Kt : Arv Z h0 t kt .byte (2 : Int32) [(.int (StrChars.lo8 c0)), (.int (StrChars.hi8 c0))] (.int (0 : Int32))) (h_c0 : C16 c0) :
    OwnLaw l y7_ jdk_42_method_56_code 2 (some .char) ws (rR 4 0 0 53) #[(.ref x), (.int (0 : Int32))] Z h0 (QCw1 Z x t kt c0 zc fm h0 n0) := by
  refine own_enter (plainFor_of_name pn_java_lang_String) (efCw1 x) ?_
  intro p e s m below meth c s₁ Bd hx hby hml hZ hown X0 e0
  have N0 := Fr.nil n0
  have K0 : Keep h0 h0 [] := Keep.refl _ _
  refine P1.aloadN X0.here hx (hb hby d12_0) rfl rfl ?_
  refine Goes.callV X0 hx hZ (y := y13_) (z := y13_) hown (mvT hZ (own_w hw 61 rfl)) (mvT hZ (own_w hw 62 rfl)) (notFace_of_selects (args := #[]) (mvT hZ (own_w hw 64 rfl))) (mvT hZ (own_w hw 64 rfl)) (mvT hZ (own_w hw 63 rfl)) (by decide) (kc' := 0) (ks' := 0) (backOf (W := 0) (rmIsl l Z a0 hw [] x zc fm h0 n0 Z0 O0 S_CS hzc S_FM hfm S_AD S_HI S_LO Cx) hZ (own_w hw 65 rfl) (own_w hw 11 rfl) (ok rfl) (ok rfl)) (b := x) e0 Ex (g := (mkF m 1 #[.val (.ref x), .val (.int (0 : Int32))] [(.ref x)])) rfl (by rw [hml]; rfl) (argsL := []) (rest := []) (lenOf pd_392 rfl) rfl (by show 2 * 0 + _ ≤ _; exact Nat.le_of_eq rfl) (hb hby d12_1) rfl (ok rfl) (ok rfl) ?_
  intro v648 T648 L648 q648 X648
  obtain ⟨rfl, N648q, hE648⟩ := q648
  have N648 := Fr.app N0 N648q
  show Goes p e below _ T648 (mkF m 4 #[.val (.ref x), .val (.int (0 : Int32))] [(.int (0 : Int32))])
  refine P1.ifYes X648.here hx 16 (hb hby d12_4) ((if0 _ _).trans (teq (by decide : (0 : Int32) = (0 : Int32))).1) (by decide) (by decide) ?_
  refine P1.aloadN X648.here hx (hb hby d12_16) rfl rfl ?_
  obtain ⟨T649, X649, e649, st649⟩ := getF X648 hx hZ hown (host := "") (Or.inl (own_w hw 29 rfl)) Via.refl hE648 Vx (g := (mkF m 17 #[.val (.ref x), .val (.int (0 : Int32))] [(.ref x)])) rfl rfl (hb hby d12_17)
  refine Goes.step (T' := T649) (g' := (mkF m 20 #[.val (.ref x), .val (.int (0 : Int32))] [(.ref t)])) st649 ?_
  refine P1.iloadN X649.here hx (hb hby d12_20) rfl ?_
  refine P1.callS X649 hx hZ hown (own_w hw 99 rfl) (own_w hw 100 rfl) (own_w hw 48 rfl) (own_w hw 101 rfl) (by decide) (rmUc1 l Z a0 hw [] t kt c0 zc fm h0 n0 Z0 O0 S_CS hzc S_FM hfm S_AD S_HI S_LO Kt h_c0) hml [(.ref t), (.int (0 : Int32))] [] (lenOf pd_1319 rfl) rfl rfl (hb hby d12_21) rfl e649 (ok rfl) (ok rfl) (ok rfl) (ok rfl) ?_
  intro v650 T650 L650 q650 X650
  obtain ⟨rfl, N650q, hE650⟩ := q650
  have N650 := Fr.app N648 N650q
  show Goes p e below _ T650 (mkF m 24 #[.val (.ref x), .val (.int (0 : Int32))] [(.int c0)])
  refine Goes.retN X650 hx Bd.notSynchronized (t := .char) Bd.returns (by simp) (hb hby d12_24) (ok rfl) (ok rfl) ?_
  rw [hE650]
  exact ⟨by rw [h_c0.nc], N650, rfl⟩
theorem efUk2 (t : Addr) (m : MethodId) : entryFrame m #[(.int (0 : Int32)), (.ref t)] 2 = mkF m 0 #[.val (.int (0 : Int32)), .val (.ref t)] [] := by first | (simp [entryFrame, mkF, argsToLocals, Value.category]; done) | rfl
def QUk2 (Z : State) (t : Addr) (kt : ClassId) (c0 c1 zc : Int32) (fm : Value) (h0 : Heap) (n0 : Nat) (v : Option Value) (h : Heap) (L : List Loc) : Prop := v = none ∧ Fr n0 L ∧ h = h0
set_option maxRecDepth 65536 in
set_option maxHeartbeats 40000000 in
theorem rmUk2 (l : Launch) (Z : State) (a0 : Array Value) (hw : ∀ d ∈ tables_1, d.before a0 Z = true) (ws : List Jvm.Cond) (t : Addr) (kt : ClassId) (c0 c1 zc : Int32) (fm : Value) (h0 : Heap) (n0 : Nat) (Z0 : n0 ≤ h0.size) (O0 : Old Z n0 h0) (S_CS : Sta Z Z.heap "java/lang/String" "COMPACT_STRINGS" "Z" (.int zc)) (hzc : ¬ zc = 0) (S_FM : Sta Z Z.heap "jdk/internal/util/Preconditions" "SIOOBE_FORMATTER" "Ljava/util/function/BiFunction;" fm) (hfm : fm.isRef = true) (S_AD : Sta Z Z.heap "java/lang/StringUTF16" "$assertionsDisabled" "Z" (.int (1 : Int32))) (S_HI : Sta Z Z.heap "java/lang/StringUTF16" "HI_BYTE_SHIFT" "I" (.int (0 : Int32))) (S_LO : Sta Z Z.heap "java/lang/StringUTF16" "LO_BYTE_SHIFT" "I" (.int (8 : Int32))) (Kt : Arv Z h0 t kt .byte (4 : Int32) [(.int (StrChars.lo8 c0)), (.int (StrChars.hi8 c0)), (.int (StrChars.lo8 c1)), (.int (StrChars.hi8 c1))] (.int (0 : Int32))) :
    OwnLaw l y19_ jdk_52_method_91_code 2 none ws (rR 2 0 0 27) #[(.int (0 : Int32)), (.ref t)] Z h0 (QUk2 Z t kt c0 c1 zc fm h0 n0) := by
  refine own_enter (plainFor_of_name pn_java_lang_StringUTF16) (efUk2 t) ?_
  intro p e s m below meth c s₁ Bd hx hby hml hZ hown X0 e0
  have N0 := Fr.nil n0
  have K0 : Keep h0 h0 [] := Keep.refl _ _
  refine P1.iloadN X0.here hx (hb hby d23_0) rfl ?_
  refine P1.aloadN X0.here hx (hb hby d23_1) rfl rfl ?_
  refine P1.callS X0 hx hZ hown (own_w hw 105 rfl) (own_w hw 106 rfl) (own_w hw 48 rfl) (own_w hw 107 rfl) (by decide) (rmUl4 l Z a0 hw [] t kt [(.int (StrChars.lo8 c0)), (.int (StrChars.hi8 c0)), (.int (StrChars.lo8 c1)), (.int (StrChars.hi8 c1))] h0 n0 Z0 O0 Kt) hml [(.ref t)] [(.int (0 : Int32))] (lenOf pd_949 rfl) rfl rfl (hb hby d23_2) rfl e0 (ok rfl) (ok rfl) (ok rfl) (ok rfl) ?_
  intro v651 T651 L651 q651 X651
  obtain ⟨rfl, N651q, hE651⟩ := q651
  have N651 := Fr.app N0 N651q
  show Goes p e below _ T651 (mkF m 5 #[.val (.int (0 : Int32)), .val (.ref t)] [(.int (2 : Int32)), (.int (0 : Int32))])
  refine P1.callS X651 hx hZ hown (own_w hw 108 rfl) (own_w hw 71 rfl) (own_w hw 11 rfl) (own_w hw 72 rfl) (by decide) (rmSci l Z a0 hw [] (0 : Int32) (2 : Int32) zc fm h0 n0 Z0 O0 S_CS hzc S_FM hfm S_AD S_HI S_LO (by decide) (by decide)) hml [(.int (0 : Int32)), (.int (2 : Int32))] [] (lenOf pd_999 rfl) rfl rfl (hb hby d23_5) rfl hE651 (ok rfl) (ok rfl) (ok rfl) (ok rfl) ?_
  intro v652 T652 L652 q652 X652
  obtain ⟨rfl, N652q, hE652⟩ := q652
  have N652 := Fr.app N651 N652q
  show Goes p e below _ T652 (mkF m 8 #[.val (.int (0 : Int32)), .val (.ref t)] [])
  refine Goes.retV X652 hx Bd.notSynchronized Bd.returns (hb hby d23_8) (ok rfl) (ok rfl) ?_
  rw [hE652]
  exact ⟨rfl, N652, rfl⟩
theorem efUc2 (t : Addr) (m : MethodId) : entryFrame m #[(.ref t), (.int (0 : Int32))] 2 = mkF m 0 #[.val (.ref t), .val (.int (0 : Int32))] [] := by first | (simp [entryFrame, mkF, argsToLocals, Value.category]; done) | rfl
def QUc2 (Z : State) (t : Addr) (kt : ClassId) (c0 c1 zc : Int32) (fm : Value) (h0 : Heap) (n0 : Nat) (v : Option Value) (h : Heap) (L : List Loc) : Prop := v = some (.int c0) ∧ Fr n0 L ∧ h = h0
set_option maxRecDepth 65536 in
set_option maxHeartbeats 40000000 in
theorem rmUc2 (l : Launch) (Z : State) (a0 : Array Value) (hw : ∀ d ∈ tables_1, d.before a0 Z = true) (ws : List Jvm.Cond) (t : Addr) (kt : ClassId) (c0 c1 zc : Int32) (fm : Value) (h0 : Heap) (n0 : Nat) (Z0 : n0 ≤ h0.size) (O0 : Old Z n0 h0) (S_CS : Sta Z Z.heap "java/lang/String" "COMPACT_STRINGS" "Z" (.int zc)) (hzc : ¬ zc = 0) (S_FM : Sta Z Z.heap "jdk/internal/util/Preconditions" "SIOOBE_FORMATTER" "Ljava/util/function/BiFunction;" fm) (hfm : fm.isRef = true) (S_AD : Sta Z Z.heap "java/lang/StringUTF16" "$assertionsDisabled" "Z" (.int (1 : Int32))) (S_HI : Sta Z Z.heap "java/lang/StringUTF16" "HI_BYTE_SHIFT" "I" (.int (0 : Int32))) (S_LO : Sta Z Z.heap "java/lang/StringUTF16" "LO_BYTE_SHIFT" "I" (.int (8 : Int32))) (Kt : Arv Z h0 t kt .byte (4 : Int32) [(.int (StrChars.lo8 c0)), (.int (StrChars.hi8 c0)), (.int (StrChars.lo8 c1)), (.int (StrChars.hi8 c1))] (.int (0 : Int32))) (h_c0 : C16 c0) (h_c1 : C16 c1) :
    OwnLaw l y17_ jdk_52_method_83_code 2 (some .char) ws (rR 3 0 0 40) #[(.ref t), (.int (0 : Int32))] Z h0 (QUc2 Z t kt c0 c1 zc fm h0 n0) := by
  refine own_enter (plainFor_of_name pn_java_lang_StringUTF16) (efUc2 t) ?_
  intro p e s m below meth c s₁ Bd hx hby hml hZ hown X0 e0
  have N0 := Fr.nil n0
  have K0 : Keep h0 h0 [] := Keep.refl _ _
  refine P1.iloadN X0.here hx (hb hby d22_0) rfl ?_
  refine P1.aloadN X0.here hx (hb hby d22_1) rfl rfl ?_
  refine P1.callS X0 hx hZ hown (own_w hw 102 rfl) (own_w hw 103 rfl) (own_w hw 48 rfl) (own_w hw 104 rfl) (by decide) (rmUk2 l Z a0 hw [] t kt c0 c1 zc fm h0 n0 Z0 O0 S_CS hzc S_FM hfm S_AD S_HI S_LO Kt) hml [(.int (0 : Int32)), (.ref t)] [] (lenOf pd_1444 rfl) rfl rfl (hb hby d22_2) rfl e0 (ok rfl) (ok rfl) (ok rfl) (ok rfl) ?_
  intro v653 T653 L653 q653 X653
  obtain ⟨rfl, N653q, hE653⟩ := q653
  have N653 := Fr.app N0 N653q
  show Goes p e below _ T653 (mkF m 5 #[.val (.ref t), .val (.int (0 : Int32))] [])
  refine P1.aloadN X653.here hx (hb hby d22_5) rfl rfl ?_
  refine P1.iloadN X653.here hx (hb hby d22_6) rfl ?_
  refine P1.callS X653 hx hZ hown (own_w hw 96 rfl) (own_w hw 97 rfl) (own_w hw 48 rfl) (own_w hw 98 rfl) (by decide) (rmGc0 l Z a0 hw [] t kt (4 : Int32) [(.int (StrChars.lo8 c0)), (.int (StrChars.hi8 c0)), (.int (StrChars.lo8 c1)), (.int (StrChars.hi8 c1))] c0 zc fm h0 n0 Z0 O0 S_CS hzc S_FM hfm S_AD S_HI S_LO Kt ⟨by decide, by decide⟩ ⟨by decide, by decide⟩ rfl rfl h_c0) hml [(.ref t), (.int (0 : Int32))] [] (lenOf pd_1319 rfl) rfl rfl (hb hby d22_7) rfl hE653 (ok rfl) (ok rfl) (ok rfl) (ok rfl) ?_
  intro v654 T654 L654 q654 X654
  obtain ⟨rfl, N654q, hE654⟩ := q654
  have N654 := Fr.app N653 N654q
  show Goes p e below _ T654 (mkF m 10 #[.val (.ref t), .val (.int (0 : Int32))] [(.int c0)])
  refine Goes.retN X654 hx Bd.notSynchronized (t := .char) Bd.returns (by simp) (hb hby d22_10) (ok rfl) (ok rfl) ?_
  rw [hE654]
  exact ⟨by rw [h_c0.nc], N654, rfl⟩
theorem efCw2 (x : Addr) (m : MethodId) : entryFrame m #[(.ref x), (.int (0 : Int32))] 2 = mkF m 0 #[.val (.ref x), .val (.int (0 : Int32))] [] := by first | (simp [entryFrame, mkF, argsToLocals, Value.category]; done) | rfl
def QCw2 (Z : State) (x t : Addr) (kt : ClassId) (c0 c1 zc : Int32) (fm : Value) (h0 : Heap) (n0 : Nat) (v : Option Value) (h : Heap) (L : List Loc) : Prop := v = some (.int c0) ∧ Fr n0 L ∧ h = h0
set_option maxRecDepth 65536 in
set_option maxHeartbeats 40000000 in
theorem rmCw2 (l : Launch) (Z : State) (a0 : Array Value) (hw : ∀ d ∈ tables_1, d.before a0 Z = true) (ws : List Jvm.Cond) (x t : Addr) (kt : ClassId) (c0 c1 zc : Int32) (fm : Value) (h0 : Heap) (n0 : Nat) (Z0 : n0 ≤ h0.size) (O0 : Old Z n0 h0) (S_CS : Sta Z Z.heap "java/lang/String" "COMPACT_STRINGS" "Z" (.int zc)) (hzc : ¬ zc = 0) (S_FM : Sta Z Z.heap "jdk/internal/util/Preconditions" "SIOOBE_FORMATTER" "Ljava/util/function/BiFunction;" fm) (hfm : fm.isRef = true) (S_AD : Sta Z Z.heap "java/lang/StringUTF16" "$assertionsDisabled" "Z" (.int (1 : Int32))) (S_HI : Sta Z Z.heap "java/lang/StringUTF16" "HI_BYTE_SHIFT" "I" (.int (0 : Int32))) (S_LO : Sta Z Z.heap "java/lang/StringUTF16" "LO_BYTE_SHIFT" "I" (.int (8 : Int32))) (Ex : Exa Z h0 x "java/lang/String") (Vx : Fld Z h0 x "java/lang/String" "value" "[B" (.ref t)) (Cx : Fld Z h0 x "java/lang/String" "coder" "B" (.int (1 : Int32))) (Kt : Arv Z h0 t kt .byte (4 : Int32) [(.int (StrChars.lo8 c0)), (.int (StrChars.hi8 c0)), (.int (StrChars.lo8 c1)), (.int (StrChars.hi8 c1))] (.int (0 : Int32))) (h_c0 : C16 c0) (h_c1 : C16 c1) :
    OwnLaw l y7_ jdk_42_method_56_code 2 (some .char) ws (rR 4 0 0 53) #[(.ref x), (.int (0 : Int32))] Z h0 (QCw2 Z x t kt c0 c1 zc fm h0 n0) := by
  refine own_enter (plainFor_of_name pn_java_lang_String) (efCw2 x) ?_
  intro p e s m below meth c s₁ Bd hx hby hml hZ hown X0 e0
  have N0 := Fr.nil n0
  have K0 : Keep h0 h0 [] := Keep.refl _ _
  refine P1.aloadN X0.here hx (hb hby d12_0) rfl rfl ?_
  refine Goes.callV X0 hx hZ (y := y13_) (z := y13_) hown (mvT hZ (own_w hw 61 rfl)) (mvT hZ (own_w hw 62 rfl)) (notFace_of_selects (args := #[]) (mvT hZ (own_w hw 64 rfl))) (mvT hZ (own_w hw 64 rfl)) (mvT hZ (own_w hw 63 rfl)) (by decide) (kc' := 0) (ks' := 0) (backOf (W := 0) (rmIsl l Z a0 hw [] x zc fm h0 n0 Z0 O0 S_CS hzc S_FM hfm S_AD S_HI S_LO Cx) hZ (own_w hw 65 rfl) (own_w hw 11 rfl) (ok rfl) (ok rfl)) (b := x) e0 Ex (g := (mkF m 1 #[.val (.ref x), .val (.int (0 : Int32))] [(.ref x)])) rfl (by rw [hml]; rfl) (argsL := []) (rest := []) (lenOf pd_392 rfl) rfl (by show 2 * 0 + _ ≤ _; exact Nat.le_of_eq rfl) (hb hby d12_1) rfl (ok rfl) (ok rfl) ?_
  intro v655 T655 L655 q655 X655
  obtain ⟨rfl, N655q, hE655⟩ := q655
  have N655 := Fr.app N0 N655q
  show Goes p e below _ T655 (mkF m 4 #[.val (.ref x), .val (.int (0 : Int32))] [(.int (0 : Int32))])
  refine P1.ifYes X655.here hx 16 (hb hby d12_4) ((if0 _ _).trans (teq (by decide : (0 : Int32) = (0 : Int32))).1) (by decide) (by decide) ?_
  refine P1.aloadN X655.here hx (hb hby d12_16) rfl rfl ?_
  obtain ⟨T656, X656, e656, st656⟩ := getF X655 hx hZ hown (host := "") (Or.inl (own_w hw 29 rfl)) Via.refl hE655 Vx (g := (mkF m 17 #[.val (.ref x), .val (.int (0 : Int32))] [(.ref x)])) rfl rfl (hb hby d12_17)
  refine Goes.step (T' := T656) (g' := (mkF m 20 #[.val (.ref x), .val (.int (0 : Int32))] [(.ref t)])) st656 ?_
  refine P1.iloadN X656.here hx (hb hby d12_20) rfl ?_
  refine P1.callS X656 hx hZ hown (own_w hw 99 rfl) (own_w hw 100 rfl) (own_w hw 48 rfl) (own_w hw 101 rfl) (by decide) (rmUc2 l Z a0 hw [] t kt c0 c1 zc fm h0 n0 Z0 O0 S_CS hzc S_FM hfm S_AD S_HI S_LO Kt h_c0 h_c1) hml [(.ref t), (.int (0 : Int32))] [] (lenOf pd_1319 rfl) rfl rfl (hb hby d12_21) rfl e656 (ok rfl) (ok rfl) (ok rfl) (ok rfl) ?_
  intro v657 T657 L657 q657 X657
  obtain ⟨rfl, N657q, hE657⟩ := q657
  have N657 := Fr.app N655 N657q
  show Goes p e below _ T657 (mkF m 24 #[.val (.ref x), .val (.int (0 : Int32))] [(.int c0)])
  refine Goes.retN X657 hx Bd.notSynchronized (t := .char) Bd.returns (by simp) (hb hby d12_24) (ok rfl) (ok rfl) ?_
  rw [hE657]
  exact ⟨by rw [h_c0.nc], N657, rfl⟩
theorem efUk3 (t : Addr) (m : MethodId) : entryFrame m #[(.int (0 : Int32)), (.ref t)] 2 = mkF m 0 #[.val (.int (0 : Int32)), .val (.ref t)] [] := by first | (simp [entryFrame, mkF, argsToLocals, Value.category]; done) | rfl
def QUk3 (Z : State) (t : Addr) (kt : ClassId) (c0 c1 c2 zc : Int32) (fm : Value) (h0 : Heap) (n0 : Nat) (v : Option Value) (h : Heap) (L : List Loc) : Prop := v = none ∧ Fr n0 L ∧ h = h0
set_option maxRecDepth 65536 in
set_option maxHeartbeats 40000000 in
theorem rmUk3 (l : Launch) (Z : State) (a0 : Array Value) (hw : ∀ d ∈ tables_1, d.before a0 Z = true) (ws : List Jvm.Cond) (t : Addr) (kt : ClassId) (c0 c1 c2 zc : Int32) (fm : Value) (h0 : Heap) (n0 : Nat) (Z0 : n0 ≤ h0.size) (O0 : Old Z n0 h0) (S_CS : Sta Z Z.heap "java/lang/String" "COMPACT_STRINGS" "Z" (.int zc)) (hzc : ¬ zc = 0) (S_FM : Sta Z Z.heap "jdk/internal/util/Preconditions" "SIOOBE_FORMATTER" "Ljava/util/function/BiFunction;" fm) (hfm : fm.isRef = true) (S_AD : Sta Z Z.heap "java/lang/StringUTF16" "$assertionsDisabled" "Z" (.int (1 : Int32))) (S_HI : Sta Z Z.heap "java/lang/StringUTF16" "HI_BYTE_SHIFT" "I" (.int (0 : Int32))) (S_LO : Sta Z Z.heap "java/lang/StringUTF16" "LO_BYTE_SHIFT" "I" (.int (8 : Int32))) (Kt : Arv Z h0 t kt .byte (6 : Int32) [(.int (StrChars.lo8 c0)), (.int (StrChars.hi8 c0)), (.int (StrChars.lo8 c1)), (.int (StrChars.hi8 c1)), (.int (StrChars.lo8 c2)), (.int (StrChars.hi8 c2))] (.int (0 : Int32))) :
    OwnLaw l y19_ jdk_52_method_91_code 2 none ws (rR 2 0 0 27) #[(.int (0 : Int32)), (.ref t)] Z h0 (QUk3 Z t kt c0 c1 c2 zc fm h0 n0) := by
  refine own_enter (plainFor_of_name pn_java_lang_StringUTF16) (efUk3 t) ?_
  intro p e s m below meth c s₁ Bd hx hby hml hZ hown X0 e0
  have N0 := Fr.nil n0
  have K0 : Keep h0 h0 [] := Keep.refl _ _
  refine P1.iloadN X0.here hx (hb hby d23_0) rfl ?_
  refine P1.aloadN X0.here hx (hb hby d23_1) rfl rfl ?_
  refine P1.callS X0 hx hZ hown (own_w hw 105 rfl) (own_w hw 106 rfl) (own_w hw 48 rfl) (own_w hw 107 rfl) (by decide) (rmUl6 l Z a0 hw [] t kt [(.int (StrChars.lo8 c0)), (.int (StrChars.hi8 c0)), (.int (StrChars.lo8 c1)), (.int (StrChars.hi8 c1)), (.int (StrChars.lo8 c2)), (.int (StrChars.hi8 c2))] h0 n0 Z0 O0 Kt) hml [(.ref t)] [(.int (0 : Int32))] (lenOf pd_949 rfl) rfl rfl (hb hby d23_2) rfl e0 (ok rfl) (ok rfl) (ok rfl) (ok rfl) ?_
  intro v658 T658 L658 q658 X658
  obtain ⟨rfl, N658q, hE658⟩ := q658
  have N658 := Fr.app N0 N658q
  show Goes p e below _ T658 (mkF m 5 #[.val (.int (0 : Int32)), .val (.ref t)] [(.int (3 : Int32)), (.int (0 : Int32))])
  refine P1.callS X658 hx hZ hown (own_w hw 108 rfl) (own_w hw 71 rfl) (own_w hw 11 rfl) (own_w hw 72 rfl) (by decide) (rmSci l Z a0 hw [] (0 : Int32) (3 : Int32) zc fm h0 n0 Z0 O0 S_CS hzc S_FM hfm S_AD S_HI S_LO (by decide) (by decide)) hml [(.int (0 : Int32)), (.int (3 : Int32))] [] (lenOf pd_999 rfl) rfl rfl (hb hby d23_5) rfl hE658 (ok rfl) (ok rfl) (ok rfl) (ok rfl) ?_
  intro v659 T659 L659 q659 X659
  obtain ⟨rfl, N659q, hE659⟩ := q659
  have N659 := Fr.app N658 N659q
  show Goes p e below _ T659 (mkF m 8 #[.val (.int (0 : Int32)), .val (.ref t)] [])
  refine Goes.retV X659 hx Bd.notSynchronized Bd.returns (hb hby d23_8) (ok rfl) (ok rfl) ?_
  rw [hE659]
  exact ⟨rfl, N659, rfl⟩
theorem efUc3 (t : Addr) (m : MethodId) : entryFrame m #[(.ref t), (.int (0 : Int32))] 2 = mkF m 0 #[.val (.ref t), .val (.int (0 : Int32))] [] := by first | (simp [entryFrame, mkF, argsToLocals, Value.category]; done) | rfl
def QUc3 (Z : State) (t : Addr) (kt : ClassId) (c0 c1 c2 zc : Int32) (fm : Value) (h0 : Heap) (n0 : Nat) (v : Option Value) (h : Heap) (L : List Loc) : Prop := v = some (.int c0) ∧ Fr n0 L ∧ h = h0
set_option maxRecDepth 65536 in
set_option maxHeartbeats 40000000 in
theorem rmUc3 (l : Launch) (Z : State) (a0 : Array Value) (hw : ∀ d ∈ tables_1, d.before a0 Z = true) (ws : List Jvm.Cond) (t : Addr) (kt : ClassId) (c0 c1 c2 zc : Int32) (fm : Value) (h0 : Heap) (n0 : Nat) (Z0 : n0 ≤ h0.size) (O0 : Old Z n0 h0) (S_CS : Sta Z Z.heap "java/lang/String" "COMPACT_STRINGS" "Z" (.int zc)) (hzc : ¬ zc = 0) (S_FM : Sta Z Z.heap "jdk/internal/util/Preconditions" "SIOOBE_FORMATTER" "Ljava/util/function/BiFunction;" fm) (hfm : fm.isRef = true) (S_AD : Sta Z Z.heap "java/lang/StringUTF16" "$assertionsDisabled" "Z" (.int (1 : Int32))) (S_HI : Sta Z Z.heap "java/lang/StringUTF16" "HI_BYTE_SHIFT" "I" (.int (0 : Int32))) (S_LO : Sta Z Z.heap "java/lang/StringUTF16" "LO_BYTE_SHIFT" "I" (.int (8 : Int32))) (Kt : Arv Z h0 t kt .byte (6 : Int32) [(.int (StrChars.lo8 c0)), (.int (StrChars.hi8 c0)), (.int (StrChars.lo8 c1)), (.int (StrChars.hi8 c1)), (.int (StrChars.lo8 c2)), (.int (StrChars.hi8 c2))] (.int (0 : Int32))) (h_c0 : C16 c0) (h_c1 : C16 c1) (h_c2 : C16 c2) :
    OwnLaw l y17_ jdk_52_method_83_code 2 (some .char) ws (rR 3 0 0 40) #[(.ref t), (.int (0 : Int32))] Z h0 (QUc3 Z t kt c0 c1 c2 zc fm h0 n0) := by
  refine own_enter (plainFor_of_name pn_java_lang_StringUTF16) (efUc3 t) ?_
  intro p e s m below meth c s₁ Bd hx hby hml hZ hown X0 e0
  have N0 := Fr.nil n0
  have K0 : Keep h0 h0 [] := Keep.refl _ _
  refine P1.iloadN X0.here hx (hb hby d22_0) rfl ?_
  refine P1.aloadN X0.here hx (hb hby d22_1) rfl rfl ?_
  refine P1.callS X0 hx hZ hown (own_w hw 102 rfl) (own_w hw 103 rfl) (own_w hw 48 rfl) (own_w hw 104 rfl) (by decide) (rmUk3 l Z a0 hw [] t kt c0 c1 c2 zc fm h0 n0 Z0 O0 S_CS hzc S_FM hfm S_AD S_HI S_LO Kt) hml [(.int (0 : Int32)), (.ref t)] [] (lenOf pd_1444 rfl) rfl rfl (hb hby d22_2) rfl e0 (ok rfl) (ok rfl) (ok rfl) (ok rfl) ?_
  intro v660 T660 L660 q660 X660
  obtain ⟨rfl, N660q, hE660⟩ := q660
  have N660 := Fr.app N0 N660q
  show Goes p e below _ T660 (mkF m 5 #[.val (.ref t), .val (.int (0 : Int32))] [])
  refine P1.aloadN X660.here hx (hb hby d22_5) rfl rfl ?_
  refine P1.iloadN X660.here hx (hb hby d22_6) rfl ?_
  refine P1.callS X660 hx hZ hown (own_w hw 96 rfl) (own_w hw 97 rfl) (own_w hw 48 rfl) (own_w hw 98 rfl) (by decide) (rmGc0 l Z a0 hw [] t kt (6 : Int32) [(.int (StrChars.lo8 c0)), (.int (StrChars.hi8 c0)), (.int (StrChars.lo8 c1)), (.int (StrChars.hi8 c1)), (.int (StrChars.lo8 c2)), (.int (StrChars.hi8 c2))] c0 zc fm h0 n0 Z0 O0 S_CS hzc S_FM hfm S_AD S_HI S_LO Kt ⟨by decide, by decide⟩ ⟨by decide, by decide⟩ rfl rfl h_c0) hml [(.ref t), (.int (0 : Int32))] [] (lenOf pd_1319 rfl) rfl rfl (hb hby d22_7) rfl hE660 (ok rfl) (ok rfl) (ok rfl) (ok rfl) ?_
  intro v661 T661 L661 q661 X661
  obtain ⟨rfl, N661q, hE661⟩ := q661
  have N661 := Fr.app N660 N661q
  show Goes p e below _ T661 (mkF m 10 #[.val (.ref t), .val (.int (0 : Int32))] [(.int c0)])
  refine Goes.retN X661 hx Bd.notSynchronized (t := .char) Bd.returns (by simp) (hb hby d22_10) (ok rfl) (ok rfl) ?_
  rw [hE661]
  exact ⟨by rw [h_c0.nc], N661, rfl⟩
theorem efCw3 (x : Addr) (m : MethodId) : entryFrame m #[(.ref x), (.int (0 : Int32))] 2 = mkF m 0 #[.val (.ref x), .val (.int (0 : Int32))] [] := by first | (simp [entryFrame, mkF, argsToLocals, Value.category]; done) | rfl
def QCw3 (Z : State) (x t : Addr) (kt : ClassId) (c0 c1 c2 zc : Int32) (fm : Value) (h0 : Heap) (n0 : Nat) (v : Option Value) (h : Heap) (L : List Loc) : Prop := v = some (.int c0) ∧ Fr n0 L ∧ h = h0
set_option maxRecDepth 65536 in
set_option maxHeartbeats 40000000 in
theorem rmCw3 (l : Launch) (Z : State) (a0 : Array Value) (hw : ∀ d ∈ tables_1, d.before a0 Z = true) (ws : List Jvm.Cond) (x t : Addr) (kt : ClassId) (c0 c1 c2 zc : Int32) (fm : Value) (h0 : Heap) (n0 : Nat) (Z0 : n0 ≤ h0.size) (O0 : Old Z n0 h0) (S_CS : Sta Z Z.heap "java/lang/String" "COMPACT_STRINGS" "Z" (.int zc)) (hzc : ¬ zc = 0) (S_FM : Sta Z Z.heap "jdk/internal/util/Preconditions" "SIOOBE_FORMATTER" "Ljava/util/function/BiFunction;" fm) (hfm : fm.isRef = true) (S_AD : Sta Z Z.heap "java/lang/StringUTF16" "$assertionsDisabled" "Z" (.int (1 : Int32))) (S_HI : Sta Z Z.heap "java/lang/StringUTF16" "HI_BYTE_SHIFT" "I" (.int (0 : Int32))) (S_LO : Sta Z Z.heap "java/lang/StringUTF16" "LO_BYTE_SHIFT" "I" (.int (8 : Int32))) (Ex : Exa Z h0 x "java/lang/String") (Vx : Fld Z h0 x "java/lang/String" "value" "[B" (.ref t)) (Cx : Fld Z h0 x "java/lang/String" "coder" "B" (.int (1 : Int32))) (Kt : Arv Z h0 t kt .byte (6 : Int32) [(.int (StrChars.lo8 c0)), (.int (StrChars.hi8 c0)), (.int (StrChars.lo8 c1)), (.int (StrChars.hi8 c1)), (.int (StrChars.lo8 c2)), (.int (StrChars.hi8 c2))] (.int (0 : Int32))) (h_c0 : C16 c0) (h_c1 : C16 c1) (h_c2 : C16 c2) :
    OwnLaw l y7_ jdk_42_method_56_code 2 (some .char) ws (rR 4 0 0 53) #[(.ref x), (.int (0 : Int32))] Z h0 (QCw3 Z x t kt c0 c1 c2 zc fm h0 n0) := by
  refine own_enter (plainFor_of_name pn_java_lang_String) (efCw3 x) ?_
  intro p e s m below meth c s₁ Bd hx hby hml hZ hown X0 e0
  have N0 := Fr.nil n0
  have K0 : Keep h0 h0 [] := Keep.refl _ _
  refine P1.aloadN X0.here hx (hb hby d12_0) rfl rfl ?_
  refine Goes.callV X0 hx hZ (y := y13_) (z := y13_) hown (mvT hZ (own_w hw 61 rfl)) (mvT hZ (own_w hw 62 rfl)) (notFace_of_selects (args := #[]) (mvT hZ (own_w hw 64 rfl))) (mvT hZ (own_w hw 64 rfl)) (mvT hZ (own_w hw 63 rfl)) (by decide) (kc' := 0) (ks' := 0) (backOf (W := 0) (rmIsl l Z a0 hw [] x zc fm h0 n0 Z0 O0 S_CS hzc S_FM hfm S_AD S_HI S_LO Cx) hZ (own_w hw 65 rfl) (own_w hw 11 rfl) (ok rfl) (ok rfl)) (b := x) e0 Ex (g := (mkF m 1 #[.val (.ref x), .val (.int (0 : Int32))] [(.ref x)])) rfl (by rw [hml]; rfl) (argsL := []) (rest := []) (lenOf pd_392 rfl) rfl (by show 2 * 0 + _ ≤ _; exact Nat.le_of_eq rfl) (hb hby d12_1) rfl (ok rfl) (ok rfl) ?_
  intro v662 T662 L662 q662 X662
  obtain ⟨rfl, N662q, hE662⟩ := q662
  have N662 := Fr.app N0 N662q
  show Goes p e below _ T662 (mkF m 4 #[.val (.ref x), .val (.int (0 : Int32))] [(.int (0 : Int32))])
  refine P1.ifYes X662.here hx 16 (hb hby d12_4) ((if0 _ _).trans (teq (by decide : (0 : Int32) = (0 : Int32))).1) (by decide) (by decide) ?_
  refine P1.aloadN X662.here hx (hb hby d12_16) rfl rfl ?_
  obtain ⟨T663, X663, e663, st663⟩ := getF X662 hx hZ hown (host := "") (Or.inl (own_w hw 29 rfl)) Via.refl hE662 Vx (g := (mkF m 17 #[.val (.ref x), .val (.int (0 : Int32))] [(.ref x)])) rfl rfl (hb hby d12_17)
  refine Goes.step (T' := T663) (g' := (mkF m 20 #[.val (.ref x), .val (.int (0 : Int32))] [(.ref t)])) st663 ?_
  refine P1.iloadN X663.here hx (hb hby d12_20) rfl ?_
  refine P1.callS X663 hx hZ hown (own_w hw 99 rfl) (own_w hw 100 rfl) (own_w hw 48 rfl) (own_w hw 101 rfl) (by decide) (rmUc3 l Z a0 hw [] t kt c0 c1 c2 zc fm h0 n0 Z0 O0 S_CS hzc S_FM hfm S_AD S_HI S_LO Kt h_c0 h_c1 h_c2) hml [(.ref t), (.int (0 : Int32))] [] (lenOf pd_1319 rfl) rfl rfl (hb hby d12_21) rfl e663 (ok rfl) (ok rfl) (ok rfl) (ok rfl) ?_
  intro v664 T664 L664 q664 X664
  obtain ⟨rfl, N664q, hE664⟩ := q664
  have N664 := Fr.app N662 N664q
  show Goes p e below _ T664 (mkF m 24 #[.val (.ref x), .val (.int (0 : Int32))] [(.int c0)])
  refine Goes.retN X664 hx Bd.notSynchronized (t := .char) Bd.returns (by simp) (hb hby d12_24) (ok rfl) (ok rfl) ?_
  rw [hE664]
  exact ⟨by rw [h_c0.nc], N664, rfl⟩
theorem d6_0 : decode prog_17_method_7_code 0 = .ok (.aload_n 0, 1) := by decide +kernel
theorem d6_1 : decode prog_17_method_7_code 1 = .ok (.invokevirtual 133, 3) := by decide +kernel
theorem d6_4 : decode prog_17_method_7_code 4 = .ok (.ifCond .ne 21, 3) := by decide +kernel
theorem d6_7 : decode prog_17_method_7_code 7 = .ok (.aload_n 0, 1) := by decide +kernel
theorem d6_8 : decode prog_17_method_7_code 8 = .ok (.iconst 0, 1) := by decide +kernel
theorem d6_9 : decode prog_17_method_7_code 9 = .ok (.invokevirtual 137, 3) := by decide +kernel
theorem d6_12 : decode prog_17_method_7_code 12 = .ok (.ldc 141, 2) := by decide +kernel
theorem d6_14 : decode prog_17_method_7_code 14 = .ok (.if_icmp .ne 11, 3) := by decide +kernel
theorem d6_17 : decode prog_17_method_7_code 17 = .ok (.aload_n 0, 1) := by decide +kernel
theorem d6_18 : decode prog_17_method_7_code 18 = .ok (.iconst 1, 1) := by decide +kernel
theorem d6_19 : decode prog_17_method_7_code 19 = .ok (.invokevirtual 142, 3) := by decide +kernel
theorem d6_22 : decode prog_17_method_7_code 22 = .ok (.goto 4, 3) := by decide +kernel
theorem d6_25 : decode prog_17_method_7_code 25 = .ok (.aload_n 0, 1) := by decide +kernel
theorem d6_26 : decode prog_17_method_7_code 26 = .ok (.areturn, 1) := by decide +kernel
theorem pn_com_example_epaulet_epaulet_io_InputFiles : plainName "com/example/epaulet/epaulet/io/InputFiles" = true := by first | (simp [plainName, overriddenIn]; done) | decide +kernel
theorem in_wordsEmp : ∀ d ∈ StrChars.Road.wordsEmp, d ∈ tables_1 := by decide +kernel
theorem efWb0 (x : Addr) (m : MethodId) : entryFrame m #[(.ref x)] 1 = mkF m 0 #[.val (.ref x)] [] := by first | (simp [entryFrame, mkF, argsToLocals, Value.category]; done) | rfl
def QWb0 (Z : State) (x t : Addr) (kt : ClassId) (cd N2 : Int32) (vs : List Value) (zc : Int32) (fm : Value) (h0 : Heap) (n0 : Nat) (v : Option Value) (h : Heap) (L : List Loc) : Prop := v = some (.ref x) ∧ Fr n0 L ∧ h = h0
set_option maxRecDepth 65536 in
set_option maxHeartbeats 40000000 in
theorem rmWb0 (l : Launch) (Z : State) (a0 : Array Value) (hw : ∀ d ∈ tables_1, d.before a0 Z = true) (ws : List Jvm.Cond) (x t : Addr) (kt : ClassId) (cd N2 : Int32) (vs : List Value) (zc : Int32) (fm : Value) (h0 : Heap) (n0 : Nat) (Z0 : n0 ≤ h0.size) (O0 : Old Z n0 h0) (S_CS : Sta Z Z.heap "java/lang/String" "COMPACT_STRINGS" "Z" (.int zc)) (hzc : ¬ zc = 0) (S_FM : Sta Z Z.heap "jdk/internal/util/Preconditions" "SIOOBE_FORMATTER" "Ljava/util/function/BiFunction;" fm) (hfm : fm.isRef = true) (S_AD : Sta Z Z.heap "java/lang/StringUTF16" "$assertionsDisabled" "Z" (.int (1 : Int32))) (S_HI : Sta Z Z.heap "java/lang/StringUTF16" "HI_BYTE_SHIFT" "I" (.int (0 : Int32))) (S_LO : Sta Z Z.heap "java/lang/StringUTF16" "LO_BYTE_SHIFT" "I" (.int (8 : Int32))) (Ex : Exa Z h0 x "java/lang/String") (Vx : Fld Z h0 x "java/lang/String" "value" "[B" (.ref t)) (Cx : Fld Z h0 x "java/lang/String" "coder" "B" (.int cd)) (Kt : Arv Z h0 t kt .byte N2 vs (.int (0 : Int32))) (hcod : StrChars.Road.CodA ([] : List Int32) cd N2 vs) :
    OwnLaw l y0_ prog_17_method_7_code 1 (some (.object "java/lang/String")) ws (rR 1 0 0 12) #[(.ref x)] Z h0 (QWb0 Z x t kt cd N2 vs zc fm h0 n0) := by
  refine own_enter (plainFor_of_name pn_com_example_epaulet_epaulet_io_InputFiles) (efWb0 x) ?_
  intro p e s m below meth c s₁ Bd hx hby hml hZ hown X0 e0
  have N0 := Fr.nil n0
  have K0 : Keep h0 h0 [] := Keep.refl _ _
  have hbd665 : ∀ c ∈ ([] : List Int32), ¬ c < 0 ∧ ¬ (65535 : Int32) < c := fun _ q => nomatch q
  refine P1.aloadN X0.here hx (hb hby d6_0) rfl rfl ?_
  refine Goes.callV X0 hx hZ (y := y12_) (z := y12_) (Qc := fun v h' L => (v = some (.int (if ([] : List Int32).length = 0 then 1 else 0)) ∧ L = [] ∧ h' = h0)) hown (mvT hZ (own_w hw 35 rfl)) (mvT hZ (own_w hw 36 rfl)) (notFace_of_selects (args := #[]) (mvT hZ (own_w hw 38 rfl))) (mvT hZ (own_w hw 38 rfl)) (mvT hZ (own_w hw 37 rfl)) (by decide) (kc' := 0) (ks' := 0) (StrChars.Road.empW (W := 0) hZ (fun d hd => hw d (in_wordsEmp d hd)) (kI := 4) (own_w hw 10 rfl) Ex Vx Cx Kt hcod hbd665 (ok rfl) (ok rfl) (ok rfl)) (b := x) e0 Ex (g := (mkF m 1 #[.val (.ref x)] [(.ref x)])) rfl (by rw [hml]; rfl) (argsL := []) (rest := []) (lenOf pd_392 rfl) rfl (by show 2 * 0 + _ ≤ _; exact Nat.le_of_eq rfl) (hb hby d6_1) rfl (ok rfl) (ok rfl) ?_
  intro v666 T666 L666 q666 X666
  obtain ⟨rfl, rfl, hE666⟩ := q666
  have N666 := Fr.app N0 (Fr.nil n0)
  show Goes p e below _ T666 (mkF m 4 #[.val (.ref x)] [(.int (1 : Int32))])
  refine P1.ifYes X666.here hx 25 (hb hby d6_4) ((if0 _ _).trans (feq (by decide : ¬ ((1 : Int32) = (0 : Int32)))).2) (by decide) (by decide) ?_
  refine P1.aloadN X666.here hx (hb hby d6_25) rfl rfl ?_
  refine Goes.retA X666 hx Bd.notSynchronized Bd.returns rfl rfl (hb hby d6_26) (ok rfl) (ok rfl) ?_
  rw [hE666]
  exact ⟨rfl, N666, rfl⟩
theorem in_wordsChN : ∀ d ∈ StrChars.Road.wordsChN, d ∈ tables_1 := by decide +kernel
theorem pd_577 : parseMethodDescriptor "(I)C" = some ⟨[.int], some .char⟩ := by decide +kernel
theorem efWk1 (x : Addr) (m : MethodId) : entryFrame m #[(.ref x)] 1 = mkF m 0 #[.val (.ref x)] [] := by first | (simp [entryFrame, mkF, argsToLocals, Value.category]; done) | rfl
def QWk1 (Z : State) (x t : Addr) (kt : ClassId) (cd N2 : Int32) (vs : List Value) (c0 zc : Int32) (fm : Value) (h0 : Heap) (n0 : Nat) (v : Option Value) (h : Heap) (L : List Loc) : Prop := v = some (.ref x) ∧ Fr n0 L ∧ h = h0
set_option maxRecDepth 65536 in
set_option maxHeartbeats 40000000 in
theorem rmWk1 (l : Launch) (Z : State) (a0 : Array Value) (hw : ∀ d ∈ tables_1, d.before a0 Z = true) (ws : List Jvm.Cond) (x t : Addr) (kt : ClassId) (cd N2 : Int32) (vs : List Value) (c0 zc : Int32) (fm : Value) (h0 : Heap) (n0 : Nat) (Z0 : n0 ≤ h0.size) (O0 : Old Z n0 h0) (S_CS : Sta Z Z.heap "java/lang/String" "COMPACT_STRINGS" "Z" (.int zc)) (hzc : ¬ zc = 0) (S_FM : Sta Z Z.heap "jdk/internal/util/Preconditions" "SIOOBE_FORMATTER" "Ljava/util/function/BiFunction;" fm) (hfm : fm.isRef = true) (S_AD : Sta Z Z.heap "java/lang/StringUTF16" "$assertionsDisabled" "Z" (.int (1 : Int32))) (S_HI : Sta Z Z.heap "java/lang/StringUTF16" "HI_BYTE_SHIFT" "I" (.int (0 : Int32))) (S_LO : Sta Z Z.heap "java/lang/StringUTF16" "LO_BYTE_SHIFT" "I" (.int (8 : Int32))) (Ex : Exa Z h0 x "java/lang/String") (Vx : Fld Z h0 x "java/lang/String" "value" "[B" (.ref t)) (Cx : Fld Z h0 x "java/lang/String" "coder" "B" (.int cd)) (Kt : Arv Z h0 t kt .byte N2 vs (.int (0 : Int32))) (hcod : StrChars.Road.CodA ([c0] : List Int32) cd N2 vs) (h_c0 : C16 c0) (hne : ¬ (c0 = (65279 : Int32))) :
    OwnLaw l y0_ prog_17_method_7_code 1 (some (.object "java/lang/String")) ws (rR 5 0 0 66) #[(.ref x)] Z h0 (QWk1 Z x t kt cd N2 vs c0 zc fm h0 n0) := by
  refine own_enter (plainFor_of_name pn_com_example_epaulet_epaulet_io_InputFiles) (efWk1 x) ?_
  intro p e s m below meth c s₁ Bd hx hby hml hZ hown X0 e0
  have N0 := Fr.nil n0
  have K0 : Keep h0 h0 [] := Keep.refl _ _
  rcases hcod with ⟨rfl, rfl, rfl, hcod⟩ | ⟨rfl, rfl, rfl, hcod⟩
  ·
    have Kt : Arv Z h0 t kt .byte (1 : Int32) [(.int (StrChars.lo8 c0))] (.int (0 : Int32)) := Kt
    have hbd667 : ∀ c ∈ ([c0] : List Int32), ¬ c < 0 ∧ ¬ (65535 : Int32) < c := by
      intro c hc
      simp only [List.mem_cons, List.not_mem_nil, or_false] at hc
      rcases hc with rfl
      · exact h_c0
    refine P1.aloadN X0.here hx (hb hby d6_0) rfl rfl ?_
    refine Goes.callV X0 hx hZ (y := y12_) (z := y12_) (Qc := fun v h' L => (v = some (.int (if ([c0] : List Int32).length = 0 then 1 else 0)) ∧ L = [] ∧ h' = h0)) hown (mvT hZ (own_w hw 35 rfl)) (mvT hZ (own_w hw 36 rfl)) (notFace_of_selects (args := #[]) (mvT hZ (own_w hw 38 rfl))) (mvT hZ (own_w hw 38 rfl)) (mvT hZ (own_w hw 37 rfl)) (by decide) (kc' := 0) (ks' := 0) (StrChars.Road.empW (W := 0) hZ (fun d hd => hw d (in_wordsEmp d hd)) (kI := 4) (own_w hw 10 rfl) Ex Vx Cx Kt (show StrChars.Road.CodA ([c0] : List Int32) (0 : Int32) (1 : Int32) [(.int (StrChars.lo8 c0))] from Or.inl ⟨rfl, rfl, rfl, hcod⟩) hbd667 (ok rfl) (ok rfl) (ok rfl)) (b := x) e0 Ex (g := (mkF m 1 #[.val (.ref x)] [(.ref x)])) rfl (by rw [hml]; rfl) (argsL := []) (rest := []) (lenOf pd_392 rfl) rfl (by show 2 * 0 + _ ≤ _; exact Nat.le_of_eq rfl) (hb hby d6_1) rfl (ok rfl) (ok rfl) ?_
    intro v668 T668 L668 q668 X668
    obtain ⟨rfl, rfl, hE668⟩ := q668
    have N668 := Fr.app N0 (Fr.nil n0)
    show Goes p e below _ T668 (mkF m 4 #[.val (.ref x)] [(.int (0 : Int32))])
    refine P1.ifNo X668.here hx (hb hby d6_4) ((if0 _ _).trans (teq (by decide : (0 : Int32) = (0 : Int32))).2) ?_
    refine P1.aloadN X668.here hx (hb hby d6_7) rfl rfl ?_
    refine P1.iconst X668.here hx (0 : Int32) (hb hby d6_8) rfl ?_
    refine Goes.callV X668 hx hZ (y := y7_) (z := y7_) (Qc := fun v h' L => (v = some (.int (([c0] : List Int32).getD 0 0)) ∧ L = [] ∧ h' = h0)) hown (mvT hZ (own_w hw 56 rfl)) (mvT hZ (own_w hw 57 rfl)) (notFace_of_selects (args := #[]) (mvT hZ (own_w hw 59 rfl))) (mvT hZ (own_w hw 59 rfl)) (mvT hZ (own_w hw 58 rfl)) (by decide) (kc' := 0) (ks' := 0) (StrChars.Road.chN (W := 0) hZ (fun d hd => hw d (in_wordsChN d hd)) (kI := 4) (own_w hw 10 rfl) Ex Vx Cx Kt (show StrChars.Road.CodA ([c0] : List Int32) (0 : Int32) (1 : Int32) [(.int (StrChars.lo8 c0))] from Or.inl ⟨rfl, rfl, rfl, hcod⟩) hbd667 (S_CS.ext O0.2) hzc (S_FM.ext O0.2) hfm (ok rfl) (i := 0) (ok rfl) (j := (0 : Int32)) rfl (ok rfl) (ok rfl)) (b := x) hE668 Ex (g := (mkF m 9 #[.val (.ref x)] [(.int (0 : Int32)), (.ref x)])) rfl (by rw [hml]; rfl) (argsL := [(.int (0 : Int32))]) (rest := []) (lenOf pd_577 rfl) rfl (by show 2 * 0 + _ ≤ _; exact Nat.le_of_eq rfl) (hb hby d6_9) rfl (ok rfl) (ok rfl) ?_
    intro v669 T669 L669 q669 X669
    obtain ⟨rfl, rfl, hE669⟩ := q669
    have N669 := Fr.app N668 (Fr.nil n0)
    show Goes p e below _ T669 (mkF m 12 #[.val (.ref x)] [(.int c0)])
    refine P1.ldcI X669 hx hZ hown (own_w hw 78 rfl) (hb hby d6_12) ?_
    refine P1.icmpYes X669.here hx 25 (hb hby d6_14) (feq (hne : ¬ (c0 = (65279 : Int32)))).2 (by decide) (by decide) ?_
    refine P1.aloadN X669.here hx (hb hby d6_25) rfl rfl ?_
    refine Goes.retA X669 hx Bd.notSynchronized Bd.returns rfl rfl (hb hby d6_26) (ok rfl) (ok rfl) ?_
    rw [hE669]
    exact ⟨rfl, N669, rfl⟩
  ·
    have Kt : Arv Z h0 t kt .byte (2 : Int32) [(.int (StrChars.lo8 c0)), (.int (StrChars.hi8 c0))] (.int (0 : Int32)) := Kt
    have hbd670 : ∀ c ∈ ([c0] : List Int32), ¬ c < 0 ∧ ¬ (65535 : Int32) < c := by
      intro c hc
      simp only [List.mem_cons, List.not_mem_nil, or_false] at hc
      rcases hc with rfl
      · exact h_c0
    refine P1.aloadN X0.here hx (hb hby d6_0) rfl rfl ?_
    refine Goes.callV X0 hx hZ (y := y12_) (z := y12_) (Qc := fun v h' L => (v = some (.int (if ([c0] : List Int32).length = 0 then 1 else 0)) ∧ L = [] ∧ h' = h0)) hown (mvT hZ (own_w hw 35 rfl)) (mvT hZ (own_w hw 36 rfl)) (notFace_of_selects (args := #[]) (mvT hZ (own_w hw 38 rfl))) (mvT hZ (own_w hw 38 rfl)) (mvT hZ (own_w hw 37 rfl)) (by decide) (kc' := 0) (ks' := 0) (StrChars.Road.empW (W := 0) hZ (fun d hd => hw d (in_wordsEmp d hd)) (kI := 4) (own_w hw 10 rfl) Ex Vx Cx Kt (show StrChars.Road.CodA ([c0] : List Int32) (1 : Int32) (2 : Int32) [(.int (StrChars.lo8 c0)), (.int (StrChars.hi8 c0))] from Or.inr ⟨rfl, rfl, rfl, hcod⟩) hbd670 (ok rfl) (ok rfl) (ok rfl)) (b := x) e0 Ex (g := (mkF m 1 #[.val (.ref x)] [(.ref x)])) rfl (by rw [hml]; rfl) (argsL := []) (rest := []) (lenOf pd_392 rfl) rfl (by show 2 * 0 + _ ≤ _; exact Nat.le_of_eq rfl) (hb hby d6_1) rfl (ok rfl) (ok rfl) ?_
    intro v671 T671 L671 q671 X671
    obtain ⟨rfl, rfl, hE671⟩ := q671
    have N671 := Fr.app N0 (Fr.nil n0)
    show Goes p e below _ T671 (mkF m 4 #[.val (.ref x)] [(.int (0 : Int32))])
    refine P1.ifNo X671.here hx (hb hby d6_4) ((if0 _ _).trans (teq (by decide : (0 : Int32) = (0 : Int32))).2) ?_
    refine P1.aloadN X671.here hx (hb hby d6_7) rfl rfl ?_
    refine P1.iconst X671.here hx (0 : Int32) (hb hby d6_8) rfl ?_
    refine Goes.callV X671 hx hZ (y := y7_) (z := y7_) hown (mvT hZ (own_w hw 56 rfl)) (mvT hZ (own_w hw 57 rfl)) (notFace_of_selects (args := #[]) (mvT hZ (own_w hw 59 rfl))) (mvT hZ (own_w hw 59 rfl)) (mvT hZ (own_w hw 58 rfl)) (by decide) (kc' := 0) (ks' := 0) (backOf (W := 0) (rmCw1 l Z a0 hw [] x t kt c0 zc fm h0 n0 Z0 O0 S_CS hzc S_FM hfm S_AD S_HI S_LO Ex Vx Cx Kt h_c0) hZ (own_w hw 60 rfl) (own_w hw 11 rfl) (ok rfl) (ok rfl)) (b := x) hE671 Ex (g := (mkF m 9 #[.val (.ref x)] [(.int (0 : Int32)), (.ref x)])) rfl (by rw [hml]; rfl) (argsL := [(.int (0 : Int32))]) (rest := []) (lenOf pd_577 rfl) rfl (by show 2 * 0 + _ ≤ _; exact Nat.le_of_eq rfl) (hb hby d6_9) rfl (ok rfl) (ok rfl) ?_
    intro v672 T672 L672 q672 X672
    obtain ⟨rfl, N672q, hE672⟩ := q672
    have N672 := Fr.app N671 N672q
    show Goes p e below _ T672 (mkF m 12 #[.val (.ref x)] [(.int c0)])
    refine P1.ldcI X672 hx hZ hown (own_w hw 78 rfl) (hb hby d6_12) ?_
    refine P1.icmpYes X672.here hx 25 (hb hby d6_14) (feq (hne : ¬ (c0 = (65279 : Int32)))).2 (by decide) (by decide) ?_
    refine P1.aloadN X672.here hx (hb hby d6_25) rfl rfl ?_
    refine Goes.retA X672 hx Bd.notSynchronized Bd.returns rfl rfl (hb hby d6_26) (ok rfl) (ok rfl) ?_
    rw [hE672]
    exact ⟨rfl, N672, rfl⟩
theorem efWk2 (x : Addr) (m : MethodId) : entryFrame m #[(.ref x)] 1 = mkF m 0 #[.val (.ref x)] [] := by first | (simp [entryFrame, mkF, argsToLocals, Value.category]; done) | rfl
def QWk2 (Z : State) (x t : Addr) (kt : ClassId) (cd N2 : Int32) (vs : List Value) (c0 c1 zc : Int32) (fm : Value) (h0 : Heap) (n0 : Nat) (v : Option Value) (h : Heap) (L : List Loc) : Prop := v = some (.ref x) ∧ Fr n0 L ∧ h = h0
set_option maxRecDepth 65536 in
set_option maxHeartbeats 40000000 in
theorem rmWk2 (l : Launch) (Z : State) (a0 : Array Value) (hw : ∀ d ∈ tables_1, d.before a0 Z = true) (ws : List Jvm.Cond) (x t : Addr) (kt : ClassId) (cd N2 : Int32) (vs : List Value) (c0 c1 zc : Int32) (fm : Value) (h0 : Heap) (n0 : Nat) (Z0 : n0 ≤ h0.size) (O0 : Old Z n0 h0) (S_CS : Sta Z Z.heap "java/lang/String" "COMPACT_STRINGS" "Z" (.int zc)) (hzc : ¬ zc = 0) (S_FM : Sta Z Z.heap "jdk/internal/util/Preconditions" "SIOOBE_FORMATTER" "Ljava/util/function/BiFunction;" fm) (hfm : fm.isRef = true) (S_AD : Sta Z Z.heap "java/lang/StringUTF16" "$assertionsDisabled" "Z" (.int (1 : Int32))) (S_HI : Sta Z Z.heap "java/lang/StringUTF16" "HI_BYTE_SHIFT" "I" (.int (0 : Int32))) (S_LO : Sta Z Z.heap "java/lang/StringUTF16" "LO_BYTE_SHIFT" "I" (.int (8 : Int32))) (Ex : Exa Z h0 x "java/lang/String") (Vx : Fld Z h0 x "java/lang/String" "value" "[B" (.ref t)) (Cx : Fld Z h0 x "java/lang/String" "coder" "B" (.int cd)) (Kt : Arv Z h0 t kt .byte N2 vs (.int (0 : Int32))) (hcod : StrChars.Road.CodA ([c0, c1] : List Int32) cd N2 vs) (h_c0 : C16 c0) (h_c1 : C16 c1) (hne : ¬ (c0 = (65279 : Int32))) :
    OwnLaw l y0_ prog_17_method_7_code 1 (some (.object "java/lang/String")) ws (rR 5 0 0 66) #[(.ref x)] Z h0 (QWk2 Z x t kt cd N2 vs c0 c1 zc fm h0 n0) := by
  refine own_enter (plainFor_of_name pn_com_example_epaulet_epaulet_io_InputFiles) (efWk2 x) ?_
  intro p e s m below meth c s₁ Bd hx hby hml hZ hown X0 e0
  have N0 := Fr.nil n0
  have K0 : Keep h0 h0 [] := Keep.refl _ _
  rcases hcod with ⟨rfl, rfl, rfl, hcod⟩ | ⟨rfl, rfl, rfl, hcod⟩
  ·
    have Kt : Arv Z h0 t kt .byte (2 : Int32) [(.int (StrChars.lo8 c0)), (.int (StrChars.lo8 c1))] (.int (0 : Int32)) := Kt
    have hbd673 : ∀ c ∈ ([c0, c1] : List Int32), ¬ c < 0 ∧ ¬ (65535 : Int32) < c := by
      intro c hc
      simp only [List.mem_cons, List.not_mem_nil, or_false] at hc
      rcases hc with rfl | rfl
      · exact h_c0
      · exact h_c1
    refine P1.aloadN X0.here hx (hb hby d6_0) rfl rfl ?_
    refine Goes.callV X0 hx hZ (y := y12_) (z := y12_) (Qc := fun v h' L => (v = some (.int (if ([c0, c1] : List Int32).length = 0 then 1 else 0)) ∧ L = [] ∧ h' = h0)) hown (mvT hZ (own_w hw 35 rfl)) (mvT hZ (own_w hw 36 rfl)) (notFace_of_selects (args := #[]) (mvT hZ (own_w hw 38 rfl))) (mvT hZ (own_w hw 38 rfl)) (mvT hZ (own_w hw 37 rfl)) (by decide) (kc' := 0) (ks' := 0) (StrChars.Road.empW (W := 0) hZ (fun d hd => hw d (in_wordsEmp d hd)) (kI := 4) (own_w hw 10 rfl) Ex Vx Cx Kt (show StrChars.Road.CodA ([c0, c1] : List Int32) (0 : Int32) (2 : Int32) [(.int (StrChars.lo8 c0)), (.int (StrChars.lo8 c1))] from Or.inl ⟨rfl, rfl, rfl, hcod⟩) hbd673 (ok rfl) (ok rfl) (ok rfl)) (b := x) e0 Ex (g := (mkF m 1 #[.val (.ref x)] [(.ref x)])) rfl (by rw [hml]; rfl) (argsL := []) (rest := []) (lenOf pd_392 rfl) rfl (by show 2 * 0 + _ ≤ _; exact Nat.le_of_eq rfl) (hb hby d6_1) rfl (ok rfl) (ok rfl) ?_
    intro v674 T674 L674 q674 X674
    obtain ⟨rfl, rfl, hE674⟩ := q674
    have N674 := Fr.app N0 (Fr.nil n0)
    show Goes p e below _ T674 (mkF m 4 #[.val (.ref x)] [(.int (0 : Int32))])
    refine P1.ifNo X674.here hx (hb hby d6_4) ((if0 _ _).trans (teq (by decide : (0 : Int32) = (0 : Int32))).2) ?_
    refine P1.aloadN X674.here hx (hb hby d6_7) rfl rfl ?_
    refine P1.iconst X674.here hx (0 : Int32) (hb hby d6_8) rfl ?_
    refine Goes.callV X674 hx hZ (y := y7_) (z := y7_) (Qc := fun v h' L => (v = some (.int (([c0, c1] : List Int32).getD 0 0)) ∧ L = [] ∧ h' = h0)) hown (mvT hZ (own_w hw 56 rfl)) (mvT hZ (own_w hw 57 rfl)) (notFace_of_selects (args := #[]) (mvT hZ (own_w hw 59 rfl))) (mvT hZ (own_w hw 59 rfl)) (mvT hZ (own_w hw 58 rfl)) (by decide) (kc' := 0) (ks' := 0) (StrChars.Road.chN (W := 0) hZ (fun d hd => hw d (in_wordsChN d hd)) (kI := 4) (own_w hw 10 rfl) Ex Vx Cx Kt (show StrChars.Road.CodA ([c0, c1] : List Int32) (0 : Int32) (2 : Int32) [(.int (StrChars.lo8 c0)), (.int (StrChars.lo8 c1))] from Or.inl ⟨rfl, rfl, rfl, hcod⟩) hbd673 (S_CS.ext O0.2) hzc (S_FM.ext O0.2) hfm (ok rfl) (i := 0) (ok rfl) (j := (0 : Int32)) rfl (ok rfl) (ok rfl)) (b := x) hE674 Ex (g := (mkF m 9 #[.val (.ref x)] [(.int (0 : Int32)), (.ref x)])) rfl (by rw [hml]; rfl) (argsL := [(.int (0 : Int32))]) (rest := []) (lenOf pd_577 rfl) rfl (by show 2 * 0 + _ ≤ _; exact Nat.le_of_eq rfl) (hb hby d6_9) rfl (ok rfl) (ok rfl) ?_
    intro v675 T675 L675 q675 X675
    obtain ⟨rfl, rfl, hE675⟩ := q675
    have N675 := Fr.app N674 (Fr.nil n0)
    show Goes p e below _ T675 (mkF m 12 #[.val (.ref x)] [(.int c0)])
    refine P1.ldcI X675 hx hZ hown (own_w hw 78 rfl) (hb hby d6_12) ?_
    refine P1.icmpYes X675.here hx 25 (hb hby d6_14) (feq (hne : ¬ (c0 = (65279 : Int32)))).2 (by decide) (by decide) ?_
    refine P1.aloadN X675.here hx (hb hby d6_25) rfl rfl ?_
    refine Goes.retA X675 hx Bd.notSynchronized Bd.returns rfl rfl (hb hby d6_26) (ok rfl) (ok rfl) ?_
    rw [hE675]
    exact ⟨rfl, N675, rfl⟩
  ·
    have Kt : Arv Z h0 t kt .byte (4 : Int32) [(.int (StrChars.lo8 c0)), (.int (StrChars.hi8 c0)), (.int (StrChars.lo8 c1)), (.int (StrChars.hi8 c1))] (.int (0 : Int32)) := Kt
    have hbd676 : ∀ c ∈ ([c0, c1] : List Int32), ¬ c < 0 ∧ ¬ (65535 : Int32) < c := by
      intro c hc
      simp only [List.mem_cons, List.not_mem_nil, or_false] at hc
      rcases hc with rfl | rfl
      · exact h_c0
      · exact h_c1
    refine P1.aloadN X0.here hx (hb hby d6_0) rfl rfl ?_
    refine Goes.callV X0 hx hZ (y := y12_) (z := y12_) (Qc := fun v h' L => (v = some (.int (if ([c0, c1] : List Int32).length = 0 then 1 else 0)) ∧ L = [] ∧ h' = h0)) hown (mvT hZ (own_w hw 35 rfl)) (mvT hZ (own_w hw 36 rfl)) (notFace_of_selects (args := #[]) (mvT hZ (own_w hw 38 rfl))) (mvT hZ (own_w hw 38 rfl)) (mvT hZ (own_w hw 37 rfl)) (by decide) (kc' := 0) (ks' := 0) (StrChars.Road.empW (W := 0) hZ (fun d hd => hw d (in_wordsEmp d hd)) (kI := 4) (own_w hw 10 rfl) Ex Vx Cx Kt (show StrChars.Road.CodA ([c0, c1] : List Int32) (1 : Int32) (4 : Int32) [(.int (StrChars.lo8 c0)), (.int (StrChars.hi8 c0)), (.int (StrChars.lo8 c1)), (.int (StrChars.hi8 c1))] from Or.inr ⟨rfl, rfl, rfl, hcod⟩) hbd676 (ok rfl) (ok rfl) (ok rfl)) (b := x) e0 Ex (g := (mkF m 1 #[.val (.ref x)] [(.ref x)])) rfl (by rw [hml]; rfl) (argsL := []) (rest := []) (lenOf pd_392 rfl) rfl (by show 2 * 0 + _ ≤ _; exact Nat.le_of_eq rfl) (hb hby d6_1) rfl (ok rfl) (ok rfl) ?_
    intro v677 T677 L677 q677 X677
    obtain ⟨rfl, rfl, hE677⟩ := q677
    have N677 := Fr.app N0 (Fr.nil n0)
    show Goes p e below _ T677 (mkF m 4 #[.val (.ref x)] [(.int (0 : Int32))])
    refine P1.ifNo X677.here hx (hb hby d6_4) ((if0 _ _).trans (teq (by decide : (0 : Int32) = (0 : Int32))).2) ?_
    refine P1.aloadN X677.here hx (hb hby d6_7) rfl rfl ?_
    refine P1.iconst X677.here hx (0 : Int32) (hb hby d6_8) rfl ?_
    refine Goes.callV X677 hx hZ (y := y7_) (z := y7_) hown (mvT hZ (own_w hw 56 rfl)) (mvT hZ (own_w hw 57 rfl)) (notFace_of_selects (args := #[]) (mvT hZ (own_w hw 59 rfl))) (mvT hZ (own_w hw 59 rfl)) (mvT hZ (own_w hw 58 rfl)) (by decide) (kc' := 0) (ks' := 0) (backOf (W := 0) (rmCw2 l Z a0 hw [] x t kt c0 c1 zc fm h0 n0 Z0 O0 S_CS hzc S_FM hfm S_AD S_HI S_LO Ex Vx Cx Kt h_c0 h_c1) hZ (own_w hw 60 rfl) (own_w hw 11 rfl) (ok rfl) (ok rfl)) (b := x) hE677 Ex (g := (mkF m 9 #[.val (.ref x)] [(.int (0 : Int32)), (.ref x)])) rfl (by rw [hml]; rfl) (argsL := [(.int (0 : Int32))]) (rest := []) (lenOf pd_577 rfl) rfl (by show 2 * 0 + _ ≤ _; exact Nat.le_of_eq rfl) (hb hby d6_9) rfl (ok rfl) (ok rfl) ?_
    intro v678 T678 L678 q678 X678
    obtain ⟨rfl, N678q, hE678⟩ := q678
    have N678 := Fr.app N677 N678q
    show Goes p e below _ T678 (mkF m 12 #[.val (.ref x)] [(.int c0)])
    refine P1.ldcI X678 hx hZ hown (own_w hw 78 rfl) (hb hby d6_12) ?_
    refine P1.icmpYes X678.here hx 25 (hb hby d6_14) (feq (hne : ¬ (c0 = (65279 : Int32)))).2 (by decide) (by decide) ?_
    refine P1.aloadN X678.here hx (hb hby d6_25) rfl rfl ?_
    refine Goes.retA X678 hx Bd.notSynchronized Bd.returns rfl rfl (hb hby d6_26) (ok rfl) (ok rfl) ?_
    rw [hE678]
    exact ⟨rfl, N678, rfl⟩
theorem efWk3 (x : Addr) (m : MethodId) : entryFrame m #[(.ref x)] 1 = mkF m 0 #[.val (.ref x)] [] := by first | (simp [entryFrame, mkF, argsToLocals, Value.category]; done) | rfl
def QWk3 (Z : State) (x t : Addr) (kt : ClassId) (cd N2 : Int32) (vs : List Value) (c0 c1 c2 zc : Int32) (fm : Value) (h0 : Heap) (n0 : Nat) (v : Option Value) (h : Heap) (L : List Loc) : Prop := v = some (.ref x) ∧ Fr n0 L ∧ h = h0
set_option maxRecDepth 65536 in
set_option maxHeartbeats 40000000 in
theorem rmWk3 (l : Launch) (Z : State) (a0 : Array Value) (hw : ∀ d ∈ tables_1, d.before a0 Z = true) (ws : List Jvm.Cond) (x t : Addr) (kt : ClassId) (cd N2 : Int32) (vs : List Value) (c0 c1 c2 zc : Int32) (fm : Value) (h0 : Heap) (n0 : Nat) (Z0 : n0 ≤ h0.size) (O0 : Old Z n0 h0) (S_CS : Sta Z Z.heap "java/lang/String" "COMPACT_STRINGS" "Z" (.int zc)) (hzc : ¬ zc = 0) (S_FM : Sta Z Z.heap "jdk/internal/util/Preconditions" "SIOOBE_FORMATTER" "Ljava/util/function/BiFunction;" fm) (hfm : fm.isRef = true) (S_AD : Sta Z Z.heap "java/lang/StringUTF16" "$assertionsDisabled" "Z" (.int (1 : Int32))) (S_HI : Sta Z Z.heap "java/lang/StringUTF16" "HI_BYTE_SHIFT" "I" (.int (0 : Int32))) (S_LO : Sta Z Z.heap "java/lang/StringUTF16" "LO_BYTE_SHIFT" "I" (.int (8 : Int32))) (Ex : Exa Z h0 x "java/lang/String") (Vx : Fld Z h0 x "java/lang/String" "value" "[B" (.ref t)) (Cx : Fld Z h0 x "java/lang/String" "coder" "B" (.int cd)) (Kt : Arv Z h0 t kt .byte N2 vs (.int (0 : Int32))) (hcod : StrChars.Road.CodA ([c0, c1, c2] : List Int32) cd N2 vs) (h_c0 : C16 c0) (h_c1 : C16 c1) (h_c2 : C16 c2) (hne : ¬ (c0 = (65279 : Int32))) :
    OwnLaw l y0_ prog_17_method_7_code 1 (some (.object "java/lang/String")) ws (rR 5 0 0 66) #[(.ref x)] Z h0 (QWk3 Z x t kt cd N2 vs c0 c1 c2 zc fm h0 n0) := by
  refine own_enter (plainFor_of_name pn_com_example_epaulet_epaulet_io_InputFiles) (efWk3 x) ?_
  intro p e s m below meth c s₁ Bd hx hby hml hZ hown X0 e0
  have N0 := Fr.nil n0
  have K0 : Keep h0 h0 [] := Keep.refl _ _
  rcases hcod with ⟨rfl, rfl, rfl, hcod⟩ | ⟨rfl, rfl, rfl, hcod⟩
  ·
    have Kt : Arv Z h0 t kt .byte (3 : Int32) [(.int (StrChars.lo8 c0)), (.int (StrChars.lo8 c1)), (.int (StrChars.lo8 c2))] (.int (0 : Int32)) := Kt
    have hbd679 : ∀ c ∈ ([c0, c1, c2] : List Int32), ¬ c < 0 ∧ ¬ (65535 : Int32) < c := by
      intro c hc
      simp only [List.mem_cons, List.not_mem_nil, or_false] at hc
      rcases hc with rfl | rfl | rfl
      · exact h_c0
      · exact h_c1
      · exact h_c2
    refine P1.aloadN X0.here hx (hb hby d6_0) rfl rfl ?_
    refine Goes.callV X0 hx hZ (y := y12_) (z := y12_) (Qc := fun v h' L => (v = some (.int (if ([c0, c1, c2] : List Int32).length = 0 then 1 else 0)) ∧ L = [] ∧ h' = h0)) hown (mvT hZ (own_w hw 35 rfl)) (mvT hZ (own_w hw 36 rfl)) (notFace_of_selects (args := #[]) (mvT hZ (own_w hw 38 rfl))) (mvT hZ (own_w hw 38 rfl)) (mvT hZ (own_w hw 37 rfl)) (by decide) (kc' := 0) (ks' := 0) (StrChars.Road.empW (W := 0) hZ (fun d hd => hw d (in_wordsEmp d hd)) (kI := 4) (own_w hw 10 rfl) Ex Vx Cx Kt (show StrChars.Road.CodA ([c0, c1, c2] : List Int32) (0 : Int32) (3 : Int32) [(.int (StrChars.lo8 c0)), (.int (StrChars.lo8 c1)), (.int (StrChars.lo8 c2))] from Or.inl ⟨rfl, rfl, rfl, hcod⟩) hbd679 (ok rfl) (ok rfl) (ok rfl)) (b := x) e0 Ex (g := (mkF m 1 #[.val (.ref x)] [(.ref x)])) rfl (by rw [hml]; rfl) (argsL := []) (rest := []) (lenOf pd_392 rfl) rfl (by show 2 * 0 + _ ≤ _; exact Nat.le_of_eq rfl) (hb hby d6_1) rfl (ok rfl) (ok rfl) ?_
    intro v680 T680 L680 q680 X680
    obtain ⟨rfl, rfl, hE680⟩ := q680
    have N680 := Fr.app N0 (Fr.nil n0)
    show Goes p e below _ T680 (mkF m 4 #[.val (.ref x)] [(.int (0 : Int32))])
    refine P1.ifNo X680.here hx (hb hby d6_4) ((if0 _ _).trans (teq (by decide : (0 : Int32) = (0 : Int32))).2) ?_
    refine P1.aloadN X680.here hx (hb hby d6_7) rfl rfl ?_
    refine P1.iconst X680.here hx (0 : Int32) (hb hby d6_8) rfl ?_
    refine Goes.callV X680 hx hZ (y := y7_) (z := y7_) (Qc := fun v h' L => (v = some (.int (([c0, c1, c2] : List Int32).getD 0 0)) ∧ L = [] ∧ h' = h0)) hown (mvT hZ (own_w hw 56 rfl)) (mvT hZ (own_w hw 57 rfl)) (notFace_of_selects (args := #[]) (mvT hZ (own_w hw 59 rfl))) (mvT hZ (own_w hw 59 rfl)) (mvT hZ (own_w hw 58 rfl)) (by decide) (kc' := 0) (ks' := 0) (StrChars.Road.chN (W := 0) hZ (fun d hd => hw d (in_wordsChN d hd)) (kI := 4) (own_w hw 10 rfl) Ex Vx Cx Kt (show StrChars.Road.CodA ([c0, c1, c2] : List Int32) (0 : Int32) (3 : Int32) [(.int (StrChars.lo8 c0)), (.int (StrChars.lo8 c1)), (.int (StrChars.lo8 c2))] from Or.inl ⟨rfl, rfl, rfl, hcod⟩) hbd679 (S_CS.ext O0.2) hzc (S_FM.ext O0.2) hfm (ok rfl) (i := 0) (ok rfl) (j := (0 : Int32)) rfl (ok rfl) (ok rfl)) (b := x) hE680 Ex (g := (mkF m 9 #[.val (.ref x)] [(.int (0 : Int32)), (.ref x)])) rfl (by rw [hml]; rfl) (argsL := [(.int (0 : Int32))]) (rest := []) (lenOf pd_577 rfl) rfl (by show 2 * 0 + _ ≤ _; exact Nat.le_of_eq rfl) (hb hby d6_9) rfl (ok rfl) (ok rfl) ?_
    intro v681 T681 L681 q681 X681
    obtain ⟨rfl, rfl, hE681⟩ := q681
    have N681 := Fr.app N680 (Fr.nil n0)
    show Goes p e below _ T681 (mkF m 12 #[.val (.ref x)] [(.int c0)])
    refine P1.ldcI X681 hx hZ hown (own_w hw 78 rfl) (hb hby d6_12) ?_
    refine P1.icmpYes X681.here hx 25 (hb hby d6_14) (feq (hne : ¬ (c0 = (65279 : Int32)))).2 (by decide) (by decide) ?_
    refine P1.aloadN X681.here hx (hb hby d6_25) rfl rfl ?_
    refine Goes.retA X681 hx Bd.notSynchronized Bd.returns rfl rfl (hb hby d6_26) (ok rfl) (ok rfl) ?_
    rw [hE681]
    exact ⟨rfl, N681, rfl⟩
  ·
    have Kt : Arv Z h0 t kt .byte (6 : Int32) [(.int (StrChars.lo8 c0)), (.int (StrChars.hi8 c0)), (.int (StrChars.lo8 c1)), (.int (StrChars.hi8 c1)), (.int (StrChars.lo8 c2)), (.int (StrChars.hi8 c2))] (.int (0 : Int32)) := Kt
    have hbd682 : ∀ c ∈ ([c0, c1, c2] : List Int32), ¬ c < 0 ∧ ¬ (65535 : Int32) < c := by
      intro c hc
      simp only [List.mem_cons, List.not_mem_nil, or_false] at hc
      rcases hc with rfl | rfl | rfl
      · exact h_c0
      · exact h_c1
      · exact h_c2
    refine P1.aloadN X0.here hx (hb hby d6_0) rfl rfl ?_
    refine Goes.callV X0 hx hZ (y := y12_) (z := y12_) (Qc := fun v h' L => (v = some (.int (if ([c0, c1, c2] : List Int32).length = 0 then 1 else 0)) ∧ L = [] ∧ h' = h0)) hown (mvT hZ (own_w hw 35 rfl)) (mvT hZ (own_w hw 36 rfl)) (notFace_of_selects (args := #[]) (mvT hZ (own_w hw 38 rfl))) (mvT hZ (own_w hw 38 rfl)) (mvT hZ (own_w hw 37 rfl)) (by decide) (kc' := 0) (ks' := 0) (StrChars.Road.empW (W := 0) hZ (fun d hd => hw d (in_wordsEmp d hd)) (kI := 4) (own_w hw 10 rfl) Ex Vx Cx Kt (show StrChars.Road.CodA ([c0, c1, c2] : List Int32) (1 : Int32) (6 : Int32) [(.int (StrChars.lo8 c0)), (.int (StrChars.hi8 c0)), (.int (StrChars.lo8 c1)), (.int (StrChars.hi8 c1)), (.int (StrChars.lo8 c2)), (.int (StrChars.hi8 c2))] from Or.inr ⟨rfl, rfl, rfl, hcod⟩) hbd682 (ok rfl) (ok rfl) (ok rfl)) (b := x) e0 Ex (g := (mkF m 1 #[.val (.ref x)] [(.ref x)])) rfl (by rw [hml]; rfl) (argsL := []) (rest := []) (lenOf pd_392 rfl) rfl (by show 2 * 0 + _ ≤ _; exact Nat.le_of_eq rfl) (hb hby d6_1) rfl (ok rfl) (ok rfl) ?_
    intro v683 T683 L683 q683 X683
    obtain ⟨rfl, rfl, hE683⟩ := q683
    have N683 := Fr.app N0 (Fr.nil n0)
    show Goes p e below _ T683 (mkF m 4 #[.val (.ref x)] [(.int (0 : Int32))])
    refine P1.ifNo X683.here hx (hb hby d6_4) ((if0 _ _).trans (teq (by decide : (0 : Int32) = (0 : Int32))).2) ?_
    refine P1.aloadN X683.here hx (hb hby d6_7) rfl rfl ?_
    refine P1.iconst X683.here hx (0 : Int32) (hb hby d6_8) rfl ?_
    refine Goes.callV X683 hx hZ (y := y7_) (z := y7_) hown (mvT hZ (own_w hw 56 rfl)) (mvT hZ (own_w hw 57 rfl)) (notFace_of_selects (args := #[]) (mvT hZ (own_w hw 59 rfl))) (mvT hZ (own_w hw 59 rfl)) (mvT hZ (own_w hw 58 rfl)) (by decide) (kc' := 0) (ks' := 0) (backOf (W := 0) (rmCw3 l Z a0 hw [] x t kt c0 c1 c2 zc fm h0 n0 Z0 O0 S_CS hzc S_FM hfm S_AD S_HI S_LO Ex Vx Cx Kt h_c0 h_c1 h_c2) hZ (own_w hw 60 rfl) (own_w hw 11 rfl) (ok rfl) (ok rfl)) (b := x) hE683 Ex (g := (mkF m 9 #[.val (.ref x)] [(.int (0 : Int32)), (.ref x)])) rfl (by rw [hml]; rfl) (argsL := [(.int (0 : Int32))]) (rest := []) (lenOf pd_577 rfl) rfl (by show 2 * 0 + _ ≤ _; exact Nat.le_of_eq rfl) (hb hby d6_9) rfl (ok rfl) (ok rfl) ?_
    intro v684 T684 L684 q684 X684
    obtain ⟨rfl, N684q, hE684⟩ := q684
    have N684 := Fr.app N683 N684q
    show Goes p e below _ T684 (mkF m 12 #[.val (.ref x)] [(.int c0)])
    refine P1.ldcI X684 hx hZ hown (own_w hw 78 rfl) (hb hby d6_12) ?_
    refine P1.icmpYes X684.here hx 25 (hb hby d6_14) (feq (hne : ¬ (c0 = (65279 : Int32)))).2 (by decide) (by decide) ?_
    refine P1.aloadN X684.here hx (hb hby d6_25) rfl rfl ?_
    refine Goes.retA X684 hx Bd.notSynchronized Bd.returns rfl rfl (hb hby d6_26) (ok rfl) (ok rfl) ?_
    rw [hE684]
    exact ⟨rfl, N684, rfl⟩
theorem d41_0 : decode jdk_42_method_151_code 0 = .ok (.aload_n 0, 1) := by decide +kernel
theorem d41_1 : decode jdk_42_method_151_code 1 = .ok (.invokespecial 1, 3) := by decide +kernel
theorem d41_4 : decode jdk_42_method_151_code 4 = .ok (.aload_n 0, 1) := by decide +kernel
theorem d41_5 : decode jdk_42_method_151_code 5 = .ok (.aload_n 1, 1) := by decide +kernel
theorem d41_6 : decode jdk_42_method_151_code 6 = .ok (.putfield 9, 3) := by decide +kernel
theorem d41_9 : decode jdk_42_method_151_code 9 = .ok (.aload_n 0, 1) := by decide +kernel
theorem d41_10 : decode jdk_42_method_151_code 10 = .ok (.iload_n 2, 1) := by decide +kernel
theorem d41_11 : decode jdk_42_method_151_code 11 = .ok (.putfield 15, 3) := by decide +kernel
theorem d41_14 : decode jdk_42_method_151_code 14 = .ok (.return_, 1) := by decide +kernel
theorem efIb0 (x r : Addr) (m : MethodId) : entryFrame m #[(.ref x), (.ref r), (.int (0 : Int32))] 3 = mkF m 0 #[.val (.ref x), .val (.ref r), .val (.int (0 : Int32))] [] := by first | (simp [entryFrame, mkF, argsToLocals, Value.category]; done) | rfl
def QIb0 (Z : State) (x r : Addr) (h0 : Heap) (n0 : Nat) (v : Option Value) (h : Heap) (L : List Loc) : Prop := v = none ∧ Fr n0 L ∧ Keep h0 h [x] ∧ Exa Z h x "java/lang/String" ∧ Fld Z h x "java/lang/String" "value" "[B" (.ref r) ∧ Fld Z h x "java/lang/String" "coder" "B" (.int (0 : Int32))
set_option maxRecDepth 65536 in
set_option maxHeartbeats 40000000 in
theorem rmIb0 (l : Launch) (Z : State) (a0 : Array Value) (hw : ∀ d ∈ tables_1, d.before a0 Z = true) (ws : List Jvm.Cond) (x r : Addr) (h0 : Heap) (n0 : Nat) (Z0 : n0 ≤ h0.size) (O0 : Old Z n0 h0) (gx : n0 ≤ x) (Ex : Exa Z h0 x "java/lang/String") (Vx : Fld Z h0 x "java/lang/String" "value" "[B" .null) (Cx : Fld Z h0 x "java/lang/String" "coder" "B" (.int (0 : Int32))) :
    OwnLaw l y4_ jdk_42_method_151_code 3 none ws (rR 1 0 0 12) #[(.ref x), (.ref r), (.int (0 : Int32))] Z h0 (QIb0 Z x r h0 n0) := by
  refine own_enter (plainFor_of_name pn_java_lang_String) (efIb0 x r) ?_
  intro p e s m below meth c s₁ Bd hx hby hml hZ hown X0 e0
  have hnm := (name_of_methodNamed Bd.named Bd.method).1
  have N0 := Fr.nil n0
  have K0 : Keep h0 h0 [] := Keep.refl _ _
  have K0 : Keep h0 h0 [x] := Keep.refl _ _
  refine P1.aloadN X0.here hx (hb hby d41_0) rfl rfl ?_
  obtain ⟨T685, X685, e685, st685⟩ := initO X0 hx hZ hown (own_w hw 20 rfl) (own_w hw 21 rfl) (own_w hw 22 rfl) e0 (g := (mkF m 1 #[.val (.ref x), .val (.ref r), .val (.int (0 : Int32))] [(.ref x)])) rfl (by rw [hml]; rfl) rfl (hb hby d41_1) (by decide) (W := 0) (by show 2 * 0 + _ ≤ _; exact Nat.le_of_eq rfl) (by decide)
  refine Goes.step (T' := T685) (g' := (mkF m 4 #[.val (.ref x), .val (.ref r), .val (.int (0 : Int32))] [])) st685 ?_
  refine P1.aloadN X685.here hx (hb hby d41_4) rfl rfl ?_
  refine P1.aloadN X685.here hx (hb hby d41_5) rfl rfl ?_
  obtain ⟨T686, h686, X686, e686, W686, st686⟩ := putF X685 hx hZ hown (host := "") (Or.inl (own_w hw 29 rfl)) Via.refl e685 Vx Ex (Or.inr ⟨(own_w hw 25 rfl), rfl, hnm⟩) (own_w hw 10 rfl) (ty := (.array .byte)) (by decide) rfl rfl (g := (mkF m 6 #[.val (.ref x), .val (.ref r), .val (.int (0 : Int32))] [(.ref r), (.ref x)])) rfl rfl (hb hby d41_6)
  have Fw686 : Fld Z h686 x "java/lang/String" "value" "[B" (.ref r) := Vx.same W686
  have N686 := Fr.snoc X686 N0 gx
  refine Goes.step (T' := T686) (g' := (mkF m 9 #[.val (.ref x), .val (.ref r), .val (.int (0 : Int32))] [])) st686 ?_
  refine P1.aloadN X686.here hx (hb hby d41_9) rfl rfl ?_
  refine P1.iloadN X686.here hx (hb hby d41_10) rfl ?_
  have F687 : Fld Z h686 x "java/lang/String" "coder" "B" (.int (0 : Int32)) := Cx.other W686 (Or.inr (slot_ne (Or.inr (own_w hw 26 rfl)) (Or.inr (own_w hw 25 rfl)) (by decide) (t := .byte) (t' := (.array .byte)) (by decide) (by decide)))
  have E688 : Exa Z h686 x "java/lang/String" := Ex.wr W686
  obtain ⟨T689, h689, X689, e689, W689, st689⟩ := putFN X686 hx hZ hown (own_w hw 30 rfl) Via.refl e686 F687 E688 (Or.inr ⟨(own_w hw 26 rfl), rfl, hnm⟩) (own_w hw 10 rfl) (ty := .byte) (v' := (.int (0 : Int32))) (by decide) rfl (by decide) (g := (mkF m 11 #[.val (.ref x), .val (.ref r), .val (.int (0 : Int32))] [(.int (0 : Int32)), (.ref x)])) rfl rfl (hb hby d41_11)
  have Fw689 : Fld Z h689 x "java/lang/String" "coder" "B" (.int (0 : Int32)) := F687.same W689
  have N689 := Fr.snoc X689 N686 gx
  refine Goes.step (T' := T689) (g' := (mkF m 14 #[.val (.ref x), .val (.ref r), .val (.int (0 : Int32))] [])) st689 ?_
  refine Goes.retV X689 hx Bd.notSynchronized Bd.returns (hb hby d41_14) (ok rfl) (ok rfl) ?_
  rw [e689]
  have K690 : Keep h0 h686 [x] := K0.wr W686 (Or.inl (by simp))
  have K691 : Keep h0 h689 [x] := K690.wr W689 (Or.inl (by simp))
  have E692 : Exa Z h689 x "java/lang/String" := E688.wr W689
  have F693 : Fld Z h689 x "java/lang/String" "value" "[B" (.ref r) := Fw686.other W689 (Or.inr (slot_ne (Or.inr (own_w hw 25 rfl)) (Or.inr (own_w hw 26 rfl)) (by decide) (t := (.array .byte)) (t' := .byte) (by decide) (by decide)))
  exact ⟨rfl, N689, K691, E692, F693, Fw689⟩
theorem efIb1 (x r : Addr) (m : MethodId) : entryFrame m #[(.ref x), (.ref r), (.int (1 : Int32))] 3 = mkF m 0 #[.val (.ref x), .val (.ref r), .val (.int (1 : Int32))] [] := by first | (simp [entryFrame, mkF, argsToLocals, Value.category]; done) | rfl
def QIb1 (Z : State) (x r : Addr) (h0 : Heap) (n0 : Nat) (v : Option Value) (h : Heap) (L : List Loc) : Prop := v = none ∧ Fr n0 L ∧ Keep h0 h [x] ∧ Exa Z h x "java/lang/String" ∧ Fld Z h x "java/lang/String" "value" "[B" (.ref r) ∧ Fld Z h x "java/lang/String" "coder" "B" (.int (1 : Int32))
set_option maxRecDepth 65536 in
set_option maxHeartbeats 40000000 in
theorem rmIb1 (l : Launch) (Z : State) (a0 : Array Value) (hw : ∀ d ∈ tables_1, d.before a0 Z = true) (ws : List Jvm.Cond) (x r : Addr) (h0 : Heap) (n0 : Nat) (Z0 : n0 ≤ h0.size) (O0 : Old Z n0 h0) (gx : n0 ≤ x) (Ex : Exa Z h0 x "java/lang/String") (Vx : Fld Z h0 x "java/lang/String" "value" "[B" .null) (Cx : Fld Z h0 x "java/lang/String" "coder" "B" (.int (0 : Int32))) :
    OwnLaw l y4_ jdk_42_method_151_code 3 none ws (rR 1 0 0 12) #[(.ref x), (.ref r), (.int (1 : Int32))] Z h0 (QIb1 Z x r h0 n0) := by
  refine own_enter (plainFor_of_name pn_java_lang_String) (efIb1 x r) ?_
  intro p e s m below meth c s₁ Bd hx hby hml hZ hown X0 e0
  have hnm := (name_of_methodNamed Bd.named Bd.method).1
  have N0 := Fr.nil n0
  have K0 : Keep h0 h0 [] := Keep.refl _ _
  have K0 : Keep h0 h0 [x] := Keep.refl _ _
  refine P1.aloadN X0.here hx (hb hby d41_0) rfl rfl ?_
  obtain ⟨T694, X694, e694, st694⟩ := initO X0 hx hZ hown (own_w hw 20 rfl) (own_w hw 21 rfl) (own_w hw 22 rfl) e0 (g := (mkF m 1 #[.val (.ref x), .val (.ref r), .val (.int (1 : Int32))] [(.ref x)])) rfl (by rw [hml]; rfl) rfl (hb hby d41_1) (by decide) (W := 0) (by show 2 * 0 + _ ≤ _; exact Nat.le_of_eq rfl) (by decide)
  refine Goes.step (T' := T694) (g' := (mkF m 4 #[.val (.ref x), .val (.ref r), .val (.int (1 : Int32))] [])) st694 ?_
  refine P1.aloadN X694.here hx (hb hby d41_4) rfl rfl ?_
  refine P1.aloadN X694.here hx (hb hby d41_5) rfl rfl ?_
  obtain ⟨T695, h695, X695, e695, W695, st695⟩ := putF X694 hx hZ hown (host := "") (Or.inl (own_w hw 29 rfl)) Via.refl e694 Vx Ex (Or.inr ⟨(own_w hw 25 rfl), rfl, hnm⟩) (own_w hw 10 rfl) (ty := (.array .byte)) (by decide) rfl rfl (g := (mkF m 6 #[.val (.ref x), .val (.ref r), .val (.int (1 : Int32))] [(.ref r), (.ref x)])) rfl rfl (hb hby d41_6)
  have Fw695 : Fld Z h695 x "java/lang/String" "value" "[B" (.ref r) := Vx.same W695
  have N695 := Fr.snoc X695 N0 gx
  refine Goes.step (T' := T695) (g' := (mkF m 9 #[.val (.ref x), .val (.ref r), .val (.int (1 : Int32))] [])) st695 ?_
  refine P1.aloadN X695.here hx (hb hby d41_9) rfl rfl ?_
  refine P1.iloadN X695.here hx (hb hby d41_10) rfl ?_
  have F696 : Fld Z h695 x "java/lang/String" "coder" "B" (.int (0 : Int32)) := Cx.other W695 (Or.inr (slot_ne (Or.inr (own_w hw 26 rfl)) (Or.inr (own_w hw 25 rfl)) (by decide) (t := .byte) (t' := (.array .byte)) (by decide) (by decide)))
  have E697 : Exa Z h695 x "java/lang/String" := Ex.wr W695
  obtain ⟨T698, h698, X698, e698, W698, st698⟩ := putFN X695 hx hZ hown (own_w hw 30 rfl) Via.refl e695 F696 E697 (Or.inr ⟨(own_w hw 26 rfl), rfl, hnm⟩) (own_w hw 10 rfl) (ty := .byte) (v' := (.int (1 : Int32))) (by decide) rfl (by decide) (g := (mkF m 11 #[.val (.ref x), .val (.ref r), .val (.int (1 : Int32))] [(.int (1 : Int32)), (.ref x)])) rfl rfl (hb hby d41_11)
  have Fw698 : Fld Z h698 x "java/lang/String" "coder" "B" (.int (1 : Int32)) := F696.same W698
  have N698 := Fr.snoc X698 N695 gx
  refine Goes.step (T' := T698) (g' := (mkF m 14 #[.val (.ref x), .val (.ref r), .val (.int (1 : Int32))] [])) st698 ?_
  refine Goes.retV X698 hx Bd.notSynchronized Bd.returns (hb hby d41_14) (ok rfl) (ok rfl) ?_
  rw [e698]
  have K699 : Keep h0 h695 [x] := K0.wr W695 (Or.inl (by simp))
  have K700 : Keep h0 h698 [x] := K699.wr W698 (Or.inl (by simp))
  have E701 : Exa Z h698 x "java/lang/String" := E697.wr W698
  have F702 : Fld Z h698 x "java/lang/String" "value" "[B" (.ref r) := Fw695.other W698 (Or.inr (slot_ne (Or.inr (own_w hw 25 rfl)) (Or.inr (own_w hw 26 rfl)) (by decide) (t := (.array .byte)) (t' := .byte) (by decide) (by decide)))
  exact ⟨rfl, N698, K700, E701, F702, Fw698⟩
theorem d31_0 : decode jdk_52_method_69_code 0 = .ok (.iload_n 2, 1) := by decide +kernel
theorem d31_1 : decode jdk_52_method_69_code 1 = .ok (.ifCond .ne 7, 3) := by decide +kernel
theorem d31_4 : decode jdk_52_method_69_code 4 = .ok (.ldc_w 295, 3) := by decide +kernel
theorem d31_7 : decode jdk_52_method_69_code 7 = .ok (.areturn, 1) := by decide +kernel
theorem d31_8 : decode jdk_52_method_69_code 8 = .ok (.getstatic 251, 3) := by decide +kernel
theorem d31_11 : decode jdk_52_method_69_code 11 = .ok (.ifCond .eq 28, 3) := by decide +kernel
theorem d31_14 : decode jdk_52_method_69_code 14 = .ok (.aload_n 0, 1) := by decide +kernel
theorem d31_15 : decode jdk_52_method_69_code 15 = .ok (.iload_n 1, 1) := by decide +kernel
theorem d31_16 : decode jdk_52_method_69_code 16 = .ok (.iload_n 2, 1) := by decide +kernel
theorem d31_17 : decode jdk_52_method_69_code 17 = .ok (.invokestatic 257, 3) := by decide +kernel
theorem d31_20 : decode jdk_52_method_69_code 20 = .ok (.astore_n 3, 1) := by decide +kernel
theorem d31_21 : decode jdk_52_method_69_code 21 = .ok (.aload_n 3, 1) := by decide +kernel
theorem d31_22 : decode jdk_52_method_69_code 22 = .ok (.iload_n 2, 1) := by decide +kernel
theorem d31_23 : decode jdk_52_method_69_code 23 = .ok (.invokestatic 259, 3) := by decide +kernel
theorem d31_26 : decode jdk_52_method_69_code 26 = .ok (.istore 4, 2) := by decide +kernel
theorem d31_28 : decode jdk_52_method_69_code 28 = .ok (.new 3, 3) := by decide +kernel
theorem d31_31 : decode jdk_52_method_69_code 31 = .ok (.dup, 1) := by decide +kernel
theorem d31_32 : decode jdk_52_method_69_code 32 = .ok (.aload_n 3, 1) := by decide +kernel
theorem d31_33 : decode jdk_52_method_69_code 33 = .ok (.iload 4, 2) := by decide +kernel
theorem d31_35 : decode jdk_52_method_69_code 35 = .ok (.invokespecial 263, 3) := by decide +kernel
theorem d31_38 : decode jdk_52_method_69_code 38 = .ok (.areturn, 1) := by decide +kernel
theorem efNs1 (t : Addr) (m : MethodId) : entryFrame m #[(.ref t), (.int (1 : Int32)), (.int (0 : Int32))] 5 = mkF m 0 #[.val (.ref t), .val (.int (1 : Int32)), .val (.int (0 : Int32)), .unset, .unset] [] := by first | (simp [entryFrame, mkF, argsToLocals, Value.category]; done) | rfl
def QNs1 (Z : State) (t : Addr) (kt : ClassId) (c0 zc : Int32) (fm : Value) (h0 : Heap) (n0 : Nat) (v : Option Value) (h : Heap) (L : List Loc) : Prop := ∃ x, v = some (.ref x) ∧ Fr n0 L ∧ Keep h0 h [] ∧ Exa Z h x "java/lang/String" ∧ ∃ t kb cd N2 vs, Fld Z h x "java/lang/String" "value" "[B" (.ref t) ∧ Fld Z h x "java/lang/String" "coder" "B" (.int cd) ∧ Arv Z h t kb .byte N2 vs (.int (0 : Int32)) ∧ StrChars.Road.CodA ([] : List Int32) cd N2 vs
set_option maxRecDepth 65536 in
set_option maxHeartbeats 40000000 in
theorem rmNs1 (l : Launch) (Z : State) (a0 : Array Value) (hw : ∀ d ∈ tables_1, d.before a0 Z = true) (ws : List Jvm.Cond) (t : Addr) (kt : ClassId) (c0 zc : Int32) (fm : Value) (h0 : Heap) (n0 : Nat) (Z0 : n0 ≤ h0.size) (O0 : Old Z n0 h0) (S_CS : Sta Z Z.heap "java/lang/String" "COMPACT_STRINGS" "Z" (.int zc)) (hzc : ¬ zc = 0) (S_FM : Sta Z Z.heap "jdk/internal/util/Preconditions" "SIOOBE_FORMATTER" "Ljava/util/function/BiFunction;" fm) (hfm : fm.isRef = true) (S_AD : Sta Z Z.heap "java/lang/StringUTF16" "$assertionsDisabled" "Z" (.int (1 : Int32))) (S_HI : Sta Z Z.heap "java/lang/StringUTF16" "HI_BYTE_SHIFT" "I" (.int (0 : Int32))) (S_LO : Sta Z Z.heap "java/lang/StringUTF16" "LO_BYTE_SHIFT" "I" (.int (8 : Int32))) (Kt : Arv Z h0 t kt .byte (2 : Int32) [(.int (StrChars.lo8 c0)), (.int (StrChars.hi8 c0))] (.int (0 : Int32))) (h_c0 : C16 c0) :
    OwnLawW l y29_ jdk_52_method_69_code 5 (some (.object "java/lang/String")) ws (rR 0 2 4 0) #[(.ref t), (.int (1 : Int32)), (.int (0 : Int32))] Z EL1 h0 (QNs1 Z t kt c0 zc fm h0 n0) := by
  refine own_enterW (plainFor_of_name pn_java_lang_StringUTF16) (efNs1 t) ?_
  intro p e s m below meth c s₁ Bd hx hby hml hZ hown X0 e0 hh hS0 CR0
  have N0 := Fr.nil n0
  have hEL : EW Z a0 EL1 := own_EL hw
  have ks0 : h0.size ≤ h0.size := Nat.le_refl _
  have K0 : Keep h0 h0 [] := Keep.refl _ _
  refine P1.iloadN X0.here hx (hb hby d31_0) rfl ?_
  refine P1.ifNo X0.here hx (hb hby d31_1) ((if0 _ _).trans (teq (by decide : (0 : Int32) = (0 : Int32))).2) ?_
  obtain ⟨la703, T703, h703, k1_703, lb703, lk703, X703, e703, E703, hS703, ks703, hZ, hown, LE703, LC703, LV703, LK703, -, -, CW703, -, hsf703, st703⟩ := ldcCHw X0 hx hZ hown (own_w hw 181 rfl) (fun d hd => hw d (in_atoms d hd)) e0 hS0 ks0 hEL (by decide) CR0.1 (vs := []) (z := (0 : Int32)) (by decide) (by decide) rfl (g := (mkF m 4 #[.val (.ref t), .val (.int (1 : Int32)), .val (.int (0 : Int32)), .unset, .unset] [])) rfl (hb hby d31_4) (n := 0) (by decide) (by decide) (ok rfl) (ok rfl)
  refine Goes.step (T' := T703) (g' := (mkF m 7 #[.val (.ref t), .val (.int (1 : Int32)), .val (.int (0 : Int32)), .unset, .unset] [(.ref la703)])) st703 ?_
  have CR704 : CHr Z EL1 s.vm h0 T703.vm h703 := CR0.trans CW703
  refine Goes.retAW X703 hx Bd.notSynchronized hS703 ks703 hZ hEL (hh ▸ CR704) e703 Bd.returns rfl rfl (hb hby d31_7) (ok rfl) (ok rfl) ?_
  have K705 : Keep h0 h703 [] := K0.ext E703
  exact ⟨la703, rfl, N0, K705, LE703, lb703, lk703, (0 : Int32), (0 : Int32), [], LV703, LC703, LK703, (Or.inl ⟨rfl, rfl, rfl, fun _ q => nomatch q⟩)⟩
theorem d28_0 : decode jdk_42_method_92_code 0 = .ok (.aload_n 0, 1) := by decide +kernel
theorem d28_1 : decode jdk_42_method_92_code 1 = .ok (.invokevirtual 505, 3) := by decide +kernel
theorem d28_4 : decode jdk_42_method_92_code 4 = .ok (.istore_n 3, 1) := by decide +kernel
theorem d28_5 : decode jdk_42_method_92_code 5 = .ok (.iload_n 1, 1) := by decide +kernel
theorem d28_6 : decode jdk_42_method_92_code 6 = .ok (.iload_n 2, 1) := by decide +kernel
theorem d28_7 : decode jdk_42_method_92_code 7 = .ok (.iload_n 3, 1) := by decide +kernel
theorem d28_8 : decode jdk_42_method_92_code 8 = .ok (.invokestatic 521, 3) := by decide +kernel
theorem d28_11 : decode jdk_42_method_92_code 11 = .ok (.iload_n 1, 1) := by decide +kernel
theorem d28_12 : decode jdk_42_method_92_code 12 = .ok (.ifCond .ne 10, 3) := by decide +kernel
theorem d28_22 : decode jdk_42_method_92_code 22 = .ok (.iload_n 2, 1) := by decide +kernel
theorem d28_23 : decode jdk_42_method_92_code 23 = .ok (.iload_n 1, 1) := by decide +kernel
theorem d28_24 : decode jdk_42_method_92_code 24 = .ok (.isub, 1) := by decide +kernel
theorem d28_25 : decode jdk_42_method_92_code 25 = .ok (.istore 4, 2) := by decide +kernel
theorem d28_27 : decode jdk_42_method_92_code 27 = .ok (.aload_n 0, 1) := by decide +kernel
theorem d28_28 : decode jdk_42_method_92_code 28 = .ok (.invokevirtual 492, 3) := by decide +kernel
theorem d28_31 : decode jdk_42_method_92_code 31 = .ok (.ifCond .eq 16, 3) := by decide +kernel
theorem d28_47 : decode jdk_42_method_92_code 47 = .ok (.aload_n 0, 1) := by decide +kernel
theorem d28_48 : decode jdk_42_method_92_code 48 = .ok (.getfield 9, 3) := by decide +kernel
theorem d28_51 : decode jdk_42_method_92_code 51 = .ok (.iload_n 1, 1) := by decide +kernel
theorem d28_52 : decode jdk_42_method_92_code 52 = .ok (.iload 4, 2) := by decide +kernel
theorem d28_54 : decode jdk_42_method_92_code 54 = .ok (.invokestatic 689, 3) := by decide +kernel
theorem d28_57 : decode jdk_42_method_92_code 57 = .ok (.areturn, 1) := by decide +kernel
theorem in_wordsLen : ∀ d ∈ StrChars.Road.wordsLen, d ∈ tables_1 := by decide +kernel
theorem pd_341 : parseMethodDescriptor "()I" = some ⟨[], some .int⟩ := by decide +kernel
theorem pd_1418 : parseMethodDescriptor "(III)V" = some ⟨[.int, .int, .int], none⟩ := by decide +kernel
theorem pd_27634 : parseMethodDescriptor "([BII)Ljava/lang/String;" = some ⟨[(.array .byte), .int, .int], some (.object "java/lang/String")⟩ := by decide +kernel
theorem efSq1 (x : Addr) (m : MethodId) : entryFrame m #[(.ref x), (.int (1 : Int32)), (.int (1 : Int32))] 5 = mkF m 0 #[.val (.ref x), .val (.int (1 : Int32)), .val (.int (1 : Int32)), .unset, .unset] [] := by first | (simp [entryFrame, mkF, argsToLocals, Value.category]; done) | rfl
def QSq1 (Z : State) (x t : Addr) (kt : ClassId) (c0 zc : Int32) (fm : Value) (h0 : Heap) (n0 : Nat) (v : Option Value) (h : Heap) (L : List Loc) : Prop := ∃ x, v = some (.ref x) ∧ Fr n0 L ∧ Keep h0 h [] ∧ Exa Z h x "java/lang/String" ∧ ∃ t kb cd N2 vs, Fld Z h x "java/lang/String" "value" "[B" (.ref t) ∧ Fld Z h x "java/lang/String" "coder" "B" (.int cd) ∧ Arv Z h t kb .byte N2 vs (.int (0 : Int32)) ∧ StrChars.Road.CodA ([] : List Int32) cd N2 vs
set_option maxRecDepth 65536 in
set_option maxHeartbeats 40000000 in
theorem rmSq1 (l : Launch) (Z : State) (a0 : Array Value) (hw : ∀ d ∈ tables_1, d.before a0 Z = true) (ws : List Jvm.Cond) (x t : Addr) (kt : ClassId) (c0 zc : Int32) (fm : Value) (h0 : Heap) (n0 : Nat) (Z0 : n0 ≤ h0.size) (O0 : Old Z n0 h0) (S_CS : Sta Z Z.heap "java/lang/String" "COMPACT_STRINGS" "Z" (.int zc)) (hzc : ¬ zc = 0) (S_FM : Sta Z Z.heap "jdk/internal/util/Preconditions" "SIOOBE_FORMATTER" "Ljava/util/function/BiFunction;" fm) (hfm : fm.isRef = true) (S_AD : Sta Z Z.heap "java/lang/StringUTF16" "$assertionsDisabled" "Z" (.int (1 : Int32))) (S_HI : Sta Z Z.heap "java/lang/StringUTF16" "HI_BYTE_SHIFT" "I" (.int (0 : Int32))) (S_LO : Sta Z Z.heap "java/lang/StringUTF16" "LO_BYTE_SHIFT" "I" (.int (8 : Int32))) (Ex : Exa Z h0 x "java/lang/String") (Vx : Fld Z h0 x "java/lang/String" "value" "[B" (.ref t)) (Cx : Fld Z h0 x "java/lang/String" "coder" "B" (.int (1 : Int32))) (Kt : Arv Z h0 t kt .byte (2 : Int32) [(.int (StrChars.lo8 c0)), (.int (StrChars.hi8 c0))] (.int (0 : Int32))) (h_c0 : C16 c0) (hsome : ∃ c ∈ ([c0] : List Int32), (255 : Int32) < c) :
    OwnLawW l y16_ jdk_42_method_92_code 5 (some (.object "java/lang/String")) ws (rR 2 2 4 29) #[(.ref x), (.int (1 : Int32)), (.int (1 : Int32))] Z EL1 h0 (QSq1 Z x t kt c0 zc fm h0 n0) := by
  refine own_enterW (plainFor_of_name pn_java_lang_String) (efSq1 x) ?_
  intro p e s m below meth c s₁ Bd hx hby hml hZ hown X0 e0 hh hS0 CR0
  have N0 := Fr.nil n0
  have hEL : EW Z a0 EL1 := own_EL hw
  have ks0 : h0.size ≤ h0.size := Nat.le_refl _
  have K0 : Keep h0 h0 [] := Keep.refl _ _
  have hbd706 : ∀ c ∈ ([c0] : List Int32), ¬ c < 0 ∧ ¬ (65535 : Int32) < c := by
    intro c hc
    simp only [List.mem_cons, List.not_mem_nil, or_false] at hc
    rcases hc with rfl
    · exact h_c0
  refine P1.aloadN X0.here hx (hb hby d28_0) rfl rfl ?_
  refine Goes.callV X0 hx hZ (y := y14_) (z := y14_) (Qc := fun v h' L => (v = some (.int (Int32.ofNat ([c0] : List Int32).length)) ∧ L = [] ∧ h' = h0)) hown (mvT hZ (own_w hw 114 rfl)) (mvT hZ (own_w hw 115 rfl)) (notFace_of_selects (args := #[]) (mvT hZ (own_w hw 117 rfl))) (mvT hZ (own_w hw 117 rfl)) (mvT hZ (own_w hw 116 rfl)) (by decide) (kc' := 0) (ks' := 0) (StrChars.Road.lenW (W := 0) hZ (fun d hd => hw d (in_wordsLen d hd)) (kI := 4) (own_w hw 10 rfl) Ex Vx Cx Kt (show StrChars.Road.CodA ([c0] : List Int32) (1 : Int32) (2 : Int32) [(.int (StrChars.lo8 c0)), (.int (StrChars.hi8 c0))] from Or.inr ⟨rfl, rfl, rfl, hsome⟩) hbd706 (S_CS.ext O0.2) hzc (ok rfl) (ok rfl) (ok rfl)) (b := x) e0 Ex (g := (mkF m 1 #[.val (.ref x), .val (.int (1 : Int32)), .val (.int (1 : Int32)), .unset, .unset] [(.ref x)])) rfl (by rw [hml]; rfl) (argsL := []) (rest := []) (lenOf pd_341 rfl) rfl (by show 2 * 0 + _ ≤ _; exact Nat.le_of_eq rfl) (hb hby d28_1) rfl (ok rfl) (ok rfl) ?_
  intro v707 T707 L707 q707 X707
  obtain ⟨rfl, rfl, hE707⟩ := q707
  have N707 := Fr.app N0 (Fr.nil n0)
  show Goes p e below _ T707 (mkF m 4 #[.val (.ref x), .val (.int (1 : Int32)), .val (.int (1 : Int32)), .unset, .unset] [(.int (1 : Int32))])
  refine P1.istoreN X707.here hx #[.val (.ref x), .val (.int (1 : Int32)), .val (.int (1 : Int32)), .val (.int (1 : Int32)), .unset] (hb hby d28_4) rfl ?_
  refine P1.iloadN X707.here hx (hb hby d28_5) rfl ?_
  refine P1.iloadN X707.here hx (hb hby d28_6) rfl ?_
  refine P1.iloadN X707.here hx (hb hby d28_7) rfl ?_
  refine P1.callS X707 hx hZ hown (own_w hw 129 rfl) (own_w hw 130 rfl) (own_w hw 11 rfl) (own_w hw 131 rfl) (by decide) (rmCbe l Z a0 hw [] (1 : Int32) (1 : Int32) (1 : Int32) zc fm h0 n0 Z0 O0 S_CS hzc S_FM hfm S_AD S_HI S_LO (by decide) (by decide) (by decide)) hml [(.int (1 : Int32)), (.int (1 : Int32)), (.int (1 : Int32))] [] (lenOf pd_1418 rfl) rfl rfl (hb hby d28_8) rfl hE707 (ok rfl) (ok rfl) (ok rfl) (ok rfl) ?_
  intro v708 T708 L708 q708 X708
  obtain ⟨rfl, N708q, hE708⟩ := q708
  have N708 := Fr.app N707 N708q
  show Goes p e below _ T708 (mkF m 11 #[.val (.ref x), .val (.int (1 : Int32)), .val (.int (1 : Int32)), .val (.int (1 : Int32)), .unset] [])
  refine P1.iloadN X708.here hx (hb hby d28_11) rfl ?_
  refine P1.ifYes X708.here hx 22 (hb hby d28_12) ((if0 _ _).trans (feq (by decide : ¬ ((1 : Int32) = (0 : Int32)))).2) (by decide) (by decide) ?_
  refine P1.iloadN X708.here hx (hb hby d28_22) rfl ?_
  refine P1.iloadN X708.here hx (hb hby d28_23) rfl ?_
  refine P1.isub X708.here hx (hb hby d28_24) ?_
  have rw709 : ((1 : Int32) - (1 : Int32)) = (0 : Int32) := by decide
  rw [rw709]
  refine P1.istore X708.here hx #[.val (.ref x), .val (.int (1 : Int32)), .val (.int (1 : Int32)), .val (.int (1 : Int32)), .val (.int (0 : Int32))] (hb hby d28_25) rfl ?_
  refine P1.aloadN X708.here hx (hb hby d28_27) rfl rfl ?_
  refine Goes.callV X708 hx hZ (y := y13_) (z := y13_) hown (mvT hZ (own_w hw 61 rfl)) (mvT hZ (own_w hw 62 rfl)) (notFace_of_selects (args := #[]) (mvT hZ (own_w hw 64 rfl))) (mvT hZ (own_w hw 64 rfl)) (mvT hZ (own_w hw 63 rfl)) (by decide) (kc' := 0) (ks' := 0) (backOf (W := 0) (rmIsl l Z a0 hw [] x zc fm h0 n0 Z0 O0 S_CS hzc S_FM hfm S_AD S_HI S_LO Cx) hZ (own_w hw 65 rfl) (own_w hw 11 rfl) (ok rfl) (ok rfl)) (b := x) hE708 Ex (g := (mkF m 28 #[.val (.ref x), .val (.int (1 : Int32)), .val (.int (1 : Int32)), .val (.int (1 : Int32)), .val (.int (0 : Int32))] [(.ref x)])) rfl (by rw [hml]; rfl) (argsL := []) (rest := []) (lenOf pd_392 rfl) rfl (by show 2 * 0 + _ ≤ _; exact Nat.le_of_eq rfl) (hb hby d28_28) rfl (ok rfl) (ok rfl) ?_
  intro v710 T710 L710 q710 X710
  obtain ⟨rfl, N710q, hE710⟩ := q710
  have N710 := Fr.app N708 N710q
  show Goes p e below _ T710 (mkF m 31 #[.val (.ref x), .val (.int (1 : Int32)), .val (.int (1 : Int32)), .val (.int (1 : Int32)), .val (.int (0 : Int32))] [(.int (0 : Int32))])
  refine P1.ifYes X710.here hx 47 (hb hby d28_31) ((if0 _ _).trans (teq (by decide : (0 : Int32) = (0 : Int32))).1) (by decide) (by decide) ?_
  refine P1.aloadN X710.here hx (hb hby d28_47) rfl rfl ?_
  obtain ⟨T711, X711, e711, st711⟩ := getF X710 hx hZ hown (host := "") (Or.inl (own_w hw 29 rfl)) Via.refl hE710 Vx (g := (mkF m 48 #[.val (.ref x), .val (.int (1 : Int32)), .val (.int (1 : Int32)), .val (.int (1 : Int32)), .val (.int (0 : Int32))] [(.ref x)])) rfl rfl (hb hby d28_48)
  refine Goes.step (T' := T711) (g' := (mkF m 51 #[.val (.ref x), .val (.int (1 : Int32)), .val (.int (1 : Int32)), .val (.int (1 : Int32)), .val (.int (0 : Int32))] [(.ref t)])) st711 ?_
  refine P1.iloadN X711.here hx (hb hby d28_51) rfl ?_
  refine P1.iload X711.here hx (hb hby d28_52) rfl ?_
  refine Goes.callSW X711 hx (y := y29_) hS0 ks0 hZ hown (mvT hZ (own_w hw 135 rfl)) (mvT hZ (own_w hw 136 rfl)) (mvT hZ (own_w hw 48 rfl)) (mvT hZ (own_w hw 137 rfl)) (by decide) (kc' := 2) (ks' := 4) (backOfSH (W := 0) (rmNs1 l Z a0 hw [] t kt c0 zc fm h0 n0 Z0 O0 S_CS hzc S_FM hfm S_AD S_HI S_LO Kt h_c0) hZ (own_w hw 137 rfl) (own_w hw 48 rfl) (ok rfl) (ok rfl) hEL CR0.1) (g := (mkF m 54 #[.val (.ref x), .val (.int (1 : Int32)), .val (.int (1 : Int32)), .val (.int (1 : Int32)), .val (.int (0 : Int32))] [(.int (0 : Int32)), (.int (1 : Int32)), (.ref t)])) rfl (by rw [hml]; rfl) (argsL := [(.ref t), (.int (1 : Int32)), (.int (0 : Int32))]) (rest := []) (lenOf pd_27634 rfl) rfl (by show 2 * 0 + _ ≤ _; exact Nat.le_of_eq rfl) (hb hby d28_54) rfl e711 (ok rfl) (ok rfl) ?_
  intro v712 T712 L712 q712 Y712
  obtain ⟨X712, hS712, hZ, hown, CW712⟩ := Y712
  obtain ⟨x712, rfl, N712q, K712, g712E, t712, kb712, cd712, N2712, vs712, g712v, g712c, g712V, g712O⟩ := q712
  have N712 := Fr.app N710 N712q
  have ks712 : T712.heap.size ≤ T712.heap.size := Nat.le_refl _
  show Goes p e below _ T712 (mkF m 57 #[.val (.ref x), .val (.int (1 : Int32)), .val (.int (1 : Int32)), .val (.int (1 : Int32)), .val (.int (0 : Int32))] [(.ref x712)])
  have CR713 : CHr Z EL1 s.vm h0 T712.vm T712.heap := CR0.trans CW712
  refine Goes.retAW X712 hx Bd.notSynchronized hS712 ks712 hZ hEL (hh ▸ CR713) rfl Bd.returns rfl rfl (hb hby d28_57) (ok rfl) (ok rfl) ?_
  have K714 : Keep h0 T712.heap [] := K0.trans K712 all0
  exact ⟨x712, rfl, N712, K714, g712E, t712, kb712, cd712, N2712, vs712, g712v, g712c, g712V, g712O⟩
theorem d25_0 : decode jdk_42_method_91_code 0 = .ok (.aload_n 0, 1) := by decide +kernel
theorem d25_1 : decode jdk_42_method_91_code 1 = .ok (.iload_n 1, 1) := by decide +kernel
theorem d25_2 : decode jdk_42_method_91_code 2 = .ok (.aload_n 0, 1) := by decide +kernel
theorem d25_3 : decode jdk_42_method_91_code 3 = .ok (.invokevirtual 505, 3) := by decide +kernel
theorem d25_6 : decode jdk_42_method_91_code 6 = .ok (.invokevirtual 681, 3) := by decide +kernel
theorem d25_9 : decode jdk_42_method_91_code 9 = .ok (.areturn, 1) := by decide +kernel
theorem pd_23488 : parseMethodDescriptor "(II)Ljava/lang/String;" = some ⟨[.int, .int], some (.object "java/lang/String")⟩ := by decide +kernel
theorem efSb1 (x : Addr) (m : MethodId) : entryFrame m #[(.ref x), (.int (1 : Int32))] 2 = mkF m 0 #[.val (.ref x), .val (.int (1 : Int32))] [] := by first | (simp [entryFrame, mkF, argsToLocals, Value.category]; done) | rfl
def QSb1 (Z : State) (x t : Addr) (kt : ClassId) (c0 zc : Int32) (fm : Value) (h0 : Heap) (n0 : Nat) (v : Option Value) (h : Heap) (L : List Loc) : Prop := ∃ x, v = some (.ref x) ∧ Fr n0 L ∧ Keep h0 h [] ∧ Exa Z h x "java/lang/String" ∧ ∃ t kb cd N2 vs, Fld Z h x "java/lang/String" "value" "[B" (.ref t) ∧ Fld Z h x "java/lang/String" "coder" "B" (.int cd) ∧ Arv Z h t kb .byte N2 vs (.int (0 : Int32)) ∧ StrChars.Road.CodA ([] : List Int32) cd N2 vs
set_option maxRecDepth 65536 in
set_option maxHeartbeats 40000000 in
theorem rmSb1 (l : Launch) (Z : State) (a0 : Array Value) (hw : ∀ d ∈ tables_1, d.before a0 Z = true) (ws : List Jvm.Cond) (x t : Addr) (kt : ClassId) (c0 zc : Int32) (fm : Value) (h0 : Heap) (n0 : Nat) (Z0 : n0 ≤ h0.size) (O0 : Old Z n0 h0) (S_CS : Sta Z Z.heap "java/lang/String" "COMPACT_STRINGS" "Z" (.int zc)) (hzc : ¬ zc = 0) (S_FM : Sta Z Z.heap "jdk/internal/util/Preconditions" "SIOOBE_FORMATTER" "Ljava/util/function/BiFunction;" fm) (hfm : fm.isRef = true) (S_AD : Sta Z Z.heap "java/lang/StringUTF16" "$assertionsDisabled" "Z" (.int (1 : Int32))) (S_HI : Sta Z Z.heap "java/lang/StringUTF16" "HI_BYTE_SHIFT" "I" (.int (0 : Int32))) (S_LO : Sta Z Z.heap "java/lang/StringUTF16" "LO_BYTE_SHIFT" "I" (.int (8 : Int32))) (Ex : Exa Z h0 x "java/lang/String") (Vx : Fld Z h0 x "java/lang/String" "value" "[B" (.ref t)) (Cx : Fld Z h0 x "java/lang/String" "coder" "B" (.int (1 : Int32))) (Kt : Arv Z h0 t kt .byte (2 : Int32) [(.int (StrChars.lo8 c0)), (.int (StrChars.hi8 c0))] (.int (0 : Int32))) (h_c0 : C16 c0) (hsome : ∃ c ∈ ([c0] : List Int32), (255 : Int32) < c) :
    OwnLawW l y15_ jdk_42_method_91_code 2 (some (.object "java/lang/String")) ws (rR 3 2 4 45) #[(.ref x), (.int (1 : Int32))] Z EL1 h0 (QSb1 Z x t kt c0 zc fm h0 n0) := by
  refine own_enterW (plainFor_of_name pn_java_lang_String) (efSb1 x) ?_
  intro p e s m below meth c s₁ Bd hx hby hml hZ hown X0 e0 hh hS0 CR0
  have N0 := Fr.nil n0
  have hEL : EW Z a0 EL1 := own_EL hw
  have ks0 : h0.size ≤ h0.size := Nat.le_refl _
  have K0 : Keep h0 h0 [] := Keep.refl _ _
  have hbd715 : ∀ c ∈ ([c0] : List Int32), ¬ c < 0 ∧ ¬ (65535 : Int32) < c := by
    intro c hc
    simp only [List.mem_cons, List.not_mem_nil, or_false] at hc
    rcases hc with rfl
    · exact h_c0
  refine P1.aloadN X0.here hx (hb hby d25_0) rfl rfl ?_
  refine P1.iloadN X0.here hx (hb hby d25_1) rfl ?_
  refine P1.aloadN X0.here hx (hb hby d25_2) rfl rfl ?_
  refine Goes.callV X0 hx hZ (y := y14_) (z := y14_) (Qc := fun v h' L => (v = some (.int (Int32.ofNat ([c0] : List Int32).length)) ∧ L = [] ∧ h' = h0)) hown (mvT hZ (own_w hw 114 rfl)) (mvT hZ (own_w hw 115 rfl)) (notFace_of_selects (args := #[]) (mvT hZ (own_w hw 117 rfl))) (mvT hZ (own_w hw 117 rfl)) (mvT hZ (own_w hw 116 rfl)) (by decide) (kc' := 0) (ks' := 0) (StrChars.Road.lenW (W := 2) hZ (fun d hd => hw d (in_wordsLen d hd)) (kI := 4) (own_w hw 10 rfl) Ex Vx Cx Kt (show StrChars.Road.CodA ([c0] : List Int32) (1 : Int32) (2 : Int32) [(.int (StrChars.lo8 c0)), (.int (StrChars.hi8 c0))] from Or.inr ⟨rfl, rfl, rfl, hsome⟩) hbd715 (S_CS.ext O0.2) hzc (ok rfl) (ok rfl) (ok rfl)) (b := x) e0 Ex (g := (mkF m 3 #[.val (.ref x), .val (.int (1 : Int32))] [(.ref x), (.int (1 : Int32)), (.ref x)])) rfl (by rw [hml]; rfl) (argsL := []) (rest := [(.int (1 : Int32)), (.ref x)]) (lenOf pd_341 rfl) rfl (by show 2 * 0 + _ ≤ _; exact Nat.le_of_eq rfl) (hb hby d25_3) rfl (ok rfl) (ok rfl) ?_
  intro v716 T716 L716 q716 X716
  obtain ⟨rfl, rfl, hE716⟩ := q716
  have N716 := Fr.app N0 (Fr.nil n0)
  show Goes p e below _ T716 (mkF m 6 #[.val (.ref x), .val (.int (1 : Int32))] [(.int (1 : Int32)), (.int (1 : Int32)), (.ref x)])
  refine Goes.callVW X716 hx (y := y16_) (z := y16_) hS0 ks0 hZ hown (mvT hZ (own_w hw 124 rfl)) (mvT hZ (own_w hw 125 rfl)) (notFace_of_selects (args := #[]) (mvT hZ (own_w hw 127 rfl))) (mvT hZ (own_w hw 127 rfl)) (mvT hZ (own_w hw 126 rfl)) (by decide) (kc' := 2) (ks' := 4) (backOfSH (W := 0) (rmSq1 l Z a0 hw [] x t kt c0 zc fm h0 n0 Z0 O0 S_CS hzc S_FM hfm S_AD S_HI S_LO Ex Vx Cx Kt h_c0 hsome) hZ (own_w hw 128 rfl) (own_w hw 11 rfl) (ok rfl) (ok rfl) hEL CR0.1) (b := x) hE716 Ex (g := (mkF m 6 #[.val (.ref x), .val (.int (1 : Int32))] [(.int (1 : Int32)), (.int (1 : Int32)), (.ref x)])) rfl (by rw [hml]; rfl) (argsL := [(.int (1 : Int32)), (.int (1 : Int32))]) (rest := []) (lenOf pd_23488 rfl) rfl (by show 2 * 0 + _ ≤ _; exact Nat.le_of_eq rfl) (hb hby d25_6) rfl (ok rfl) (ok rfl) ?_
  intro v717 T717 L717 q717 Y717
  obtain ⟨X717, hS717, hZ, hown, CW717⟩ := Y717
  obtain ⟨x717, rfl, N717q, K717, g717E, t717, kb717, cd717, N2717, vs717, g717v, g717c, g717V, g717O⟩ := q717
  have N717 := Fr.app N716 N717q
  have ks717 : T717.heap.size ≤ T717.heap.size := Nat.le_refl _
  show Goes p e below _ T717 (mkF m 9 #[.val (.ref x), .val (.int (1 : Int32))] [(.ref x717)])
  have CR718 : CHr Z EL1 s.vm h0 T717.vm T717.heap := CR0.trans CW717
  refine Goes.retAW X717 hx Bd.notSynchronized hS717 ks717 hZ hEL (hh ▸ CR718) rfl Bd.returns rfl rfl (hb hby d25_9) (ok rfl) (ok rfl) ?_
  have K719 : Keep h0 T717.heap [] := K0.trans K717 all0
  exact ⟨x717, rfl, N717, K719, g717E, t717, kb717, cd717, N2717, vs717, g717v, g717c, g717V, g717O⟩
theorem pd_21532 : parseMethodDescriptor "(I)Ljava/lang/String;" = some ⟨[.int], some (.object "java/lang/String")⟩ := by decide +kernel
theorem efWc1 (x : Addr) (m : MethodId) : entryFrame m #[(.ref x)] 1 = mkF m 0 #[.val (.ref x)] [] := by first | (simp [entryFrame, mkF, argsToLocals, Value.category]; done) | rfl
def QWc1 (Z : State) (x t : Addr) (kt : ClassId) (cd N2 : Int32) (vs : List Value) (zc : Int32) (fm : Value) (h0 : Heap) (n0 : Nat) (v : Option Value) (h : Heap) (L : List Loc) : Prop := ∃ x, v = some (.ref x) ∧ Fr n0 L ∧ Keep h0 h [] ∧ Exa Z h x "java/lang/String" ∧ ∃ t kb cd N2 vs, Fld Z h x "java/lang/String" "value" "[B" (.ref t) ∧ Fld Z h x "java/lang/String" "coder" "B" (.int cd) ∧ Arv Z h t kb .byte N2 vs (.int (0 : Int32)) ∧ StrChars.Road.CodA ([] : List Int32) cd N2 vs
set_option maxRecDepth 65536 in
set_option maxHeartbeats 40000000 in
theorem rmWc1 (l : Launch) (Z : State) (a0 : Array Value) (hw : ∀ d ∈ tables_1, d.before a0 Z = true) (ws : List Jvm.Cond) (x t : Addr) (kt : ClassId) (cd N2 : Int32) (vs : List Value) (zc : Int32) (fm : Value) (h0 : Heap) (n0 : Nat) (Z0 : n0 ≤ h0.size) (O0 : Old Z n0 h0) (S_CS : Sta Z Z.heap "java/lang/String" "COMPACT_STRINGS" "Z" (.int zc)) (hzc : ¬ zc = 0) (S_FM : Sta Z Z.heap "jdk/internal/util/Preconditions" "SIOOBE_FORMATTER" "Ljava/util/function/BiFunction;" fm) (hfm : fm.isRef = true) (S_AD : Sta Z Z.heap "java/lang/StringUTF16" "$assertionsDisabled" "Z" (.int (1 : Int32))) (S_HI : Sta Z Z.heap "java/lang/StringUTF16" "HI_BYTE_SHIFT" "I" (.int (0 : Int32))) (S_LO : Sta Z Z.heap "java/lang/StringUTF16" "LO_BYTE_SHIFT" "I" (.int (8 : Int32))) (Ex : Exa Z h0 x "java/lang/String") (Vx : Fld Z h0 x "java/lang/String" "value" "[B" (.ref t)) (Cx : Fld Z h0 x "java/lang/String" "coder" "B" (.int cd)) (Kt : Arv Z h0 t kt .byte N2 vs (.int (0 : Int32))) (hcod : StrChars.Road.CodA ([(65279 : Int32)] : List Int32) cd N2 vs) :
    OwnLawW l y0_ prog_17_method_7_code 1 (some (.object "java/lang/String")) ws (rR 5 2 4 66) #[(.ref x)] Z EL1 h0 (QWc1 Z x t kt cd N2 vs zc fm h0 n0) := by
  refine own_enterW (plainFor_of_name pn_com_example_epaulet_epaulet_io_InputFiles) (efWc1 x) ?_
  intro p e s m below meth c s₁ Bd hx hby hml hZ hown X0 e0 hh hS0 CR0
  have N0 := Fr.nil n0
  have hEL : EW Z a0 EL1 := own_EL hw
  have ks0 : h0.size ≤ h0.size := Nat.le_refl _
  have K0 : Keep h0 h0 [] := Keep.refl _ _
  rcases hcod with ⟨-, -, -, hno⟩ | ⟨rfl, rfl, rfl, hcod⟩
  · exact absurd (by decide) (hno (65279 : Int32) (by simp))
  have Kt : Arv Z h0 t kt .byte (2 : Int32) [(.int (StrChars.lo8 (65279 : Int32))), (.int (StrChars.hi8 (65279 : Int32)))] (.int (0 : Int32)) := Kt
  have hbd720 : ∀ c ∈ ([(65279 : Int32)] : List Int32), ¬ c < 0 ∧ ¬ (65535 : Int32) < c := by
    intro c hc
    simp only [List.mem_cons, List.not_mem_nil, or_false] at hc
    rcases hc with rfl
    · exact (show C16 (65279 : Int32) from by unfold C16; decide)
  refine P1.aloadN X0.here hx (hb hby d6_0) rfl rfl ?_
  refine Goes.callV X0 hx hZ (y := y12_) (z := y12_) (Qc := fun v h' L => (v = some (.int (if ([(65279 : Int32)] : List Int32).length = 0 then 1 else 0)) ∧ L = [] ∧ h' = h0)) hown (mvT hZ (own_w hw 35 rfl)) (mvT hZ (own_w hw 36 rfl)) (notFace_of_selects (args := #[]) (mvT hZ (own_w hw 38 rfl))) (mvT hZ (own_w hw 38 rfl)) (mvT hZ (own_w hw 37 rfl)) (by decide) (kc' := 0) (ks' := 0) (StrChars.Road.empW (W := 0) hZ (fun d hd => hw d (in_wordsEmp d hd)) (kI := 4) (own_w hw 10 rfl) Ex Vx Cx Kt (show StrChars.Road.CodA ([(65279 : Int32)] : List Int32) (1 : Int32) (2 : Int32) [(.int (StrChars.lo8 (65279 : Int32))), (.int (StrChars.hi8 (65279 : Int32)))] from Or.inr ⟨rfl, rfl, rfl, hcod⟩) hbd720 (ok rfl) (ok rfl) (ok rfl)) (b := x) e0 Ex (g := (mkF m 1 #[.val (.ref x)] [(.ref x)])) rfl (by rw [hml]; rfl) (argsL := []) (rest := []) (lenOf pd_392 rfl) rfl (by show 2 * 0 + _ ≤ _; exact Nat.le_of_eq rfl) (hb hby d6_1) rfl (ok rfl) (ok rfl) ?_
  intro v721 T721 L721 q721 X721
  obtain ⟨rfl, rfl, hE721⟩ := q721
  have N721 := Fr.app N0 (Fr.nil n0)
  show Goes p e below _ T721 (mkF m 4 #[.val (.ref x)] [(.int (0 : Int32))])
  refine P1.ifNo X721.here hx (hb hby d6_4) ((if0 _ _).trans (teq (by decide : (0 : Int32) = (0 : Int32))).2) ?_
  refine P1.aloadN X721.here hx (hb hby d6_7) rfl rfl ?_
  refine P1.iconst X721.here hx (0 : Int32) (hb hby d6_8) rfl ?_
  refine Goes.callV X721 hx hZ (y := y7_) (z := y7_) hown (mvT hZ (own_w hw 56 rfl)) (mvT hZ (own_w hw 57 rfl)) (notFace_of_selects (args := #[]) (mvT hZ (own_w hw 59 rfl))) (mvT hZ (own_w hw 59 rfl)) (mvT hZ (own_w hw 58 rfl)) (by decide) (kc' := 0) (ks' := 0) (backOf (W := 0) (rmCw1 l Z a0 hw [] x t kt (65279 : Int32) zc fm h0 n0 Z0 O0 S_CS hzc S_FM hfm S_AD S_HI S_LO Ex Vx Cx Kt (show C16 (65279 : Int32) from by unfold C16; decide)) hZ (own_w hw 60 rfl) (own_w hw 11 rfl) (ok rfl) (ok rfl)) (b := x) hE721 Ex (g := (mkF m 9 #[.val (.ref x)] [(.int (0 : Int32)), (.ref x)])) rfl (by rw [hml]; rfl) (argsL := [(.int (0 : Int32))]) (rest := []) (lenOf pd_577 rfl) rfl (by show 2 * 0 + _ ≤ _; exact Nat.le_of_eq rfl) (hb hby d6_9) rfl (ok rfl) (ok rfl) ?_
  intro v722 T722 L722 q722 X722
  obtain ⟨rfl, N722q, hE722⟩ := q722
  have N722 := Fr.app N721 N722q
  show Goes p e below _ T722 (mkF m 12 #[.val (.ref x)] [(.int (65279 : Int32))])
  refine P1.ldcI X722 hx hZ hown (own_w hw 78 rfl) (hb hby d6_12) ?_
  refine P1.icmpNo X722.here hx (hb hby d6_14) (teq (by decide : (65279 : Int32) = (65279 : Int32))).2 ?_
  refine P1.aloadN X722.here hx (hb hby d6_17) rfl rfl ?_
  refine P1.iconst X722.here hx (1 : Int32) (hb hby d6_18) rfl ?_
  refine Goes.callVW X722 hx (y := y15_) (z := y15_) hS0 ks0 hZ hown (mvT hZ (own_w hw 109 rfl)) (mvT hZ (own_w hw 110 rfl)) (notFace_of_selects (args := #[]) (mvT hZ (own_w hw 112 rfl))) (mvT hZ (own_w hw 112 rfl)) (mvT hZ (own_w hw 111 rfl)) (by decide) (kc' := 2) (ks' := 4) (backOfSH (W := 0) (rmSb1 l Z a0 hw [] x t kt (65279 : Int32) zc fm h0 n0 Z0 O0 S_CS hzc S_FM hfm S_AD S_HI S_LO Ex Vx Cx Kt (show C16 (65279 : Int32) from by unfold C16; decide) hcod) hZ (own_w hw 113 rfl) (own_w hw 11 rfl) (ok rfl) (ok rfl) hEL CR0.1) (b := x) hE722 Ex (g := (mkF m 19 #[.val (.ref x)] [(.int (1 : Int32)), (.ref x)])) rfl (by rw [hml]; rfl) (argsL := [(.int (1 : Int32))]) (rest := []) (lenOf pd_21532 rfl) rfl (by show 2 * 0 + _ ≤ _; exact Nat.le_of_eq rfl) (hb hby d6_19) rfl (ok rfl) (ok rfl) ?_
  intro v723 T723 L723 q723 Y723
  obtain ⟨X723, hS723, hZ, hown, CW723⟩ := Y723
  obtain ⟨x723, rfl, N723q, K723, g723E, t723, kb723, cd723, N2723, vs723, g723v, g723c, g723V, g723O⟩ := q723
  have N723 := Fr.app N722 N723q
  have ks723 : T723.heap.size ≤ T723.heap.size := Nat.le_refl _
  show Goes p e below _ T723 (mkF m 22 #[.val (.ref x)] [(.ref x723)])
  refine P1.goto X723.here hx 26 (hb hby d6_22) (by decide) (by decide) ?_
  have CR724 : CHr Z EL1 s.vm h0 T723.vm T723.heap := CR0.trans CW723
  refine Goes.retAW X723 hx Bd.notSynchronized hS723 ks723 hZ hEL (hh ▸ CR724) rfl Bd.returns rfl rfl (hb hby d6_26) (ok rfl) (ok rfl) ?_
  have K725 : Keep h0 T723.heap [] := K0.trans K723 all0
  exact ⟨x723, rfl, N723, K725, g723E, t723, kb723, cd723, N2723, vs723, g723v, g723c, g723V, g723O⟩
theorem d36_0 : decode jdk_41_method_13_code 0 = .ok (.iload_n 2, 1) := by decide +kernel
theorem d36_1 : decode jdk_41_method_13_code 1 = .ok (.iload_n 0, 1) := by decide +kernel
theorem d36_2 : decode jdk_41_method_13_code 2 = .ok (.ior, 1) := by decide +kernel
theorem d36_3 : decode jdk_41_method_13_code 3 = .ok (.iload_n 1, 1) := by decide +kernel
theorem d36_4 : decode jdk_41_method_13_code 4 = .ok (.ior, 1) := by decide +kernel
theorem d36_5 : decode jdk_41_method_13_code 5 = .ok (.ifCond .lt 10, 3) := by decide +kernel
theorem d36_8 : decode jdk_41_method_13_code 8 = .ok (.iload_n 1, 1) := by decide +kernel
theorem d36_9 : decode jdk_41_method_13_code 9 = .ok (.iload_n 2, 1) := by decide +kernel
theorem d36_10 : decode jdk_41_method_13_code 10 = .ok (.iload_n 0, 1) := by decide +kernel
theorem d36_11 : decode jdk_41_method_13_code 11 = .ok (.isub, 1) := by decide +kernel
theorem d36_12 : decode jdk_41_method_13_code 12 = .ok (.if_icmp .le 11, 3) := by decide +kernel
theorem d36_23 : decode jdk_41_method_13_code 23 = .ok (.iload_n 0, 1) := by decide +kernel
theorem d36_24 : decode jdk_41_method_13_code 24 = .ok (.ireturn, 1) := by decide +kernel
theorem efFs2  (f : Value) (hc_f : f.category = 1) (m : MethodId) : entryFrame m #[(.int (1 : Int32)), (.int (1 : Int32)), (.int (2 : Int32)), f] 4 = mkF m 0 #[.val (.int (1 : Int32)), .val (.int (1 : Int32)), .val (.int (2 : Int32)), .val f] [] := by cases f <;> simp_all [entryFrame, mkF, argsToLocals, Value.category]
def QFs2 (Z : State) (f : Value) (h0 : Heap) (n0 : Nat) (v : Option Value) (h : Heap) (L : List Loc) : Prop := v = some (.int 1) ∧ Fr n0 L ∧ h = h0
set_option maxRecDepth 65536 in
set_option maxHeartbeats 40000000 in
theorem rmFs2 (l : Launch) (Z : State) (a0 : Array Value) (hw : ∀ d ∈ tables_1, d.before a0 Z = true) (ws : List Jvm.Cond) (f : Value) (h0 : Heap) (n0 : Nat) (Z0 : n0 ≤ h0.size) (O0 : Old Z n0 h0) (hc_f : f.category = 1) :
    OwnLaw l (⟨"jdk/internal/util/Preconditions", "checkFromIndexSize", "(IIILjava/util/function/BiFunction;)I"⟩ : MethodName) jdk_41_method_13_code 4 (some .int) ws (rR 0 0 0 0) #[(.int (1 : Int32)), (.int (1 : Int32)), (.int (2 : Int32)), f] Z h0 (QFs2 Z f h0 n0) := by
  refine own_enter (plainFor_of_name pn_jdk_internal_util_Preconditions) (efFs2 f hc_f) ?_
  intro p e s m below meth c s₁ Bd hx hby hml hZ hown X0 e0
  have N0 := Fr.nil n0
  have K0 : Keep h0 h0 [] := Keep.refl _ _
  refine P1.iloadN X0.here hx (hb hby d36_0) rfl ?_
  refine P1.iloadN X0.here hx (hb hby d36_1) rfl ?_
  refine P1.ior X0.here hx (hb hby d36_2) ?_
  have rw726 : ((2 : Int32) ||| (1 : Int32)) = (3 : Int32) := by decide
  rw [rw726]
  refine P1.iloadN X0.here hx (hb hby d36_3) rfl ?_
  refine P1.ior X0.here hx (hb hby d36_4) ?_
  have rw727 : ((3 : Int32) ||| (1 : Int32)) = (3 : Int32) := by decide
  rw [rw727]
  refine P1.ifNo X0.here hx (hb hby d36_5) ((if0 _ _).trans (flt (by decide : ¬ ((3 : Int32) < (0 : Int32)))).1) ?_
  refine P1.iloadN X0.here hx (hb hby d36_8) rfl ?_
  refine P1.iloadN X0.here hx (hb hby d36_9) rfl ?_
  refine P1.iloadN X0.here hx (hb hby d36_10) rfl ?_
  refine P1.isub X0.here hx (hb hby d36_11) ?_
  have rw728 : ((2 : Int32) - (1 : Int32)) = (1 : Int32) := by decide
  rw [rw728]
  refine P1.icmpYes X0.here hx 23 (hb hby d36_12) (flt (by decide : ¬ ((1 : Int32) < (1 : Int32)))).2.2.2 (by decide) (by decide) ?_
  refine P1.iloadN X0.here hx (hb hby d36_23) rfl ?_
  refine Goes.retI X0 hx Bd.notSynchronized Bd.returns (hb hby d36_24) (ok rfl) (ok rfl) ?_
  rw [e0]
  exact ⟨rfl, N0, rfl⟩
theorem d35_0 : decode jdk_42_method_157_code 0 = .ok (.iload_n 0, 1) := by decide +kernel
theorem d35_1 : decode jdk_42_method_157_code 1 = .ok (.iload_n 1, 1) := by decide +kernel
theorem d35_2 : decode jdk_42_method_157_code 2 = .ok (.iload_n 2, 1) := by decide +kernel
theorem d35_3 : decode jdk_42_method_157_code 3 = .ok (.getstatic 1053, 3) := by decide +kernel
theorem d35_6 : decode jdk_42_method_157_code 6 = .ok (.invokestatic 1065, 3) := by decide +kernel
theorem d35_9 : decode jdk_42_method_157_code 9 = .ok (.ireturn, 1) := by decide +kernel
theorem efSo2  (m : MethodId) : entryFrame m #[(.int (1 : Int32)), (.int (1 : Int32)), (.int (2 : Int32))] 3 = mkF m 0 #[.val (.int (1 : Int32)), .val (.int (1 : Int32)), .val (.int (2 : Int32))] [] := by first | (simp [entryFrame, mkF, argsToLocals, Value.category]; done) | rfl
def QSo2 (Z : State) (zc : Int32) (fm : Value) (h0 : Heap) (n0 : Nat) (v : Option Value) (h : Heap) (L : List Loc) : Prop := v = some (.int 1) ∧ Fr n0 L ∧ h = h0
set_option maxRecDepth 65536 in
set_option maxHeartbeats 40000000 in
theorem rmSo2 (l : Launch) (Z : State) (a0 : Array Value) (hw : ∀ d ∈ tables_1, d.before a0 Z = true) (ws : List Jvm.Cond) (zc : Int32) (fm : Value) (h0 : Heap) (n0 : Nat) (Z0 : n0 ≤ h0.size) (O0 : Old Z n0 h0) (S_CS : Sta Z Z.heap "java/lang/String" "COMPACT_STRINGS" "Z" (.int zc)) (hzc : ¬ zc = 0) (S_FM : Sta Z Z.heap "jdk/internal/util/Preconditions" "SIOOBE_FORMATTER" "Ljava/util/function/BiFunction;" fm) (hfm : fm.isRef = true) (S_AD : Sta Z Z.heap "java/lang/StringUTF16" "$assertionsDisabled" "Z" (.int (1 : Int32))) (S_HI : Sta Z Z.heap "java/lang/StringUTF16" "HI_BYTE_SHIFT" "I" (.int (0 : Int32))) (S_LO : Sta Z Z.heap "java/lang/StringUTF16" "LO_BYTE_SHIFT" "I" (.int (8 : Int32))) :
    OwnLaw l (⟨"java/lang/String", "checkBoundsOffCount", "(III)I"⟩ : MethodName) jdk_42_method_157_code 3 (some .int) ws (rR 1 0 0 15) #[(.int (1 : Int32)), (.int (1 : Int32)), (.int (2 : Int32))] Z h0 (QSo2 Z zc fm h0 n0) := by
  refine own_enter (plainFor_of_name pn_java_lang_String) (efSo2 ) ?_
  intro p e s m below meth c s₁ Bd hx hby hml hZ hown X0 e0
  have N0 := Fr.nil n0
  have K0 : Keep h0 h0 [] := Keep.refl _ _
  refine P1.iloadN X0.here hx (hb hby d35_0) rfl ?_
  refine P1.iloadN X0.here hx (hb hby d35_1) rfl ?_
  refine P1.iloadN X0.here hx (hb hby d35_2) rfl ?_
  obtain ⟨T729, X729, e729, st729⟩ := getS2 X0 hx hZ hown (host := "") (Or.inl (own_w hw 73 rfl)) Via.refl e0 (S_FM.ext O0.2) (g := (mkF m 3 #[.val (.int (1 : Int32)), .val (.int (1 : Int32)), .val (.int (2 : Int32))] [(.int (2 : Int32)), (.int (1 : Int32)), (.int (1 : Int32))])) rfl (hb hby d35_3)
  refine Goes.step (T' := T729) (g' := (mkF m 6 #[.val (.int (1 : Int32)), .val (.int (1 : Int32)), .val (.int (2 : Int32))] [fm, (.int (2 : Int32)), (.int (1 : Int32)), (.int (1 : Int32))])) st729 ?_
  refine P1.callS X729 hx hZ hown (own_w hw 151 rfl) (own_w hw 152 rfl) (own_w hw 74 rfl) (own_w hw 153 rfl) (by decide) (rmFs2 l Z a0 hw [] fm h0 n0 Z0 O0 (own_cat hfm)) hml [(.int (1 : Int32)), (.int (1 : Int32)), (.int (2 : Int32)), fm] [] (lenOf pd_65354 rfl) rfl rfl (hb hby d35_6) rfl e729 (ok rfl) (ok rfl) (ok rfl) (ok rfl) ?_
  intro v730 T730 L730 q730 X730
  obtain ⟨rfl, N730q, hE730⟩ := q730
  have N730 := Fr.app N0 N730q
  show Goes p e below _ T730 (mkF m 9 #[.val (.int (1 : Int32)), .val (.int (1 : Int32)), .val (.int (2 : Int32))] [(.int (1 : Int32))])
  refine Goes.retI X730 hx Bd.notSynchronized Bd.returns (hb hby d35_9) (ok rfl) (ok rfl) ?_
  rw [hE730]
  exact ⟨rfl, N730, rfl⟩
theorem d34_0 : decode jdk_52_method_94_code 0 = .ok (.iload_n 0, 1) := by decide +kernel
theorem d34_1 : decode jdk_52_method_94_code 1 = .ok (.iload_n 1, 1) := by decide +kernel
theorem d34_2 : decode jdk_52_method_94_code 2 = .ok (.aload_n 2, 1) := by decide +kernel
theorem d34_3 : decode jdk_52_method_94_code 3 = .ok (.invokestatic 48, 3) := by decide +kernel
theorem d34_6 : decode jdk_52_method_94_code 6 = .ok (.invokestatic 419, 3) := by decide +kernel
theorem d34_9 : decode jdk_52_method_94_code 9 = .ok (.pop, 1) := by decide +kernel
theorem d34_10 : decode jdk_52_method_94_code 10 = .ok (.return_, 1) := by decide +kernel
theorem pd_1340 : parseMethodDescriptor "(III)I" = some ⟨[.int, .int, .int], some .int⟩ := by decide +kernel
theorem efUo2 (t : Addr) (m : MethodId) : entryFrame m #[(.int (1 : Int32)), (.int (1 : Int32)), (.ref t)] 3 = mkF m 0 #[.val (.int (1 : Int32)), .val (.int (1 : Int32)), .val (.ref t)] [] := by first | (simp [entryFrame, mkF, argsToLocals, Value.category]; done) | rfl
def QUo2 (Z : State) (t : Addr) (kt : ClassId) (c0 c1 zc : Int32) (fm : Value) (h0 : Heap) (n0 : Nat) (v : Option Value) (h : Heap) (L : List Loc) : Prop := v = none ∧ Fr n0 L ∧ h = h0
set_option maxRecDepth 65536 in
set_option maxHeartbeats 40000000 in
theorem rmUo2 (l : Launch) (Z : State) (a0 : Array Value) (hw : ∀ d ∈ tables_1, d.before a0 Z = true) (ws : List Jvm.Cond) (t : Addr) (kt : ClassId) (c0 c1 zc : Int32) (fm : Value) (h0 : Heap) (n0 : Nat) (Z0 : n0 ≤ h0.size) (O0 : Old Z n0 h0) (S_CS : Sta Z Z.heap "java/lang/String" "COMPACT_STRINGS" "Z" (.int zc)) (hzc : ¬ zc = 0) (S_FM : Sta Z Z.heap "jdk/internal/util/Preconditions" "SIOOBE_FORMATTER" "Ljava/util/function/BiFunction;" fm) (hfm : fm.isRef = true) (S_AD : Sta Z Z.heap "java/lang/StringUTF16" "$assertionsDisabled" "Z" (.int (1 : Int32))) (S_HI : Sta Z Z.heap "java/lang/StringUTF16" "HI_BYTE_SHIFT" "I" (.int (0 : Int32))) (S_LO : Sta Z Z.heap "java/lang/StringUTF16" "LO_BYTE_SHIFT" "I" (.int (8 : Int32))) (Kt : Arv Z h0 t kt .byte (4 : Int32) [(.int (StrChars.lo8 c0)), (.int (StrChars.hi8 c0)), (.int (StrChars.lo8 c1)), (.int (StrChars.hi8 c1))] (.int (0 : Int32))) :
    OwnLaw l (⟨"java/lang/StringUTF16", "checkBoundsOffCount", "(II[B)V"⟩ : MethodName) jdk_52_method_94_code 3 none ws (rR 2 0 0 29) #[(.int (1 : Int32)), (.int (1 : Int32)), (.ref t)] Z h0 (QUo2 Z t kt c0 c1 zc fm h0 n0) := by
  refine own_enter (plainFor_of_name pn_java_lang_StringUTF16) (efUo2 t) ?_
  intro p e s m below meth c s₁ Bd hx hby hml hZ hown X0 e0
  have N0 := Fr.nil n0
  have K0 : Keep h0 h0 [] := Keep.refl _ _
  refine P1.iloadN X0.here hx (hb hby d34_0) rfl ?_
  refine P1.iloadN X0.here hx (hb hby d34_1) rfl ?_
  refine P1.aloadN X0.here hx (hb hby d34_2) rfl rfl ?_
  refine P1.callS X0 hx hZ hown (own_w hw 105 rfl) (own_w hw 106 rfl) (own_w hw 48 rfl) (own_w hw 107 rfl) (by decide) (rmUl4 l Z a0 hw [] t kt [(.int (StrChars.lo8 c0)), (.int (StrChars.hi8 c0)), (.int (StrChars.lo8 c1)), (.int (StrChars.hi8 c1))] h0 n0 Z0 O0 Kt) hml [(.ref t)] [(.int (1 : Int32)), (.int (1 : Int32))] (lenOf pd_949 rfl) rfl rfl (hb hby d34_3) rfl e0 (ok rfl) (ok rfl) (ok rfl) (ok rfl) ?_
  intro v731 T731 L731 q731 X731
  obtain ⟨rfl, N731q, hE731⟩ := q731
  have N731 := Fr.app N0 N731q
  show Goes p e below _ T731 (mkF m 6 #[.val (.int (1 : Int32)), .val (.int (1 : Int32)), .val (.ref t)] [(.int (2 : Int32)), (.int (1 : Int32)), (.int (1 : Int32))])
  refine P1.callS X731 hx hZ hown (own_w hw 148 rfl) (own_w hw 149 rfl) (own_w hw 11 rfl) (own_w hw 150 rfl) (by decide) (rmSo2 l Z a0 hw [] zc fm h0 n0 Z0 O0 S_CS hzc S_FM hfm S_AD S_HI S_LO) hml [(.int (1 : Int32)), (.int (1 : Int32)), (.int (2 : Int32))] [] (lenOf pd_1340 rfl) rfl rfl (hb hby d34_6) rfl hE731 (ok rfl) (ok rfl) (ok rfl) (ok rfl) ?_
  intro v732 T732 L732 q732 X732
  obtain ⟨rfl, N732q, hE732⟩ := q732
  have N732 := Fr.app N731 N732q
  show Goes p e below _ T732 (mkF m 9 #[.val (.int (1 : Int32)), .val (.int (1 : Int32)), .val (.ref t)] [(.int (1 : Int32))])
  refine P1.pop X732.here hx (hb hby d34_9) rfl ?_
  refine Goes.retV X732 hx Bd.notSynchronized Bd.returns (hb hby d34_10) (ok rfl) (ok rfl) ?_
  rw [hE732]
  exact ⟨rfl, N732, rfl⟩
theorem d33_0 : decode jdk_52_method_22_code 0 = .ok (.iload_n 1, 1) := by decide +kernel
theorem d33_1 : decode jdk_52_method_22_code 1 = .ok (.iload 4, 2) := by decide +kernel
theorem d33_3 : decode jdk_52_method_22_code 3 = .ok (.aload_n 0, 1) := by decide +kernel
theorem d33_4 : decode jdk_52_method_22_code 4 = .ok (.invokestatic 173, 3) := by decide +kernel
theorem d33_7 : decode jdk_52_method_22_code 7 = .ok (.iconst 0, 1) := by decide +kernel
theorem d33_8 : decode jdk_52_method_22_code 8 = .ok (.istore 5, 2) := by decide +kernel
theorem d33_10 : decode jdk_52_method_22_code 10 = .ok (.iload 5, 2) := by decide +kernel
theorem d33_12 : decode jdk_52_method_22_code 12 = .ok (.iload 4, 2) := by decide +kernel
theorem d33_14 : decode jdk_52_method_22_code 14 = .ok (.if_icmp .ge 39, 3) := by decide +kernel
theorem d33_17 : decode jdk_52_method_22_code 17 = .ok (.aload_n 0, 1) := by decide +kernel
theorem d33_18 : decode jdk_52_method_22_code 18 = .ok (.iload_n 1, 1) := by decide +kernel
theorem d33_19 : decode jdk_52_method_22_code 19 = .ok (.invokestatic 71, 3) := by decide +kernel
theorem d33_22 : decode jdk_52_method_22_code 22 = .ok (.istore 6, 2) := by decide +kernel
theorem d33_24 : decode jdk_52_method_22_code 24 = .ok (.iload 6, 2) := by decide +kernel
theorem d33_26 : decode jdk_52_method_22_code 26 = .ok (.sipush 255, 3) := by decide +kernel
theorem d33_29 : decode jdk_52_method_22_code 29 = .ok (.if_icmp .le 6, 3) := by decide +kernel
theorem d33_32 : decode jdk_52_method_22_code 32 = .ok (.iload 5, 2) := by decide +kernel
theorem d33_34 : decode jdk_52_method_22_code 34 = .ok (.ireturn, 1) := by decide +kernel
theorem d33_35 : decode jdk_52_method_22_code 35 = .ok (.aload_n 2, 1) := by decide +kernel
theorem d33_36 : decode jdk_52_method_22_code 36 = .ok (.iload_n 3, 1) := by decide +kernel
theorem d33_37 : decode jdk_52_method_22_code 37 = .ok (.iload 6, 2) := by decide +kernel
theorem d33_39 : decode jdk_52_method_22_code 39 = .ok (.i2b, 1) := by decide +kernel
theorem d33_40 : decode jdk_52_method_22_code 40 = .ok (.bastore, 1) := by decide +kernel
theorem d33_41 : decode jdk_52_method_22_code 41 = .ok (.iinc 1 1, 3) := by decide +kernel
theorem d33_44 : decode jdk_52_method_22_code 44 = .ok (.iinc 3 1, 3) := by decide +kernel
theorem d33_47 : decode jdk_52_method_22_code 47 = .ok (.iinc 5 1, 3) := by decide +kernel
theorem d33_50 : decode jdk_52_method_22_code 50 = .ok (.goto (-40), 3) := by decide +kernel
theorem d33_53 : decode jdk_52_method_22_code 53 = .ok (.iload 4, 2) := by decide +kernel
theorem d33_55 : decode jdk_52_method_22_code 55 = .ok (.ireturn, 1) := by decide +kernel
theorem pd_1947 : parseMethodDescriptor "(II[B)V" = some ⟨[.int, .int, (.array .byte)], none⟩ := by decide +kernel
theorem efCr2 (t r : Addr) (m : MethodId) : entryFrame m #[(.ref t), (.int (1 : Int32)), (.ref r), (.int (0 : Int32)), (.int (1 : Int32))] 7 = mkF m 0 #[.val (.ref t), .val (.int (1 : Int32)), .val (.ref r), .val (.int (0 : Int32)), .val (.int (1 : Int32)), .unset, .unset] [] := by first | (simp [entryFrame, mkF, argsToLocals, Value.category]; done) | rfl
def QCr2 (Z : State) (t : Addr) (kt : ClassId) (c0 c1 : Int32) (r : Addr) (kr : ClassId) (zc : Int32) (fm : Value) (h0 : Heap) (n0 : Nat) (v : Option Value) (h : Heap) (L : List Loc) : Prop := Fr n0 L ∧ Keep h0 h [r] ∧ ((v = some (.int (1 : Int32)) ∧ (∀ c ∈ ([c1] : List Int32), ¬ (255 : Int32) < c) ∧ Arv Z h r kr .byte (1 : Int32) [(.int (StrChars.lo8 c1))] (.int (0 : Int32))) ∨ (v = some (.int (0 : Int32)) ∧ (255 : Int32) < c1))
set_option maxRecDepth 65536 in
set_option maxHeartbeats 40000000 in
theorem rmCr2 (l : Launch) (Z : State) (a0 : Array Value) (hw : ∀ d ∈ tables_1, d.before a0 Z = true) (ws : List Jvm.Cond) (t : Addr) (kt : ClassId) (c0 c1 : Int32) (r : Addr) (kr : ClassId) (zc : Int32) (fm : Value) (h0 : Heap) (n0 : Nat) (Z0 : n0 ≤ h0.size) (O0 : Old Z n0 h0) (S_CS : Sta Z Z.heap "java/lang/String" "COMPACT_STRINGS" "Z" (.int zc)) (hzc : ¬ zc = 0) (S_FM : Sta Z Z.heap "jdk/internal/util/Preconditions" "SIOOBE_FORMATTER" "Ljava/util/function/BiFunction;" fm) (hfm : fm.isRef = true) (S_AD : Sta Z Z.heap "java/lang/StringUTF16" "$assertionsDisabled" "Z" (.int (1 : Int32))) (S_HI : Sta Z Z.heap "java/lang/StringUTF16" "HI_BYTE_SHIFT" "I" (.int (0 : Int32))) (S_LO : Sta Z Z.heap "java/lang/StringUTF16" "LO_BYTE_SHIFT" "I" (.int (8 : Int32))) (Kt : Arv Z h0 t kt .byte (4 : Int32) [(.int (StrChars.lo8 c0)), (.int (StrChars.hi8 c0)), (.int (StrChars.lo8 c1)), (.int (StrChars.hi8 c1))] (.int (0 : Int32))) (gr : n0 ≤ r) (Vr : Arv Z h0 r kr .byte (1 : Int32) [(.int (0 : Int32))] (.int (0 : Int32))) (net : t ≠ r) (h_c0 : C16 c0) (h_c1 : C16 c1) :
    OwnLaw l (⟨"java/lang/StringUTF16", "compress", "([BI[BII)I"⟩ : MethodName) jdk_52_method_22_code 7 (some .int) ws (rR 3 0 0 43) #[(.ref t), (.int (1 : Int32)), (.ref r), (.int (0 : Int32)), (.int (1 : Int32))] Z h0 (QCr2 Z t kt c0 c1 r kr zc fm h0 n0) := by
  refine own_enter (plainFor_of_name pn_java_lang_StringUTF16) (efCr2 t r) ?_
  intro p e s m below meth c s₁ Bd hx hby hml hZ hown X0 e0
  have N0 := Fr.nil n0
  have K0 : Keep h0 h0 [] := Keep.refl _ _
  have K0 : Keep h0 h0 [r] := Keep.refl _ _
  refine P1.iloadN X0.here hx (hb hby d33_0) rfl ?_
  refine P1.iload X0.here hx (hb hby d33_1) rfl ?_
  refine P1.aloadN X0.here hx (hb hby d33_3) rfl rfl ?_
  refine P1.callS X0 hx hZ hown (own_w hw 145 rfl) (own_w hw 146 rfl) (own_w hw 48 rfl) (own_w hw 147 rfl) (by decide) (rmUo2 l Z a0 hw [] t kt c0 c1 zc fm h0 n0 Z0 O0 S_CS hzc S_FM hfm S_AD S_HI S_LO Kt) hml [(.int (1 : Int32)), (.int (1 : Int32)), (.ref t)] [] (lenOf pd_1947 rfl) rfl rfl (hb hby d33_4) rfl e0 (ok rfl) (ok rfl) (ok rfl) (ok rfl) ?_
  intro v733 T733 L733 q733 X733
  obtain ⟨rfl, N733q, hE733⟩ := q733
  have N733 := Fr.app N0 N733q
  show Goes p e below _ T733 (mkF m 7 #[.val (.ref t), .val (.int (1 : Int32)), .val (.ref r), .val (.int (0 : Int32)), .val (.int (1 : Int32)), .unset, .unset] [])
  refine P1.iconst X733.here hx (0 : Int32) (hb hby d33_7) rfl ?_
  refine P1.istore X733.here hx #[.val (.ref t), .val (.int (1 : Int32)), .val (.ref r), .val (.int (0 : Int32)), .val (.int (1 : Int32)), .val (.int (0 : Int32)), .unset] (hb hby d33_8) rfl ?_
  refine P1.iload X733.here hx (hb hby d33_10) rfl ?_
  refine P1.iload X733.here hx (hb hby d33_12) rfl ?_
  refine P1.icmpNo X733.here hx (hb hby d33_14) (tlt (by decide : (0 : Int32) < (1 : Int32))).2.1 ?_
  refine P1.aloadN X733.here hx (hb hby d33_17) rfl rfl ?_
  refine P1.iloadN X733.here hx (hb hby d33_18) rfl ?_
  refine P1.callS X733 hx hZ hown (own_w hw 96 rfl) (own_w hw 97 rfl) (own_w hw 48 rfl) (own_w hw 98 rfl) (by decide) (rmGc1 l Z a0 hw [] t kt (4 : Int32) [(.int (StrChars.lo8 c0)), (.int (StrChars.hi8 c0)), (.int (StrChars.lo8 c1)), (.int (StrChars.hi8 c1))] c1 zc fm h0 n0 Z0 O0 S_CS hzc S_FM hfm S_AD S_HI S_LO Kt ⟨by decide, by decide⟩ ⟨by decide, by decide⟩ rfl rfl h_c1) hml [(.ref t), (.int (1 : Int32))] [] (lenOf pd_1319 rfl) rfl rfl (hb hby d33_19) rfl hE733 (ok rfl) (ok rfl) (ok rfl) (ok rfl) ?_
  intro v734 T734 L734 q734 X734
  obtain ⟨rfl, N734q, hE734⟩ := q734
  have N734 := Fr.app N733 N734q
  show Goes p e below _ T734 (mkF m 22 #[.val (.ref t), .val (.int (1 : Int32)), .val (.ref r), .val (.int (0 : Int32)), .val (.int (1 : Int32)), .val (.int (0 : Int32)), .unset] [(.int c1)])
  refine P1.istore X734.here hx #[.val (.ref t), .val (.int (1 : Int32)), .val (.ref r), .val (.int (0 : Int32)), .val (.int (1 : Int32)), .val (.int (0 : Int32)), .val (.int c1)] (hb hby d33_22) rfl ?_
  refine P1.iload X734.here hx (hb hby d33_24) rfl ?_
  refine P1.sipush X734.here hx (255 : Int32) (hb hby d33_26) rfl ?_
  by_cases hb0 : (255 : Int32) < c1
  ·
    refine P1.icmpNo X734.here hx (hb hby d33_29) (tlt (hb0 : (255 : Int32) < c1)).2.2.2 ?_
    refine P1.iload X734.here hx (hb hby d33_32) rfl ?_
    refine Goes.retI X734 hx Bd.notSynchronized Bd.returns (hb hby d33_34) (ok rfl) (ok rfl) ?_
    rw [hE734]
    exact ⟨N734, K0, Or.inr ⟨rfl, hb0⟩⟩
  ·
    refine P1.icmpYes X734.here hx 35 (hb hby d33_29) (flt (hb0 : ¬ ((255 : Int32) < c1))).2.2.2 (by decide) (by decide) ?_
    refine P1.aloadN X734.here hx (hb hby d33_35) rfl rfl ?_
    refine P1.iloadN X734.here hx (hb hby d33_36) rfl ?_
    refine P1.iload X734.here hx (hb hby d33_37) rfl ?_
    refine P1.i2b X734.here hx (hb hby d33_39) ?_
    obtain ⟨cl735, Ar735, qk735, sl735, nz735, ha735, fi735⟩ := id Vr
    obtain ⟨T736, h736, X736, e736, W736, st736⟩ := stB X734 hx hZ hE734 Ar735 (j := (0 : Int32)) (inb_of sl735 ⟨by decide, by decide⟩) (g := (mkF m 40 #[.val (.ref t), .val (.int (1 : Int32)), .val (.ref r), .val (.int (0 : Int32)), .val (.int (1 : Int32)), .val (.int (0 : Int32)), .val (.int c1)] [(.int (c1.toInt8.toInt32)), (.int (0 : Int32)), (.ref r)])) rfl rfl (hb hby d33_40)
    rw [(own_nb8 c1)] at W736
    have V736 : Arv Z h736 r kr .byte (1 : Int32) [(.int (c1.toInt8.toInt32))] (.int (0 : Int32)) := Arv.set Ar735 qk735 sl735 nz735 ha735 fi735 ((own_nb8 c1) ▸ fits_nar_byte (c1.toInt8.toInt32)) W736 0 rfl (ok rfl)
    have N736 := Fr.snoc X736 N734 gr
    refine Goes.step (T' := T736) (g' := (mkF m 41 #[.val (.ref t), .val (.int (1 : Int32)), .val (.ref r), .val (.int (0 : Int32)), .val (.int (1 : Int32)), .val (.int (0 : Int32)), .val (.int c1)] [])) st736 ?_
    refine P1.iinc X736.here hx #[.val (.ref t), .val (.int ((1 : Int32) + (1 : Int32))), .val (.ref r), .val (.int (0 : Int32)), .val (.int (1 : Int32)), .val (.int (0 : Int32)), .val (.int c1)] (hb hby d33_41) rfl rfl ?_
    have rw737 : ((1 : Int32) + (1 : Int32)) = (2 : Int32) := by decide
    rw [rw737]
    refine P1.iinc X736.here hx #[.val (.ref t), .val (.int (2 : Int32)), .val (.ref r), .val (.int ((0 : Int32) + (1 : Int32))), .val (.int (1 : Int32)), .val (.int (0 : Int32)), .val (.int c1)] (hb hby d33_44) rfl rfl ?_
    have rw738 : ((0 : Int32) + (1 : Int32)) = (1 : Int32) := by decide
    rw [rw738]
    refine P1.iinc X736.here hx #[.val (.ref t), .val (.int (2 : Int32)), .val (.ref r), .val (.int (1 : Int32)), .val (.int (1 : Int32)), .val (.int ((0 : Int32) + (1 : Int32))), .val (.int c1)] (hb hby d33_47) rfl rfl ?_
    have rw739 : ((0 : Int32) + (1 : Int32)) = (1 : Int32) := by decide
    rw [rw739]
    refine P1.goto X736.here hx 10 (hb hby d33_50) (by decide) (by decide) ?_
    refine P1.iload X736.here hx (hb hby d33_10) rfl ?_
    refine P1.iload X736.here hx (hb hby d33_12) rfl ?_
    refine P1.icmpYes X736.here hx 53 (hb hby d33_14) (flt (by decide : ¬ ((1 : Int32) < (1 : Int32)))).2.1 (by decide) (by decide) ?_
    refine P1.iload X736.here hx (hb hby d33_53) rfl ?_
    refine Goes.retI X736 hx Bd.notSynchronized Bd.returns (hb hby d33_55) (ok rfl) (ok rfl) ?_
    rw [e736]
    have K740 : Keep h0 h736 [r] := K0.wr W736 (Or.inl (by simp))
    exact ⟨N736, K740, Or.inl ⟨rfl, (fun c hc => by simp only [List.mem_cons, List.not_mem_nil, or_false] at hc; rcases hc with rfl <;> assumption), V736⟩⟩
theorem d38_0 : decode jdk_65_method_133_code 0 = .ok (.iload_n 1, 1) := by decide +kernel
theorem d38_1 : decode jdk_65_method_133_code 1 = .ok (.iload_n 2, 1) := by decide +kernel
theorem d38_2 : decode jdk_65_method_133_code 2 = .ok (.invokestatic 343, 3) := by decide +kernel
theorem d38_5 : decode jdk_65_method_133_code 5 = .ok (.iload_n 2, 1) := by decide +kernel
theorem d38_6 : decode jdk_65_method_133_code 6 = .ok (.iload_n 1, 1) := by decide +kernel
theorem d38_7 : decode jdk_65_method_133_code 7 = .ok (.isub, 1) := by decide +kernel
theorem d38_8 : decode jdk_65_method_133_code 8 = .ok (.istore_n 3, 1) := by decide +kernel
theorem d38_9 : decode jdk_65_method_133_code 9 = .ok (.iload_n 3, 1) := by decide +kernel
theorem d38_10 : decode jdk_65_method_133_code 10 = .ok (.newarray .byte, 2) := by decide +kernel
theorem d38_12 : decode jdk_65_method_133_code 12 = .ok (.astore 4, 2) := by decide +kernel
theorem d38_14 : decode jdk_65_method_133_code 14 = .ok (.aload_n 0, 1) := by decide +kernel
theorem d38_15 : decode jdk_65_method_133_code 15 = .ok (.iload_n 1, 1) := by decide +kernel
theorem d38_16 : decode jdk_65_method_133_code 16 = .ok (.aload 4, 2) := by decide +kernel
theorem d38_18 : decode jdk_65_method_133_code 18 = .ok (.iconst 0, 1) := by decide +kernel
theorem d38_19 : decode jdk_65_method_133_code 19 = .ok (.aload_n 0, 1) := by decide +kernel
theorem d38_20 : decode jdk_65_method_133_code 20 = .ok (.arraylength, 1) := by decide +kernel
theorem d38_21 : decode jdk_65_method_133_code 21 = .ok (.iload_n 1, 1) := by decide +kernel
theorem d38_22 : decode jdk_65_method_133_code 22 = .ok (.isub, 1) := by decide +kernel
theorem d38_23 : decode jdk_65_method_133_code 23 = .ok (.iload_n 3, 1) := by decide +kernel
theorem d38_24 : decode jdk_65_method_133_code 24 = .ok (.invokestatic 304, 3) := by decide +kernel
theorem d38_27 : decode jdk_65_method_133_code 27 = .ok (.invokestatic 150, 3) := by decide +kernel
theorem d38_30 : decode jdk_65_method_133_code 30 = .ok (.aload 4, 2) := by decide +kernel
theorem d38_32 : decode jdk_65_method_133_code 32 = .ok (.areturn, 1) := by decide +kernel
theorem pn_java_util_Arrays : plainName "java/util/Arrays" = true := by first | (simp [plainName, overriddenIn]; done) | decide +kernel
theorem d39_0 : decode jdk_65_method_131_code 0 = .ok (.iload_n 1, 1) := by decide +kernel
theorem d39_1 : decode jdk_65_method_131_code 1 = .ok (.iload_n 0, 1) := by decide +kernel
theorem d39_2 : decode jdk_65_method_131_code 2 = .ok (.if_icmp .ge 35, 3) := by decide +kernel
theorem d39_37 : decode jdk_65_method_131_code 37 = .ok (.return_, 1) := by decide +kernel
theorem efCkl2_4  (m : MethodId) : entryFrame m #[(.int (2 : Int32)), (.int (4 : Int32))] 2 = mkF m 0 #[.val (.int (2 : Int32)), .val (.int (4 : Int32))] [] := by first | (simp [entryFrame, mkF, argsToLocals, Value.category]; done) | rfl
def QCkl2_4 (Z : State)  (h0 : Heap) (n0 : Nat) (v : Option Value) (h : Heap) (L : List Loc) : Prop := v = none ∧ Fr n0 L ∧ h = h0
set_option maxRecDepth 65536 in
set_option maxHeartbeats 40000000 in
theorem rmCkl2_4 (l : Launch) (Z : State) (a0 : Array Value) (hw : ∀ d ∈ tables_1, d.before a0 Z = true) (ws : List Jvm.Cond)  (h0 : Heap) (n0 : Nat) (Z0 : n0 ≤ h0.size) (O0 : Old Z n0 h0) :
    OwnLaw l (⟨"java/util/Arrays", "checkLength", "(II)V"⟩ : MethodName) jdk_65_method_131_code 2 none ws (rR 0 0 0 0) #[(.int (2 : Int32)), (.int (4 : Int32))] Z h0 (QCkl2_4 Z  h0 n0) := by
  refine own_enter (plainFor_of_name pn_java_util_Arrays) (efCkl2_4 ) ?_
  intro p e s m below meth c s₁ Bd hx hby hml hZ hown X0 e0
  have N0 := Fr.nil n0
  have K0 : Keep h0 h0 [] := Keep.refl _ _
  refine P1.iloadN X0.here hx (hb hby d39_0) rfl ?_
  refine P1.iloadN X0.here hx (hb hby d39_1) rfl ?_
  refine P1.icmpYes X0.here hx 37 (hb hby d39_2) (flt (by decide : ¬ ((4 : Int32) < (2 : Int32)))).2.1 (by decide) (by decide) ?_
  refine Goes.retV X0 hx Bd.notSynchronized Bd.returns (hb hby d39_37) (ok rfl) (ok rfl) ?_
  rw [e0]
  exact ⟨rfl, N0, rfl⟩
theorem d40_0 : decode jdk_29_method_69_code 0 = .ok (.iload_n 0, 1) := by decide +kernel
theorem d40_1 : decode jdk_29_method_69_code 1 = .ok (.iload_n 1, 1) := by decide +kernel
theorem d40_2 : decode jdk_29_method_69_code 2 = .ok (.if_icmp .gt 7, 3) := by decide +kernel
theorem d40_5 : decode jdk_29_method_69_code 5 = .ok (.iload_n 0, 1) := by decide +kernel
theorem d40_6 : decode jdk_29_method_69_code 6 = .ok (.goto 4, 3) := by decide +kernel
theorem d40_10 : decode jdk_29_method_69_code 10 = .ok (.ireturn, 1) := by decide +kernel
theorem efMin2_2  (m : MethodId) : entryFrame m #[(.int (2 : Int32)), (.int (2 : Int32))] 2 = mkF m 0 #[.val (.int (2 : Int32)), .val (.int (2 : Int32))] [] := by first | (simp [entryFrame, mkF, argsToLocals, Value.category]; done) | rfl
def QMin2_2 (Z : State)  (h0 : Heap) (n0 : Nat) (v : Option Value) (h : Heap) (L : List Loc) : Prop := v = some (.int (2 : Int32)) ∧ Fr n0 L ∧ h = h0
set_option maxRecDepth 65536 in
set_option maxHeartbeats 40000000 in
theorem rmMin2_2 (l : Launch) (Z : State) (a0 : Array Value) (hw : ∀ d ∈ tables_1, d.before a0 Z = true) (ws : List Jvm.Cond)  (h0 : Heap) (n0 : Nat) (Z0 : n0 ≤ h0.size) (O0 : Old Z n0 h0) :
    OwnLaw l (⟨"java/lang/Math", "min", "(II)I"⟩ : MethodName) jdk_29_method_69_code 2 (some .int) ws (rR 0 0 0 0) #[(.int (2 : Int32)), (.int (2 : Int32))] Z h0 (QMin2_2 Z  h0 n0) := by
  refine own_enter (Jvm.Free.JP.mathPlain rfl (by decide +kernel)) (efMin2_2 ) ?_
  intro p e s m below meth c s₁ Bd hx hby hml hZ hown X0 e0
  have N0 := Fr.nil n0
  have K0 : Keep h0 h0 [] := Keep.refl _ _
  refine P1.iloadN X0.here hx (hb hby d40_0) rfl ?_
  refine P1.iloadN X0.here hx (hb hby d40_1) rfl ?_
  refine P1.icmpNo X0.here hx (hb hby d40_2) (flt (by decide : ¬ ((2 : Int32) < (2 : Int32)))).2.2.1 ?_
  refine P1.iloadN X0.here hx (hb hby d40_5) rfl ?_
  refine P1.goto X0.here hx 10 (hb hby d40_6) (by decide) (by decide) ?_
  refine Goes.retI X0 hx Bd.notSynchronized Bd.returns (hb hby d40_10) (ok rfl) (ok rfl) ?_
  rw [e0]
  exact ⟨rfl, N0, rfl⟩
theorem pd_934 : parseMethodDescriptor "(II)I" = some ⟨[.int, .int], some .int⟩ := by decide +kernel
theorem efCb2_4_4_4 (t : Addr) (m : MethodId) : entryFrame m #[(.ref t), (.int (2 : Int32)), (.int (4 : Int32))] 5 = mkF m 0 #[.val (.ref t), .val (.int (2 : Int32)), .val (.int (4 : Int32)), .unset, .unset] [] := by first | (simp [entryFrame, mkF, argsToLocals, Value.category]; done) | rfl
def QCb2_4_4_4 (Z : State) (t : Addr) (kt : ClassId) (b0 b1 b2 b3 : Int32) (h0 : Heap) (n0 : Nat) (v : Option Value) (h : Heap) (L : List Loc) : Prop := ∃ r kr, v = some (.ref r) ∧ Fr n0 L ∧ Keep h0 h [] ∧ h0.size ≤ r ∧ Arv Z h r kr .byte (2 : Int32) [(.int b2), (.int b3)] (.int (0 : Int32))
set_option maxRecDepth 65536 in
set_option maxHeartbeats 40000000 in
theorem rmCb2_4_4_4 (l : Launch) (Z : State) (a0 : Array Value) (hw : ∀ d ∈ tables_1, d.before a0 Z = true) (ws : List Jvm.Cond) (t : Addr) (kt : ClassId) (b0 b1 b2 b3 : Int32) (h0 : Heap) (n0 : Nat) (Z0 : n0 ≤ h0.size) (O0 : Old Z n0 h0) (Vt : Arv Z h0 t kt .byte (4 : Int32) [(.int b0), (.int b1), (.int b2), (.int b3)] (.int (0 : Int32))) :
    OwnLaw l (⟨"java/util/Arrays", "copyOfRangeByte", "([BII)[B"⟩ : MethodName) jdk_65_method_133_code 5 (some (.array .byte)) ws (rR 1 1 2 18) #[(.ref t), (.int (2 : Int32)), (.int (4 : Int32))] Z h0 (QCb2_4_4_4 Z t kt b0 b1 b2 b3 h0 n0) := by
  refine own_enter (plainFor_of_name pn_java_util_Arrays) (efCb2_4_4_4 t) ?_
  intro p e s m below meth c s₁ Bd hx hby hml hZ hown X0 e0
  have N0 := Fr.nil n0
  have K0 : Keep h0 h0 [] := Keep.refl _ _
  refine P1.iloadN X0.here hx (hb hby d38_0) rfl ?_
  refine P1.iloadN X0.here hx (hb hby d38_1) rfl ?_
  refine P1.callS X0 hx hZ hown (own_w hw 161 rfl) (own_w hw 162 rfl) (own_w hw 156 rfl) (own_w hw 163 rfl) (by decide) (rmCkl2_4 l Z a0 hw []  h0 n0 Z0 O0 ) hml [(.int (2 : Int32)), (.int (4 : Int32))] [] (lenOf pd_999 rfl) rfl rfl (hb hby d38_2) rfl e0 (ok rfl) (ok rfl) (ok rfl) (ok rfl) ?_
  intro v741 T741 L741 q741 X741
  obtain ⟨rfl, N741q, hE741⟩ := q741
  have N741 := Fr.app N0 N741q
  show Goes p e below _ T741 (mkF m 5 #[.val (.ref t), .val (.int (2 : Int32)), .val (.int (4 : Int32)), .unset, .unset] [])
  refine P1.iloadN X741.here hx (hb hby d38_5) rfl ?_
  refine P1.iloadN X741.here hx (hb hby d38_6) rfl ?_
  refine P1.isub X741.here hx (hb hby d38_7) ?_
  have rw742 : ((4 : Int32) - (2 : Int32)) = (2 : Int32) := by decide
  rw [rw742]
  refine P1.istoreN X741.here hx #[.val (.ref t), .val (.int (2 : Int32)), .val (.int (4 : Int32)), .val (.int (2 : Int32)), .unset] (hb hby d38_8) rfl ?_
  refine P1.iloadN X741.here hx (hb hby d38_9) rfl ?_
  obtain ⟨T743, h743, k743, X743, e743, E743, A743, st743⟩ := newP X741 hx hZ (own_w hw 24 rfl) hE741 (g := (mkF m 10 #[.val (.ref t), .val (.int (2 : Int32)), .val (.int (4 : Int32)), .val (.int (2 : Int32)), .unset] [(.int (2 : Int32))])) rfl (hb hby d38_10) rfl (by decide) (cap := 2) (ok rfl) (ok rfl) (ok rfl) (ok rfl)
  obtain ⟨b743, g743⟩ : ∃ z, z = h0.size := ⟨_, rfl⟩
  rw [← g743] at A743 st743
  have ge_b743 : n0 ≤ b743 := Nat.le_trans Z0 (Nat.le_of_eq g743.symm)
  have sz_b743 : h0.size ≤ b743 := Nat.le_trans K0.1 (Nat.le_of_eq g743.symm)
  have V743 : Arv Z h743 b743 k743 .byte (2 : Int32) [(.int (0 : Int32)), (.int (0 : Int32))] (.int (0 : Int32)) := (Arv.new A743 (by decide)).pad (pad_rep [] (.int (0 : Int32)) 2)
  refine Goes.step (T' := T743) (g' := (mkF m 12 #[.val (.ref t), .val (.int (2 : Int32)), .val (.int (4 : Int32)), .val (.int (2 : Int32)), .unset] [(.ref b743)])) st743 ?_
  refine P1.astore X743.here hx #[.val (.ref t), .val (.int (2 : Int32)), .val (.int (4 : Int32)), .val (.int (2 : Int32)), .val (.ref b743)] (hb hby d38_12) rfl rfl ?_
  refine P1.aloadN X743.here hx (hb hby d38_14) rfl rfl ?_
  refine P1.iloadN X743.here hx (hb hby d38_15) rfl ?_
  refine P1.aload X743.here hx (hb hby d38_16) rfl rfl ?_
  refine P1.iconst X743.here hx (0 : Int32) (hb hby d38_18) rfl ?_
  refine P1.aloadN X743.here hx (hb hby d38_19) rfl rfl ?_
  have V744 : Arv Z h743 t kt .byte (4 : Int32) [(.int b0), (.int b1), (.int b2), (.int b3)] (.int (0 : Int32)) := Vt.ext E743
  obtain ⟨cl745, Ar745, qk745, sl745, nz745, ha745, fi745⟩ := id V744
  have al746 : cl745.slots.size.toInt32 = (4 : Int32) := len_of sl745 nz745
  refine Goes.step (T' := T743) (g' := (mkF m 21 #[.val (.ref t), .val (.int (2 : Int32)), .val (.int (4 : Int32)), .val (.int (2 : Int32)), .val (.ref b743)] [(.int (4 : Int32)), (.int (0 : Int32)), (.ref b743), (.int (2 : Int32)), (.ref t)])) (fun t_ k_ => X743.arraylength hx (by rw [e743]; exact Ar745.1) (State.isArrayOf_alike hZ.alike Ar745.2.1) (g := (mkF m 20 #[.val (.ref t), .val (.int (2 : Int32)), .val (.int (4 : Int32)), .val (.int (2 : Int32)), .val (.ref b743)] [(.ref t), (.int (0 : Int32)), (.ref b743), (.int (2 : Int32)), (.ref t)])) rfl rfl (hb hby d38_20) _ <| by rw [al746]; exact k_) ?_
  refine P1.iloadN X743.here hx (hb hby d38_21) rfl ?_
  refine P1.isub X743.here hx (hb hby d38_22) ?_
  have rw747 : ((4 : Int32) - (2 : Int32)) = (2 : Int32) := by decide
  rw [rw747]
  refine P1.iloadN X743.here hx (hb hby d38_23) rfl ?_
  have Z748 : n0 ≤ h743.size := Nat.le_trans Z0 E743.1
  have O749 : Old Z n0 h743 := O0.ext E743
  refine P1.callS X743 hx hZ hown (own_w hw 164 rfl) (own_w hw 165 rfl) (own_w hw 166 rfl) (own_w hw 167 rfl) (by decide) (rmMin2_2 l Z a0 hw []  h743 n0 Z748 O749 ) hml [(.int (2 : Int32)), (.int (2 : Int32))] [(.int (0 : Int32)), (.ref b743), (.int (2 : Int32)), (.ref t)] (lenOf pd_934 rfl) rfl rfl (hb hby d38_24) rfl e743 (ok rfl) (ok rfl) (ok rfl) (ok rfl) ?_
  intro v750 T750 L750 q750 X750
  obtain ⟨rfl, N750q, hE750⟩ := q750
  have N750 := Fr.app N741 N750q
  show Goes p e below _ T750 (mkF m 27 #[.val (.ref t), .val (.int (2 : Int32)), .val (.int (4 : Int32)), .val (.int (2 : Int32)), .val (.ref b743)] [(.int (2 : Int32)), (.int (0 : Int32)), (.ref b743), (.int (2 : Int32)), (.ref t)])
  obtain ⟨T751, h751, L751, X751, e751, N751, K751, Va751, st751⟩ := cpA X750 hx hZ hown (own_w hw 168 rfl) (own_w hw 171 rfl) (own_w hw 169 rfl) (own_w hw 170 rfl) hE750 V744 V743 (us := [(.int b2), (.int b3)]) (Or.inl ⟨rfl, rfl⟩) (by decide) (by decide) (by decide) (ok rfl) (ok rfl) rfl (ok rfl) N750 ge_b743 (g := (mkF m 27 #[.val (.ref t), .val (.int (2 : Int32)), .val (.int (4 : Int32)), .val (.int (2 : Int32)), .val (.ref b743)] [(.int (2 : Int32)), (.int (0 : Int32)), (.ref b743), (.int (2 : Int32)), (.ref t)])) rfl (by rw [hml]; rfl) rfl (hb hby d38_27) (ok rfl) (W := 0) (by show 2 * 0 + _ ≤ _; exact Nat.le_of_eq rfl) (ok rfl)
  have V751 : Arv Z h751 b743 k743 .byte (2 : Int32) [(.int b2), (.int b3)] (.int (0 : Int32)) := Va751
  refine Goes.step (T' := T751) (g' := (mkF m 30 #[.val (.ref t), .val (.int (2 : Int32)), .val (.int (4 : Int32)), .val (.int (2 : Int32)), .val (.ref b743)] [])) st751 ?_
  refine P1.aload X751.here hx (hb hby d38_30) rfl rfl ?_
  refine Goes.retA X751 hx Bd.notSynchronized Bd.returns rfl rfl (hb hby d38_32) (ok rfl) (ok rfl) ?_
  rw [e751]
  have K752 : Keep h0 h743 [] := K0.ext E743
  have K753 : Keep h0 h751 [] := K752.trans K751 (allS (Or.inr sz_b743) all0)
  exact ⟨b743, k743, rfl, N751, K753, sz_b743, V751⟩
theorem d37_0 : decode jdk_65_method_132_code 0 = .ok (.iload_n 1, 1) := by decide +kernel
theorem d37_1 : decode jdk_65_method_132_code 1 = .ok (.ifCond .ne 9, 3) := by decide +kernel
theorem d37_10 : decode jdk_65_method_132_code 10 = .ok (.aload_n 0, 1) := by decide +kernel
theorem d37_11 : decode jdk_65_method_132_code 11 = .ok (.iload_n 1, 1) := by decide +kernel
theorem d37_12 : decode jdk_65_method_132_code 12 = .ok (.iload_n 2, 1) := by decide +kernel
theorem d37_13 : decode jdk_65_method_132_code 13 = .ok (.invokestatic 339, 3) := by decide +kernel
theorem d37_16 : decode jdk_65_method_132_code 16 = .ok (.areturn, 1) := by decide +kernel
theorem pd_2488 : parseMethodDescriptor "([BII)[B" = some ⟨[(.array .byte), .int, .int], some (.array .byte)⟩ := by decide +kernel
theorem efCr2_4_4_4 (t : Addr) (m : MethodId) : entryFrame m #[(.ref t), (.int (2 : Int32)), (.int (4 : Int32))] 3 = mkF m 0 #[.val (.ref t), .val (.int (2 : Int32)), .val (.int (4 : Int32))] [] := by first | (simp [entryFrame, mkF, argsToLocals, Value.category]; done) | rfl
def QCr2_4_4_4 (Z : State) (t : Addr) (kt : ClassId) (b0 b1 b2 b3 : Int32) (h0 : Heap) (n0 : Nat) (v : Option Value) (h : Heap) (L : List Loc) : Prop := ∃ r kr, v = some (.ref r) ∧ Fr n0 L ∧ Keep h0 h [] ∧ h0.size ≤ r ∧ Arv Z h r kr .byte (2 : Int32) [(.int b2), (.int b3)] (.int (0 : Int32))
set_option maxRecDepth 65536 in
set_option maxHeartbeats 40000000 in
theorem rmCr2_4_4_4 (l : Launch) (Z : State) (a0 : Array Value) (hw : ∀ d ∈ tables_1, d.before a0 Z = true) (ws : List Jvm.Cond) (t : Addr) (kt : ClassId) (b0 b1 b2 b3 : Int32) (h0 : Heap) (n0 : Nat) (Z0 : n0 ≤ h0.size) (O0 : Old Z n0 h0) (Vt : Arv Z h0 t kt .byte (4 : Int32) [(.int b0), (.int b1), (.int b2), (.int b3)] (.int (0 : Int32))) :
    OwnLaw l (⟨"java/util/Arrays", "copyOfRange", "([BII)[B"⟩ : MethodName) jdk_65_method_132_code 3 (some (.array .byte)) ws (rR 2 1 2 34) #[(.ref t), (.int (2 : Int32)), (.int (4 : Int32))] Z h0 (QCr2_4_4_4 Z t kt b0 b1 b2 b3 h0 n0) := by
  refine own_enter (plainFor_of_name pn_java_util_Arrays) (efCr2_4_4_4 t) ?_
  intro p e s m below meth c s₁ Bd hx hby hml hZ hown X0 e0
  have N0 := Fr.nil n0
  have K0 : Keep h0 h0 [] := Keep.refl _ _
  refine P1.iloadN X0.here hx (hb hby d37_0) rfl ?_
  refine P1.ifYes X0.here hx 10 (hb hby d37_1) ((if0 _ _).trans (feq (by decide : ¬ ((2 : Int32) = (0 : Int32)))).2) (by decide) (by decide) ?_
  refine P1.aloadN X0.here hx (hb hby d37_10) rfl rfl ?_
  refine P1.iloadN X0.here hx (hb hby d37_11) rfl ?_
  refine P1.iloadN X0.here hx (hb hby d37_12) rfl ?_
  refine P1.callS X0 hx hZ hown (own_w hw 158 rfl) (own_w hw 159 rfl) (own_w hw 156 rfl) (own_w hw 160 rfl) (by decide) (rmCb2_4_4_4 l Z a0 hw [] t kt b0 b1 b2 b3 h0 n0 Z0 O0 Vt) hml [(.ref t), (.int (2 : Int32)), (.int (4 : Int32))] [] (lenOf pd_2488 rfl) rfl rfl (hb hby d37_13) rfl e0 (ok rfl) (ok rfl) (ok rfl) (ok rfl) ?_
  intro v754 T754 L754 q754 X754
  obtain ⟨r754, kr754, rfl, N754q, K754, szr754, g754V⟩ := q754
  have ge_r754 : n0 ≤ r754 := Nat.le_trans Z0 szr754
  have sz_r754 : h0.size ≤ r754 := Nat.le_trans K0.1 szr754
  have N754 := Fr.app N0 N754q
  show Goes p e below _ T754 (mkF m 16 #[.val (.ref t), .val (.int (2 : Int32)), .val (.int (4 : Int32))] [(.ref r754)])
  refine Goes.retA X754 hx Bd.notSynchronized Bd.returns rfl rfl (hb hby d37_16) (ok rfl) (ok rfl) ?_
  have K755 : Keep h0 T754.heap [] := K0.trans K754 all0
  exact ⟨r754, kr754, rfl, N754, K755, sz_r754, g754V⟩
theorem d32_0 : decode jdk_52_method_17_code 0 = .ok (.iload_n 2, 1) := by decide +kernel
theorem d32_1 : decode jdk_52_method_17_code 1 = .ok (.newarray .byte, 2) := by decide +kernel
theorem d32_3 : decode jdk_52_method_17_code 3 = .ok (.astore_n 3, 1) := by decide +kernel
theorem d32_4 : decode jdk_52_method_17_code 4 = .ok (.aload_n 0, 1) := by decide +kernel
theorem d32_5 : decode jdk_52_method_17_code 5 = .ok (.iload_n 1, 1) := by decide +kernel
theorem d32_6 : decode jdk_52_method_17_code 6 = .ok (.aload_n 3, 1) := by decide +kernel
theorem d32_7 : decode jdk_52_method_17_code 7 = .ok (.iconst 0, 1) := by decide +kernel
theorem d32_8 : decode jdk_52_method_17_code 8 = .ok (.iload_n 2, 1) := by decide +kernel
theorem d32_9 : decode jdk_52_method_17_code 9 = .ok (.invokestatic 123, 3) := by decide +kernel
theorem d32_12 : decode jdk_52_method_17_code 12 = .ok (.istore 4, 2) := by decide +kernel
theorem d32_14 : decode jdk_52_method_17_code 14 = .ok (.iload 4, 2) := by decide +kernel
theorem d32_16 : decode jdk_52_method_17_code 16 = .ok (.iload_n 2, 1) := by decide +kernel
theorem d32_17 : decode jdk_52_method_17_code 17 = .ok (.if_icmp .eq 47, 3) := by decide +kernel
theorem d32_20 : decode jdk_52_method_17_code 20 = .ok (.aload_n 0, 1) := by decide +kernel
theorem d32_21 : decode jdk_52_method_17_code 21 = .ok (.iload_n 1, 1) := by decide +kernel
theorem d32_22 : decode jdk_52_method_17_code 22 = .ok (.iconst 1, 1) := by decide +kernel
theorem d32_23 : decode jdk_52_method_17_code 23 = .ok (.ishl, 1) := by decide +kernel
theorem d32_24 : decode jdk_52_method_17_code 24 = .ok (.iload_n 1, 1) := by decide +kernel
theorem d32_25 : decode jdk_52_method_17_code 25 = .ok (.iload_n 2, 1) := by decide +kernel
theorem d32_26 : decode jdk_52_method_17_code 26 = .ok (.iadd, 1) := by decide +kernel
theorem d32_27 : decode jdk_52_method_17_code 27 = .ok (.invokestatic 11, 3) := by decide +kernel
theorem d32_30 : decode jdk_52_method_17_code 30 = .ok (.invokestatic 126, 3) := by decide +kernel
theorem d32_33 : decode jdk_52_method_17_code 33 = .ok (.astore 5, 2) := by decide +kernel
theorem d32_35 : decode jdk_52_method_17_code 35 = .ok (.aload 5, 2) := by decide +kernel
theorem d32_37 : decode jdk_52_method_17_code 37 = .ok (.iload 4, 2) := by decide +kernel
theorem d32_39 : decode jdk_52_method_17_code 39 = .ok (.invokestatic 71, 3) := by decide +kernel
theorem d32_42 : decode jdk_52_method_17_code 42 = .ok (.sipush 255, 3) := by decide +kernel
theorem d32_45 : decode jdk_52_method_17_code 45 = .ok (.if_icmp .gt 16, 3) := by decide +kernel
theorem d32_61 : decode jdk_52_method_17_code 61 = .ok (.aload 5, 2) := by decide +kernel
theorem d32_63 : decode jdk_52_method_17_code 63 = .ok (.areturn, 1) := by decide +kernel
theorem d32_64 : decode jdk_52_method_17_code 64 = .ok (.aload_n 3, 1) := by decide +kernel
theorem d32_65 : decode jdk_52_method_17_code 65 = .ok (.areturn, 1) := by decide +kernel
theorem pd_3757 : parseMethodDescriptor "([BI[BII)I" = some ⟨[(.array .byte), .int, (.array .byte), .int, .int], some .int⟩ := by decide +kernel
theorem efCb2 (t : Addr) (m : MethodId) : entryFrame m #[(.ref t), (.int (1 : Int32)), (.int (1 : Int32))] 6 = mkF m 0 #[.val (.ref t), .val (.int (1 : Int32)), .val (.int (1 : Int32)), .unset, .unset, .unset] [] := by first | (simp [entryFrame, mkF, argsToLocals, Value.category]; done) | rfl
def QCb2 (Z : State) (t : Addr) (kt : ClassId) (c0 c1 zc : Int32) (fm : Value) (h0 : Heap) (n0 : Nat) (v : Option Value) (h : Heap) (L : List Loc) : Prop := ∃ r kr, v = some (.ref r) ∧ Fr n0 L ∧ Keep h0 h [] ∧ h0.size ≤ r ∧ (((∀ c ∈ ([c1] : List Int32), ¬ (255 : Int32) < c) ∧ Arv Z h r kr .byte (1 : Int32) [(.int (StrChars.lo8 c1))] (.int (0 : Int32))) ∨ ((∃ c ∈ ([c1] : List Int32), (255 : Int32) < c) ∧ Arv Z h r kr .byte (2 : Int32) [(.int (StrChars.lo8 c1)), (.int (StrChars.hi8 c1))] (.int (0 : Int32))))
set_option maxRecDepth 65536 in
set_option maxHeartbeats 40000000 in
theorem rmCb2 (l : Launch) (Z : State) (a0 : Array Value) (hw : ∀ d ∈ tables_1, d.before a0 Z = true) (ws : List Jvm.Cond) (t : Addr) (kt : ClassId) (c0 c1 zc : Int32) (fm : Value) (h0 : Heap) (n0 : Nat) (Z0 : n0 ≤ h0.size) (O0 : Old Z n0 h0) (S_CS : Sta Z Z.heap "java/lang/String" "COMPACT_STRINGS" "Z" (.int zc)) (hzc : ¬ zc = 0) (S_FM : Sta Z Z.heap "jdk/internal/util/Preconditions" "SIOOBE_FORMATTER" "Ljava/util/function/BiFunction;" fm) (hfm : fm.isRef = true) (S_AD : Sta Z Z.heap "java/lang/StringUTF16" "$assertionsDisabled" "Z" (.int (1 : Int32))) (S_HI : Sta Z Z.heap "java/lang/StringUTF16" "HI_BYTE_SHIFT" "I" (.int (0 : Int32))) (S_LO : Sta Z Z.heap "java/lang/StringUTF16" "LO_BYTE_SHIFT" "I" (.int (8 : Int32))) (Kt : Arv Z h0 t kt .byte (4 : Int32) [(.int (StrChars.lo8 c0)), (.int (StrChars.hi8 c0)), (.int (StrChars.lo8 c1)), (.int (StrChars.hi8 c1))] (.int (0 : Int32))) (h_c0 : C16 c0) (h_c1 : C16 c1) :
    OwnLaw l (⟨"java/lang/StringUTF16", "compress", "([BII)[B"⟩ : MethodName) jdk_52_method_17_code 6 (some (.array .byte)) ws (rR 4 2 3 61) #[(.ref t), (.int (1 : Int32)), (.int (1 : Int32))] Z h0 (QCb2 Z t kt c0 c1 zc fm h0 n0) := by
  refine own_enter (plainFor_of_name pn_java_lang_StringUTF16) (efCb2 t) ?_
  intro p e s m below meth c s₁ Bd hx hby hml hZ hown X0 e0
  have N0 := Fr.nil n0
  have K0 : Keep h0 h0 [] := Keep.refl _ _
  refine P1.iloadN X0.here hx (hb hby d32_0) rfl ?_
  obtain ⟨T756, h756, k756, X756, e756, E756, A756, st756⟩ := newP X0 hx hZ (own_w hw 24 rfl) e0 (g := (mkF m 1 #[.val (.ref t), .val (.int (1 : Int32)), .val (.int (1 : Int32)), .unset, .unset, .unset] [(.int (1 : Int32))])) rfl (hb hby d32_1) rfl (by decide) (cap := 1) (ok rfl) (ok rfl) (ok rfl) (ok rfl)
  obtain ⟨b756, g756⟩ : ∃ z, z = h0.size := ⟨_, rfl⟩
  rw [← g756] at A756 st756
  have ge_b756 : n0 ≤ b756 := Nat.le_trans Z0 (Nat.le_of_eq g756.symm)
  have sz_b756 : h0.size ≤ b756 := Nat.le_trans K0.1 (Nat.le_of_eq g756.symm)
  have V756 : Arv Z h756 b756 k756 .byte (1 : Int32) [(.int (0 : Int32))] (.int (0 : Int32)) := (Arv.new A756 (by decide)).pad (pad_rep [] (.int (0 : Int32)) 1)
  refine Goes.step (T' := T756) (g' := (mkF m 3 #[.val (.ref t), .val (.int (1 : Int32)), .val (.int (1 : Int32)), .unset, .unset, .unset] [(.ref b756)])) st756 ?_
  refine P1.astoreN X756.here hx #[.val (.ref t), .val (.int (1 : Int32)), .val (.int (1 : Int32)), .val (.ref b756), .unset, .unset] (hb hby d32_3) rfl rfl ?_
  refine P1.aloadN X756.here hx (hb hby d32_4) rfl rfl ?_
  refine P1.iloadN X756.here hx (hb hby d32_5) rfl ?_
  refine P1.aloadN X756.here hx (hb hby d32_6) rfl rfl ?_
  refine P1.iconst X756.here hx (0 : Int32) (hb hby d32_7) rfl ?_
  refine P1.iloadN X756.here hx (hb hby d32_8) rfl ?_
  have V757 : Arv Z h756 t kt .byte (4 : Int32) [(.int (StrChars.lo8 c0)), (.int (StrChars.hi8 c0)), (.int (StrChars.lo8 c1)), (.int (StrChars.hi8 c1))] (.int (0 : Int32)) := Kt.ext E756
  have ne758 : t ≠ b756 := Nat.ne_of_lt (Nat.lt_of_lt_of_le Kt.lt (Nat.le_of_eq g756.symm))
  have Z759 : n0 ≤ h756.size := Nat.le_trans Z0 E756.1
  have O760 : Old Z n0 h756 := O0.ext E756
  refine P1.callS X756 hx hZ hown (own_w hw 142 rfl) (own_w hw 143 rfl) (own_w hw 48 rfl) (own_w hw 144 rfl) (by decide) (rmCr2 l Z a0 hw [] t kt c0 c1 b756 k756 zc fm h756 n0 Z759 O760 S_CS hzc S_FM hfm S_AD S_HI S_LO V757 ge_b756 V756 ne758 h_c0 h_c1) hml [(.ref t), (.int (1 : Int32)), (.ref b756), (.int (0 : Int32)), (.int (1 : Int32))] [] (lenOf pd_3757 rfl) rfl rfl (hb hby d32_9) rfl e756 (ok rfl) (ok rfl) (ok rfl) (ok rfl) ?_
  intro v761 T761 L761 q761 X761
  obtain ⟨N761q, K761, q761⟩ := q761
  have N761 := Fr.app N0 N761q
  rcases q761 with ⟨rfl, hall761, g761V⟩ | ⟨rfl, hbig761⟩
  ·
    show Goes p e below _ T761 (mkF m 12 #[.val (.ref t), .val (.int (1 : Int32)), .val (.int (1 : Int32)), .val (.ref b756), .unset, .unset] [(.int (1 : Int32))])
    refine P1.istore X761.here hx #[.val (.ref t), .val (.int (1 : Int32)), .val (.int (1 : Int32)), .val (.ref b756), .val (.int (1 : Int32)), .unset] (hb hby d32_12) rfl ?_
    refine P1.iload X761.here hx (hb hby d32_14) rfl ?_
    refine P1.iloadN X761.here hx (hb hby d32_16) rfl ?_
    refine P1.icmpYes X761.here hx 64 (hb hby d32_17) (teq (by decide : (1 : Int32) = (1 : Int32))).1 (by decide) (by decide) ?_
    refine P1.aloadN X761.here hx (hb hby d32_64) rfl rfl ?_
    refine Goes.retA X761 hx Bd.notSynchronized Bd.returns rfl rfl (hb hby d32_65) (ok rfl) (ok rfl) ?_
    have K762 : Keep h0 h756 [] := K0.ext E756
    have K763 : Keep h0 T761.heap [] := K762.trans K761 (allS (Or.inr sz_b756) all0)
    exact ⟨b756, k756, rfl, N761, K763, sz_b756, Or.inl ⟨hall761, g761V⟩⟩
  ·
    show Goes p e below _ T761 (mkF m 12 #[.val (.ref t), .val (.int (1 : Int32)), .val (.int (1 : Int32)), .val (.ref b756), .unset, .unset] [(.int (0 : Int32))])
    refine P1.istore X761.here hx #[.val (.ref t), .val (.int (1 : Int32)), .val (.int (1 : Int32)), .val (.ref b756), .val (.int (0 : Int32)), .unset] (hb hby d32_12) rfl ?_
    refine P1.iload X761.here hx (hb hby d32_14) rfl ?_
    refine P1.iloadN X761.here hx (hb hby d32_16) rfl ?_
    refine P1.icmpNo X761.here hx (hb hby d32_17) (feq (by decide : ¬ ((0 : Int32) = (1 : Int32)))).1 ?_
    refine P1.aloadN X761.here hx (hb hby d32_20) rfl rfl ?_
    refine P1.iloadN X761.here hx (hb hby d32_21) rfl ?_
    refine P1.iconst X761.here hx (1 : Int32) (hb hby d32_22) rfl ?_
    refine P1.ishl X761.here hx (hb hby d32_23) ?_
    have rw764 : ((1 : Int32) <<< ((1 : Int32) &&& 31)) = (2 : Int32) := by decide
    rw [rw764]
    refine P1.iloadN X761.here hx (hb hby d32_24) rfl ?_
    refine P1.iloadN X761.here hx (hb hby d32_25) rfl ?_
    refine P1.iadd X761.here hx (hb hby d32_26) ?_
    have rw765 : ((1 : Int32) + (1 : Int32)) = (2 : Int32) := by decide
    rw [rw765]
    have Z766 : n0 ≤ T761.heap.size := Nat.le_trans Z759 K761.1
    have O767 : Old Z n0 T761.heap := O760.keep K761 (allS ge_b756 all0)
    refine P1.callS X761 hx hZ hown (own_w hw 86 rfl) (own_w hw 87 rfl) (own_w hw 48 rfl) (own_w hw 88 rfl) (by decide) (rmNl2 l Z a0 hw []  T761.heap n0 Z766 O767 ) hml [(.int (2 : Int32))] [(.int (2 : Int32)), (.ref t)] (lenOf pd_601 rfl) rfl rfl (hb hby d32_27) rfl rfl (ok rfl) (ok rfl) (ok rfl) (ok rfl) ?_
    intro v768 T768 L768 q768 X768
    obtain ⟨rfl, N768q, hE768⟩ := q768
    have N768 := Fr.app N761 N768q
    show Goes p e below _ T768 (mkF m 30 #[.val (.ref t), .val (.int (1 : Int32)), .val (.int (1 : Int32)), .val (.ref b756), .val (.int (0 : Int32)), .unset] [(.int (4 : Int32)), (.int (2 : Int32)), (.ref t)])
    have K769 : Keep h0 h756 [] := K0.ext E756
    have K770 : Keep h0 T761.heap [] := K769.trans K761 (allS (Or.inr sz_b756) all0)
    have V771 : Arv Z T761.heap t kt .byte (4 : Int32) [(.int (StrChars.lo8 c0)), (.int (StrChars.hi8 c0)), (.int (StrChars.lo8 c1)), (.int (StrChars.hi8 c1))] (.int (0 : Int32)) := V757.keep K761 (ninS ne758 nin0)
    refine P1.callS X768 hx hZ hown (own_w hw 154 rfl) (own_w hw 155 rfl) (own_w hw 156 rfl) (own_w hw 157 rfl) (by decide) (rmCr2_4_4_4 l Z a0 hw [] t kt (StrChars.lo8 c0) (StrChars.hi8 c0) (StrChars.lo8 c1) (StrChars.hi8 c1) T761.heap n0 Z766 O767 V771) hml [(.ref t), (.int (2 : Int32)), (.int (4 : Int32))] [] (lenOf pd_2488 rfl) rfl rfl (hb hby d32_30) rfl hE768 (ok rfl) (ok rfl) (ok rfl) (ok rfl) ?_
    intro v772 T772 L772 q772 X772
    obtain ⟨r772, kr772, rfl, N772q, K772, szr772, g772V⟩ := q772
    have ge_r772 : n0 ≤ r772 := Nat.le_trans Z766 szr772
    have sz_r772 : h0.size ≤ r772 := Nat.le_trans K770.1 szr772
    have N772 := Fr.app N768 N772q
    show Goes p e below _ T772 (mkF m 33 #[.val (.ref t), .val (.int (1 : Int32)), .val (.int (1 : Int32)), .val (.ref b756), .val (.int (0 : Int32)), .unset] [(.ref r772)])
    refine P1.astore X772.here hx #[.val (.ref t), .val (.int (1 : Int32)), .val (.int (1 : Int32)), .val (.ref b756), .val (.int (0 : Int32)), .val (.ref r772)] (hb hby d32_33) rfl rfl ?_
    refine P1.aload X772.here hx (hb hby d32_35) rfl rfl ?_
    refine P1.iload X772.here hx (hb hby d32_37) rfl ?_
    have Z773 : n0 ≤ T772.heap.size := Nat.le_trans Z766 K772.1
    have O774 : Old Z n0 T772.heap := O767.keep K772 all0
    refine P1.callS X772 hx hZ hown (own_w hw 96 rfl) (own_w hw 97 rfl) (own_w hw 48 rfl) (own_w hw 98 rfl) (by decide) (rmGc0 l Z a0 hw [] r772 kr772 (2 : Int32) [(.int (StrChars.lo8 c1)), (.int (StrChars.hi8 c1))] c1 zc fm T772.heap n0 Z773 O774 S_CS hzc S_FM hfm S_AD S_HI S_LO g772V ⟨by decide, by decide⟩ ⟨by decide, by decide⟩ rfl rfl h_c1) hml [(.ref r772), (.int (0 : Int32))] [] (lenOf pd_1319 rfl) rfl rfl (hb hby d32_39) rfl rfl (ok rfl) (ok rfl) (ok rfl) (ok rfl) ?_
    intro v775 T775 L775 q775 X775
    obtain ⟨rfl, N775q, hE775⟩ := q775
    have N775 := Fr.app N772 N775q
    show Goes p e below _ T775 (mkF m 42 #[.val (.ref t), .val (.int (1 : Int32)), .val (.int (1 : Int32)), .val (.ref b756), .val (.int (0 : Int32)), .val (.ref r772)] [(.int c1)])
    refine P1.sipush X775.here hx (255 : Int32) (hb hby d32_42) rfl ?_
    refine P1.icmpYes X775.here hx 61 (hb hby d32_45) (tlt (hbig761 : (255 : Int32) < c1)).2.2.1 (by decide) (by decide) ?_
    refine P1.aload X775.here hx (hb hby d32_61) rfl rfl ?_
    refine Goes.retA X775 hx Bd.notSynchronized Bd.returns rfl rfl (hb hby d32_63) (ok rfl) (ok rfl) ?_
    rw [hE775]
    have K776 : Keep h0 T772.heap [] := K770.trans K772 all0
    exact ⟨r772, kr772, rfl, N775, K776, sz_r772, Or.inr ⟨⟨c1, by simp, hbig761⟩, g772V⟩⟩
theorem pd_1405 : parseMethodDescriptor "([BB)V" = some ⟨[(.array .byte), .byte], none⟩ := by decide +kernel
theorem efNs2 (t : Addr) (m : MethodId) : entryFrame m #[(.ref t), (.int (1 : Int32)), (.int (1 : Int32))] 5 = mkF m 0 #[.val (.ref t), .val (.int (1 : Int32)), .val (.int (1 : Int32)), .unset, .unset] [] := by first | (simp [entryFrame, mkF, argsToLocals, Value.category]; done) | rfl
def QNs2 (Z : State) (t : Addr) (kt : ClassId) (c0 c1 zc : Int32) (fm : Value) (h0 : Heap) (n0 : Nat) (v : Option Value) (h : Heap) (L : List Loc) : Prop := ∃ x, v = some (.ref x) ∧ Fr n0 L ∧ Keep h0 h [] ∧ Exa Z h x "java/lang/String" ∧ ∃ t kb cd N2 vs, Fld Z h x "java/lang/String" "value" "[B" (.ref t) ∧ Fld Z h x "java/lang/String" "coder" "B" (.int cd) ∧ Arv Z h t kb .byte N2 vs (.int (0 : Int32)) ∧ StrChars.Road.CodA ([c1] : List Int32) cd N2 vs
set_option maxRecDepth 65536 in
set_option maxHeartbeats 40000000 in
theorem rmNs2 (l : Launch) (Z : State) (a0 : Array Value) (hw : ∀ d ∈ tables_1, d.before a0 Z = true) (ws : List Jvm.Cond) (t : Addr) (kt : ClassId) (c0 c1 zc : Int32) (fm : Value) (h0 : Heap) (n0 : Nat) (Z0 : n0 ≤ h0.size) (O0 : Old Z n0 h0) (S_CS : Sta Z Z.heap "java/lang/String" "COMPACT_STRINGS" "Z" (.int zc)) (hzc : ¬ zc = 0) (S_FM : Sta Z Z.heap "jdk/internal/util/Preconditions" "SIOOBE_FORMATTER" "Ljava/util/function/BiFunction;" fm) (hfm : fm.isRef = true) (S_AD : Sta Z Z.heap "java/lang/StringUTF16" "$assertionsDisabled" "Z" (.int (1 : Int32))) (S_HI : Sta Z Z.heap "java/lang/StringUTF16" "HI_BYTE_SHIFT" "I" (.int (0 : Int32))) (S_LO : Sta Z Z.heap "java/lang/StringUTF16" "LO_BYTE_SHIFT" "I" (.int (8 : Int32))) (Kt : Arv Z h0 t kt .byte (4 : Int32) [(.int (StrChars.lo8 c0)), (.int (StrChars.hi8 c0)), (.int (StrChars.lo8 c1)), (.int (StrChars.hi8 c1))] (.int (0 : Int32))) (h_c0 : C16 c0) (h_c1 : C16 c1) :
    OwnLaw l y29_ jdk_52_method_69_code 5 (some (.object "java/lang/String")) ws (rR 5 3 7 78) #[(.ref t), (.int (1 : Int32)), (.int (1 : Int32))] Z h0 (QNs2 Z t kt c0 c1 zc fm h0 n0) := by
  refine own_enter (plainFor_of_name pn_java_lang_StringUTF16) (efNs2 t) ?_
  intro p e s m below meth c s₁ Bd hx hby hml hZ hown X0 e0
  have N0 := Fr.nil n0
  have K0 : Keep h0 h0 [] := Keep.refl _ _
  refine P1.iloadN X0.here hx (hb hby d31_0) rfl ?_
  refine P1.ifYes X0.here hx 8 (hb hby d31_1) ((if0 _ _).trans (feq (by decide : ¬ ((1 : Int32) = (0 : Int32)))).2) (by decide) (by decide) ?_
  obtain ⟨T777, X777, e777, st777⟩ := getS2 X0 hx hZ hown (host := "") (Or.inl (own_w hw 138 rfl)) Via.refl e0 (S_CS.ext O0.2) (g := (mkF m 8 #[.val (.ref t), .val (.int (1 : Int32)), .val (.int (1 : Int32)), .unset, .unset] [])) rfl (hb hby d31_8)
  refine Goes.step (T' := T777) (g' := (mkF m 11 #[.val (.ref t), .val (.int (1 : Int32)), .val (.int (1 : Int32)), .unset, .unset] [(.int zc)])) st777 ?_
  refine P1.ifNo X777.here hx (hb hby d31_11) ((if0 _ _).trans (feq (hzc : ¬ (zc = (0 : Int32)))).1) ?_
  refine P1.aloadN X777.here hx (hb hby d31_14) rfl rfl ?_
  refine P1.iloadN X777.here hx (hb hby d31_15) rfl ?_
  refine P1.iloadN X777.here hx (hb hby d31_16) rfl ?_
  refine P1.callS X777 hx hZ hown (own_w hw 139 rfl) (own_w hw 140 rfl) (own_w hw 48 rfl) (own_w hw 141 rfl) (by decide) (rmCb2 l Z a0 hw [] t kt c0 c1 zc fm h0 n0 Z0 O0 S_CS hzc S_FM hfm S_AD S_HI S_LO Kt h_c0 h_c1) hml [(.ref t), (.int (1 : Int32)), (.int (1 : Int32))] [] (lenOf pd_2488 rfl) rfl rfl (hb hby d31_17) rfl e777 (ok rfl) (ok rfl) (ok rfl) (ok rfl) ?_
  intro v778 T778 L778 q778 X778
  obtain ⟨r778, kr778, rfl, N778q, K778, szr778, q778⟩ := q778
  have ge_r778 : n0 ≤ r778 := Nat.le_trans Z0 szr778
  have sz_r778 : h0.size ≤ r778 := Nat.le_trans K0.1 szr778
  have N778 := Fr.app N0 N778q
  rcases q778 with ⟨hall778, g778V⟩ | ⟨hsome778, g778V⟩
  ·
    show Goes p e below _ T778 (mkF m 20 #[.val (.ref t), .val (.int (1 : Int32)), .val (.int (1 : Int32)), .unset, .unset] [(.ref r778)])
    refine P1.astoreN X778.here hx #[.val (.ref t), .val (.int (1 : Int32)), .val (.int (1 : Int32)), .val (.ref r778), .unset] (hb hby d31_20) rfl rfl ?_
    refine P1.aloadN X778.here hx (hb hby d31_21) rfl rfl ?_
    refine P1.iloadN X778.here hx (hb hby d31_22) rfl ?_
    have Z779 : n0 ≤ T778.heap.size := Nat.le_trans Z0 K778.1
    have O780 : Old Z n0 T778.heap := O0.keep K778 all0
    refine P1.callS X778 hx hZ hown (own_w hw 172 rfl) (own_w hw 54 rfl) (own_w hw 48 rfl) (own_w hw 55 rfl) (by decide) (rmCf1_1 l Z a0 hw [] r778 kr778 [(.int (StrChars.lo8 c1))] T778.heap n0 Z779 O780 g778V) hml [(.ref r778), (.int (1 : Int32))] [] (lenOf pd_1313 rfl) rfl rfl (hb hby d31_23) rfl rfl (ok rfl) (ok rfl) (ok rfl) (ok rfl) ?_
    intro v781 T781 L781 q781 X781
    obtain ⟨rfl, N781q, hE781⟩ := q781
    have N781 := Fr.app N778 N781q
    show Goes p e below _ T781 (mkF m 26 #[.val (.ref t), .val (.int (1 : Int32)), .val (.int (1 : Int32)), .val (.ref r778), .unset] [(.int (0 : Int32))])
    refine P1.istore X781.here hx #[.val (.ref t), .val (.int (1 : Int32)), .val (.int (1 : Int32)), .val (.ref r778), .val (.int (0 : Int32))] (hb hby d31_26) rfl ?_
    obtain ⟨T782, h782, X782, e782, E782, A782, D782, -, st782⟩ := newO X781 hx hZ hown (own_w hw 173 rfl) (own_w hw 10 rfl) (own_w hw 11 rfl) hE781 (g := (mkF m 28 #[.val (.ref t), .val (.int (1 : Int32)), .val (.int (1 : Int32)), .val (.ref r778), .val (.int (0 : Int32))] [])) rfl (hb hby d31_28) (ok rfl) (ok rfl)
    have K783 : Keep h0 T778.heap [] := K0.trans K778 all0
    obtain ⟨b782, g782⟩ : ∃ z, z = T778.heap.size := ⟨_, rfl⟩
    rw [← g782] at A782 D782 st782
    have ge_b782 : n0 ≤ b782 := Nat.le_trans Z779 (Nat.le_of_eq g782.symm)
    have sz_b782 : h0.size ≤ b782 := Nat.le_trans K783.1 (Nat.le_of_eq g782.symm)
    have F782_value : Fld Z h782 b782 "java/lang/String" "value" "[B" .null := D782 (Or.inr (own_w hw 25 rfl)) (ty := (.array .byte)) (by decide)
    have F782_coder : Fld Z h782 b782 "java/lang/String" "coder" "B" (.int (0 : Int32)) := D782 (Or.inr (own_w hw 26 rfl)) (ty := .byte) (by decide)
    refine Goes.step (T' := T782) (g' := (mkF m 31 #[.val (.ref t), .val (.int (1 : Int32)), .val (.int (1 : Int32)), .val (.ref r778), .val (.int (0 : Int32))] [(.ref b782)])) st782 ?_
    refine P1.dup X782.here hx (hb hby d31_31) rfl ?_
    refine P1.aloadN X782.here hx (hb hby d31_32) rfl rfl ?_
    refine P1.iload X782.here hx (hb hby d31_33) rfl ?_
    have Z784 : n0 ≤ h782.size := Nat.le_trans Z779 E782.1
    have O785 : Old Z n0 h782 := O780.ext E782
    refine Goes.callC X782 hx (y := y4_) rfl hown (mvT hZ (own_w hw 174 rfl)) (mvT hZ (own_w hw 175 rfl)) (mvT hZ (own_w hw 176 rfl)) (by decide) (kc' := 0) (ks' := 0) (backOf (W := 1) (rmIb0 l Z a0 hw [] b782 r778 h782 n0 Z784 O785 ge_b782 A782 F782_value F782_coder) hZ (own_w hw 176 rfl) (own_w hw 11 rfl) (ok rfl) (ok rfl)) (g := (mkF m 35 #[.val (.ref t), .val (.int (1 : Int32)), .val (.int (1 : Int32)), .val (.ref r778), .val (.int (0 : Int32))] [(.int (0 : Int32)), (.ref r778), (.ref b782), (.ref b782)])) (a := b782) rfl (by rw [hml]; rfl) (argsL := [(.ref r778), (.int (0 : Int32))]) (rest := [(.ref b782)]) (lenOf pd_1405 rfl) rfl (by show 2 * 0 + _ ≤ _; exact Nat.le_of_eq rfl) (hb hby d31_35) rfl e782 (ok rfl) (ok rfl) ?_
    intro v786 T786 L786 q786 X786
    obtain ⟨rfl, N786q, K786, g786E, g786v, g786c⟩ := q786
    have N786 := Fr.app N781 N786q
    show Goes p e below _ T786 (mkF m 38 #[.val (.ref t), .val (.int (1 : Int32)), .val (.int (1 : Int32)), .val (.ref r778), .val (.int (0 : Int32))] [(.ref b782)])
    refine Goes.retA X786 hx Bd.notSynchronized Bd.returns rfl rfl (hb hby d31_38) (ok rfl) (ok rfl) ?_
    have K787 : Keep h0 h782 [] := K783.ext E782
    have K788 : Keep h0 T786.heap [] := K787.trans K786 (allS (Or.inr sz_b782) all0)
    have V789 : Arv Z h782 r778 kr778 .byte (1 : Int32) [(.int (StrChars.lo8 c1))] (.int (0 : Int32)) := g778V.ext E782
    have ne790 : r778 ≠ b782 := Nat.ne_of_lt (Nat.lt_of_lt_of_le g778V.lt (Nat.le_of_eq g782.symm))
    have V791 : Arv Z T786.heap r778 kr778 .byte (1 : Int32) [(.int (StrChars.lo8 c1))] (.int (0 : Int32)) := V789.keep K786 (ninS ne790 nin0)
    exact ⟨b782, rfl, N786, K788, g786E, r778, kr778, (0 : Int32), (1 : Int32), [(.int (StrChars.lo8 c1))], g786v, g786c, V791, (Or.inl ⟨rfl, rfl, rfl, hall778⟩)⟩
  ·
    show Goes p e below _ T778 (mkF m 20 #[.val (.ref t), .val (.int (1 : Int32)), .val (.int (1 : Int32)), .unset, .unset] [(.ref r778)])
    refine P1.astoreN X778.here hx #[.val (.ref t), .val (.int (1 : Int32)), .val (.int (1 : Int32)), .val (.ref r778), .unset] (hb hby d31_20) rfl rfl ?_
    refine P1.aloadN X778.here hx (hb hby d31_21) rfl rfl ?_
    refine P1.iloadN X778.here hx (hb hby d31_22) rfl ?_
    have Z792 : n0 ≤ T778.heap.size := Nat.le_trans Z0 K778.1
    have O793 : Old Z n0 T778.heap := O0.keep K778 all0
    refine P1.callS X778 hx hZ hown (own_w hw 172 rfl) (own_w hw 54 rfl) (own_w hw 48 rfl) (own_w hw 55 rfl) (by decide) (rmCf1_2 l Z a0 hw [] r778 kr778 [(.int (StrChars.lo8 c1)), (.int (StrChars.hi8 c1))] T778.heap n0 Z792 O793 g778V) hml [(.ref r778), (.int (1 : Int32))] [] (lenOf pd_1313 rfl) rfl rfl (hb hby d31_23) rfl rfl (ok rfl) (ok rfl) (ok rfl) (ok rfl) ?_
    intro v794 T794 L794 q794 X794
    obtain ⟨rfl, N794q, hE794⟩ := q794
    have N794 := Fr.app N778 N794q
    show Goes p e below _ T794 (mkF m 26 #[.val (.ref t), .val (.int (1 : Int32)), .val (.int (1 : Int32)), .val (.ref r778), .unset] [(.int (1 : Int32))])
    refine P1.istore X794.here hx #[.val (.ref t), .val (.int (1 : Int32)), .val (.int (1 : Int32)), .val (.ref r778), .val (.int (1 : Int32))] (hb hby d31_26) rfl ?_
    obtain ⟨T795, h795, X795, e795, E795, A795, D795, -, st795⟩ := newO X794 hx hZ hown (own_w hw 173 rfl) (own_w hw 10 rfl) (own_w hw 11 rfl) hE794 (g := (mkF m 28 #[.val (.ref t), .val (.int (1 : Int32)), .val (.int (1 : Int32)), .val (.ref r778), .val (.int (1 : Int32))] [])) rfl (hb hby d31_28) (ok rfl) (ok rfl)
    have K796 : Keep h0 T778.heap [] := K0.trans K778 all0
    obtain ⟨b795, g795⟩ : ∃ z, z = T778.heap.size := ⟨_, rfl⟩
    rw [← g795] at A795 D795 st795
    have ge_b795 : n0 ≤ b795 := Nat.le_trans Z792 (Nat.le_of_eq g795.symm)
    have sz_b795 : h0.size ≤ b795 := Nat.le_trans K796.1 (Nat.le_of_eq g795.symm)
    have F795_value : Fld Z h795 b795 "java/lang/String" "value" "[B" .null := D795 (Or.inr (own_w hw 25 rfl)) (ty := (.array .byte)) (by decide)
    have F795_coder : Fld Z h795 b795 "java/lang/String" "coder" "B" (.int (0 : Int32)) := D795 (Or.inr (own_w hw 26 rfl)) (ty := .byte) (by decide)
    refine Goes.step (T' := T795) (g' := (mkF m 31 #[.val (.ref t), .val (.int (1 : Int32)), .val (.int (1 : Int32)), .val (.ref r778), .val (.int (1 : Int32))] [(.ref b795)])) st795 ?_
    refine P1.dup X795.here hx (hb hby d31_31) rfl ?_
    refine P1.aloadN X795.here hx (hb hby d31_32) rfl rfl ?_
    refine P1.iload X795.here hx (hb hby d31_33) rfl ?_
    have Z797 : n0 ≤ h795.size := Nat.le_trans Z792 E795.1
    have O798 : Old Z n0 h795 := O793.ext E795
    refine Goes.callC X795 hx (y := y4_) rfl hown (mvT hZ (own_w hw 174 rfl)) (mvT hZ (own_w hw 175 rfl)) (mvT hZ (own_w hw 176 rfl)) (by decide) (kc' := 0) (ks' := 0) (backOf (W := 1) (rmIb1 l Z a0 hw [] b795 r778 h795 n0 Z797 O798 ge_b795 A795 F795_value F795_coder) hZ (own_w hw 176 rfl) (own_w hw 11 rfl) (ok rfl) (ok rfl)) (g := (mkF m 35 #[.val (.ref t), .val (.int (1 : Int32)), .val (.int (1 : Int32)), .val (.ref r778), .val (.int (1 : Int32))] [(.int (1 : Int32)), (.ref r778), (.ref b795), (.ref b795)])) (a := b795) rfl (by rw [hml]; rfl) (argsL := [(.ref r778), (.int (1 : Int32))]) (rest := [(.ref b795)]) (lenOf pd_1405 rfl) rfl (by show 2 * 0 + _ ≤ _; exact Nat.le_of_eq rfl) (hb hby d31_35) rfl e795 (ok rfl) (ok rfl) ?_
    intro v799 T799 L799 q799 X799
    obtain ⟨rfl, N799q, K799, g799E, g799v, g799c⟩ := q799
    have N799 := Fr.app N794 N799q
    show Goes p e below _ T799 (mkF m 38 #[.val (.ref t), .val (.int (1 : Int32)), .val (.int (1 : Int32)), .val (.ref r778), .val (.int (1 : Int32))] [(.ref b795)])
    refine Goes.retA X799 hx Bd.notSynchronized Bd.returns rfl rfl (hb hby d31_38) (ok rfl) (ok rfl) ?_
    have K800 : Keep h0 h795 [] := K796.ext E795
    have K801 : Keep h0 T799.heap [] := K800.trans K799 (allS (Or.inr sz_b795) all0)
    have V802 : Arv Z h795 r778 kr778 .byte (2 : Int32) [(.int (StrChars.lo8 c1)), (.int (StrChars.hi8 c1))] (.int (0 : Int32)) := g778V.ext E795
    have ne803 : r778 ≠ b795 := Nat.ne_of_lt (Nat.lt_of_lt_of_le g778V.lt (Nat.le_of_eq g795.symm))
    have V804 : Arv Z T799.heap r778 kr778 .byte (2 : Int32) [(.int (StrChars.lo8 c1)), (.int (StrChars.hi8 c1))] (.int (0 : Int32)) := V802.keep K799 (ninS ne803 nin0)
    exact ⟨b795, rfl, N799, K801, g799E, r778, kr778, (1 : Int32), (2 : Int32), [(.int (StrChars.lo8 c1)), (.int (StrChars.hi8 c1))], g799v, g799c, V804, (Or.inr ⟨rfl, rfl, rfl, hsome778⟩)⟩
theorem efSq2 (x : Addr) (m : MethodId) : entryFrame m #[(.ref x), (.int (1 : Int32)), (.int (2 : Int32))] 5 = mkF m 0 #[.val (.ref x), .val (.int (1 : Int32)), .val (.int (2 : Int32)), .unset, .unset] [] := by first | (simp [entryFrame, mkF, argsToLocals, Value.category]; done) | rfl
def QSq2 (Z : State) (x t : Addr) (kt : ClassId) (c0 c1 zc : Int32) (fm : Value) (h0 : Heap) (n0 : Nat) (v : Option Value) (h : Heap) (L : List Loc) : Prop := ∃ x, v = some (.ref x) ∧ Fr n0 L ∧ Keep h0 h [] ∧ Exa Z h x "java/lang/String" ∧ ∃ t kb cd N2 vs, Fld Z h x "java/lang/String" "value" "[B" (.ref t) ∧ Fld Z h x "java/lang/String" "coder" "B" (.int cd) ∧ Arv Z h t kb .byte N2 vs (.int (0 : Int32)) ∧ StrChars.Road.CodA ([c1] : List Int32) cd N2 vs
set_option maxRecDepth 65536 in
set_option maxHeartbeats 40000000 in
theorem rmSq2 (l : Launch) (Z : State) (a0 : Array Value) (hw : ∀ d ∈ tables_1, d.before a0 Z = true) (ws : List Jvm.Cond) (x t : Addr) (kt : ClassId) (c0 c1 zc : Int32) (fm : Value) (h0 : Heap) (n0 : Nat) (Z0 : n0 ≤ h0.size) (O0 : Old Z n0 h0) (S_CS : Sta Z Z.heap "java/lang/String" "COMPACT_STRINGS" "Z" (.int zc)) (hzc : ¬ zc = 0) (S_FM : Sta Z Z.heap "jdk/internal/util/Preconditions" "SIOOBE_FORMATTER" "Ljava/util/function/BiFunction;" fm) (hfm : fm.isRef = true) (S_AD : Sta Z Z.heap "java/lang/StringUTF16" "$assertionsDisabled" "Z" (.int (1 : Int32))) (S_HI : Sta Z Z.heap "java/lang/StringUTF16" "HI_BYTE_SHIFT" "I" (.int (0 : Int32))) (S_LO : Sta Z Z.heap "java/lang/StringUTF16" "LO_BYTE_SHIFT" "I" (.int (8 : Int32))) (Ex : Exa Z h0 x "java/lang/String") (Vx : Fld Z h0 x "java/lang/String" "value" "[B" (.ref t)) (Cx : Fld Z h0 x "java/lang/String" "coder" "B" (.int (1 : Int32))) (Kt : Arv Z h0 t kt .byte (4 : Int32) [(.int (StrChars.lo8 c0)), (.int (StrChars.hi8 c0)), (.int (StrChars.lo8 c1)), (.int (StrChars.hi8 c1))] (.int (0 : Int32))) (h_c0 : C16 c0) (h_c1 : C16 c1) (hsome : ∃ c ∈ ([c0, c1] : List Int32), (255 : Int32) < c) :
    OwnLaw l y16_ jdk_42_method_92_code 5 (some (.object "java/lang/String")) ws (rR 6 3 7 94) #[(.ref x), (.int (1 : Int32)), (.int (2 : Int32))] Z h0 (QSq2 Z x t kt c0 c1 zc fm h0 n0) := by
  refine own_enter (plainFor_of_name pn_java_lang_String) (efSq2 x) ?_
  intro p e s m below meth c s₁ Bd hx hby hml hZ hown X0 e0
  have N0 := Fr.nil n0
  have K0 : Keep h0 h0 [] := Keep.refl _ _
  have hbd805 : ∀ c ∈ ([c0, c1] : List Int32), ¬ c < 0 ∧ ¬ (65535 : Int32) < c := by
    intro c hc
    simp only [List.mem_cons, List.not_mem_nil, or_false] at hc
    rcases hc with rfl | rfl
    · exact h_c0
    · exact h_c1
  refine P1.aloadN X0.here hx (hb hby d28_0) rfl rfl ?_
  refine Goes.callV X0 hx hZ (y := y14_) (z := y14_) (Qc := fun v h' L => (v = some (.int (Int32.ofNat ([c0, c1] : List Int32).length)) ∧ L = [] ∧ h' = h0)) hown (mvT hZ (own_w hw 114 rfl)) (mvT hZ (own_w hw 115 rfl)) (notFace_of_selects (args := #[]) (mvT hZ (own_w hw 117 rfl))) (mvT hZ (own_w hw 117 rfl)) (mvT hZ (own_w hw 116 rfl)) (by decide) (kc' := 0) (ks' := 0) (StrChars.Road.lenW (W := 0) hZ (fun d hd => hw d (in_wordsLen d hd)) (kI := 4) (own_w hw 10 rfl) Ex Vx Cx Kt (show StrChars.Road.CodA ([c0, c1] : List Int32) (1 : Int32) (4 : Int32) [(.int (StrChars.lo8 c0)), (.int (StrChars.hi8 c0)), (.int (StrChars.lo8 c1)), (.int (StrChars.hi8 c1))] from Or.inr ⟨rfl, rfl, rfl, hsome⟩) hbd805 (S_CS.ext O0.2) hzc (ok rfl) (ok rfl) (ok rfl)) (b := x) e0 Ex (g := (mkF m 1 #[.val (.ref x), .val (.int (1 : Int32)), .val (.int (2 : Int32)), .unset, .unset] [(.ref x)])) rfl (by rw [hml]; rfl) (argsL := []) (rest := []) (lenOf pd_341 rfl) rfl (by show 2 * 0 + _ ≤ _; exact Nat.le_of_eq rfl) (hb hby d28_1) rfl (ok rfl) (ok rfl) ?_
  intro v806 T806 L806 q806 X806
  obtain ⟨rfl, rfl, hE806⟩ := q806
  have N806 := Fr.app N0 (Fr.nil n0)
  show Goes p e below _ T806 (mkF m 4 #[.val (.ref x), .val (.int (1 : Int32)), .val (.int (2 : Int32)), .unset, .unset] [(.int (2 : Int32))])
  refine P1.istoreN X806.here hx #[.val (.ref x), .val (.int (1 : Int32)), .val (.int (2 : Int32)), .val (.int (2 : Int32)), .unset] (hb hby d28_4) rfl ?_
  refine P1.iloadN X806.here hx (hb hby d28_5) rfl ?_
  refine P1.iloadN X806.here hx (hb hby d28_6) rfl ?_
  refine P1.iloadN X806.here hx (hb hby d28_7) rfl ?_
  refine P1.callS X806 hx hZ hown (own_w hw 129 rfl) (own_w hw 130 rfl) (own_w hw 11 rfl) (own_w hw 131 rfl) (by decide) (rmCbe l Z a0 hw [] (1 : Int32) (2 : Int32) (2 : Int32) zc fm h0 n0 Z0 O0 S_CS hzc S_FM hfm S_AD S_HI S_LO (by decide) (by decide) (by decide)) hml [(.int (1 : Int32)), (.int (2 : Int32)), (.int (2 : Int32))] [] (lenOf pd_1418 rfl) rfl rfl (hb hby d28_8) rfl hE806 (ok rfl) (ok rfl) (ok rfl) (ok rfl) ?_
  intro v807 T807 L807 q807 X807
  obtain ⟨rfl, N807q, hE807⟩ := q807
  have N807 := Fr.app N806 N807q
  show Goes p e below _ T807 (mkF m 11 #[.val (.ref x), .val (.int (1 : Int32)), .val (.int (2 : Int32)), .val (.int (2 : Int32)), .unset] [])
  refine P1.iloadN X807.here hx (hb hby d28_11) rfl ?_
  refine P1.ifYes X807.here hx 22 (hb hby d28_12) ((if0 _ _).trans (feq (by decide : ¬ ((1 : Int32) = (0 : Int32)))).2) (by decide) (by decide) ?_
  refine P1.iloadN X807.here hx (hb hby d28_22) rfl ?_
  refine P1.iloadN X807.here hx (hb hby d28_23) rfl ?_
  refine P1.isub X807.here hx (hb hby d28_24) ?_
  have rw808 : ((2 : Int32) - (1 : Int32)) = (1 : Int32) := by decide
  rw [rw808]
  refine P1.istore X807.here hx #[.val (.ref x), .val (.int (1 : Int32)), .val (.int (2 : Int32)), .val (.int (2 : Int32)), .val (.int (1 : Int32))] (hb hby d28_25) rfl ?_
  refine P1.aloadN X807.here hx (hb hby d28_27) rfl rfl ?_
  refine Goes.callV X807 hx hZ (y := y13_) (z := y13_) hown (mvT hZ (own_w hw 61 rfl)) (mvT hZ (own_w hw 62 rfl)) (notFace_of_selects (args := #[]) (mvT hZ (own_w hw 64 rfl))) (mvT hZ (own_w hw 64 rfl)) (mvT hZ (own_w hw 63 rfl)) (by decide) (kc' := 0) (ks' := 0) (backOf (W := 0) (rmIsl l Z a0 hw [] x zc fm h0 n0 Z0 O0 S_CS hzc S_FM hfm S_AD S_HI S_LO Cx) hZ (own_w hw 65 rfl) (own_w hw 11 rfl) (ok rfl) (ok rfl)) (b := x) hE807 Ex (g := (mkF m 28 #[.val (.ref x), .val (.int (1 : Int32)), .val (.int (2 : Int32)), .val (.int (2 : Int32)), .val (.int (1 : Int32))] [(.ref x)])) rfl (by rw [hml]; rfl) (argsL := []) (rest := []) (lenOf pd_392 rfl) rfl (by show 2 * 0 + _ ≤ _; exact Nat.le_of_eq rfl) (hb hby d28_28) rfl (ok rfl) (ok rfl) ?_
  intro v809 T809 L809 q809 X809
  obtain ⟨rfl, N809q, hE809⟩ := q809
  have N809 := Fr.app N807 N809q
  show Goes p e below _ T809 (mkF m 31 #[.val (.ref x), .val (.int (1 : Int32)), .val (.int (2 : Int32)), .val (.int (2 : Int32)), .val (.int (1 : Int32))] [(.int (0 : Int32))])
  refine P1.ifYes X809.here hx 47 (hb hby d28_31) ((if0 _ _).trans (teq (by decide : (0 : Int32) = (0 : Int32))).1) (by decide) (by decide) ?_
  refine P1.aloadN X809.here hx (hb hby d28_47) rfl rfl ?_
  obtain ⟨T810, X810, e810, st810⟩ := getF X809 hx hZ hown (host := "") (Or.inl (own_w hw 29 rfl)) Via.refl hE809 Vx (g := (mkF m 48 #[.val (.ref x), .val (.int (1 : Int32)), .val (.int (2 : Int32)), .val (.int (2 : Int32)), .val (.int (1 : Int32))] [(.ref x)])) rfl rfl (hb hby d28_48)
  refine Goes.step (T' := T810) (g' := (mkF m 51 #[.val (.ref x), .val (.int (1 : Int32)), .val (.int (2 : Int32)), .val (.int (2 : Int32)), .val (.int (1 : Int32))] [(.ref t)])) st810 ?_
  refine P1.iloadN X810.here hx (hb hby d28_51) rfl ?_
  refine P1.iload X810.here hx (hb hby d28_52) rfl ?_
  refine P1.callS X810 hx hZ hown (own_w hw 135 rfl) (own_w hw 136 rfl) (own_w hw 48 rfl) (own_w hw 137 rfl) (by decide) (rmNs2 l Z a0 hw [] t kt c0 c1 zc fm h0 n0 Z0 O0 S_CS hzc S_FM hfm S_AD S_HI S_LO Kt h_c0 h_c1) hml [(.ref t), (.int (1 : Int32)), (.int (1 : Int32))] [] (lenOf pd_27634 rfl) rfl rfl (hb hby d28_54) rfl e810 (ok rfl) (ok rfl) (ok rfl) (ok rfl) ?_
  intro v811 T811 L811 q811 X811
  obtain ⟨x811, rfl, N811q, K811, g811E, t811, kb811, cd811, N2811, vs811, g811v, g811c, g811V, g811O⟩ := q811
  have N811 := Fr.app N809 N811q
  show Goes p e below _ T811 (mkF m 57 #[.val (.ref x), .val (.int (1 : Int32)), .val (.int (2 : Int32)), .val (.int (2 : Int32)), .val (.int (1 : Int32))] [(.ref x811)])
  refine Goes.retA X811 hx Bd.notSynchronized Bd.returns rfl rfl (hb hby d28_57) (ok rfl) (ok rfl) ?_
  have K812 : Keep h0 T811.heap [] := K0.trans K811 all0
  exact ⟨x811, rfl, N811, K812, g811E, t811, kb811, cd811, N2811, vs811, g811v, g811c, g811V, g811O⟩
theorem efSb2 (x : Addr) (m : MethodId) : entryFrame m #[(.ref x), (.int (1 : Int32))] 2 = mkF m 0 #[.val (.ref x), .val (.int (1 : Int32))] [] := by first | (simp [entryFrame, mkF, argsToLocals, Value.category]; done) | rfl
def QSb2 (Z : State) (x t : Addr) (kt : ClassId) (c0 c1 zc : Int32) (fm : Value) (h0 : Heap) (n0 : Nat) (v : Option Value) (h : Heap) (L : List Loc) : Prop := ∃ x, v = some (.ref x) ∧ Fr n0 L ∧ Keep h0 h [] ∧ Exa Z h x "java/lang/String" ∧ ∃ t kb cd N2 vs, Fld Z h x "java/lang/String" "value" "[B" (.ref t) ∧ Fld Z h x "java/lang/String" "coder" "B" (.int cd) ∧ Arv Z h t kb .byte N2 vs (.int (0 : Int32)) ∧ StrChars.Road.CodA ([c1] : List Int32) cd N2 vs
set_option maxRecDepth 65536 in
set_option maxHeartbeats 40000000 in
theorem rmSb2 (l : Launch) (Z : State) (a0 : Array Value) (hw : ∀ d ∈ tables_1, d.before a0 Z = true) (ws : List Jvm.Cond) (x t : Addr) (kt : ClassId) (c0 c1 zc : Int32) (fm : Value) (h0 : Heap) (n0 : Nat) (Z0 : n0 ≤ h0.size) (O0 : Old Z n0 h0) (S_CS : Sta Z Z.heap "java/lang/String" "COMPACT_STRINGS" "Z" (.int zc)) (hzc : ¬ zc = 0) (S_FM : Sta Z Z.heap "jdk/internal/util/Preconditions" "SIOOBE_FORMATTER" "Ljava/util/function/BiFunction;" fm) (hfm : fm.isRef = true) (S_AD : Sta Z Z.heap "java/lang/StringUTF16" "$assertionsDisabled" "Z" (.int (1 : Int32))) (S_HI : Sta Z Z.heap "java/lang/StringUTF16" "HI_BYTE_SHIFT" "I" (.int (0 : Int32))) (S_LO : Sta Z Z.heap "java/lang/StringUTF16" "LO_BYTE_SHIFT" "I" (.int (8 : Int32))) (Ex : Exa Z h0 x "java/lang/String") (Vx : Fld Z h0 x "java/lang/String" "value" "[B" (.ref t)) (Cx : Fld Z h0 x "java/lang/String" "coder" "B" (.int (1 : Int32))) (Kt : Arv Z h0 t kt .byte (4 : Int32) [(.int (StrChars.lo8 c0)), (.int (StrChars.hi8 c0)), (.int (StrChars.lo8 c1)), (.int (StrChars.hi8 c1))] (.int (0 : Int32))) (h_c0 : C16 c0) (h_c1 : C16 c1) (hsome : ∃ c ∈ ([c0, c1] : List Int32), (255 : Int32) < c) :
    OwnLaw l y15_ jdk_42_method_91_code 2 (some (.object "java/lang/String")) ws (rR 7 3 7 110) #[(.ref x), (.int (1 : Int32))] Z h0 (QSb2 Z x t kt c0 c1 zc fm h0 n0) := by
  refine own_enter (plainFor_of_name pn_java_lang_String) (efSb2 x) ?_
  intro p e s m below meth c s₁ Bd hx hby hml hZ hown X0 e0
  have N0 := Fr.nil n0
  have K0 : Keep h0 h0 [] := Keep.refl _ _
  have hbd813 : ∀ c ∈ ([c0, c1] : List Int32), ¬ c < 0 ∧ ¬ (65535 : Int32) < c := by
    intro c hc
    simp only [List.mem_cons, List.not_mem_nil, or_false] at hc
    rcases hc with rfl | rfl
    · exact h_c0
    · exact h_c1
  refine P1.aloadN X0.here hx (hb hby d25_0) rfl rfl ?_
  refine P1.iloadN X0.here hx (hb hby d25_1) rfl ?_
  refine P1.aloadN X0.here hx (hb hby d25_2) rfl rfl ?_
  refine Goes.callV X0 hx hZ (y := y14_) (z := y14_) (Qc := fun v h' L => (v = some (.int (Int32.ofNat ([c0, c1] : List Int32).length)) ∧ L = [] ∧ h' = h0)) hown (mvT hZ (own_w hw 114 rfl)) (mvT hZ (own_w hw 115 rfl)) (notFace_of_selects (args := #[]) (mvT hZ (own_w hw 117 rfl))) (mvT hZ (own_w hw 117 rfl)) (mvT hZ (own_w hw 116 rfl)) (by decide) (kc' := 0) (ks' := 0) (StrChars.Road.lenW (W := 2) hZ (fun d hd => hw d (in_wordsLen d hd)) (kI := 4) (own_w hw 10 rfl) Ex Vx Cx Kt (show StrChars.Road.CodA ([c0, c1] : List Int32) (1 : Int32) (4 : Int32) [(.int (StrChars.lo8 c0)), (.int (StrChars.hi8 c0)), (.int (StrChars.lo8 c1)), (.int (StrChars.hi8 c1))] from Or.inr ⟨rfl, rfl, rfl, hsome⟩) hbd813 (S_CS.ext O0.2) hzc (ok rfl) (ok rfl) (ok rfl)) (b := x) e0 Ex (g := (mkF m 3 #[.val (.ref x), .val (.int (1 : Int32))] [(.ref x), (.int (1 : Int32)), (.ref x)])) rfl (by rw [hml]; rfl) (argsL := []) (rest := [(.int (1 : Int32)), (.ref x)]) (lenOf pd_341 rfl) rfl (by show 2 * 0 + _ ≤ _; exact Nat.le_of_eq rfl) (hb hby d25_3) rfl (ok rfl) (ok rfl) ?_
  intro v814 T814 L814 q814 X814
  obtain ⟨rfl, rfl, hE814⟩ := q814
  have N814 := Fr.app N0 (Fr.nil n0)
  show Goes p e below _ T814 (mkF m 6 #[.val (.ref x), .val (.int (1 : Int32))] [(.int (2 : Int32)), (.int (1 : Int32)), (.ref x)])
  refine Goes.callV X814 hx hZ (y := y16_) (z := y16_) hown (mvT hZ (own_w hw 124 rfl)) (mvT hZ (own_w hw 125 rfl)) (notFace_of_selects (args := #[]) (mvT hZ (own_w hw 127 rfl))) (mvT hZ (own_w hw 127 rfl)) (mvT hZ (own_w hw 126 rfl)) (by decide) (kc' := 3) (ks' := 7) (backOf (W := 0) (rmSq2 l Z a0 hw [] x t kt c0 c1 zc fm h0 n0 Z0 O0 S_CS hzc S_FM hfm S_AD S_HI S_LO Ex Vx Cx Kt h_c0 h_c1 hsome) hZ (own_w hw 128 rfl) (own_w hw 11 rfl) (ok rfl) (ok rfl)) (b := x) hE814 Ex (g := (mkF m 6 #[.val (.ref x), .val (.int (1 : Int32))] [(.int (2 : Int32)), (.int (1 : Int32)), (.ref x)])) rfl (by rw [hml]; rfl) (argsL := [(.int (1 : Int32)), (.int (2 : Int32))]) (rest := []) (lenOf pd_23488 rfl) rfl (by show 2 * 0 + _ ≤ _; exact Nat.le_of_eq rfl) (hb hby d25_6) rfl (ok rfl) (ok rfl) ?_
  intro v815 T815 L815 q815 X815
  obtain ⟨x815, rfl, N815q, K815, g815E, t815, kb815, cd815, N2815, vs815, g815v, g815c, g815V, g815O⟩ := q815
  have N815 := Fr.app N814 N815q
  show Goes p e below _ T815 (mkF m 9 #[.val (.ref x), .val (.int (1 : Int32))] [(.ref x815)])
  refine Goes.retA X815 hx Bd.notSynchronized Bd.returns rfl rfl (hb hby d25_9) (ok rfl) (ok rfl) ?_
  have K816 : Keep h0 T815.heap [] := K0.trans K815 all0
  exact ⟨x815, rfl, N815, K816, g815E, t815, kb815, cd815, N2815, vs815, g815v, g815c, g815V, g815O⟩
theorem efWc2 (x : Addr) (m : MethodId) : entryFrame m #[(.ref x)] 1 = mkF m 0 #[.val (.ref x)] [] := by first | (simp [entryFrame, mkF, argsToLocals, Value.category]; done) | rfl
def QWc2 (Z : State) (x t : Addr) (kt : ClassId) (cd N2 : Int32) (vs : List Value) (c1 zc : Int32) (fm : Value) (h0 : Heap) (n0 : Nat) (v : Option Value) (h : Heap) (L : List Loc) : Prop := ∃ x, v = some (.ref x) ∧ Fr n0 L ∧ Keep h0 h [] ∧ Exa Z h x "java/lang/String" ∧ ∃ t kb cd N2 vs, Fld Z h x "java/lang/String" "value" "[B" (.ref t) ∧ Fld Z h x "java/lang/String" "coder" "B" (.int cd) ∧ Arv Z h t kb .byte N2 vs (.int (0 : Int32)) ∧ StrChars.Road.CodA ([c1] : List Int32) cd N2 vs
set_option maxRecDepth 65536 in
set_option maxHeartbeats 40000000 in
theorem rmWc2 (l : Launch) (Z : State) (a0 : Array Value) (hw : ∀ d ∈ tables_1, d.before a0 Z = true) (ws : List Jvm.Cond) (x t : Addr) (kt : ClassId) (cd N2 : Int32) (vs : List Value) (c1 zc : Int32) (fm : Value) (h0 : Heap) (n0 : Nat) (Z0 : n0 ≤ h0.size) (O0 : Old Z n0 h0) (S_CS : Sta Z Z.heap "java/lang/String" "COMPACT_STRINGS" "Z" (.int zc)) (hzc : ¬ zc = 0) (S_FM : Sta Z Z.heap "jdk/internal/util/Preconditions" "SIOOBE_FORMATTER" "Ljava/util/function/BiFunction;" fm) (hfm : fm.isRef = true) (S_AD : Sta Z Z.heap "java/lang/StringUTF16" "$assertionsDisabled" "Z" (.int (1 : Int32))) (S_HI : Sta Z Z.heap "java/lang/StringUTF16" "HI_BYTE_SHIFT" "I" (.int (0 : Int32))) (S_LO : Sta Z Z.heap "java/lang/StringUTF16" "LO_BYTE_SHIFT" "I" (.int (8 : Int32))) (Ex : Exa Z h0 x "java/lang/String") (Vx : Fld Z h0 x "java/lang/String" "value" "[B" (.ref t)) (Cx : Fld Z h0 x "java/lang/String" "coder" "B" (.int cd)) (Kt : Arv Z h0 t kt .byte N2 vs (.int (0 : Int32))) (hcod : StrChars.Road.CodA ([(65279 : Int32), c1] : List Int32) cd N2 vs) (h_c1 : C16 c1) :
    OwnLaw l y0_ prog_17_method_7_code 1 (some (.object "java/lang/String")) ws (rR 8 3 7 123) #[(.ref x)] Z h0 (QWc2 Z x t kt cd N2 vs c1 zc fm h0 n0) := by
  refine own_enter (plainFor_of_name pn_com_example_epaulet_epaulet_io_InputFiles) (efWc2 x) ?_
  intro p e s m below meth c s₁ Bd hx hby hml hZ hown X0 e0
  have N0 := Fr.nil n0
  have K0 : Keep h0 h0 [] := Keep.refl _ _
  rcases hcod with ⟨-, -, -, hno⟩ | ⟨rfl, rfl, rfl, hcod⟩
  · exact absurd (by decide) (hno (65279 : Int32) (by simp))
  have Kt : Arv Z h0 t kt .byte (4 : Int32) [(.int (StrChars.lo8 (65279 : Int32))), (.int (StrChars.hi8 (65279 : Int32))), (.int (StrChars.lo8 c1)), (.int (StrChars.hi8 c1))] (.int (0 : Int32)) := Kt
  have hbd817 : ∀ c ∈ ([(65279 : Int32), c1] : List Int32), ¬ c < 0 ∧ ¬ (65535 : Int32) < c := by
    intro c hc
    simp only [List.mem_cons, List.not_mem_nil, or_false] at hc
    rcases hc with rfl | rfl
    · exact (show C16 (65279 : Int32) from by unfold C16; decide)
    · exact h_c1
  refine P1.aloadN X0.here hx (hb hby d6_0) rfl rfl ?_
  refine Goes.callV X0 hx hZ (y := y12_) (z := y12_) (Qc := fun v h' L => (v = some (.int (if ([(65279 : Int32), c1] : List Int32).length = 0 then 1 else 0)) ∧ L = [] ∧ h' = h0)) hown (mvT hZ (own_w hw 35 rfl)) (mvT hZ (own_w hw 36 rfl)) (notFace_of_selects (args := #[]) (mvT hZ (own_w hw 38 rfl))) (mvT hZ (own_w hw 38 rfl)) (mvT hZ (own_w hw 37 rfl)) (by decide) (kc' := 0) (ks' := 0) (StrChars.Road.empW (W := 0) hZ (fun d hd => hw d (in_wordsEmp d hd)) (kI := 4) (own_w hw 10 rfl) Ex Vx Cx Kt (show StrChars.Road.CodA ([(65279 : Int32), c1] : List Int32) (1 : Int32) (4 : Int32) [(.int (StrChars.lo8 (65279 : Int32))), (.int (StrChars.hi8 (65279 : Int32))), (.int (StrChars.lo8 c1)), (.int (StrChars.hi8 c1))] from Or.inr ⟨rfl, rfl, rfl, hcod⟩) hbd817 (ok rfl) (ok rfl) (ok rfl)) (b := x) e0 Ex (g := (mkF m 1 #[.val (.ref x)] [(.ref x)])) rfl (by rw [hml]; rfl) (argsL := []) (rest := []) (lenOf pd_392 rfl) rfl (by show 2 * 0 + _ ≤ _; exact Nat.le_of_eq rfl) (hb hby d6_1) rfl (ok rfl) (ok rfl) ?_
  intro v818 T818 L818 q818 X818
  obtain ⟨rfl, rfl, hE818⟩ := q818
  have N818 := Fr.app N0 (Fr.nil n0)
  show Goes p e below _ T818 (mkF m 4 #[.val (.ref x)] [(.int (0 : Int32))])
  refine P1.ifNo X818.here hx (hb hby d6_4) ((if0 _ _).trans (teq (by decide : (0 : Int32) = (0 : Int32))).2) ?_
  refine P1.aloadN X818.here hx (hb hby d6_7) rfl rfl ?_
  refine P1.iconst X818.here hx (0 : Int32) (hb hby d6_8) rfl ?_
  refine Goes.callV X818 hx hZ (y := y7_) (z := y7_) hown (mvT hZ (own_w hw 56 rfl)) (mvT hZ (own_w hw 57 rfl)) (notFace_of_selects (args := #[]) (mvT hZ (own_w hw 59 rfl))) (mvT hZ (own_w hw 59 rfl)) (mvT hZ (own_w hw 58 rfl)) (by decide) (kc' := 0) (ks' := 0) (backOf (W := 0) (rmCw2 l Z a0 hw [] x t kt (65279 : Int32) c1 zc fm h0 n0 Z0 O0 S_CS hzc S_FM hfm S_AD S_HI S_LO Ex Vx Cx Kt (show C16 (65279 : Int32) from by unfold C16; decide) h_c1) hZ (own_w hw 60 rfl) (own_w hw 11 rfl) (ok rfl) (ok rfl)) (b := x) hE818 Ex (g := (mkF m 9 #[.val (.ref x)] [(.int (0 : Int32)), (.ref x)])) rfl (by rw [hml]; rfl) (argsL := [(.int (0 : Int32))]) (rest := []) (lenOf pd_577 rfl) rfl (by show 2 * 0 + _ ≤ _; exact Nat.le_of_eq rfl) (hb hby d6_9) rfl (ok rfl) (ok rfl) ?_
  intro v819 T819 L819 q819 X819
  obtain ⟨rfl, N819q, hE819⟩ := q819
  have N819 := Fr.app N818 N819q
  show Goes p e below _ T819 (mkF m 12 #[.val (.ref x)] [(.int (65279 : Int32))])
  refine P1.ldcI X819 hx hZ hown (own_w hw 78 rfl) (hb hby d6_12) ?_
  refine P1.icmpNo X819.here hx (hb hby d6_14) (teq (by decide : (65279 : Int32) = (65279 : Int32))).2 ?_
  refine P1.aloadN X819.here hx (hb hby d6_17) rfl rfl ?_
  refine P1.iconst X819.here hx (1 : Int32) (hb hby d6_18) rfl ?_
  refine Goes.callV X819 hx hZ (y := y15_) (z := y15_) hown (mvT hZ (own_w hw 109 rfl)) (mvT hZ (own_w hw 110 rfl)) (notFace_of_selects (args := #[]) (mvT hZ (own_w hw 112 rfl))) (mvT hZ (own_w hw 112 rfl)) (mvT hZ (own_w hw 111 rfl)) (by decide) (kc' := 3) (ks' := 7) (backOf (W := 0) (rmSb2 l Z a0 hw [] x t kt (65279 : Int32) c1 zc fm h0 n0 Z0 O0 S_CS hzc S_FM hfm S_AD S_HI S_LO Ex Vx Cx Kt (show C16 (65279 : Int32) from by unfold C16; decide) h_c1 hcod) hZ (own_w hw 113 rfl) (own_w hw 11 rfl) (ok rfl) (ok rfl)) (b := x) hE819 Ex (g := (mkF m 19 #[.val (.ref x)] [(.int (1 : Int32)), (.ref x)])) rfl (by rw [hml]; rfl) (argsL := [(.int (1 : Int32))]) (rest := []) (lenOf pd_21532 rfl) rfl (by show 2 * 0 + _ ≤ _; exact Nat.le_of_eq rfl) (hb hby d6_19) rfl (ok rfl) (ok rfl) ?_
  intro v820 T820 L820 q820 X820
  obtain ⟨x820, rfl, N820q, K820, g820E, t820, kb820, cd820, N2820, vs820, g820v, g820c, g820V, g820O⟩ := q820
  have N820 := Fr.app N819 N820q
  show Goes p e below _ T820 (mkF m 22 #[.val (.ref x)] [(.ref x820)])
  refine P1.goto X820.here hx 26 (hb hby d6_22) (by decide) (by decide) ?_
  refine Goes.retA X820 hx Bd.notSynchronized Bd.returns rfl rfl (hb hby d6_26) (ok rfl) (ok rfl) ?_
  have K821 : Keep h0 T820.heap [] := K0.trans K820 all0
  exact ⟨x820, rfl, N820, K821, g820E, t820, kb820, cd820, N2820, vs820, g820v, g820c, g820V, g820O⟩
theorem efFs3  (f : Value) (hc_f : f.category = 1) (m : MethodId) : entryFrame m #[(.int (1 : Int32)), (.int (2 : Int32)), (.int (3 : Int32)), f] 4 = mkF m 0 #[.val (.int (1 : Int32)), .val (.int (2 : Int32)), .val (.int (3 : Int32)), .val f] [] := by cases f <;> simp_all [entryFrame, mkF, argsToLocals, Value.category]
def QFs3 (Z : State) (f : Value) (h0 : Heap) (n0 : Nat) (v : Option Value) (h : Heap) (L : List Loc) : Prop := v = some (.int 1) ∧ Fr n0 L ∧ h = h0
set_option maxRecDepth 65536 in
set_option maxHeartbeats 40000000 in
theorem rmFs3 (l : Launch) (Z : State) (a0 : Array Value) (hw : ∀ d ∈ tables_1, d.before a0 Z = true) (ws : List Jvm.Cond) (f : Value) (h0 : Heap) (n0 : Nat) (Z0 : n0 ≤ h0.size) (O0 : Old Z n0 h0) (hc_f : f.category = 1) :
    OwnLaw l (⟨"jdk/internal/util/Preconditions", "checkFromIndexSize", "(IIILjava/util/function/BiFunction;)I"⟩ : MethodName) jdk_41_method_13_code 4 (some .int) ws (rR 0 0 0 0) #[(.int (1 : Int32)), (.int (2 : Int32)), (.int (3 : Int32)), f] Z h0 (QFs3 Z f h0 n0) := by
  refine own_enter (plainFor_of_name pn_jdk_internal_util_Preconditions) (efFs3 f hc_f) ?_
  intro p e s m below meth c s₁ Bd hx hby hml hZ hown X0 e0
  have N0 := Fr.nil n0
  have K0 : Keep h0 h0 [] := Keep.refl _ _
  refine P1.iloadN X0.here hx (hb hby d36_0) rfl ?_
  refine P1.iloadN X0.here hx (hb hby d36_1) rfl ?_
  refine P1.ior X0.here hx (hb hby d36_2) ?_
  have rw822 : ((3 : Int32) ||| (1 : Int32)) = (3 : Int32) := by decide
  rw [rw822]
  refine P1.iloadN X0.here hx (hb hby d36_3) rfl ?_
  refine P1.ior X0.here hx (hb hby d36_4) ?_
  have rw823 : ((3 : Int32) ||| (2 : Int32)) = (3 : Int32) := by decide
  rw [rw823]
  refine P1.ifNo X0.here hx (hb hby d36_5) ((if0 _ _).trans (flt (by decide : ¬ ((3 : Int32) < (0 : Int32)))).1) ?_
  refine P1.iloadN X0.here hx (hb hby d36_8) rfl ?_
  refine P1.iloadN X0.here hx (hb hby d36_9) rfl ?_
  refine P1.iloadN X0.here hx (hb hby d36_10) rfl ?_
  refine P1.isub X0.here hx (hb hby d36_11) ?_
  have rw824 : ((3 : Int32) - (1 : Int32)) = (2 : Int32) := by decide
  rw [rw824]
  refine P1.icmpYes X0.here hx 23 (hb hby d36_12) (flt (by decide : ¬ ((2 : Int32) < (2 : Int32)))).2.2.2 (by decide) (by decide) ?_
  refine P1.iloadN X0.here hx (hb hby d36_23) rfl ?_
  refine Goes.retI X0 hx Bd.notSynchronized Bd.returns (hb hby d36_24) (ok rfl) (ok rfl) ?_
  rw [e0]
  exact ⟨rfl, N0, rfl⟩
theorem efSo3  (m : MethodId) : entryFrame m #[(.int (1 : Int32)), (.int (2 : Int32)), (.int (3 : Int32))] 3 = mkF m 0 #[.val (.int (1 : Int32)), .val (.int (2 : Int32)), .val (.int (3 : Int32))] [] := by first | (simp [entryFrame, mkF, argsToLocals, Value.category]; done) | rfl
def QSo3 (Z : State) (zc : Int32) (fm : Value) (h0 : Heap) (n0 : Nat) (v : Option Value) (h : Heap) (L : List Loc) : Prop := v = some (.int 1) ∧ Fr n0 L ∧ h = h0
set_option maxRecDepth 65536 in
set_option maxHeartbeats 40000000 in
theorem rmSo3 (l : Launch) (Z : State) (a0 : Array Value) (hw : ∀ d ∈ tables_1, d.before a0 Z = true) (ws : List Jvm.Cond) (zc : Int32) (fm : Value) (h0 : Heap) (n0 : Nat) (Z0 : n0 ≤ h0.size) (O0 : Old Z n0 h0) (S_CS : Sta Z Z.heap "java/lang/String" "COMPACT_STRINGS" "Z" (.int zc)) (hzc : ¬ zc = 0) (S_FM : Sta Z Z.heap "jdk/internal/util/Preconditions" "SIOOBE_FORMATTER" "Ljava/util/function/BiFunction;" fm) (hfm : fm.isRef = true) (S_AD : Sta Z Z.heap "java/lang/StringUTF16" "$assertionsDisabled" "Z" (.int (1 : Int32))) (S_HI : Sta Z Z.heap "java/lang/StringUTF16" "HI_BYTE_SHIFT" "I" (.int (0 : Int32))) (S_LO : Sta Z Z.heap "java/lang/StringUTF16" "LO_BYTE_SHIFT" "I" (.int (8 : Int32))) :
    OwnLaw l (⟨"java/lang/String", "checkBoundsOffCount", "(III)I"⟩ : MethodName) jdk_42_method_157_code 3 (some .int) ws (rR 1 0 0 15) #[(.int (1 : Int32)), (.int (2 : Int32)), (.int (3 : Int32))] Z h0 (QSo3 Z zc fm h0 n0) := by
  refine own_enter (plainFor_of_name pn_java_lang_String) (efSo3 ) ?_
  intro p e s m below meth c s₁ Bd hx hby hml hZ hown X0 e0
  have N0 := Fr.nil n0
  have K0 : Keep h0 h0 [] := Keep.refl _ _
  refine P1.iloadN X0.here hx (hb hby d35_0) rfl ?_
  refine P1.iloadN X0.here hx (hb hby d35_1) rfl ?_
  refine P1.iloadN X0.here hx (hb hby d35_2) rfl ?_
  obtain ⟨T825, X825, e825, st825⟩ := getS2 X0 hx hZ hown (host := "") (Or.inl (own_w hw 73 rfl)) Via.refl e0 (S_FM.ext O0.2) (g := (mkF m 3 #[.val (.int (1 : Int32)), .val (.int (2 : Int32)), .val (.int (3 : Int32))] [(.int (3 : Int32)), (.int (2 : Int32)), (.int (1 : Int32))])) rfl (hb hby d35_3)
  refine Goes.step (T' := T825) (g' := (mkF m 6 #[.val (.int (1 : Int32)), .val (.int (2 : Int32)), .val (.int (3 : Int32))] [fm, (.int (3 : Int32)), (.int (2 : Int32)), (.int (1 : Int32))])) st825 ?_
  refine P1.callS X825 hx hZ hown (own_w hw 151 rfl) (own_w hw 152 rfl) (own_w hw 74 rfl) (own_w hw 153 rfl) (by decide) (rmFs3 l Z a0 hw [] fm h0 n0 Z0 O0 (own_cat hfm)) hml [(.int (1 : Int32)), (.int (2 : Int32)), (.int (3 : Int32)), fm] [] (lenOf pd_65354 rfl) rfl rfl (hb hby d35_6) rfl e825 (ok rfl) (ok rfl) (ok rfl) (ok rfl) ?_
  intro v826 T826 L826 q826 X826
  obtain ⟨rfl, N826q, hE826⟩ := q826
  have N826 := Fr.app N0 N826q
  show Goes p e below _ T826 (mkF m 9 #[.val (.int (1 : Int32)), .val (.int (2 : Int32)), .val (.int (3 : Int32))] [(.int (1 : Int32))])
  refine Goes.retI X826 hx Bd.notSynchronized Bd.returns (hb hby d35_9) (ok rfl) (ok rfl) ?_
  rw [hE826]
  exact ⟨rfl, N826, rfl⟩
theorem efUo3 (t : Addr) (m : MethodId) : entryFrame m #[(.int (1 : Int32)), (.int (2 : Int32)), (.ref t)] 3 = mkF m 0 #[.val (.int (1 : Int32)), .val (.int (2 : Int32)), .val (.ref t)] [] := by first | (simp [entryFrame, mkF, argsToLocals, Value.category]; done) | rfl
def QUo3 (Z : State) (t : Addr) (kt : ClassId) (c0 c1 c2 zc : Int32) (fm : Value) (h0 : Heap) (n0 : Nat) (v : Option Value) (h : Heap) (L : List Loc) : Prop := v = none ∧ Fr n0 L ∧ h = h0
set_option maxRecDepth 65536 in
set_option maxHeartbeats 40000000 in
theorem rmUo3 (l : Launch) (Z : State) (a0 : Array Value) (hw : ∀ d ∈ tables_1, d.before a0 Z = true) (ws : List Jvm.Cond) (t : Addr) (kt : ClassId) (c0 c1 c2 zc : Int32) (fm : Value) (h0 : Heap) (n0 : Nat) (Z0 : n0 ≤ h0.size) (O0 : Old Z n0 h0) (S_CS : Sta Z Z.heap "java/lang/String" "COMPACT_STRINGS" "Z" (.int zc)) (hzc : ¬ zc = 0) (S_FM : Sta Z Z.heap "jdk/internal/util/Preconditions" "SIOOBE_FORMATTER" "Ljava/util/function/BiFunction;" fm) (hfm : fm.isRef = true) (S_AD : Sta Z Z.heap "java/lang/StringUTF16" "$assertionsDisabled" "Z" (.int (1 : Int32))) (S_HI : Sta Z Z.heap "java/lang/StringUTF16" "HI_BYTE_SHIFT" "I" (.int (0 : Int32))) (S_LO : Sta Z Z.heap "java/lang/StringUTF16" "LO_BYTE_SHIFT" "I" (.int (8 : Int32))) (Kt : Arv Z h0 t kt .byte (6 : Int32) [(.int (StrChars.lo8 c0)), (.int (StrChars.hi8 c0)), (.int (StrChars.lo8 c1)), (.int (StrChars.hi8 c1)), (.int (StrChars.lo8 c2)), (.int (StrChars.hi8 c2))] (.int (0 : Int32))) :
    OwnLaw l (⟨"java/lang/StringUTF16", "checkBoundsOffCount", "(II[B)V"⟩ : MethodName) jdk_52_method_94_code 3 none ws (rR 2 0 0 29) #[(.int (1 : Int32)), (.int (2 : Int32)), (.ref t)] Z h0 (QUo3 Z t kt c0 c1 c2 zc fm h0 n0) := by
  refine own_enter (plainFor_of_name pn_java_lang_StringUTF16) (efUo3 t) ?_
  intro p e s m below meth c s₁ Bd hx hby hml hZ hown X0 e0
  have N0 := Fr.nil n0
  have K0 : Keep h0 h0 [] := Keep.refl _ _
  refine P1.iloadN X0.here hx (hb hby d34_0) rfl ?_
  refine P1.iloadN X0.here hx (hb hby d34_1) rfl ?_
  refine P1.aloadN X0.here hx (hb hby d34_2) rfl rfl ?_
  refine P1.callS X0 hx hZ hown (own_w hw 105 rfl) (own_w hw 106 rfl) (own_w hw 48 rfl) (own_w hw 107 rfl) (by decide) (rmUl6 l Z a0 hw [] t kt [(.int (StrChars.lo8 c0)), (.int (StrChars.hi8 c0)), (.int (StrChars.lo8 c1)), (.int (StrChars.hi8 c1)), (.int (StrChars.lo8 c2)), (.int (StrChars.hi8 c2))] h0 n0 Z0 O0 Kt) hml [(.ref t)] [(.int (2 : Int32)), (.int (1 : Int32))] (lenOf pd_949 rfl) rfl rfl (hb hby d34_3) rfl e0 (ok rfl) (ok rfl) (ok rfl) (ok rfl) ?_
  intro v827 T827 L827 q827 X827
  obtain ⟨rfl, N827q, hE827⟩ := q827
  have N827 := Fr.app N0 N827q
  show Goes p e below _ T827 (mkF m 6 #[.val (.int (1 : Int32)), .val (.int (2 : Int32)), .val (.ref t)] [(.int (3 : Int32)), (.int (2 : Int32)), (.int (1 : Int32))])
  refine P1.callS X827 hx hZ hown (own_w hw 148 rfl) (own_w hw 149 rfl) (own_w hw 11 rfl) (own_w hw 150 rfl) (by decide) (rmSo3 l Z a0 hw [] zc fm h0 n0 Z0 O0 S_CS hzc S_FM hfm S_AD S_HI S_LO) hml [(.int (1 : Int32)), (.int (2 : Int32)), (.int (3 : Int32))] [] (lenOf pd_1340 rfl) rfl rfl (hb hby d34_6) rfl hE827 (ok rfl) (ok rfl) (ok rfl) (ok rfl) ?_
  intro v828 T828 L828 q828 X828
  obtain ⟨rfl, N828q, hE828⟩ := q828
  have N828 := Fr.app N827 N828q
  show Goes p e below _ T828 (mkF m 9 #[.val (.int (1 : Int32)), .val (.int (2 : Int32)), .val (.ref t)] [(.int (1 : Int32))])
  refine P1.pop X828.here hx (hb hby d34_9) rfl ?_
  refine Goes.retV X828 hx Bd.notSynchronized Bd.returns (hb hby d34_10) (ok rfl) (ok rfl) ?_
  rw [hE828]
  exact ⟨rfl, N828, rfl⟩
theorem efCr3 (t r : Addr) (m : MethodId) : entryFrame m #[(.ref t), (.int (1 : Int32)), (.ref r), (.int (0 : Int32)), (.int (2 : Int32))] 7 = mkF m 0 #[.val (.ref t), .val (.int (1 : Int32)), .val (.ref r), .val (.int (0 : Int32)), .val (.int (2 : Int32)), .unset, .unset] [] := by first | (simp [entryFrame, mkF, argsToLocals, Value.category]; done) | rfl
def QCr3 (Z : State) (t : Addr) (kt : ClassId) (c0 c1 c2 : Int32) (r : Addr) (kr : ClassId) (zc : Int32) (fm : Value) (h0 : Heap) (n0 : Nat) (v : Option Value) (h : Heap) (L : List Loc) : Prop := Fr n0 L ∧ Keep h0 h [r] ∧ ((v = some (.int (2 : Int32)) ∧ (∀ c ∈ ([c1, c2] : List Int32), ¬ (255 : Int32) < c) ∧ Arv Z h r kr .byte (2 : Int32) [(.int (StrChars.lo8 c1)), (.int (StrChars.lo8 c2))] (.int (0 : Int32))) ∨ (v = some (.int (0 : Int32)) ∧ (255 : Int32) < c1) ∨ (v = some (.int (1 : Int32)) ∧ (255 : Int32) < c2))
set_option maxRecDepth 65536 in
set_option maxHeartbeats 40000000 in
theorem rmCr3 (l : Launch) (Z : State) (a0 : Array Value) (hw : ∀ d ∈ tables_1, d.before a0 Z = true) (ws : List Jvm.Cond) (t : Addr) (kt : ClassId) (c0 c1 c2 : Int32) (r : Addr) (kr : ClassId) (zc : Int32) (fm : Value) (h0 : Heap) (n0 : Nat) (Z0 : n0 ≤ h0.size) (O0 : Old Z n0 h0) (S_CS : Sta Z Z.heap "java/lang/String" "COMPACT_STRINGS" "Z" (.int zc)) (hzc : ¬ zc = 0) (S_FM : Sta Z Z.heap "jdk/internal/util/Preconditions" "SIOOBE_FORMATTER" "Ljava/util/function/BiFunction;" fm) (hfm : fm.isRef = true) (S_AD : Sta Z Z.heap "java/lang/StringUTF16" "$assertionsDisabled" "Z" (.int (1 : Int32))) (S_HI : Sta Z Z.heap "java/lang/StringUTF16" "HI_BYTE_SHIFT" "I" (.int (0 : Int32))) (S_LO : Sta Z Z.heap "java/lang/StringUTF16" "LO_BYTE_SHIFT" "I" (.int (8 : Int32))) (Kt : Arv Z h0 t kt .byte (6 : Int32) [(.int (StrChars.lo8 c0)), (.int (StrChars.hi8 c0)), (.int (StrChars.lo8 c1)), (.int (StrChars.hi8 c1)), (.int (StrChars.lo8 c2)), (.int (StrChars.hi8 c2))] (.int (0 : Int32))) (gr : n0 ≤ r) (Vr : Arv Z h0 r kr .byte (2 : Int32) [(.int (0 : Int32)), (.int (0 : Int32))] (.int (0 : Int32))) (net : t ≠ r) (h_c0 : C16 c0) (h_c1 : C16 c1) (h_c2 : C16 c2) :
    OwnLaw l (⟨"java/lang/StringUTF16", "compress", "([BI[BII)I"⟩ : MethodName) jdk_52_method_22_code 7 (some .int) ws (rR 3 0 0 43) #[(.ref t), (.int (1 : Int32)), (.ref r), (.int (0 : Int32)), (.int (2 : Int32))] Z h0 (QCr3 Z t kt c0 c1 c2 r kr zc fm h0 n0) := by
  refine own_enter (plainFor_of_name pn_java_lang_StringUTF16) (efCr3 t r) ?_
  intro p e s m below meth c s₁ Bd hx hby hml hZ hown X0 e0
  have N0 := Fr.nil n0
  have K0 : Keep h0 h0 [] := Keep.refl _ _
  have K0 : Keep h0 h0 [r] := Keep.refl _ _
  refine P1.iloadN X0.here hx (hb hby d33_0) rfl ?_
  refine P1.iload X0.here hx (hb hby d33_1) rfl ?_
  refine P1.aloadN X0.here hx (hb hby d33_3) rfl rfl ?_
  refine P1.callS X0 hx hZ hown (own_w hw 145 rfl) (own_w hw 146 rfl) (own_w hw 48 rfl) (own_w hw 147 rfl) (by decide) (rmUo3 l Z a0 hw [] t kt c0 c1 c2 zc fm h0 n0 Z0 O0 S_CS hzc S_FM hfm S_AD S_HI S_LO Kt) hml [(.int (1 : Int32)), (.int (2 : Int32)), (.ref t)] [] (lenOf pd_1947 rfl) rfl rfl (hb hby d33_4) rfl e0 (ok rfl) (ok rfl) (ok rfl) (ok rfl) ?_
  intro v829 T829 L829 q829 X829
  obtain ⟨rfl, N829q, hE829⟩ := q829
  have N829 := Fr.app N0 N829q
  show Goes p e below _ T829 (mkF m 7 #[.val (.ref t), .val (.int (1 : Int32)), .val (.ref r), .val (.int (0 : Int32)), .val (.int (2 : Int32)), .unset, .unset] [])
  refine P1.iconst X829.here hx (0 : Int32) (hb hby d33_7) rfl ?_
  refine P1.istore X829.here hx #[.val (.ref t), .val (.int (1 : Int32)), .val (.ref r), .val (.int (0 : Int32)), .val (.int (2 : Int32)), .val (.int (0 : Int32)), .unset] (hb hby d33_8) rfl ?_
  refine P1.iload X829.here hx (hb hby d33_10) rfl ?_
  refine P1.iload X829.here hx (hb hby d33_12) rfl ?_
  refine P1.icmpNo X829.here hx (hb hby d33_14) (tlt (by decide : (0 : Int32) < (2 : Int32))).2.1 ?_
  refine P1.aloadN X829.here hx (hb hby d33_17) rfl rfl ?_
  refine P1.iloadN X829.here hx (hb hby d33_18) rfl ?_
  refine P1.callS X829 hx hZ hown (own_w hw 96 rfl) (own_w hw 97 rfl) (own_w hw 48 rfl) (own_w hw 98 rfl) (by decide) (rmGc1 l Z a0 hw [] t kt (6 : Int32) [(.int (StrChars.lo8 c0)), (.int (StrChars.hi8 c0)), (.int (StrChars.lo8 c1)), (.int (StrChars.hi8 c1)), (.int (StrChars.lo8 c2)), (.int (StrChars.hi8 c2))] c1 zc fm h0 n0 Z0 O0 S_CS hzc S_FM hfm S_AD S_HI S_LO Kt ⟨by decide, by decide⟩ ⟨by decide, by decide⟩ rfl rfl h_c1) hml [(.ref t), (.int (1 : Int32))] [] (lenOf pd_1319 rfl) rfl rfl (hb hby d33_19) rfl hE829 (ok rfl) (ok rfl) (ok rfl) (ok rfl) ?_
  intro v830 T830 L830 q830 X830
  obtain ⟨rfl, N830q, hE830⟩ := q830
  have N830 := Fr.app N829 N830q
  show Goes p e below _ T830 (mkF m 22 #[.val (.ref t), .val (.int (1 : Int32)), .val (.ref r), .val (.int (0 : Int32)), .val (.int (2 : Int32)), .val (.int (0 : Int32)), .unset] [(.int c1)])
  refine P1.istore X830.here hx #[.val (.ref t), .val (.int (1 : Int32)), .val (.ref r), .val (.int (0 : Int32)), .val (.int (2 : Int32)), .val (.int (0 : Int32)), .val (.int c1)] (hb hby d33_22) rfl ?_
  refine P1.iload X830.here hx (hb hby d33_24) rfl ?_
  refine P1.sipush X830.here hx (255 : Int32) (hb hby d33_26) rfl ?_
  by_cases hb0 : (255 : Int32) < c1
  ·
    refine P1.icmpNo X830.here hx (hb hby d33_29) (tlt (hb0 : (255 : Int32) < c1)).2.2.2 ?_
    refine P1.iload X830.here hx (hb hby d33_32) rfl ?_
    refine Goes.retI X830 hx Bd.notSynchronized Bd.returns (hb hby d33_34) (ok rfl) (ok rfl) ?_
    rw [hE830]
    exact ⟨N830, K0, Or.inr (Or.inl ⟨rfl, hb0⟩)⟩
  ·
    refine P1.icmpYes X830.here hx 35 (hb hby d33_29) (flt (hb0 : ¬ ((255 : Int32) < c1))).2.2.2 (by decide) (by decide) ?_
    refine P1.aloadN X830.here hx (hb hby d33_35) rfl rfl ?_
    refine P1.iloadN X830.here hx (hb hby d33_36) rfl ?_
    refine P1.iload X830.here hx (hb hby d33_37) rfl ?_
    refine P1.i2b X830.here hx (hb hby d33_39) ?_
    obtain ⟨cl831, Ar831, qk831, sl831, nz831, ha831, fi831⟩ := id Vr
    obtain ⟨T832, h832, X832, e832, W832, st832⟩ := stB X830 hx hZ hE830 Ar831 (j := (0 : Int32)) (inb_of sl831 ⟨by decide, by decide⟩) (g := (mkF m 40 #[.val (.ref t), .val (.int (1 : Int32)), .val (.ref r), .val (.int (0 : Int32)), .val (.int (2 : Int32)), .val (.int (0 : Int32)), .val (.int c1)] [(.int (c1.toInt8.toInt32)), (.int (0 : Int32)), (.ref r)])) rfl rfl (hb hby d33_40)
    rw [(own_nb8 c1)] at W832
    have V832 : Arv Z h832 r kr .byte (2 : Int32) [(.int (c1.toInt8.toInt32)), (.int (0 : Int32))] (.int (0 : Int32)) := Arv.set Ar831 qk831 sl831 nz831 ha831 fi831 ((own_nb8 c1) ▸ fits_nar_byte (c1.toInt8.toInt32)) W832 0 rfl (ok rfl)
    have N832 := Fr.snoc X832 N830 gr
    refine Goes.step (T' := T832) (g' := (mkF m 41 #[.val (.ref t), .val (.int (1 : Int32)), .val (.ref r), .val (.int (0 : Int32)), .val (.int (2 : Int32)), .val (.int (0 : Int32)), .val (.int c1)] [])) st832 ?_
    refine P1.iinc X832.here hx #[.val (.ref t), .val (.int ((1 : Int32) + (1 : Int32))), .val (.ref r), .val (.int (0 : Int32)), .val (.int (2 : Int32)), .val (.int (0 : Int32)), .val (.int c1)] (hb hby d33_41) rfl rfl ?_
    have rw833 : ((1 : Int32) + (1 : Int32)) = (2 : Int32) := by decide
    rw [rw833]
    refine P1.iinc X832.here hx #[.val (.ref t), .val (.int (2 : Int32)), .val (.ref r), .val (.int ((0 : Int32) + (1 : Int32))), .val (.int (2 : Int32)), .val (.int (0 : Int32)), .val (.int c1)] (hb hby d33_44) rfl rfl ?_
    have rw834 : ((0 : Int32) + (1 : Int32)) = (1 : Int32) := by decide
    rw [rw834]
    refine P1.iinc X832.here hx #[.val (.ref t), .val (.int (2 : Int32)), .val (.ref r), .val (.int (1 : Int32)), .val (.int (2 : Int32)), .val (.int ((0 : Int32) + (1 : Int32))), .val (.int c1)] (hb hby d33_47) rfl rfl ?_
    have rw835 : ((0 : Int32) + (1 : Int32)) = (1 : Int32) := by decide
    rw [rw835]
    refine P1.goto X832.here hx 10 (hb hby d33_50) (by decide) (by decide) ?_
    refine P1.iload X832.here hx (hb hby d33_10) rfl ?_
    refine P1.iload X832.here hx (hb hby d33_12) rfl ?_
    refine P1.icmpNo X832.here hx (hb hby d33_14) (tlt (by decide : (1 : Int32) < (2 : Int32))).2.1 ?_
    refine P1.aloadN X832.here hx (hb hby d33_17) rfl rfl ?_
    refine P1.iloadN X832.here hx (hb hby d33_18) rfl ?_
    have V836 : Arv Z h832 t kt .byte (6 : Int32) [(.int (StrChars.lo8 c0)), (.int (StrChars.hi8 c0)), (.int (StrChars.lo8 c1)), (.int (StrChars.hi8 c1)), (.int (StrChars.lo8 c2)), (.int (StrChars.hi8 c2))] (.int (0 : Int32)) := Kt.other W832 net
    have Z837 : n0 ≤ h832.size := Nat.le_trans Z0 (Keep.of_wr W832).1
    have O838 : Old Z n0 h832 := O0.wr W832 gr
    refine P1.callS X832 hx hZ hown (own_w hw 96 rfl) (own_w hw 97 rfl) (own_w hw 48 rfl) (own_w hw 98 rfl) (by decide) (rmGc2 l Z a0 hw [] t kt (6 : Int32) [(.int (StrChars.lo8 c0)), (.int (StrChars.hi8 c0)), (.int (StrChars.lo8 c1)), (.int (StrChars.hi8 c1)), (.int (StrChars.lo8 c2)), (.int (StrChars.hi8 c2))] c2 zc fm h832 n0 Z837 O838 S_CS hzc S_FM hfm S_AD S_HI S_LO V836 ⟨by decide, by decide⟩ ⟨by decide, by decide⟩ rfl rfl h_c2) hml [(.ref t), (.int (2 : Int32))] [] (lenOf pd_1319 rfl) rfl rfl (hb hby d33_19) rfl e832 (ok rfl) (ok rfl) (ok rfl) (ok rfl) ?_
    intro v839 T839 L839 q839 X839
    obtain ⟨rfl, N839q, hE839⟩ := q839
    have N839 := Fr.app N832 N839q
    show Goes p e below _ T839 (mkF m 22 #[.val (.ref t), .val (.int (2 : Int32)), .val (.ref r), .val (.int (1 : Int32)), .val (.int (2 : Int32)), .val (.int (1 : Int32)), .val (.int c1)] [(.int c2)])
    refine P1.istore X839.here hx #[.val (.ref t), .val (.int (2 : Int32)), .val (.ref r), .val (.int (1 : Int32)), .val (.int (2 : Int32)), .val (.int (1 : Int32)), .val (.int c2)] (hb hby d33_22) rfl ?_
    refine P1.iload X839.here hx (hb hby d33_24) rfl ?_
    refine P1.sipush X839.here hx (255 : Int32) (hb hby d33_26) rfl ?_
    by_cases hb1 : (255 : Int32) < c2
    ·
      refine P1.icmpNo X839.here hx (hb hby d33_29) (tlt (hb1 : (255 : Int32) < c2)).2.2.2 ?_
      refine P1.iload X839.here hx (hb hby d33_32) rfl ?_
      refine Goes.retI X839 hx Bd.notSynchronized Bd.returns (hb hby d33_34) (ok rfl) (ok rfl) ?_
      rw [hE839]
      have K840 : Keep h0 h832 [r] := K0.wr W832 (Or.inl (by simp))
      exact ⟨N839, K840, Or.inr (Or.inr ⟨rfl, hb1⟩)⟩
    ·
      refine P1.icmpYes X839.here hx 35 (hb hby d33_29) (flt (hb1 : ¬ ((255 : Int32) < c2))).2.2.2 (by decide) (by decide) ?_
      refine P1.aloadN X839.here hx (hb hby d33_35) rfl rfl ?_
      refine P1.iloadN X839.here hx (hb hby d33_36) rfl ?_
      refine P1.iload X839.here hx (hb hby d33_37) rfl ?_
      refine P1.i2b X839.here hx (hb hby d33_39) ?_
      obtain ⟨cl841, Ar841, qk841, sl841, nz841, ha841, fi841⟩ := id V832
      obtain ⟨T842, h842, X842, e842, W842, st842⟩ := stB X839 hx hZ hE839 Ar841 (j := (1 : Int32)) (inb_of sl841 ⟨by decide, by decide⟩) (g := (mkF m 40 #[.val (.ref t), .val (.int (2 : Int32)), .val (.ref r), .val (.int (1 : Int32)), .val (.int (2 : Int32)), .val (.int (1 : Int32)), .val (.int c2)] [(.int (c2.toInt8.toInt32)), (.int (1 : Int32)), (.ref r)])) rfl rfl (hb hby d33_40)
      rw [(own_nb8 c2)] at W842
      have V842 : Arv Z h842 r kr .byte (2 : Int32) [(.int (c1.toInt8.toInt32)), (.int (c2.toInt8.toInt32))] (.int (0 : Int32)) := Arv.set Ar841 qk841 sl841 nz841 ha841 fi841 ((own_nb8 c2) ▸ fits_nar_byte (c2.toInt8.toInt32)) W842 1 rfl (ok rfl)
      have N842 := Fr.snoc X842 N839 gr
      refine Goes.step (T' := T842) (g' := (mkF m 41 #[.val (.ref t), .val (.int (2 : Int32)), .val (.ref r), .val (.int (1 : Int32)), .val (.int (2 : Int32)), .val (.int (1 : Int32)), .val (.int c2)] [])) st842 ?_
      refine P1.iinc X842.here hx #[.val (.ref t), .val (.int ((2 : Int32) + (1 : Int32))), .val (.ref r), .val (.int (1 : Int32)), .val (.int (2 : Int32)), .val (.int (1 : Int32)), .val (.int c2)] (hb hby d33_41) rfl rfl ?_
      have rw843 : ((2 : Int32) + (1 : Int32)) = (3 : Int32) := by decide
      rw [rw843]
      refine P1.iinc X842.here hx #[.val (.ref t), .val (.int (3 : Int32)), .val (.ref r), .val (.int ((1 : Int32) + (1 : Int32))), .val (.int (2 : Int32)), .val (.int (1 : Int32)), .val (.int c2)] (hb hby d33_44) rfl rfl ?_
      have rw844 : ((1 : Int32) + (1 : Int32)) = (2 : Int32) := by decide
      rw [rw844]
      refine P1.iinc X842.here hx #[.val (.ref t), .val (.int (3 : Int32)), .val (.ref r), .val (.int (2 : Int32)), .val (.int (2 : Int32)), .val (.int ((1 : Int32) + (1 : Int32))), .val (.int c2)] (hb hby d33_47) rfl rfl ?_
      have rw845 : ((1 : Int32) + (1 : Int32)) = (2 : Int32) := by decide
      rw [rw845]
      refine P1.goto X842.here hx 10 (hb hby d33_50) (by decide) (by decide) ?_
      refine P1.iload X842.here hx (hb hby d33_10) rfl ?_
      refine P1.iload X842.here hx (hb hby d33_12) rfl ?_
      refine P1.icmpYes X842.here hx 53 (hb hby d33_14) (flt (by decide : ¬ ((2 : Int32) < (2 : Int32)))).2.1 (by decide) (by decide) ?_
      refine P1.iload X842.here hx (hb hby d33_53) rfl ?_
      refine Goes.retI X842 hx Bd.notSynchronized Bd.returns (hb hby d33_55) (ok rfl) (ok rfl) ?_
      rw [e842]
      have K846 : Keep h0 h832 [r] := K0.wr W832 (Or.inl (by simp))
      have K847 : Keep h0 h842 [r] := K846.wr W842 (Or.inl (by simp))
      exact ⟨N842, K847, Or.inl ⟨rfl, (fun c hc => by simp only [List.mem_cons, List.not_mem_nil, or_false] at hc; rcases hc with rfl | rfl <;> assumption), V842⟩⟩
theorem efCkl2_6  (m : MethodId) : entryFrame m #[(.int (2 : Int32)), (.int (6 : Int32))] 2 = mkF m 0 #[.val (.int (2 : Int32)), .val (.int (6 : Int32))] [] := by first | (simp [entryFrame, mkF, argsToLocals, Value.category]; done) | rfl
def QCkl2_6 (Z : State)  (h0 : Heap) (n0 : Nat) (v : Option Value) (h : Heap) (L : List Loc) : Prop := v = none ∧ Fr n0 L ∧ h = h0
set_option maxRecDepth 65536 in
set_option maxHeartbeats 40000000 in
theorem rmCkl2_6 (l : Launch) (Z : State) (a0 : Array Value) (hw : ∀ d ∈ tables_1, d.before a0 Z = true) (ws : List Jvm.Cond)  (h0 : Heap) (n0 : Nat) (Z0 : n0 ≤ h0.size) (O0 : Old Z n0 h0) :
    OwnLaw l (⟨"java/util/Arrays", "checkLength", "(II)V"⟩ : MethodName) jdk_65_method_131_code 2 none ws (rR 0 0 0 0) #[(.int (2 : Int32)), (.int (6 : Int32))] Z h0 (QCkl2_6 Z  h0 n0) := by
  refine own_enter (plainFor_of_name pn_java_util_Arrays) (efCkl2_6 ) ?_
  intro p e s m below meth c s₁ Bd hx hby hml hZ hown X0 e0
  have N0 := Fr.nil n0
  have K0 : Keep h0 h0 [] := Keep.refl _ _
  refine P1.iloadN X0.here hx (hb hby d39_0) rfl ?_
  refine P1.iloadN X0.here hx (hb hby d39_1) rfl ?_
  refine P1.icmpYes X0.here hx 37 (hb hby d39_2) (flt (by decide : ¬ ((6 : Int32) < (2 : Int32)))).2.1 (by decide) (by decide) ?_
  refine Goes.retV X0 hx Bd.notSynchronized Bd.returns (hb hby d39_37) (ok rfl) (ok rfl) ?_
  rw [e0]
  exact ⟨rfl, N0, rfl⟩
theorem efMin4_4  (m : MethodId) : entryFrame m #[(.int (4 : Int32)), (.int (4 : Int32))] 2 = mkF m 0 #[.val (.int (4 : Int32)), .val (.int (4 : Int32))] [] := by first | (simp [entryFrame, mkF, argsToLocals, Value.category]; done) | rfl
def QMin4_4 (Z : State)  (h0 : Heap) (n0 : Nat) (v : Option Value) (h : Heap) (L : List Loc) : Prop := v = some (.int (4 : Int32)) ∧ Fr n0 L ∧ h = h0
set_option maxRecDepth 65536 in
set_option maxHeartbeats 40000000 in
theorem rmMin4_4 (l : Launch) (Z : State) (a0 : Array Value) (hw : ∀ d ∈ tables_1, d.before a0 Z = true) (ws : List Jvm.Cond)  (h0 : Heap) (n0 : Nat) (Z0 : n0 ≤ h0.size) (O0 : Old Z n0 h0) :
    OwnLaw l (⟨"java/lang/Math", "min", "(II)I"⟩ : MethodName) jdk_29_method_69_code 2 (some .int) ws (rR 0 0 0 0) #[(.int (4 : Int32)), (.int (4 : Int32))] Z h0 (QMin4_4 Z  h0 n0) := by
  refine own_enter (Jvm.Free.JP.mathPlain rfl (by decide +kernel)) (efMin4_4 ) ?_
  intro p e s m below meth c s₁ Bd hx hby hml hZ hown X0 e0
  have N0 := Fr.nil n0
  have K0 : Keep h0 h0 [] := Keep.refl _ _
  refine P1.iloadN X0.here hx (hb hby d40_0) rfl ?_
  refine P1.iloadN X0.here hx (hb hby d40_1) rfl ?_
  refine P1.icmpNo X0.here hx (hb hby d40_2) (flt (by decide : ¬ ((4 : Int32) < (4 : Int32)))).2.2.1 ?_
  refine P1.iloadN X0.here hx (hb hby d40_5) rfl ?_
  refine P1.goto X0.here hx 10 (hb hby d40_6) (by decide) (by decide) ?_
  refine Goes.retI X0 hx Bd.notSynchronized Bd.returns (hb hby d40_10) (ok rfl) (ok rfl) ?_
  rw [e0]
  exact ⟨rfl, N0, rfl⟩
theorem efCb2_6_6_6 (t : Addr) (m : MethodId) : entryFrame m #[(.ref t), (.int (2 : Int32)), (.int (6 : Int32))] 5 = mkF m 0 #[.val (.ref t), .val (.int (2 : Int32)), .val (.int (6 : Int32)), .unset, .unset] [] := by first | (simp [entryFrame, mkF, argsToLocals, Value.category]; done) | rfl
def QCb2_6_6_6 (Z : State) (t : Addr) (kt : ClassId) (b0 b1 b2 b3 b4 b5 : Int32) (h0 : Heap) (n0 : Nat) (v : Option Value) (h : Heap) (L : List Loc) : Prop := ∃ r kr, v = some (.ref r) ∧ Fr n0 L ∧ Keep h0 h [] ∧ h0.size ≤ r ∧ Arv Z h r kr .byte (4 : Int32) [(.int b2), (.int b3), (.int b4), (.int b5)] (.int (0 : Int32))
set_option maxRecDepth 65536 in
set_option maxHeartbeats 40000000 in
theorem rmCb2_6_6_6 (l : Launch) (Z : State) (a0 : Array Value) (hw : ∀ d ∈ tables_1, d.before a0 Z = true) (ws : List Jvm.Cond) (t : Addr) (kt : ClassId) (b0 b1 b2 b3 b4 b5 : Int32) (h0 : Heap) (n0 : Nat) (Z0 : n0 ≤ h0.size) (O0 : Old Z n0 h0) (Vt : Arv Z h0 t kt .byte (6 : Int32) [(.int b0), (.int b1), (.int b2), (.int b3), (.int b4), (.int b5)] (.int (0 : Int32))) :
    OwnLaw l (⟨"java/util/Arrays", "copyOfRangeByte", "([BII)[B"⟩ : MethodName) jdk_65_method_133_code 5 (some (.array .byte)) ws (rR 1 1 4 18) #[(.ref t), (.int (2 : Int32)), (.int (6 : Int32))] Z h0 (QCb2_6_6_6 Z t kt b0 b1 b2 b3 b4 b5 h0 n0) := by
  refine own_enter (plainFor_of_name pn_java_util_Arrays) (efCb2_6_6_6 t) ?_
  intro p e s m below meth c s₁ Bd hx hby hml hZ hown X0 e0
  have N0 := Fr.nil n0
  have K0 : Keep h0 h0 [] := Keep.refl _ _
  refine P1.iloadN X0.here hx (hb hby d38_0) rfl ?_
  refine P1.iloadN X0.here hx (hb hby d38_1) rfl ?_
  refine P1.callS X0 hx hZ hown (own_w hw 161 rfl) (own_w hw 162 rfl) (own_w hw 156 rfl) (own_w hw 163 rfl) (by decide) (rmCkl2_6 l Z a0 hw []  h0 n0 Z0 O0 ) hml [(.int (2 : Int32)), (.int (6 : Int32))] [] (lenOf pd_999 rfl) rfl rfl (hb hby d38_2) rfl e0 (ok rfl) (ok rfl) (ok rfl) (ok rfl) ?_
  intro v848 T848 L848 q848 X848
  obtain ⟨rfl, N848q, hE848⟩ := q848
  have N848 := Fr.app N0 N848q
  show Goes p e below _ T848 (mkF m 5 #[.val (.ref t), .val (.int (2 : Int32)), .val (.int (6 : Int32)), .unset, .unset] [])
  refine P1.iloadN X848.here hx (hb hby d38_5) rfl ?_
  refine P1.iloadN X848.here hx (hb hby d38_6) rfl ?_
  refine P1.isub X848.here hx (hb hby d38_7) ?_
  have rw849 : ((6 : Int32) - (2 : Int32)) = (4 : Int32) := by decide
  rw [rw849]
  refine P1.istoreN X848.here hx #[.val (.ref t), .val (.int (2 : Int32)), .val (.int (6 : Int32)), .val (.int (4 : Int32)), .unset] (hb hby d38_8) rfl ?_
  refine P1.iloadN X848.here hx (hb hby d38_9) rfl ?_
  obtain ⟨T850, h850, k850, X850, e850, E850, A850, st850⟩ := newP X848 hx hZ (own_w hw 24 rfl) hE848 (g := (mkF m 10 #[.val (.ref t), .val (.int (2 : Int32)), .val (.int (6 : Int32)), .val (.int (4 : Int32)), .unset] [(.int (4 : Int32))])) rfl (hb hby d38_10) rfl (by decide) (cap := 4) (ok rfl) (ok rfl) (ok rfl) (ok rfl)
  obtain ⟨b850, g850⟩ : ∃ z, z = h0.size := ⟨_, rfl⟩
  rw [← g850] at A850 st850
  have ge_b850 : n0 ≤ b850 := Nat.le_trans Z0 (Nat.le_of_eq g850.symm)
  have sz_b850 : h0.size ≤ b850 := Nat.le_trans K0.1 (Nat.le_of_eq g850.symm)
  have V850 : Arv Z h850 b850 k850 .byte (4 : Int32) [(.int (0 : Int32)), (.int (0 : Int32)), (.int (0 : Int32)), (.int (0 : Int32))] (.int (0 : Int32)) := (Arv.new A850 (by decide)).pad (pad_rep [] (.int (0 : Int32)) 4)
  refine Goes.step (T' := T850) (g' := (mkF m 12 #[.val (.ref t), .val (.int (2 : Int32)), .val (.int (6 : Int32)), .val (.int (4 : Int32)), .unset] [(.ref b850)])) st850 ?_
  refine P1.astore X850.here hx #[.val (.ref t), .val (.int (2 : Int32)), .val (.int (6 : Int32)), .val (.int (4 : Int32)), .val (.ref b850)] (hb hby d38_12) rfl rfl ?_
  refine P1.aloadN X850.here hx (hb hby d38_14) rfl rfl ?_
  refine P1.iloadN X850.here hx (hb hby d38_15) rfl ?_
  refine P1.aload X850.here hx (hb hby d38_16) rfl rfl ?_
  refine P1.iconst X850.here hx (0 : Int32) (hb hby d38_18) rfl ?_
  refine P1.aloadN X850.here hx (hb hby d38_19) rfl rfl ?_
  have V851 : Arv Z h850 t kt .byte (6 : Int32) [(.int b0), (.int b1), (.int b2), (.int b3), (.int b4), (.int b5)] (.int (0 : Int32)) := Vt.ext E850
  obtain ⟨cl852, Ar852, qk852, sl852, nz852, ha852, fi852⟩ := id V851
  have al853 : cl852.slots.size.toInt32 = (6 : Int32) := len_of sl852 nz852
  refine Goes.step (T' := T850) (g' := (mkF m 21 #[.val (.ref t), .val (.int (2 : Int32)), .val (.int (6 : Int32)), .val (.int (4 : Int32)), .val (.ref b850)] [(.int (6 : Int32)), (.int (0 : Int32)), (.ref b850), (.int (2 : Int32)), (.ref t)])) (fun t_ k_ => X850.arraylength hx (by rw [e850]; exact Ar852.1) (State.isArrayOf_alike hZ.alike Ar852.2.1) (g := (mkF m 20 #[.val (.ref t), .val (.int (2 : Int32)), .val (.int (6 : Int32)), .val (.int (4 : Int32)), .val (.ref b850)] [(.ref t), (.int (0 : Int32)), (.ref b850), (.int (2 : Int32)), (.ref t)])) rfl rfl (hb hby d38_20) _ <| by rw [al853]; exact k_) ?_
  refine P1.iloadN X850.here hx (hb hby d38_21) rfl ?_
  refine P1.isub X850.here hx (hb hby d38_22) ?_
  have rw854 : ((6 : Int32) - (2 : Int32)) = (4 : Int32) := by decide
  rw [rw854]
  refine P1.iloadN X850.here hx (hb hby d38_23) rfl ?_
  have Z855 : n0 ≤ h850.size := Nat.le_trans Z0 E850.1
  have O856 : Old Z n0 h850 := O0.ext E850
  refine P1.callS X850 hx hZ hown (own_w hw 164 rfl) (own_w hw 165 rfl) (own_w hw 166 rfl) (own_w hw 167 rfl) (by decide) (rmMin4_4 l Z a0 hw []  h850 n0 Z855 O856 ) hml [(.int (4 : Int32)), (.int (4 : Int32))] [(.int (0 : Int32)), (.ref b850), (.int (2 : Int32)), (.ref t)] (lenOf pd_934 rfl) rfl rfl (hb hby d38_24) rfl e850 (ok rfl) (ok rfl) (ok rfl) (ok rfl) ?_
  intro v857 T857 L857 q857 X857
  obtain ⟨rfl, N857q, hE857⟩ := q857
  have N857 := Fr.app N848 N857q
  show Goes p e below _ T857 (mkF m 27 #[.val (.ref t), .val (.int (2 : Int32)), .val (.int (6 : Int32)), .val (.int (4 : Int32)), .val (.ref b850)] [(.int (4 : Int32)), (.int (0 : Int32)), (.ref b850), (.int (2 : Int32)), (.ref t)])
  obtain ⟨T858, h858, L858, X858, e858, N858, K858, Va858, st858⟩ := cpA X857 hx hZ hown (own_w hw 168 rfl) (own_w hw 171 rfl) (own_w hw 169 rfl) (own_w hw 170 rfl) hE857 V851 V850 (us := [(.int b2), (.int b3), (.int b4), (.int b5)]) (Or.inl ⟨rfl, rfl⟩) (by decide) (by decide) (by decide) (ok rfl) (ok rfl) rfl (ok rfl) N857 ge_b850 (g := (mkF m 27 #[.val (.ref t), .val (.int (2 : Int32)), .val (.int (6 : Int32)), .val (.int (4 : Int32)), .val (.ref b850)] [(.int (4 : Int32)), (.int (0 : Int32)), (.ref b850), (.int (2 : Int32)), (.ref t)])) rfl (by rw [hml]; rfl) rfl (hb hby d38_27) (ok rfl) (W := 0) (by show 2 * 0 + _ ≤ _; exact Nat.le_of_eq rfl) (ok rfl)
  have V858 : Arv Z h858 b850 k850 .byte (4 : Int32) [(.int b2), (.int b3), (.int b4), (.int b5)] (.int (0 : Int32)) := Va858
  refine Goes.step (T' := T858) (g' := (mkF m 30 #[.val (.ref t), .val (.int (2 : Int32)), .val (.int (6 : Int32)), .val (.int (4 : Int32)), .val (.ref b850)] [])) st858 ?_
  refine P1.aload X858.here hx (hb hby d38_30) rfl rfl ?_
  refine Goes.retA X858 hx Bd.notSynchronized Bd.returns rfl rfl (hb hby d38_32) (ok rfl) (ok rfl) ?_
  rw [e858]
  have K859 : Keep h0 h850 [] := K0.ext E850
  have K860 : Keep h0 h858 [] := K859.trans K858 (allS (Or.inr sz_b850) all0)
  exact ⟨b850, k850, rfl, N858, K860, sz_b850, V858⟩
theorem efCr2_6_6_6 (t : Addr) (m : MethodId) : entryFrame m #[(.ref t), (.int (2 : Int32)), (.int (6 : Int32))] 3 = mkF m 0 #[.val (.ref t), .val (.int (2 : Int32)), .val (.int (6 : Int32))] [] := by first | (simp [entryFrame, mkF, argsToLocals, Value.category]; done) | rfl
def QCr2_6_6_6 (Z : State) (t : Addr) (kt : ClassId) (b0 b1 b2 b3 b4 b5 : Int32) (h0 : Heap) (n0 : Nat) (v : Option Value) (h : Heap) (L : List Loc) : Prop := ∃ r kr, v = some (.ref r) ∧ Fr n0 L ∧ Keep h0 h [] ∧ h0.size ≤ r ∧ Arv Z h r kr .byte (4 : Int32) [(.int b2), (.int b3), (.int b4), (.int b5)] (.int (0 : Int32))
set_option maxRecDepth 65536 in
set_option maxHeartbeats 40000000 in
theorem rmCr2_6_6_6 (l : Launch) (Z : State) (a0 : Array Value) (hw : ∀ d ∈ tables_1, d.before a0 Z = true) (ws : List Jvm.Cond) (t : Addr) (kt : ClassId) (b0 b1 b2 b3 b4 b5 : Int32) (h0 : Heap) (n0 : Nat) (Z0 : n0 ≤ h0.size) (O0 : Old Z n0 h0) (Vt : Arv Z h0 t kt .byte (6 : Int32) [(.int b0), (.int b1), (.int b2), (.int b3), (.int b4), (.int b5)] (.int (0 : Int32))) :
    OwnLaw l (⟨"java/util/Arrays", "copyOfRange", "([BII)[B"⟩ : MethodName) jdk_65_method_132_code 3 (some (.array .byte)) ws (rR 2 1 4 34) #[(.ref t), (.int (2 : Int32)), (.int (6 : Int32))] Z h0 (QCr2_6_6_6 Z t kt b0 b1 b2 b3 b4 b5 h0 n0) := by
  refine own_enter (plainFor_of_name pn_java_util_Arrays) (efCr2_6_6_6 t) ?_
  intro p e s m below meth c s₁ Bd hx hby hml hZ hown X0 e0
  have N0 := Fr.nil n0
  have K0 : Keep h0 h0 [] := Keep.refl _ _
  refine P1.iloadN X0.here hx (hb hby d37_0) rfl ?_
  refine P1.ifYes X0.here hx 10 (hb hby d37_1) ((if0 _ _).trans (feq (by decide : ¬ ((2 : Int32) = (0 : Int32)))).2) (by decide) (by decide) ?_
  refine P1.aloadN X0.here hx (hb hby d37_10) rfl rfl ?_
  refine P1.iloadN X0.here hx (hb hby d37_11) rfl ?_
  refine P1.iloadN X0.here hx (hb hby d37_12) rfl ?_
  refine P1.callS X0 hx hZ hown (own_w hw 158 rfl) (own_w hw 159 rfl) (own_w hw 156 rfl) (own_w hw 160 rfl) (by decide) (rmCb2_6_6_6 l Z a0 hw [] t kt b0 b1 b2 b3 b4 b5 h0 n0 Z0 O0 Vt) hml [(.ref t), (.int (2 : Int32)), (.int (6 : Int32))] [] (lenOf pd_2488 rfl) rfl rfl (hb hby d37_13) rfl e0 (ok rfl) (ok rfl) (ok rfl) (ok rfl) ?_
  intro v861 T861 L861 q861 X861
  obtain ⟨r861, kr861, rfl, N861q, K861, szr861, g861V⟩ := q861
  have ge_r861 : n0 ≤ r861 := Nat.le_trans Z0 szr861
  have sz_r861 : h0.size ≤ r861 := Nat.le_trans K0.1 szr861
  have N861 := Fr.app N0 N861q
  show Goes p e below _ T861 (mkF m 16 #[.val (.ref t), .val (.int (2 : Int32)), .val (.int (6 : Int32))] [(.ref r861)])
  refine Goes.retA X861 hx Bd.notSynchronized Bd.returns rfl rfl (hb hby d37_16) (ok rfl) (ok rfl) ?_
  have K862 : Keep h0 T861.heap [] := K0.trans K861 all0
  exact ⟨r861, kr861, rfl, N861, K862, sz_r861, g861V⟩
theorem efCb3 (t : Addr) (m : MethodId) : entryFrame m #[(.ref t), (.int (1 : Int32)), (.int (2 : Int32))] 6 = mkF m 0 #[.val (.ref t), .val (.int (1 : Int32)), .val (.int (2 : Int32)), .unset, .unset, .unset] [] := by first | (simp [entryFrame, mkF, argsToLocals, Value.category]; done) | rfl
def QCb3 (Z : State) (t : Addr) (kt : ClassId) (c0 c1 c2 zc : Int32) (fm : Value) (h0 : Heap) (n0 : Nat) (v : Option Value) (h : Heap) (L : List Loc) : Prop := ∃ r kr, v = some (.ref r) ∧ Fr n0 L ∧ Keep h0 h [] ∧ h0.size ≤ r ∧ (((∀ c ∈ ([c1, c2] : List Int32), ¬ (255 : Int32) < c) ∧ Arv Z h r kr .byte (2 : Int32) [(.int (StrChars.lo8 c1)), (.int (StrChars.lo8 c2))] (.int (0 : Int32))) ∨ ((∃ c ∈ ([c1, c2] : List Int32), (255 : Int32) < c) ∧ Arv Z h r kr .byte (4 : Int32) [(.int (StrChars.lo8 c1)), (.int (StrChars.hi8 c1)), (.int (StrChars.lo8 c2)), (.int (StrChars.hi8 c2))] (.int (0 : Int32))))
set_option maxRecDepth 65536 in
set_option maxHeartbeats 40000000 in
theorem rmCb3 (l : Launch) (Z : State) (a0 : Array Value) (hw : ∀ d ∈ tables_1, d.before a0 Z = true) (ws : List Jvm.Cond) (t : Addr) (kt : ClassId) (c0 c1 c2 zc : Int32) (fm : Value) (h0 : Heap) (n0 : Nat) (Z0 : n0 ≤ h0.size) (O0 : Old Z n0 h0) (S_CS : Sta Z Z.heap "java/lang/String" "COMPACT_STRINGS" "Z" (.int zc)) (hzc : ¬ zc = 0) (S_FM : Sta Z Z.heap "jdk/internal/util/Preconditions" "SIOOBE_FORMATTER" "Ljava/util/function/BiFunction;" fm) (hfm : fm.isRef = true) (S_AD : Sta Z Z.heap "java/lang/StringUTF16" "$assertionsDisabled" "Z" (.int (1 : Int32))) (S_HI : Sta Z Z.heap "java/lang/StringUTF16" "HI_BYTE_SHIFT" "I" (.int (0 : Int32))) (S_LO : Sta Z Z.heap "java/lang/StringUTF16" "LO_BYTE_SHIFT" "I" (.int (8 : Int32))) (Kt : Arv Z h0 t kt .byte (6 : Int32) [(.int (StrChars.lo8 c0)), (.int (StrChars.hi8 c0)), (.int (StrChars.lo8 c1)), (.int (StrChars.hi8 c1)), (.int (StrChars.lo8 c2)), (.int (StrChars.hi8 c2))] (.int (0 : Int32))) (h_c0 : C16 c0) (h_c1 : C16 c1) (h_c2 : C16 c2) :
    OwnLaw l (⟨"java/lang/StringUTF16", "compress", "([BII)[B"⟩ : MethodName) jdk_52_method_17_code 6 (some (.array .byte)) ws (rR 4 2 6 61) #[(.ref t), (.int (1 : Int32)), (.int (2 : Int32))] Z h0 (QCb3 Z t kt c0 c1 c2 zc fm h0 n0) := by
  refine own_enter (plainFor_of_name pn_java_lang_StringUTF16) (efCb3 t) ?_
  intro p e s m below meth c s₁ Bd hx hby hml hZ hown X0 e0
  have N0 := Fr.nil n0
  have K0 : Keep h0 h0 [] := Keep.refl _ _
  refine P1.iloadN X0.here hx (hb hby d32_0) rfl ?_
  obtain ⟨T863, h863, k863, X863, e863, E863, A863, st863⟩ := newP X0 hx hZ (own_w hw 24 rfl) e0 (g := (mkF m 1 #[.val (.ref t), .val (.int (1 : Int32)), .val (.int (2 : Int32)), .unset, .unset, .unset] [(.int (2 : Int32))])) rfl (hb hby d32_1) rfl (by decide) (cap := 2) (ok rfl) (ok rfl) (ok rfl) (ok rfl)
  obtain ⟨b863, g863⟩ : ∃ z, z = h0.size := ⟨_, rfl⟩
  rw [← g863] at A863 st863
  have ge_b863 : n0 ≤ b863 := Nat.le_trans Z0 (Nat.le_of_eq g863.symm)
  have sz_b863 : h0.size ≤ b863 := Nat.le_trans K0.1 (Nat.le_of_eq g863.symm)
  have V863 : Arv Z h863 b863 k863 .byte (2 : Int32) [(.int (0 : Int32)), (.int (0 : Int32))] (.int (0 : Int32)) := (Arv.new A863 (by decide)).pad (pad_rep [] (.int (0 : Int32)) 2)
  refine Goes.step (T' := T863) (g' := (mkF m 3 #[.val (.ref t), .val (.int (1 : Int32)), .val (.int (2 : Int32)), .unset, .unset, .unset] [(.ref b863)])) st863 ?_
  refine P1.astoreN X863.here hx #[.val (.ref t), .val (.int (1 : Int32)), .val (.int (2 : Int32)), .val (.ref b863), .unset, .unset] (hb hby d32_3) rfl rfl ?_
  refine P1.aloadN X863.here hx (hb hby d32_4) rfl rfl ?_
  refine P1.iloadN X863.here hx (hb hby d32_5) rfl ?_
  refine P1.aloadN X863.here hx (hb hby d32_6) rfl rfl ?_
  refine P1.iconst X863.here hx (0 : Int32) (hb hby d32_7) rfl ?_
  refine P1.iloadN X863.here hx (hb hby d32_8) rfl ?_
  have V864 : Arv Z h863 t kt .byte (6 : Int32) [(.int (StrChars.lo8 c0)), (.int (StrChars.hi8 c0)), (.int (StrChars.lo8 c1)), (.int (StrChars.hi8 c1)), (.int (StrChars.lo8 c2)), (.int (StrChars.hi8 c2))] (.int (0 : Int32)) := Kt.ext E863
  have ne865 : t ≠ b863 := Nat.ne_of_lt (Nat.lt_of_lt_of_le Kt.lt (Nat.le_of_eq g863.symm))
  have Z866 : n0 ≤ h863.size := Nat.le_trans Z0 E863.1
  have O867 : Old Z n0 h863 := O0.ext E863
  refine P1.callS X863 hx hZ hown (own_w hw 142 rfl) (own_w hw 143 rfl) (own_w hw 48 rfl) (own_w hw 144 rfl) (by decide) (rmCr3 l Z a0 hw [] t kt c0 c1 c2 b863 k863 zc fm h863 n0 Z866 O867 S_CS hzc S_FM hfm S_AD S_HI S_LO V864 ge_b863 V863 ne865 h_c0 h_c1 h_c2) hml [(.ref t), (.int (1 : Int32)), (.ref b863), (.int (0 : Int32)), (.int (2 : Int32))] [] (lenOf pd_3757 rfl) rfl rfl (hb hby d32_9) rfl e863 (ok rfl) (ok rfl) (ok rfl) (ok rfl) ?_
  intro v868 T868 L868 q868 X868
  obtain ⟨N868q, K868, q868⟩ := q868
  have N868 := Fr.app N0 N868q
  rcases q868 with ⟨rfl, hall868, g868V⟩ | ⟨rfl, hbig868⟩ | ⟨rfl, hbig868⟩
  ·
    show Goes p e below _ T868 (mkF m 12 #[.val (.ref t), .val (.int (1 : Int32)), .val (.int (2 : Int32)), .val (.ref b863), .unset, .unset] [(.int (2 : Int32))])
    refine P1.istore X868.here hx #[.val (.ref t), .val (.int (1 : Int32)), .val (.int (2 : Int32)), .val (.ref b863), .val (.int (2 : Int32)), .unset] (hb hby d32_12) rfl ?_
    refine P1.iload X868.here hx (hb hby d32_14) rfl ?_
    refine P1.iloadN X868.here hx (hb hby d32_16) rfl ?_
    refine P1.icmpYes X868.here hx 64 (hb hby d32_17) (teq (by decide : (2 : Int32) = (2 : Int32))).1 (by decide) (by decide) ?_
    refine P1.aloadN X868.here hx (hb hby d32_64) rfl rfl ?_
    refine Goes.retA X868 hx Bd.notSynchronized Bd.returns rfl rfl (hb hby d32_65) (ok rfl) (ok rfl) ?_
    have K869 : Keep h0 h863 [] := K0.ext E863
    have K870 : Keep h0 T868.heap [] := K869.trans K868 (allS (Or.inr sz_b863) all0)
    exact ⟨b863, k863, rfl, N868, K870, sz_b863, Or.inl ⟨hall868, g868V⟩⟩
  ·
    show Goes p e below _ T868 (mkF m 12 #[.val (.ref t), .val (.int (1 : Int32)), .val (.int (2 : Int32)), .val (.ref b863), .unset, .unset] [(.int (0 : Int32))])
    refine P1.istore X868.here hx #[.val (.ref t), .val (.int (1 : Int32)), .val (.int (2 : Int32)), .val (.ref b863), .val (.int (0 : Int32)), .unset] (hb hby d32_12) rfl ?_
    refine P1.iload X868.here hx (hb hby d32_14) rfl ?_
    refine P1.iloadN X868.here hx (hb hby d32_16) rfl ?_
    refine P1.icmpNo X868.here hx (hb hby d32_17) (feq (by decide : ¬ ((0 : Int32) = (2 : Int32)))).1 ?_
    refine P1.aloadN X868.here hx (hb hby d32_20) rfl rfl ?_
    refine P1.iloadN X868.here hx (hb hby d32_21) rfl ?_
    refine P1.iconst X868.here hx (1 : Int32) (hb hby d32_22) rfl ?_
    refine P1.ishl X868.here hx (hb hby d32_23) ?_
    have rw871 : ((1 : Int32) <<< ((1 : Int32) &&& 31)) = (2 : Int32) := by decide
    rw [rw871]
    refine P1.iloadN X868.here hx (hb hby d32_24) rfl ?_
    refine P1.iloadN X868.here hx (hb hby d32_25) rfl ?_
    refine P1.iadd X868.here hx (hb hby d32_26) ?_
    have rw872 : ((1 : Int32) + (2 : Int32)) = (3 : Int32) := by decide
    rw [rw872]
    have Z873 : n0 ≤ T868.heap.size := Nat.le_trans Z866 K868.1
    have O874 : Old Z n0 T868.heap := O867.keep K868 (allS ge_b863 all0)
    refine P1.callS X868 hx hZ hown (own_w hw 86 rfl) (own_w hw 87 rfl) (own_w hw 48 rfl) (own_w hw 88 rfl) (by decide) (rmNl3 l Z a0 hw []  T868.heap n0 Z873 O874 ) hml [(.int (3 : Int32))] [(.int (2 : Int32)), (.ref t)] (lenOf pd_601 rfl) rfl rfl (hb hby d32_27) rfl rfl (ok rfl) (ok rfl) (ok rfl) (ok rfl) ?_
    intro v875 T875 L875 q875 X875
    obtain ⟨rfl, N875q, hE875⟩ := q875
    have N875 := Fr.app N868 N875q
    show Goes p e below _ T875 (mkF m 30 #[.val (.ref t), .val (.int (1 : Int32)), .val (.int (2 : Int32)), .val (.ref b863), .val (.int (0 : Int32)), .unset] [(.int (6 : Int32)), (.int (2 : Int32)), (.ref t)])
    have K876 : Keep h0 h863 [] := K0.ext E863
    have K877 : Keep h0 T868.heap [] := K876.trans K868 (allS (Or.inr sz_b863) all0)
    have V878 : Arv Z T868.heap t kt .byte (6 : Int32) [(.int (StrChars.lo8 c0)), (.int (StrChars.hi8 c0)), (.int (StrChars.lo8 c1)), (.int (StrChars.hi8 c1)), (.int (StrChars.lo8 c2)), (.int (StrChars.hi8 c2))] (.int (0 : Int32)) := V864.keep K868 (ninS ne865 nin0)
    refine P1.callS X875 hx hZ hown (own_w hw 154 rfl) (own_w hw 155 rfl) (own_w hw 156 rfl) (own_w hw 157 rfl) (by decide) (rmCr2_6_6_6 l Z a0 hw [] t kt (StrChars.lo8 c0) (StrChars.hi8 c0) (StrChars.lo8 c1) (StrChars.hi8 c1) (StrChars.lo8 c2) (StrChars.hi8 c2) T868.heap n0 Z873 O874 V878) hml [(.ref t), (.int (2 : Int32)), (.int (6 : Int32))] [] (lenOf pd_2488 rfl) rfl rfl (hb hby d32_30) rfl hE875 (ok rfl) (ok rfl) (ok rfl) (ok rfl) ?_
    intro v879 T879 L879 q879 X879
    obtain ⟨r879, kr879, rfl, N879q, K879, szr879, g879V⟩ := q879
    have ge_r879 : n0 ≤ r879 := Nat.le_trans Z873 szr879
    have sz_r879 : h0.size ≤ r879 := Nat.le_trans K877.1 szr879
    have N879 := Fr.app N875 N879q
    show Goes p e below _ T879 (mkF m 33 #[.val (.ref t), .val (.int (1 : Int32)), .val (.int (2 : Int32)), .val (.ref b863), .val (.int (0 : Int32)), .unset] [(.ref r879)])
    refine P1.astore X879.here hx #[.val (.ref t), .val (.int (1 : Int32)), .val (.int (2 : Int32)), .val (.ref b863), .val (.int (0 : Int32)), .val (.ref r879)] (hb hby d32_33) rfl rfl ?_
    refine P1.aload X879.here hx (hb hby d32_35) rfl rfl ?_
    refine P1.iload X879.here hx (hb hby d32_37) rfl ?_
    have Z880 : n0 ≤ T879.heap.size := Nat.le_trans Z873 K879.1
    have O881 : Old Z n0 T879.heap := O874.keep K879 all0
    refine P1.callS X879 hx hZ hown (own_w hw 96 rfl) (own_w hw 97 rfl) (own_w hw 48 rfl) (own_w hw 98 rfl) (by decide) (rmGc0 l Z a0 hw [] r879 kr879 (4 : Int32) [(.int (StrChars.lo8 c1)), (.int (StrChars.hi8 c1)), (.int (StrChars.lo8 c2)), (.int (StrChars.hi8 c2))] c1 zc fm T879.heap n0 Z880 O881 S_CS hzc S_FM hfm S_AD S_HI S_LO g879V ⟨by decide, by decide⟩ ⟨by decide, by decide⟩ rfl rfl h_c1) hml [(.ref r879), (.int (0 : Int32))] [] (lenOf pd_1319 rfl) rfl rfl (hb hby d32_39) rfl rfl (ok rfl) (ok rfl) (ok rfl) (ok rfl) ?_
    intro v882 T882 L882 q882 X882
    obtain ⟨rfl, N882q, hE882⟩ := q882
    have N882 := Fr.app N879 N882q
    show Goes p e below _ T882 (mkF m 42 #[.val (.ref t), .val (.int (1 : Int32)), .val (.int (2 : Int32)), .val (.ref b863), .val (.int (0 : Int32)), .val (.ref r879)] [(.int c1)])
    refine P1.sipush X882.here hx (255 : Int32) (hb hby d32_42) rfl ?_
    refine P1.icmpYes X882.here hx 61 (hb hby d32_45) (tlt (hbig868 : (255 : Int32) < c1)).2.2.1 (by decide) (by decide) ?_
    refine P1.aload X882.here hx (hb hby d32_61) rfl rfl ?_
    refine Goes.retA X882 hx Bd.notSynchronized Bd.returns rfl rfl (hb hby d32_63) (ok rfl) (ok rfl) ?_
    rw [hE882]
    have K883 : Keep h0 T879.heap [] := K877.trans K879 all0
    exact ⟨r879, kr879, rfl, N882, K883, sz_r879, Or.inr ⟨⟨c1, by simp, hbig868⟩, g879V⟩⟩
  ·
    show Goes p e below _ T868 (mkF m 12 #[.val (.ref t), .val (.int (1 : Int32)), .val (.int (2 : Int32)), .val (.ref b863), .unset, .unset] [(.int (1 : Int32))])
    refine P1.istore X868.here hx #[.val (.ref t), .val (.int (1 : Int32)), .val (.int (2 : Int32)), .val (.ref b863), .val (.int (1 : Int32)), .unset] (hb hby d32_12) rfl ?_
    refine P1.iload X868.here hx (hb hby d32_14) rfl ?_
    refine P1.iloadN X868.here hx (hb hby d32_16) rfl ?_
    refine P1.icmpNo X868.here hx (hb hby d32_17) (feq (by decide : ¬ ((1 : Int32) = (2 : Int32)))).1 ?_
    refine P1.aloadN X868.here hx (hb hby d32_20) rfl rfl ?_
    refine P1.iloadN X868.here hx (hb hby d32_21) rfl ?_
    refine P1.iconst X868.here hx (1 : Int32) (hb hby d32_22) rfl ?_
    refine P1.ishl X868.here hx (hb hby d32_23) ?_
    have rw884 : ((1 : Int32) <<< ((1 : Int32) &&& 31)) = (2 : Int32) := by decide
    rw [rw884]
    refine P1.iloadN X868.here hx (hb hby d32_24) rfl ?_
    refine P1.iloadN X868.here hx (hb hby d32_25) rfl ?_
    refine P1.iadd X868.here hx (hb hby d32_26) ?_
    have rw885 : ((1 : Int32) + (2 : Int32)) = (3 : Int32) := by decide
    rw [rw885]
    have Z886 : n0 ≤ T868.heap.size := Nat.le_trans Z866 K868.1
    have O887 : Old Z n0 T868.heap := O867.keep K868 (allS ge_b863 all0)
    refine P1.callS X868 hx hZ hown (own_w hw 86 rfl) (own_w hw 87 rfl) (own_w hw 48 rfl) (own_w hw 88 rfl) (by decide) (rmNl3 l Z a0 hw []  T868.heap n0 Z886 O887 ) hml [(.int (3 : Int32))] [(.int (2 : Int32)), (.ref t)] (lenOf pd_601 rfl) rfl rfl (hb hby d32_27) rfl rfl (ok rfl) (ok rfl) (ok rfl) (ok rfl) ?_
    intro v888 T888 L888 q888 X888
    obtain ⟨rfl, N888q, hE888⟩ := q888
    have N888 := Fr.app N868 N888q
    show Goes p e below _ T888 (mkF m 30 #[.val (.ref t), .val (.int (1 : Int32)), .val (.int (2 : Int32)), .val (.ref b863), .val (.int (1 : Int32)), .unset] [(.int (6 : Int32)), (.int (2 : Int32)), (.ref t)])
    have K889 : Keep h0 h863 [] := K0.ext E863
    have K890 : Keep h0 T868.heap [] := K889.trans K868 (allS (Or.inr sz_b863) all0)
    have V891 : Arv Z T868.heap t kt .byte (6 : Int32) [(.int (StrChars.lo8 c0)), (.int (StrChars.hi8 c0)), (.int (StrChars.lo8 c1)), (.int (StrChars.hi8 c1)), (.int (StrChars.lo8 c2)), (.int (StrChars.hi8 c2))] (.int (0 : Int32)) := V864.keep K868 (ninS ne865 nin0)
    refine P1.callS X888 hx hZ hown (own_w hw 154 rfl) (own_w hw 155 rfl) (own_w hw 156 rfl) (own_w hw 157 rfl) (by decide) (rmCr2_6_6_6 l Z a0 hw [] t kt (StrChars.lo8 c0) (StrChars.hi8 c0) (StrChars.lo8 c1) (StrChars.hi8 c1) (StrChars.lo8 c2) (StrChars.hi8 c2) T868.heap n0 Z886 O887 V891) hml [(.ref t), (.int (2 : Int32)), (.int (6 : Int32))] [] (lenOf pd_2488 rfl) rfl rfl (hb hby d32_30) rfl hE888 (ok rfl) (ok rfl) (ok rfl) (ok rfl) ?_
    intro v892 T892 L892 q892 X892
    obtain ⟨r892, kr892, rfl, N892q, K892, szr892, g892V⟩ := q892
    have ge_r892 : n0 ≤ r892 := Nat.le_trans Z886 szr892
    have sz_r892 : h0.size ≤ r892 := Nat.le_trans K890.1 szr892
    have N892 := Fr.app N888 N892q
    show Goes p e below _ T892 (mkF m 33 #[.val (.ref t), .val (.int (1 : Int32)), .val (.int (2 : Int32)), .val (.ref b863), .val (.int (1 : Int32)), .unset] [(.ref r892)])
    refine P1.astore X892.here hx #[.val (.ref t), .val (.int (1 : Int32)), .val (.int (2 : Int32)), .val (.ref b863), .val (.int (1 : Int32)), .val (.ref r892)] (hb hby d32_33) rfl rfl ?_
    refine P1.aload X892.here hx (hb hby d32_35) rfl rfl ?_
    refine P1.iload X892.here hx (hb hby d32_37) rfl ?_
    have Z893 : n0 ≤ T892.heap.size := Nat.le_trans Z886 K892.1
    have O894 : Old Z n0 T892.heap := O887.keep K892 all0
    refine P1.callS X892 hx hZ hown (own_w hw 96 rfl) (own_w hw 97 rfl) (own_w hw 48 rfl) (own_w hw 98 rfl) (by decide) (rmGc1 l Z a0 hw [] r892 kr892 (4 : Int32) [(.int (StrChars.lo8 c1)), (.int (StrChars.hi8 c1)), (.int (StrChars.lo8 c2)), (.int (StrChars.hi8 c2))] c2 zc fm T892.heap n0 Z893 O894 S_CS hzc S_FM hfm S_AD S_HI S_LO g892V ⟨by decide, by decide⟩ ⟨by decide, by decide⟩ rfl rfl h_c2) hml [(.ref r892), (.int (1 : Int32))] [] (lenOf pd_1319 rfl) rfl rfl (hb hby d32_39) rfl rfl (ok rfl) (ok rfl) (ok rfl) (ok rfl) ?_
    intro v895 T895 L895 q895 X895
    obtain ⟨rfl, N895q, hE895⟩ := q895
    have N895 := Fr.app N892 N895q
    show Goes p e below _ T895 (mkF m 42 #[.val (.ref t), .val (.int (1 : Int32)), .val (.int (2 : Int32)), .val (.ref b863), .val (.int (1 : Int32)), .val (.ref r892)] [(.int c2)])
    refine P1.sipush X895.here hx (255 : Int32) (hb hby d32_42) rfl ?_
    refine P1.icmpYes X895.here hx 61 (hb hby d32_45) (tlt (hbig868 : (255 : Int32) < c2)).2.2.1 (by decide) (by decide) ?_
    refine P1.aload X895.here hx (hb hby d32_61) rfl rfl ?_
    refine Goes.retA X895 hx Bd.notSynchronized Bd.returns rfl rfl (hb hby d32_63) (ok rfl) (ok rfl) ?_
    rw [hE895]
    have K896 : Keep h0 T892.heap [] := K890.trans K892 all0
    exact ⟨r892, kr892, rfl, N895, K896, sz_r892, Or.inr ⟨⟨c2, by simp, hbig868⟩, g892V⟩⟩
theorem efNs3 (t : Addr) (m : MethodId) : entryFrame m #[(.ref t), (.int (1 : Int32)), (.int (2 : Int32))] 5 = mkF m 0 #[.val (.ref t), .val (.int (1 : Int32)), .val (.int (2 : Int32)), .unset, .unset] [] := by first | (simp [entryFrame, mkF, argsToLocals, Value.category]; done) | rfl
def QNs3 (Z : State) (t : Addr) (kt : ClassId) (c0 c1 c2 zc : Int32) (fm : Value) (h0 : Heap) (n0 : Nat) (v : Option Value) (h : Heap) (L : List Loc) : Prop := ∃ x, v = some (.ref x) ∧ Fr n0 L ∧ Keep h0 h [] ∧ Exa Z h x "java/lang/String" ∧ ∃ t kb cd N2 vs, Fld Z h x "java/lang/String" "value" "[B" (.ref t) ∧ Fld Z h x "java/lang/String" "coder" "B" (.int cd) ∧ Arv Z h t kb .byte N2 vs (.int (0 : Int32)) ∧ StrChars.Road.CodA ([c1, c2] : List Int32) cd N2 vs
set_option maxRecDepth 65536 in
set_option maxHeartbeats 40000000 in
theorem rmNs3 (l : Launch) (Z : State) (a0 : Array Value) (hw : ∀ d ∈ tables_1, d.before a0 Z = true) (ws : List Jvm.Cond) (t : Addr) (kt : ClassId) (c0 c1 c2 zc : Int32) (fm : Value) (h0 : Heap) (n0 : Nat) (Z0 : n0 ≤ h0.size) (O0 : Old Z n0 h0) (S_CS : Sta Z Z.heap "java/lang/String" "COMPACT_STRINGS" "Z" (.int zc)) (hzc : ¬ zc = 0) (S_FM : Sta Z Z.heap "jdk/internal/util/Preconditions" "SIOOBE_FORMATTER" "Ljava/util/function/BiFunction;" fm) (hfm : fm.isRef = true) (S_AD : Sta Z Z.heap "java/lang/StringUTF16" "$assertionsDisabled" "Z" (.int (1 : Int32))) (S_HI : Sta Z Z.heap "java/lang/StringUTF16" "HI_BYTE_SHIFT" "I" (.int (0 : Int32))) (S_LO : Sta Z Z.heap "java/lang/StringUTF16" "LO_BYTE_SHIFT" "I" (.int (8 : Int32))) (Kt : Arv Z h0 t kt .byte (6 : Int32) [(.int (StrChars.lo8 c0)), (.int (StrChars.hi8 c0)), (.int (StrChars.lo8 c1)), (.int (StrChars.hi8 c1)), (.int (StrChars.lo8 c2)), (.int (StrChars.hi8 c2))] (.int (0 : Int32))) (h_c0 : C16 c0) (h_c1 : C16 c1) (h_c2 : C16 c2) :
    OwnLaw l y29_ jdk_52_method_69_code 5 (some (.object "java/lang/String")) ws (rR 5 3 10 78) #[(.ref t), (.int (1 : Int32)), (.int (2 : Int32))] Z h0 (QNs3 Z t kt c0 c1 c2 zc fm h0 n0) := by
  refine own_enter (plainFor_of_name pn_java_lang_StringUTF16) (efNs3 t) ?_
  intro p e s m below meth c s₁ Bd hx hby hml hZ hown X0 e0
  have N0 := Fr.nil n0
  have K0 : Keep h0 h0 [] := Keep.refl _ _
  refine P1.iloadN X0.here hx (hb hby d31_0) rfl ?_
  refine P1.ifYes X0.here hx 8 (hb hby d31_1) ((if0 _ _).trans (feq (by decide : ¬ ((2 : Int32) = (0 : Int32)))).2) (by decide) (by decide) ?_
  obtain ⟨T897, X897, e897, st897⟩ := getS2 X0 hx hZ hown (host := "") (Or.inl (own_w hw 138 rfl)) Via.refl e0 (S_CS.ext O0.2) (g := (mkF m 8 #[.val (.ref t), .val (.int (1 : Int32)), .val (.int (2 : Int32)), .unset, .unset] [])) rfl (hb hby d31_8)
  refine Goes.step (T' := T897) (g' := (mkF m 11 #[.val (.ref t), .val (.int (1 : Int32)), .val (.int (2 : Int32)), .unset, .unset] [(.int zc)])) st897 ?_
  refine P1.ifNo X897.here hx (hb hby d31_11) ((if0 _ _).trans (feq (hzc : ¬ (zc = (0 : Int32)))).1) ?_
  refine P1.aloadN X897.here hx (hb hby d31_14) rfl rfl ?_
  refine P1.iloadN X897.here hx (hb hby d31_15) rfl ?_
  refine P1.iloadN X897.here hx (hb hby d31_16) rfl ?_
  refine P1.callS X897 hx hZ hown (own_w hw 139 rfl) (own_w hw 140 rfl) (own_w hw 48 rfl) (own_w hw 141 rfl) (by decide) (rmCb3 l Z a0 hw [] t kt c0 c1 c2 zc fm h0 n0 Z0 O0 S_CS hzc S_FM hfm S_AD S_HI S_LO Kt h_c0 h_c1 h_c2) hml [(.ref t), (.int (1 : Int32)), (.int (2 : Int32))] [] (lenOf pd_2488 rfl) rfl rfl (hb hby d31_17) rfl e897 (ok rfl) (ok rfl) (ok rfl) (ok rfl) ?_
  intro v898 T898 L898 q898 X898
  obtain ⟨r898, kr898, rfl, N898q, K898, szr898, q898⟩ := q898
  have ge_r898 : n0 ≤ r898 := Nat.le_trans Z0 szr898
  have sz_r898 : h0.size ≤ r898 := Nat.le_trans K0.1 szr898
  have N898 := Fr.app N0 N898q
  rcases q898 with ⟨hall898, g898V⟩ | ⟨hsome898, g898V⟩
  ·
    show Goes p e below _ T898 (mkF m 20 #[.val (.ref t), .val (.int (1 : Int32)), .val (.int (2 : Int32)), .unset, .unset] [(.ref r898)])
    refine P1.astoreN X898.here hx #[.val (.ref t), .val (.int (1 : Int32)), .val (.int (2 : Int32)), .val (.ref r898), .unset] (hb hby d31_20) rfl rfl ?_
    refine P1.aloadN X898.here hx (hb hby d31_21) rfl rfl ?_
    refine P1.iloadN X898.here hx (hb hby d31_22) rfl ?_
    have Z899 : n0 ≤ T898.heap.size := Nat.le_trans Z0 K898.1
    have O900 : Old Z n0 T898.heap := O0.keep K898 all0
    refine P1.callS X898 hx hZ hown (own_w hw 172 rfl) (own_w hw 54 rfl) (own_w hw 48 rfl) (own_w hw 55 rfl) (by decide) (rmCf2_2 l Z a0 hw [] r898 kr898 [(.int (StrChars.lo8 c1)), (.int (StrChars.lo8 c2))] T898.heap n0 Z899 O900 g898V) hml [(.ref r898), (.int (2 : Int32))] [] (lenOf pd_1313 rfl) rfl rfl (hb hby d31_23) rfl rfl (ok rfl) (ok rfl) (ok rfl) (ok rfl) ?_
    intro v901 T901 L901 q901 X901
    obtain ⟨rfl, N901q, hE901⟩ := q901
    have N901 := Fr.app N898 N901q
    show Goes p e below _ T901 (mkF m 26 #[.val (.ref t), .val (.int (1 : Int32)), .val (.int (2 : Int32)), .val (.ref r898), .unset] [(.int (0 : Int32))])
    refine P1.istore X901.here hx #[.val (.ref t), .val (.int (1 : Int32)), .val (.int (2 : Int32)), .val (.ref r898), .val (.int (0 : Int32))] (hb hby d31_26) rfl ?_
    obtain ⟨T902, h902, X902, e902, E902, A902, D902, -, st902⟩ := newO X901 hx hZ hown (own_w hw 173 rfl) (own_w hw 10 rfl) (own_w hw 11 rfl) hE901 (g := (mkF m 28 #[.val (.ref t), .val (.int (1 : Int32)), .val (.int (2 : Int32)), .val (.ref r898), .val (.int (0 : Int32))] [])) rfl (hb hby d31_28) (ok rfl) (ok rfl)
    have K903 : Keep h0 T898.heap [] := K0.trans K898 all0
    obtain ⟨b902, g902⟩ : ∃ z, z = T898.heap.size := ⟨_, rfl⟩
    rw [← g902] at A902 D902 st902
    have ge_b902 : n0 ≤ b902 := Nat.le_trans Z899 (Nat.le_of_eq g902.symm)
    have sz_b902 : h0.size ≤ b902 := Nat.le_trans K903.1 (Nat.le_of_eq g902.symm)
    have F902_value : Fld Z h902 b902 "java/lang/String" "value" "[B" .null := D902 (Or.inr (own_w hw 25 rfl)) (ty := (.array .byte)) (by decide)
    have F902_coder : Fld Z h902 b902 "java/lang/String" "coder" "B" (.int (0 : Int32)) := D902 (Or.inr (own_w hw 26 rfl)) (ty := .byte) (by decide)
    refine Goes.step (T' := T902) (g' := (mkF m 31 #[.val (.ref t), .val (.int (1 : Int32)), .val (.int (2 : Int32)), .val (.ref r898), .val (.int (0 : Int32))] [(.ref b902)])) st902 ?_
    refine P1.dup X902.here hx (hb hby d31_31) rfl ?_
    refine P1.aloadN X902.here hx (hb hby d31_32) rfl rfl ?_
    refine P1.iload X902.here hx (hb hby d31_33) rfl ?_
    have Z904 : n0 ≤ h902.size := Nat.le_trans Z899 E902.1
    have O905 : Old Z n0 h902 := O900.ext E902
    refine Goes.callC X902 hx (y := y4_) rfl hown (mvT hZ (own_w hw 174 rfl)) (mvT hZ (own_w hw 175 rfl)) (mvT hZ (own_w hw 176 rfl)) (by decide) (kc' := 0) (ks' := 0) (backOf (W := 1) (rmIb0 l Z a0 hw [] b902 r898 h902 n0 Z904 O905 ge_b902 A902 F902_value F902_coder) hZ (own_w hw 176 rfl) (own_w hw 11 rfl) (ok rfl) (ok rfl)) (g := (mkF m 35 #[.val (.ref t), .val (.int (1 : Int32)), .val (.int (2 : Int32)), .val (.ref r898), .val (.int (0 : Int32))] [(.int (0 : Int32)), (.ref r898), (.ref b902), (.ref b902)])) (a := b902) rfl (by rw [hml]; rfl) (argsL := [(.ref r898), (.int (0 : Int32))]) (rest := [(.ref b902)]) (lenOf pd_1405 rfl) rfl (by show 2 * 0 + _ ≤ _; exact Nat.le_of_eq rfl) (hb hby d31_35) rfl e902 (ok rfl) (ok rfl) ?_
    intro v906 T906 L906 q906 X906
    obtain ⟨rfl, N906q, K906, g906E, g906v, g906c⟩ := q906
    have N906 := Fr.app N901 N906q
    show Goes p e below _ T906 (mkF m 38 #[.val (.ref t), .val (.int (1 : Int32)), .val (.int (2 : Int32)), .val (.ref r898), .val (.int (0 : Int32))] [(.ref b902)])
    refine Goes.retA X906 hx Bd.notSynchronized Bd.returns rfl rfl (hb hby d31_38) (ok rfl) (ok rfl) ?_
    have K907 : Keep h0 h902 [] := K903.ext E902
    have K908 : Keep h0 T906.heap [] := K907.trans K906 (allS (Or.inr sz_b902) all0)
    have V909 : Arv Z h902 r898 kr898 .byte (2 : Int32) [(.int (StrChars.lo8 c1)), (.int (StrChars.lo8 c2))] (.int (0 : Int32)) := g898V.ext E902
    have ne910 : r898 ≠ b902 := Nat.ne_of_lt (Nat.lt_of_lt_of_le g898V.lt (Nat.le_of_eq g902.symm))
    have V911 : Arv Z T906.heap r898 kr898 .byte (2 : Int32) [(.int (StrChars.lo8 c1)), (.int (StrChars.lo8 c2))] (.int (0 : Int32)) := V909.keep K906 (ninS ne910 nin0)
    exact ⟨b902, rfl, N906, K908, g906E, r898, kr898, (0 : Int32), (2 : Int32), [(.int (StrChars.lo8 c1)), (.int (StrChars.lo8 c2))], g906v, g906c, V911, (Or.inl ⟨rfl, rfl, rfl, hall898⟩)⟩
  ·
    show Goes p e below _ T898 (mkF m 20 #[.val (.ref t), .val (.int (1 : Int32)), .val (.int (2 : Int32)), .unset, .unset] [(.ref r898)])
    refine P1.astoreN X898.here hx #[.val (.ref t), .val (.int (1 : Int32)), .val (.int (2 : Int32)), .val (.ref r898), .unset] (hb hby d31_20) rfl rfl ?_
    refine P1.aloadN X898.here hx (hb hby d31_21) rfl rfl ?_
    refine P1.iloadN X898.here hx (hb hby d31_22) rfl ?_
    have Z912 : n0 ≤ T898.heap.size := Nat.le_trans Z0 K898.1
    have O913 : Old Z n0 T898.heap := O0.keep K898 all0
    refine P1.callS X898 hx hZ hown (own_w hw 172 rfl) (own_w hw 54 rfl) (own_w hw 48 rfl) (own_w hw 55 rfl) (by decide) (rmCf2_4 l Z a0 hw [] r898 kr898 [(.int (StrChars.lo8 c1)), (.int (StrChars.hi8 c1)), (.int (StrChars.lo8 c2)), (.int (StrChars.hi8 c2))] T898.heap n0 Z912 O913 g898V) hml [(.ref r898), (.int (2 : Int32))] [] (lenOf pd_1313 rfl) rfl rfl (hb hby d31_23) rfl rfl (ok rfl) (ok rfl) (ok rfl) (ok rfl) ?_
    intro v914 T914 L914 q914 X914
    obtain ⟨rfl, N914q, hE914⟩ := q914
    have N914 := Fr.app N898 N914q
    show Goes p e below _ T914 (mkF m 26 #[.val (.ref t), .val (.int (1 : Int32)), .val (.int (2 : Int32)), .val (.ref r898), .unset] [(.int (1 : Int32))])
    refine P1.istore X914.here hx #[.val (.ref t), .val (.int (1 : Int32)), .val (.int (2 : Int32)), .val (.ref r898), .val (.int (1 : Int32))] (hb hby d31_26) rfl ?_
    obtain ⟨T915, h915, X915, e915, E915, A915, D915, -, st915⟩ := newO X914 hx hZ hown (own_w hw 173 rfl) (own_w hw 10 rfl) (own_w hw 11 rfl) hE914 (g := (mkF m 28 #[.val (.ref t), .val (.int (1 : Int32)), .val (.int (2 : Int32)), .val (.ref r898), .val (.int (1 : Int32))] [])) rfl (hb hby d31_28) (ok rfl) (ok rfl)
    have K916 : Keep h0 T898.heap [] := K0.trans K898 all0
    obtain ⟨b915, g915⟩ : ∃ z, z = T898.heap.size := ⟨_, rfl⟩
    rw [← g915] at A915 D915 st915
    have ge_b915 : n0 ≤ b915 := Nat.le_trans Z912 (Nat.le_of_eq g915.symm)
    have sz_b915 : h0.size ≤ b915 := Nat.le_trans K916.1 (Nat.le_of_eq g915.symm)
    have F915_value : Fld Z h915 b915 "java/lang/String" "value" "[B" .null := D915 (Or.inr (own_w hw 25 rfl)) (ty := (.array .byte)) (by decide)
    have F915_coder : Fld Z h915 b915 "java/lang/String" "coder" "B" (.int (0 : Int32)) := D915 (Or.inr (own_w hw 26 rfl)) (ty := .byte) (by decide)
    refine Goes.step (T' := T915) (g' := (mkF m 31 #[.val (.ref t), .val (.int (1 : Int32)), .val (.int (2 : Int32)), .val (.ref r898), .val (.int (1 : Int32))] [(.ref b915)])) st915 ?_
    refine P1.dup X915.here hx (hb hby d31_31) rfl ?_
    refine P1.aloadN X915.here hx (hb hby d31_32) rfl rfl ?_
    refine P1.iload X915.here hx (hb hby d31_33) rfl ?_
    have Z917 : n0 ≤ h915.size := Nat.le_trans Z912 E915.1
    have O918 : Old Z n0 h915 := O913.ext E915
    refine Goes.callC X915 hx (y := y4_) rfl hown (mvT hZ (own_w hw 174 rfl)) (mvT hZ (own_w hw 175 rfl)) (mvT hZ (own_w hw 176 rfl)) (by decide) (kc' := 0) (ks' := 0) (backOf (W := 1) (rmIb1 l Z a0 hw [] b915 r898 h915 n0 Z917 O918 ge_b915 A915 F915_value F915_coder) hZ (own_w hw 176 rfl) (own_w hw 11 rfl) (ok rfl) (ok rfl)) (g := (mkF m 35 #[.val (.ref t), .val (.int (1 : Int32)), .val (.int (2 : Int32)), .val (.ref r898), .val (.int (1 : Int32))] [(.int (1 : Int32)), (.ref r898), (.ref b915), (.ref b915)])) (a := b915) rfl (by rw [hml]; rfl) (argsL := [(.ref r898), (.int (1 : Int32))]) (rest := [(.ref b915)]) (lenOf pd_1405 rfl) rfl (by show 2 * 0 + _ ≤ _; exact Nat.le_of_eq rfl) (hb hby d31_35) rfl e915 (ok rfl) (ok rfl) ?_
    intro v919 T919 L919 q919 X919
    obtain ⟨rfl, N919q, K919, g919E, g919v, g919c⟩ := q919
    have N919 := Fr.app N914 N919q
    show Goes p e below _ T919 (mkF m 38 #[.val (.ref t), .val (.int (1 : Int32)), .val (.int (2 : Int32)), .val (.ref r898), .val (.int (1 : Int32))] [(.ref b915)])
    refine Goes.retA X919 hx Bd.notSynchronized Bd.returns rfl rfl (hb hby d31_38) (ok rfl) (ok rfl) ?_
    have K920 : Keep h0 h915 [] := K916.ext E915
    have K921 : Keep h0 T919.heap [] := K920.trans K919 (allS (Or.inr sz_b915) all0)
    have V922 : Arv Z h915 r898 kr898 .byte (4 : Int32) [(.int (StrChars.lo8 c1)), (.int (StrChars.hi8 c1)), (.int (StrChars.lo8 c2)), (.int (StrChars.hi8 c2))] (.int (0 : Int32)) := g898V.ext E915
    have ne923 : r898 ≠ b915 := Nat.ne_of_lt (Nat.lt_of_lt_of_le g898V.lt (Nat.le_of_eq g915.symm))
    have V924 : Arv Z T919.heap r898 kr898 .byte (4 : Int32) [(.int (StrChars.lo8 c1)), (.int (StrChars.hi8 c1)), (.int (StrChars.lo8 c2)), (.int (StrChars.hi8 c2))] (.int (0 : Int32)) := V922.keep K919 (ninS ne923 nin0)
    exact ⟨b915, rfl, N919, K921, g919E, r898, kr898, (1 : Int32), (4 : Int32), [(.int (StrChars.lo8 c1)), (.int (StrChars.hi8 c1)), (.int (StrChars.lo8 c2)), (.int (StrChars.hi8 c2))], g919v, g919c, V924, (Or.inr ⟨rfl, rfl, rfl, hsome898⟩)⟩
theorem efSq3 (x : Addr) (m : MethodId) : entryFrame m #[(.ref x), (.int (1 : Int32)), (.int (3 : Int32))] 5 = mkF m 0 #[.val (.ref x), .val (.int (1 : Int32)), .val (.int (3 : Int32)), .unset, .unset] [] := by first | (simp [entryFrame, mkF, argsToLocals, Value.category]; done) | rfl
def QSq3 (Z : State) (x t : Addr) (kt : ClassId) (c0 c1 c2 zc : Int32) (fm : Value) (h0 : Heap) (n0 : Nat) (v : Option Value) (h : Heap) (L : List Loc) : Prop := ∃ x, v = some (.ref x) ∧ Fr n0 L ∧ Keep h0 h [] ∧ Exa Z h x "java/lang/String" ∧ ∃ t kb cd N2 vs, Fld Z h x "java/lang/String" "value" "[B" (.ref t) ∧ Fld Z h x "java/lang/String" "coder" "B" (.int cd) ∧ Arv Z h t kb .byte N2 vs (.int (0 : Int32)) ∧ StrChars.Road.CodA ([c1, c2] : List Int32) cd N2 vs
set_option maxRecDepth 65536 in
set_option maxHeartbeats 40000000 in
theorem rmSq3 (l : Launch) (Z : State) (a0 : Array Value) (hw : ∀ d ∈ tables_1, d.before a0 Z = true) (ws : List Jvm.Cond) (x t : Addr) (kt : ClassId) (c0 c1 c2 zc : Int32) (fm : Value) (h0 : Heap) (n0 : Nat) (Z0 : n0 ≤ h0.size) (O0 : Old Z n0 h0) (S_CS : Sta Z Z.heap "java/lang/String" "COMPACT_STRINGS" "Z" (.int zc)) (hzc : ¬ zc = 0) (S_FM : Sta Z Z.heap "jdk/internal/util/Preconditions" "SIOOBE_FORMATTER" "Ljava/util/function/BiFunction;" fm) (hfm : fm.isRef = true) (S_AD : Sta Z Z.heap "java/lang/StringUTF16" "$assertionsDisabled" "Z" (.int (1 : Int32))) (S_HI : Sta Z Z.heap "java/lang/StringUTF16" "HI_BYTE_SHIFT" "I" (.int (0 : Int32))) (S_LO : Sta Z Z.heap "java/lang/StringUTF16" "LO_BYTE_SHIFT" "I" (.int (8 : Int32))) (Ex : Exa Z h0 x "java/lang/String") (Vx : Fld Z h0 x "java/lang/String" "value" "[B" (.ref t)) (Cx : Fld Z h0 x "java/lang/String" "coder" "B" (.int (1 : Int32))) (Kt : Arv Z h0 t kt .byte (6 : Int32) [(.int (StrChars.lo8 c0)), (.int (StrChars.hi8 c0)), (.int (StrChars.lo8 c1)), (.int (StrChars.hi8 c1)), (.int (StrChars.lo8 c2)), (.int (StrChars.hi8 c2))] (.int (0 : Int32))) (h_c0 : C16 c0) (h_c1 : C16 c1) (h_c2 : C16 c2) (hsome : ∃ c ∈ ([c0, c1, c2] : List Int32), (255 : Int32) < c) :
    OwnLaw l y16_ jdk_42_method_92_code 5 (some (.object "java/lang/String")) ws (rR 6 3 10 94) #[(.ref x), (.int (1 : Int32)), (.int (3 : Int32))] Z h0 (QSq3 Z x t kt c0 c1 c2 zc fm h0 n0) := by
  refine own_enter (plainFor_of_name pn_java_lang_String) (efSq3 x) ?_
  intro p e s m below meth c s₁ Bd hx hby hml hZ hown X0 e0
  have N0 := Fr.nil n0
  have K0 : Keep h0 h0 [] := Keep.refl _ _
  have hbd925 : ∀ c ∈ ([c0, c1, c2] : List Int32), ¬ c < 0 ∧ ¬ (65535 : Int32) < c := by
    intro c hc
    simp only [List.mem_cons, List.not_mem_nil, or_false] at hc
    rcases hc with rfl | rfl | rfl
    · exact h_c0
    · exact h_c1
    · exact h_c2
  refine P1.aloadN X0.here hx (hb hby d28_0) rfl rfl ?_
  refine Goes.callV X0 hx hZ (y := y14_) (z := y14_) (Qc := fun v h' L => (v = some (.int (Int32.ofNat ([c0, c1, c2] : List Int32).length)) ∧ L = [] ∧ h' = h0)) hown (mvT hZ (own_w hw 114 rfl)) (mvT hZ (own_w hw 115 rfl)) (notFace_of_selects (args := #[]) (mvT hZ (own_w hw 117 rfl))) (mvT hZ (own_w hw 117 rfl)) (mvT hZ (own_w hw 116 rfl)) (by decide) (kc' := 0) (ks' := 0) (StrChars.Road.lenW (W := 0) hZ (fun d hd => hw d (in_wordsLen d hd)) (kI := 4) (own_w hw 10 rfl) Ex Vx Cx Kt (show StrChars.Road.CodA ([c0, c1, c2] : List Int32) (1 : Int32) (6 : Int32) [(.int (StrChars.lo8 c0)), (.int (StrChars.hi8 c0)), (.int (StrChars.lo8 c1)), (.int (StrChars.hi8 c1)), (.int (StrChars.lo8 c2)), (.int (StrChars.hi8 c2))] from Or.inr ⟨rfl, rfl, rfl, hsome⟩) hbd925 (S_CS.ext O0.2) hzc (ok rfl) (ok rfl) (ok rfl)) (b := x) e0 Ex (g := (mkF m 1 #[.val (.ref x), .val (.int (1 : Int32)), .val (.int (3 : Int32)), .unset, .unset] [(.ref x)])) rfl (by rw [hml]; rfl) (argsL := []) (rest := []) (lenOf pd_341 rfl) rfl (by show 2 * 0 + _ ≤ _; exact Nat.le_of_eq rfl) (hb hby d28_1) rfl (ok rfl) (ok rfl) ?_
  intro v926 T926 L926 q926 X926
  obtain ⟨rfl, rfl, hE926⟩ := q926
  have N926 := Fr.app N0 (Fr.nil n0)
  show Goes p e below _ T926 (mkF m 4 #[.val (.ref x), .val (.int (1 : Int32)), .val (.int (3 : Int32)), .unset, .unset] [(.int (3 : Int32))])
  refine P1.istoreN X926.here hx #[.val (.ref x), .val (.int (1 : Int32)), .val (.int (3 : Int32)), .val (.int (3 : Int32)), .unset] (hb hby d28_4) rfl ?_
  refine P1.iloadN X926.here hx (hb hby d28_5) rfl ?_
  refine P1.iloadN X926.here hx (hb hby d28_6) rfl ?_
  refine P1.iloadN X926.here hx (hb hby d28_7) rfl ?_
  refine P1.callS X926 hx hZ hown (own_w hw 129 rfl) (own_w hw 130 rfl) (own_w hw 11 rfl) (own_w hw 131 rfl) (by decide) (rmCbe l Z a0 hw [] (1 : Int32) (3 : Int32) (3 : Int32) zc fm h0 n0 Z0 O0 S_CS hzc S_FM hfm S_AD S_HI S_LO (by decide) (by decide) (by decide)) hml [(.int (1 : Int32)), (.int (3 : Int32)), (.int (3 : Int32))] [] (lenOf pd_1418 rfl) rfl rfl (hb hby d28_8) rfl hE926 (ok rfl) (ok rfl) (ok rfl) (ok rfl) ?_
  intro v927 T927 L927 q927 X927
  obtain ⟨rfl, N927q, hE927⟩ := q927
  have N927 := Fr.app N926 N927q
  show Goes p e below _ T927 (mkF m 11 #[.val (.ref x), .val (.int (1 : Int32)), .val (.int (3 : Int32)), .val (.int (3 : Int32)), .unset] [])
  refine P1.iloadN X927.here hx (hb hby d28_11) rfl ?_
  refine P1.ifYes X927.here hx 22 (hb hby d28_12) ((if0 _ _).trans (feq (by decide : ¬ ((1 : Int32) = (0 : Int32)))).2) (by decide) (by decide) ?_
  refine P1.iloadN X927.here hx (hb hby d28_22) rfl ?_
  refine P1.iloadN X927.here hx (hb hby d28_23) rfl ?_
  refine P1.isub X927.here hx (hb hby d28_24) ?_
  have rw928 : ((3 : Int32) - (1 : Int32)) = (2 : Int32) := by decide
  rw [rw928]
  refine P1.istore X927.here hx #[.val (.ref x), .val (.int (1 : Int32)), .val (.int (3 : Int32)), .val (.int (3 : Int32)), .val (.int (2 : Int32))] (hb hby d28_25) rfl ?_
  refine P1.aloadN X927.here hx (hb hby d28_27) rfl rfl ?_
  refine Goes.callV X927 hx hZ (y := y13_) (z := y13_) hown (mvT hZ (own_w hw 61 rfl)) (mvT hZ (own_w hw 62 rfl)) (notFace_of_selects (args := #[]) (mvT hZ (own_w hw 64 rfl))) (mvT hZ (own_w hw 64 rfl)) (mvT hZ (own_w hw 63 rfl)) (by decide) (kc' := 0) (ks' := 0) (backOf (W := 0) (rmIsl l Z a0 hw [] x zc fm h0 n0 Z0 O0 S_CS hzc S_FM hfm S_AD S_HI S_LO Cx) hZ (own_w hw 65 rfl) (own_w hw 11 rfl) (ok rfl) (ok rfl)) (b := x) hE927 Ex (g := (mkF m 28 #[.val (.ref x), .val (.int (1 : Int32)), .val (.int (3 : Int32)), .val (.int (3 : Int32)), .val (.int (2 : Int32))] [(.ref x)])) rfl (by rw [hml]; rfl) (argsL := []) (rest := []) (lenOf pd_392 rfl) rfl (by show 2 * 0 + _ ≤ _; exact Nat.le_of_eq rfl) (hb hby d28_28) rfl (ok rfl) (ok rfl) ?_
  intro v929 T929 L929 q929 X929
  obtain ⟨rfl, N929q, hE929⟩ := q929
  have N929 := Fr.app N927 N929q
  show Goes p e below _ T929 (mkF m 31 #[.val (.ref x), .val (.int (1 : Int32)), .val (.int (3 : Int32)), .val (.int (3 : Int32)), .val (.int (2 : Int32))] [(.int (0 : Int32))])
  refine P1.ifYes X929.here hx 47 (hb hby d28_31) ((if0 _ _).trans (teq (by decide : (0 : Int32) = (0 : Int32))).1) (by decide) (by decide) ?_
  refine P1.aloadN X929.here hx (hb hby d28_47) rfl rfl ?_
  obtain ⟨T930, X930, e930, st930⟩ := getF X929 hx hZ hown (host := "") (Or.inl (own_w hw 29 rfl)) Via.refl hE929 Vx (g := (mkF m 48 #[.val (.ref x), .val (.int (1 : Int32)), .val (.int (3 : Int32)), .val (.int (3 : Int32)), .val (.int (2 : Int32))] [(.ref x)])) rfl rfl (hb hby d28_48)
  refine Goes.step (T' := T930) (g' := (mkF m 51 #[.val (.ref x), .val (.int (1 : Int32)), .val (.int (3 : Int32)), .val (.int (3 : Int32)), .val (.int (2 : Int32))] [(.ref t)])) st930 ?_
  refine P1.iloadN X930.here hx (hb hby d28_51) rfl ?_
  refine P1.iload X930.here hx (hb hby d28_52) rfl ?_
  refine P1.callS X930 hx hZ hown (own_w hw 135 rfl) (own_w hw 136 rfl) (own_w hw 48 rfl) (own_w hw 137 rfl) (by decide) (rmNs3 l Z a0 hw [] t kt c0 c1 c2 zc fm h0 n0 Z0 O0 S_CS hzc S_FM hfm S_AD S_HI S_LO Kt h_c0 h_c1 h_c2) hml [(.ref t), (.int (1 : Int32)), (.int (2 : Int32))] [] (lenOf pd_27634 rfl) rfl rfl (hb hby d28_54) rfl e930 (ok rfl) (ok rfl) (ok rfl) (ok rfl) ?_
  intro v931 T931 L931 q931 X931
  obtain ⟨x931, rfl, N931q, K931, g931E, t931, kb931, cd931, N2931, vs931, g931v, g931c, g931V, g931O⟩ := q931
  have N931 := Fr.app N929 N931q
  show Goes p e below _ T931 (mkF m 57 #[.val (.ref x), .val (.int (1 : Int32)), .val (.int (3 : Int32)), .val (.int (3 : Int32)), .val (.int (2 : Int32))] [(.ref x931)])
  refine Goes.retA X931 hx Bd.notSynchronized Bd.returns rfl rfl (hb hby d28_57) (ok rfl) (ok rfl) ?_
  have K932 : Keep h0 T931.heap [] := K0.trans K931 all0
  exact ⟨x931, rfl, N931, K932, g931E, t931, kb931, cd931, N2931, vs931, g931v, g931c, g931V, g931O⟩
theorem efSb3 (x : Addr) (m : MethodId) : entryFrame m #[(.ref x), (.int (1 : Int32))] 2 = mkF m 0 #[.val (.ref x), .val (.int (1 : Int32))] [] := by first | (simp [entryFrame, mkF, argsToLocals, Value.category]; done) | rfl
def QSb3 (Z : State) (x t : Addr) (kt : ClassId) (c0 c1 c2 zc : Int32) (fm : Value) (h0 : Heap) (n0 : Nat) (v : Option Value) (h : Heap) (L : List Loc) : Prop := ∃ x, v = some (.ref x) ∧ Fr n0 L ∧ Keep h0 h [] ∧ Exa Z h x "java/lang/String" ∧ ∃ t kb cd N2 vs, Fld Z h x "java/lang/String" "value" "[B" (.ref t) ∧ Fld Z h x "java/lang/String" "coder" "B" (.int cd) ∧ Arv Z h t kb .byte N2 vs (.int (0 : Int32)) ∧ StrChars.Road.CodA ([c1, c2] : List Int32) cd N2 vs
set_option maxRecDepth 65536 in
set_option maxHeartbeats 40000000 in
theorem rmSb3 (l : Launch) (Z : State) (a0 : Array Value) (hw : ∀ d ∈ tables_1, d.before a0 Z = true) (ws : List Jvm.Cond) (x t : Addr) (kt : ClassId) (c0 c1 c2 zc : Int32) (fm : Value) (h0 : Heap) (n0 : Nat) (Z0 : n0 ≤ h0.size) (O0 : Old Z n0 h0) (S_CS : Sta Z Z.heap "java/lang/String" "COMPACT_STRINGS" "Z" (.int zc)) (hzc : ¬ zc = 0) (S_FM : Sta Z Z.heap "jdk/internal/util/Preconditions" "SIOOBE_FORMATTER" "Ljava/util/function/BiFunction;" fm) (hfm : fm.isRef = true) (S_AD : Sta Z Z.heap "java/lang/StringUTF16" "$assertionsDisabled" "Z" (.int (1 : Int32))) (S_HI : Sta Z Z.heap "java/lang/StringUTF16" "HI_BYTE_SHIFT" "I" (.int (0 : Int32))) (S_LO : Sta Z Z.heap "java/lang/StringUTF16" "LO_BYTE_SHIFT" "I" (.int (8 : Int32))) (Ex : Exa Z h0 x "java/lang/String") (Vx : Fld Z h0 x "java/lang/String" "value" "[B" (.ref t)) (Cx : Fld Z h0 x "java/lang/String" "coder" "B" (.int (1 : Int32))) (Kt : Arv Z h0 t kt .byte (6 : Int32) [(.int (StrChars.lo8 c0)), (.int (StrChars.hi8 c0)), (.int (StrChars.lo8 c1)), (.int (StrChars.hi8 c1)), (.int (StrChars.lo8 c2)), (.int (StrChars.hi8 c2))] (.int (0 : Int32))) (h_c0 : C16 c0) (h_c1 : C16 c1) (h_c2 : C16 c2) (hsome : ∃ c ∈ ([c0, c1, c2] : List Int32), (255 : Int32) < c) :
    OwnLaw l y15_ jdk_42_method_91_code 2 (some (.object "java/lang/String")) ws (rR 7 3 10 110) #[(.ref x), (.int (1 : Int32))] Z h0 (QSb3 Z x t kt c0 c1 c2 zc fm h0 n0) := by
  refine own_enter (plainFor_of_name pn_java_lang_String) (efSb3 x) ?_
  intro p e s m below meth c s₁ Bd hx hby hml hZ hown X0 e0
  have N0 := Fr.nil n0
  have K0 : Keep h0 h0 [] := Keep.refl _ _
  have hbd933 : ∀ c ∈ ([c0, c1, c2] : List Int32), ¬ c < 0 ∧ ¬ (65535 : Int32) < c := by
    intro c hc
    simp only [List.mem_cons, List.not_mem_nil, or_false] at hc
    rcases hc with rfl | rfl | rfl
    · exact h_c0
    · exact h_c1
    · exact h_c2
  refine P1.aloadN X0.here hx (hb hby d25_0) rfl rfl ?_
  refine P1.iloadN X0.here hx (hb hby d25_1) rfl ?_
  refine P1.aloadN X0.here hx (hb hby d25_2) rfl rfl ?_
  refine Goes.callV X0 hx hZ (y := y14_) (z := y14_) (Qc := fun v h' L => (v = some (.int (Int32.ofNat ([c0, c1, c2] : List Int32).length)) ∧ L = [] ∧ h' = h0)) hown (mvT hZ (own_w hw 114 rfl)) (mvT hZ (own_w hw 115 rfl)) (notFace_of_selects (args := #[]) (mvT hZ (own_w hw 117 rfl))) (mvT hZ (own_w hw 117 rfl)) (mvT hZ (own_w hw 116 rfl)) (by decide) (kc' := 0) (ks' := 0) (StrChars.Road.lenW (W := 2) hZ (fun d hd => hw d (in_wordsLen d hd)) (kI := 4) (own_w hw 10 rfl) Ex Vx Cx Kt (show StrChars.Road.CodA ([c0, c1, c2] : List Int32) (1 : Int32) (6 : Int32) [(.int (StrChars.lo8 c0)), (.int (StrChars.hi8 c0)), (.int (StrChars.lo8 c1)), (.int (StrChars.hi8 c1)), (.int (StrChars.lo8 c2)), (.int (StrChars.hi8 c2))] from Or.inr ⟨rfl, rfl, rfl, hsome⟩) hbd933 (S_CS.ext O0.2) hzc (ok rfl) (ok rfl) (ok rfl)) (b := x) e0 Ex (g := (mkF m 3 #[.val (.ref x), .val (.int (1 : Int32))] [(.ref x), (.int (1 : Int32)), (.ref x)])) rfl (by rw [hml]; rfl) (argsL := []) (rest := [(.int (1 : Int32)), (.ref x)]) (lenOf pd_341 rfl) rfl (by show 2 * 0 + _ ≤ _; exact Nat.le_of_eq rfl) (hb hby d25_3) rfl (ok rfl) (ok rfl) ?_
  intro v934 T934 L934 q934 X934
  obtain ⟨rfl, rfl, hE934⟩ := q934
  have N934 := Fr.app N0 (Fr.nil n0)
  show Goes p e below _ T934 (mkF m 6 #[.val (.ref x), .val (.int (1 : Int32))] [(.int (3 : Int32)), (.int (1 : Int32)), (.ref x)])
  refine Goes.callV X934 hx hZ (y := y16_) (z := y16_) hown (mvT hZ (own_w hw 124 rfl)) (mvT hZ (own_w hw 125 rfl)) (notFace_of_selects (args := #[]) (mvT hZ (own_w hw 127 rfl))) (mvT hZ (own_w hw 127 rfl)) (mvT hZ (own_w hw 126 rfl)) (by decide) (kc' := 3) (ks' := 10) (backOf (W := 0) (rmSq3 l Z a0 hw [] x t kt c0 c1 c2 zc fm h0 n0 Z0 O0 S_CS hzc S_FM hfm S_AD S_HI S_LO Ex Vx Cx Kt h_c0 h_c1 h_c2 hsome) hZ (own_w hw 128 rfl) (own_w hw 11 rfl) (ok rfl) (ok rfl)) (b := x) hE934 Ex (g := (mkF m 6 #[.val (.ref x), .val (.int (1 : Int32))] [(.int (3 : Int32)), (.int (1 : Int32)), (.ref x)])) rfl (by rw [hml]; rfl) (argsL := [(.int (1 : Int32)), (.int (3 : Int32))]) (rest := []) (lenOf pd_23488 rfl) rfl (by show 2 * 0 + _ ≤ _; exact Nat.le_of_eq rfl) (hb hby d25_6) rfl (ok rfl) (ok rfl) ?_
  intro v935 T935 L935 q935 X935
  obtain ⟨x935, rfl, N935q, K935, g935E, t935, kb935, cd935, N2935, vs935, g935v, g935c, g935V, g935O⟩ := q935
  have N935 := Fr.app N934 N935q
  show Goes p e below _ T935 (mkF m 9 #[.val (.ref x), .val (.int (1 : Int32))] [(.ref x935)])
  refine Goes.retA X935 hx Bd.notSynchronized Bd.returns rfl rfl (hb hby d25_9) (ok rfl) (ok rfl) ?_
  have K936 : Keep h0 T935.heap [] := K0.trans K935 all0
  exact ⟨x935, rfl, N935, K936, g935E, t935, kb935, cd935, N2935, vs935, g935v, g935c, g935V, g935O⟩
theorem efWc3 (x : Addr) (m : MethodId) : entryFrame m #[(.ref x)] 1 = mkF m 0 #[.val (.ref x)] [] := by first | (simp [entryFrame, mkF, argsToLocals, Value.category]; done) | rfl
def QWc3 (Z : State) (x t : Addr) (kt : ClassId) (cd N2 : Int32) (vs : List Value) (c1 c2 zc : Int32) (fm : Value) (h0 : Heap) (n0 : Nat) (v : Option Value) (h : Heap) (L : List Loc) : Prop := ∃ x, v = some (.ref x) ∧ Fr n0 L ∧ Keep h0 h [] ∧ Exa Z h x "java/lang/String" ∧ ∃ t kb cd N2 vs, Fld Z h x "java/lang/String" "value" "[B" (.ref t) ∧ Fld Z h x "java/lang/String" "coder" "B" (.int cd) ∧ Arv Z h t kb .byte N2 vs (.int (0 : Int32)) ∧ StrChars.Road.CodA ([c1, c2] : List Int32) cd N2 vs
set_option maxRecDepth 65536 in
set_option maxHeartbeats 40000000 in
theorem rmWc3 (l : Launch) (Z : State) (a0 : Array Value) (hw : ∀ d ∈ tables_1, d.before a0 Z = true) (ws : List Jvm.Cond) (x t : Addr) (kt : ClassId) (cd N2 : Int32) (vs : List Value) (c1 c2 zc : Int32) (fm : Value) (h0 : Heap) (n0 : Nat) (Z0 : n0 ≤ h0.size) (O0 : Old Z n0 h0) (S_CS : Sta Z Z.heap "java/lang/String" "COMPACT_STRINGS" "Z" (.int zc)) (hzc : ¬ zc = 0) (S_FM : Sta Z Z.heap "jdk/internal/util/Preconditions" "SIOOBE_FORMATTER" "Ljava/util/function/BiFunction;" fm) (hfm : fm.isRef = true) (S_AD : Sta Z Z.heap "java/lang/StringUTF16" "$assertionsDisabled" "Z" (.int (1 : Int32))) (S_HI : Sta Z Z.heap "java/lang/StringUTF16" "HI_BYTE_SHIFT" "I" (.int (0 : Int32))) (S_LO : Sta Z Z.heap "java/lang/StringUTF16" "LO_BYTE_SHIFT" "I" (.int (8 : Int32))) (Ex : Exa Z h0 x "java/lang/String") (Vx : Fld Z h0 x "java/lang/String" "value" "[B" (.ref t)) (Cx : Fld Z h0 x "java/lang/String" "coder" "B" (.int cd)) (Kt : Arv Z h0 t kt .byte N2 vs (.int (0 : Int32))) (hcod : StrChars.Road.CodA ([(65279 : Int32), c1, c2] : List Int32) cd N2 vs) (h_c1 : C16 c1) (h_c2 : C16 c2) :
    OwnLaw l y0_ prog_17_method_7_code 1 (some (.object "java/lang/String")) ws (rR 8 3 10 123) #[(.ref x)] Z h0 (QWc3 Z x t kt cd N2 vs c1 c2 zc fm h0 n0) := by
  refine own_enter (plainFor_of_name pn_com_example_epaulet_epaulet_io_InputFiles) (efWc3 x) ?_
  intro p e s m below meth c s₁ Bd hx hby hml hZ hown X0 e0
  have N0 := Fr.nil n0
  have K0 : Keep h0 h0 [] := Keep.refl _ _
  rcases hcod with ⟨-, -, -, hno⟩ | ⟨rfl, rfl, rfl, hcod⟩
  · exact absurd (by decide) (hno (65279 : Int32) (by simp))
  have Kt : Arv Z h0 t kt .byte (6 : Int32) [(.int (StrChars.lo8 (65279 : Int32))), (.int (StrChars.hi8 (65279 : Int32))), (.int (StrChars.lo8 c1)), (.int (StrChars.hi8 c1)), (.int (StrChars.lo8 c2)), (.int (StrChars.hi8 c2))] (.int (0 : Int32)) := Kt
  have hbd937 : ∀ c ∈ ([(65279 : Int32), c1, c2] : List Int32), ¬ c < 0 ∧ ¬ (65535 : Int32) < c := by
    intro c hc
    simp only [List.mem_cons, List.not_mem_nil, or_false] at hc
    rcases hc with rfl | rfl | rfl
    · exact (show C16 (65279 : Int32) from by unfold C16; decide)
    · exact h_c1
    · exact h_c2
  refine P1.aloadN X0.here hx (hb hby d6_0) rfl rfl ?_
  refine Goes.callV X0 hx hZ (y := y12_) (z := y12_) (Qc := fun v h' L => (v = some (.int (if ([(65279 : Int32), c1, c2] : List Int32).length = 0 then 1 else 0)) ∧ L = [] ∧ h' = h0)) hown (mvT hZ (own_w hw 35 rfl)) (mvT hZ (own_w hw 36 rfl)) (notFace_of_selects (args := #[]) (mvT hZ (own_w hw 38 rfl))) (mvT hZ (own_w hw 38 rfl)) (mvT hZ (own_w hw 37 rfl)) (by decide) (kc' := 0) (ks' := 0) (StrChars.Road.empW (W := 0) hZ (fun d hd => hw d (in_wordsEmp d hd)) (kI := 4) (own_w hw 10 rfl) Ex Vx Cx Kt (show StrChars.Road.CodA ([(65279 : Int32), c1, c2] : List Int32) (1 : Int32) (6 : Int32) [(.int (StrChars.lo8 (65279 : Int32))), (.int (StrChars.hi8 (65279 : Int32))), (.int (StrChars.lo8 c1)), (.int (StrChars.hi8 c1)), (.int (StrChars.lo8 c2)), (.int (StrChars.hi8 c2))] from Or.inr ⟨rfl, rfl, rfl, hcod⟩) hbd937 (ok rfl) (ok rfl) (ok rfl)) (b := x) e0 Ex (g := (mkF m 1 #[.val (.ref x)] [(.ref x)])) rfl (by rw [hml]; rfl) (argsL := []) (rest := []) (lenOf pd_392 rfl) rfl (by show 2 * 0 + _ ≤ _; exact Nat.le_of_eq rfl) (hb hby d6_1) rfl (ok rfl) (ok rfl) ?_
  intro v938 T938 L938 q938 X938
  obtain ⟨rfl, rfl, hE938⟩ := q938
  have N938 := Fr.app N0 (Fr.nil n0)
  show Goes p e below _ T938 (mkF m 4 #[.val (.ref x)] [(.int (0 : Int32))])
  refine P1.ifNo X938.here hx (hb hby d6_4) ((if0 _ _).trans (teq (by decide : (0 : Int32) = (0 : Int32))).2) ?_
  refine P1.aloadN X938.here hx (hb hby d6_7) rfl rfl ?_
  refine P1.iconst X938.here hx (0 : Int32) (hb hby d6_8) rfl ?_
  refine Goes.callV X938 hx hZ (y := y7_) (z := y7_) hown (mvT hZ (own_w hw 56 rfl)) (mvT hZ (own_w hw 57 rfl)) (notFace_of_selects (args := #[]) (mvT hZ (own_w hw 59 rfl))) (mvT hZ (own_w hw 59 rfl)) (mvT hZ (own_w hw 58 rfl)) (by decide) (kc' := 0) (ks' := 0) (backOf (W := 0) (rmCw3 l Z a0 hw [] x t kt (65279 : Int32) c1 c2 zc fm h0 n0 Z0 O0 S_CS hzc S_FM hfm S_AD S_HI S_LO Ex Vx Cx Kt (show C16 (65279 : Int32) from by unfold C16; decide) h_c1 h_c2) hZ (own_w hw 60 rfl) (own_w hw 11 rfl) (ok rfl) (ok rfl)) (b := x) hE938 Ex (g := (mkF m 9 #[.val (.ref x)] [(.int (0 : Int32)), (.ref x)])) rfl (by rw [hml]; rfl) (argsL := [(.int (0 : Int32))]) (rest := []) (lenOf pd_577 rfl) rfl (by show 2 * 0 + _ ≤ _; exact Nat.le_of_eq rfl) (hb hby d6_9) rfl (ok rfl) (ok rfl) ?_
  intro v939 T939 L939 q939 X939
  obtain ⟨rfl, N939q, hE939⟩ := q939
  have N939 := Fr.app N938 N939q
  show Goes p e below _ T939 (mkF m 12 #[.val (.ref x)] [(.int (65279 : Int32))])
  refine P1.ldcI X939 hx hZ hown (own_w hw 78 rfl) (hb hby d6_12) ?_
  refine P1.icmpNo X939.here hx (hb hby d6_14) (teq (by decide : (65279 : Int32) = (65279 : Int32))).2 ?_
  refine P1.aloadN X939.here hx (hb hby d6_17) rfl rfl ?_
  refine P1.iconst X939.here hx (1 : Int32) (hb hby d6_18) rfl ?_
  refine Goes.callV X939 hx hZ (y := y15_) (z := y15_) hown (mvT hZ (own_w hw 109 rfl)) (mvT hZ (own_w hw 110 rfl)) (notFace_of_selects (args := #[]) (mvT hZ (own_w hw 112 rfl))) (mvT hZ (own_w hw 112 rfl)) (mvT hZ (own_w hw 111 rfl)) (by decide) (kc' := 3) (ks' := 10) (backOf (W := 0) (rmSb3 l Z a0 hw [] x t kt (65279 : Int32) c1 c2 zc fm h0 n0 Z0 O0 S_CS hzc S_FM hfm S_AD S_HI S_LO Ex Vx Cx Kt (show C16 (65279 : Int32) from by unfold C16; decide) h_c1 h_c2 hcod) hZ (own_w hw 113 rfl) (own_w hw 11 rfl) (ok rfl) (ok rfl)) (b := x) hE939 Ex (g := (mkF m 19 #[.val (.ref x)] [(.int (1 : Int32)), (.ref x)])) rfl (by rw [hml]; rfl) (argsL := [(.int (1 : Int32))]) (rest := []) (lenOf pd_21532 rfl) rfl (by show 2 * 0 + _ ≤ _; exact Nat.le_of_eq rfl) (hb hby d6_19) rfl (ok rfl) (ok rfl) ?_
  intro v940 T940 L940 q940 X940
  obtain ⟨x940, rfl, N940q, K940, g940E, t940, kb940, cd940, N2940, vs940, g940v, g940c, g940V, g940O⟩ := q940
  have N940 := Fr.app N939 N940q
  show Goes p e below _ T940 (mkF m 22 #[.val (.ref x)] [(.ref x940)])
  refine P1.goto X940.here hx 26 (hb hby d6_22) (by decide) (by decide) ?_
  refine Goes.retA X940 hx Bd.notSynchronized Bd.returns rfl rfl (hb hby d6_26) (ok rfl) (ok rfl) ?_
  have K941 : Keep h0 T940.heap [] := K0.trans K940 all0
  exact ⟨x940, rfl, N940, K941, g940E, t940, kb940, cd940, N2940, vs940, g940v, g940c, g940V, g940O⟩
theorem pd_27547 : parseMethodDescriptor "(ICCC)Ljava/lang/String;" = some ⟨[.int, .char, .char, .char], some (.object "java/lang/String")⟩ := by decide +kernel
theorem pd_68746 : parseMethodDescriptor "(Ljava/lang/String;)Ljava/lang/String;" = some ⟨[(.object "java/lang/String")], some (.object "java/lang/String")⟩ := by decide +kernel
theorem in_wordsEq : ∀ d ∈ StrChars.Road.wordsEq, d ∈ tables_1 := by decide +kernel
theorem pd_20140 : parseMethodDescriptor "(Ljava/lang/Object;)Z" = some ⟨[(.object "java/lang/Object")], some .boolean⟩ := by decide +kernel
theorem ef0 (p0 p1 p2 p3 : Int32) (m : MethodId) : entryFrame m #[(.int p0), (.int p1), (.int p2), (.int p3)] maxLocals = mkF m 0 #[.val (.int p0), .val (.int p1), .val (.int p2), .val (.int p3), .unset, .unset, .unset, .unset, .unset, .unset, .unset] [] := by first | (simp [entryFrame, mkF, argsToLocals, Value.category, maxLocals]; done) | rfl
def Q0 (Z : State) (p0 p1 p2 p3 zc : Int32) (fm : Value) (h0 : Heap) (n0 : Nat) (v : Option Value) (h : Heap) (L : List Loc) : Prop := v = some (.int 1) ∧ Fr n0 L
set_option maxRecDepth 65536 in
set_option maxHeartbeats 40000000 in
theorem rm0 (l : Launch) (Z : State) (a0 : Array Value) (hw : ∀ d ∈ tables_1, d.before a0 Z = true) (ws : List Jvm.Cond) (p0 p1 p2 p3 zc : Int32) (fm : Value) (h0 : Heap) (n0 : Nat) (Z0 : n0 ≤ h0.size) (O0 : Old Z n0 h0) (S_CS : Sta Z Z.heap "java/lang/String" "COMPACT_STRINGS" "Z" (.int zc)) (hzc : ¬ zc = 0) (S_FM : Sta Z Z.heap "jdk/internal/util/Preconditions" "SIOOBE_FORMATTER" "Ljava/util/function/BiFunction;" fm) (hfm : fm.isRef = true) (S_AD : Sta Z Z.heap "java/lang/StringUTF16" "$assertionsDisabled" "Z" (.int (1 : Int32))) (S_HI : Sta Z Z.heap "java/lang/StringUTF16" "HI_BYTE_SHIFT" "I" (.int (0 : Int32))) (S_LO : Sta Z Z.heap "java/lang/StringUTF16" "LO_BYTE_SHIFT" "I" (.int (8 : Int32))) :
    OwnLawW l x code maxLocals ret ws room_1 #[(.int p0), (.int p1), (.int p2), (.int p3)] Z EL1 h0 (Q0 Z p0 p1 p2 p3 zc fm h0 n0) := by
  refine own_enterW (plainFor_of_name pn_com_example_epaulet_epaulet_io_InputFilesWithoutByteOrderMarkPinLaw) (ef0 p0 p1 p2 p3) ?_
  intro p e s m below meth c s₁ Bd hx hby hml hZ hown X0 e0 hh hS0 CR0
  have hml : c.maxLocals = 11 := hml
  have N0 := Fr.nil n0
  have hEL : EW Z a0 EL1 := own_EL hw
  have ks0 : h0.size ≤ h0.size := Nat.le_refl _
  have K0 : Keep h0 h0 [] := Keep.refl _ _
  refine P1.iloadN X0.here hx (hb hby at_0) rfl ?_
  refine P1.iconst X0.here hx (3 : Int32) (hb hby at_1) rfl ?_
  refine P1.iand X0.here hx (hb hby at_2) ?_
  refine P1.istore X0.here hx #[.val (.int p0), .val (.int p1), .val (.int p2), .val (.int p3), .val (.int (p0 &&& (3 : Int32))), .unset, .unset, .unset, .unset, .unset, .unset] (hb hby at_3) rfl ?_
  refine P1.iloadN X0.here hx (hb hby at_5) rfl ?_
  refine P1.callS X0 hx hZ hown (own_w hw 0 rfl) (own_w hw 1 rfl) (own_w hw 2 rfl) (own_w hw 3 rfl) (by decide) (rmCh l Z a0 hw [] p1 h0 n0 Z0 O0 ) hml [(.int p1)] [] (lenOf pd_577 rfl) rfl rfl (hb hby at_6) rfl e0 (ok rfl) (ok rfl) (ok rfl) (ok rfl) ?_
  intro v942 T942 L942 q942 X942
  obtain ⟨r942, rfl, h_r942, N942q, hE942⟩ := q942
  have N942 := Fr.app N0 N942q
  show Goes p e below _ T942 (mkF m 9 #[.val (.int p0), .val (.int p1), .val (.int p2), .val (.int p3), .val (.int (p0 &&& (3 : Int32))), .unset, .unset, .unset, .unset, .unset, .unset] [(.int r942)])
  refine P1.istore X942.here hx #[.val (.int p0), .val (.int p1), .val (.int p2), .val (.int p3), .val (.int (p0 &&& (3 : Int32))), .val (.int r942), .unset, .unset, .unset, .unset, .unset] (hb hby at_9) rfl ?_
  refine P1.iloadN X942.here hx (hb hby at_11) rfl ?_
  refine P1.callS X942 hx hZ hown (own_w hw 0 rfl) (own_w hw 1 rfl) (own_w hw 2 rfl) (own_w hw 3 rfl) (by decide) (rmCh l Z a0 hw [] p2 h0 n0 Z0 O0 ) hml [(.int p2)] [] (lenOf pd_577 rfl) rfl rfl (hb hby at_12) rfl hE942 (ok rfl) (ok rfl) (ok rfl) (ok rfl) ?_
  intro v943 T943 L943 q943 X943
  obtain ⟨r943, rfl, h_r943, N943q, hE943⟩ := q943
  have N943 := Fr.app N942 N943q
  show Goes p e below _ T943 (mkF m 15 #[.val (.int p0), .val (.int p1), .val (.int p2), .val (.int p3), .val (.int (p0 &&& (3 : Int32))), .val (.int r942), .unset, .unset, .unset, .unset, .unset] [(.int r943)])
  refine P1.istore X943.here hx #[.val (.int p0), .val (.int p1), .val (.int p2), .val (.int p3), .val (.int (p0 &&& (3 : Int32))), .val (.int r942), .val (.int r943), .unset, .unset, .unset, .unset] (hb hby at_15) rfl ?_
  refine P1.iloadN X943.here hx (hb hby at_17) rfl ?_
  refine P1.callS X943 hx hZ hown (own_w hw 0 rfl) (own_w hw 1 rfl) (own_w hw 2 rfl) (own_w hw 3 rfl) (by decide) (rmCh l Z a0 hw [] p3 h0 n0 Z0 O0 ) hml [(.int p3)] [] (lenOf pd_577 rfl) rfl rfl (hb hby at_18) rfl hE943 (ok rfl) (ok rfl) (ok rfl) (ok rfl) ?_
  intro v944 T944 L944 q944 X944
  obtain ⟨r944, rfl, h_r944, N944q, hE944⟩ := q944
  have N944 := Fr.app N943 N944q
  show Goes p e below _ T944 (mkF m 21 #[.val (.int p0), .val (.int p1), .val (.int p2), .val (.int p3), .val (.int (p0 &&& (3 : Int32))), .val (.int r942), .val (.int r943), .unset, .unset, .unset, .unset] [(.int r944)])
  refine P1.istore X944.here hx #[.val (.int p0), .val (.int p1), .val (.int p2), .val (.int p3), .val (.int (p0 &&& (3 : Int32))), .val (.int r942), .val (.int r943), .val (.int r944), .unset, .unset, .unset] (hb hby at_21) rfl ?_
  rcases own_n3 p0 with hn | hn | hn | hn
  ·
    have rw945 : (p0 &&& (3 : Int32)) = (0 : Int32) := hn
    rw [rw945]
    refine P1.iload X944.here hx (hb hby at_23) rfl ?_
    refine P1.iload X944.here hx (hb hby at_25) rfl ?_
    refine P1.iload X944.here hx (hb hby at_27) rfl ?_
    refine P1.iload X944.here hx (hb hby at_29) rfl ?_
    refine Goes.callSW X944 hx (y := y2_) hS0 ks0 hZ hown (mvT hZ (own_w hw 6 rfl)) (mvT hZ (own_w hw 7 rfl)) (mvT hZ (own_w hw 2 rfl)) (mvT hZ (own_w hw 8 rfl)) (by decide) (kc' := 6) (ks' := 12) (backOfSH (W := 0) (rmMk0 l Z a0 hw [] r942 r943 r944 h0 n0 Z0 O0 ) hZ (own_w hw 8 rfl) (own_w hw 2 rfl) (ok rfl) (ok rfl) hEL CR0.1) (g := (mkF m 31 #[.val (.int p0), .val (.int p1), .val (.int p2), .val (.int p3), .val (.int (0 : Int32)), .val (.int r942), .val (.int r943), .val (.int r944), .unset, .unset, .unset] [(.int r944), (.int r943), (.int r942), (.int (0 : Int32))])) rfl (by rw [hml]; rfl) (argsL := [(.int (0 : Int32)), (.int r942), (.int r943), (.int r944)]) (rest := []) (lenOf pd_27547 rfl) rfl (by show 2 * 0 + _ ≤ _; exact Nat.le_of_eq rfl) (hb hby at_31) rfl hE944 (ok rfl) (ok rfl) ?_
    intro v946 T946 L946 q946 Y946
    obtain ⟨X946, hS946, hZ, hown, CW946⟩ := Y946
    obtain ⟨x946, rfl, N946q, K946, g946E, t946, kb946, cd946, N2946, vs946, g946v, g946c, g946V, g946O⟩ := q946
    have N946 := Fr.app N944 N946q
    have ks946 : T946.heap.size ≤ T946.heap.size := Nat.le_refl _
    have hbd947 : ∀ c ∈ ([] : List Int32), ¬ c < 0 ∧ ¬ (65535 : Int32) < c := fun _ q => nomatch q
    show Goes p e below _ T946 (mkF m 34 #[.val (.int p0), .val (.int p1), .val (.int p2), .val (.int p3), .val (.int (0 : Int32)), .val (.int r942), .val (.int r943), .val (.int r944), .unset, .unset, .unset] [(.ref x946)])
    refine P1.astore X946.here hx #[.val (.int p0), .val (.int p1), .val (.int p2), .val (.int p3), .val (.int (0 : Int32)), .val (.int r942), .val (.int r943), .val (.int r944), .val (.ref x946), .unset, .unset] (hb hby at_34) rfl rfl ?_
    refine P1.aload X946.here hx (hb hby at_36) rfl rfl ?_
    have Z948 : n0 ≤ T946.heap.size := Nat.le_trans Z0 K946.1
    have O949 : Old Z n0 T946.heap := O0.keep K946 all0
    refine P1.callS X946 hx hZ hown (own_w hw 31 rfl) (own_w hw 32 rfl) (own_w hw 33 rfl) (own_w hw 34 rfl) (by decide) (rmWb0 l Z a0 hw [] x946 t946 kb946 cd946 N2946 vs946 zc fm T946.heap n0 Z948 O949 S_CS hzc S_FM hfm S_AD S_HI S_LO g946E g946v g946c g946V g946O) hml [(.ref x946)] [] (lenOf pd_68746 rfl) rfl rfl (hb hby at_38) rfl rfl (ok rfl) (ok rfl) (ok rfl) (ok rfl) ?_
    intro v950 T950 L950 q950 X950
    obtain ⟨rfl, N950q, hE950⟩ := q950
    have N950 := Fr.app N946 N950q
    show Goes p e below _ T950 (mkF m 41 #[.val (.int p0), .val (.int p1), .val (.int p2), .val (.int p3), .val (.int (0 : Int32)), .val (.int r942), .val (.int r943), .val (.int r944), .val (.ref x946), .unset, .unset] [(.ref x946)])
    refine P1.astore X950.here hx #[.val (.int p0), .val (.int p1), .val (.int p2), .val (.int p3), .val (.int (0 : Int32)), .val (.int r942), .val (.int r943), .val (.int r944), .val (.ref x946), .val (.ref x946), .unset] (hb hby at_41) rfl rfl ?_
    refine P1.iload X950.here hx (hb hby at_43) rfl ?_
    refine P1.ifYes X950.here hx 71 (hb hby at_45) ((if0 _ _).trans (flt (by decide : ¬ ((0 : Int32) < (0 : Int32)))).2.2.2) (by decide) (by decide) ?_
    refine P1.aload X950.here hx (hb hby at_71) rfl rfl ?_
    refine P1.astore X950.here hx #[.val (.int p0), .val (.int p1), .val (.int p2), .val (.int p3), .val (.int (0 : Int32)), .val (.int r942), .val (.int r943), .val (.int r944), .val (.ref x946), .val (.ref x946), .val (.ref x946)] (hb hby at_73) rfl rfl ?_
    refine P1.aload X950.here hx (hb hby at_75) rfl rfl ?_
    refine P1.aload X950.here hx (hb hby at_77) rfl rfl ?_
    refine Goes.callV X950 hx hZ (y := y11_) (z := y11_) (Qc := fun v h' L => (((v = some (.int 1) ∧ ([] : List Int32) = ([] : List Int32)) ∨ (v = some (.int 0) ∧ ¬ ([] : List Int32) = ([] : List Int32))) ∧ L = [] ∧ h' = T946.heap)) hown (mvT hZ (own_w hw 40 rfl)) (mvT hZ (own_w hw 41 rfl)) (notFace_of_selects (args := #[]) (mvT hZ (own_w hw 43 rfl))) (mvT hZ (own_w hw 43 rfl)) (mvT hZ (own_w hw 42 rfl)) (by decide) (kc' := 0) (ks' := 0) (StrChars.Road.eqW (W := 0) (s := s.setVm T946.vm) hZ (fun d hd => hw d (in_wordsEq d hd)) (kI := 4) (own_w hw 10 rfl) g946E g946v g946c g946V g946O hbd947 (ok rfl) g946E g946v g946c g946V g946O hbd947 (ok rfl) (S_CS.ext O949.2) hzc (ok rfl) (ok rfl)) (b := x946) hE950 g946E (g := (mkF m 79 #[.val (.int p0), .val (.int p1), .val (.int p2), .val (.int p3), .val (.int (0 : Int32)), .val (.int r942), .val (.int r943), .val (.int r944), .val (.ref x946), .val (.ref x946), .val (.ref x946)] [(.ref x946), (.ref x946)])) rfl (by rw [hml]; rfl) (argsL := [(.ref x946)]) (rest := []) (lenOf pd_20140 rfl) rfl (by show 2 * 0 + _ ≤ _; exact Nat.le_of_eq rfl) (hb hby at_79) rfl (ok rfl) (ok rfl) ?_
    intro v951 T951 L951 q951 X951
    obtain ⟨q951, rfl, hE951⟩ := q951
    have N951 := Fr.app N950 (Fr.nil n0)
    obtain ⟨rfl, -⟩ := q951.resolve_right (fun z => z.2 rfl)
    show Goes p e below _ T951 (mkF m 82 #[.val (.int p0), .val (.int p1), .val (.int p2), .val (.int p3), .val (.int (0 : Int32)), .val (.int r942), .val (.int r943), .val (.int r944), .val (.ref x946), .val (.ref x946), .val (.ref x946)] [(.int (1 : Int32))])
    have CR952 : CHr Z EL1 s.vm h0 T946.vm T946.heap := CR0.trans CW946
    refine Goes.retNW X951 hx Bd.notSynchronized hS946 ks946 hZ hEL (hh ▸ CR952) hE951 (t := .boolean) Bd.returns (by simp) (hb hby at_82) (ok rfl) (ok rfl) ?_
    exact ⟨rfl, N951⟩
  ·
    have rw953 : (p0 &&& (3 : Int32)) = (1 : Int32) := hn
    rw [rw953]
    by_cases hbom : r942 = (65279 : Int32)
    ·
      subst hbom
      refine P1.iload X944.here hx (hb hby at_23) rfl ?_
      refine P1.iload X944.here hx (hb hby at_25) rfl ?_
      refine P1.iload X944.here hx (hb hby at_27) rfl ?_
      refine P1.iload X944.here hx (hb hby at_29) rfl ?_
      refine P1.callS X944 hx hZ hown (own_w hw 6 rfl) (own_w hw 7 rfl) (own_w hw 2 rfl) (own_w hw 8 rfl) (by decide) (rmMk1 l Z a0 hw [] (65279 : Int32) r943 r944 zc fm h0 n0 Z0 O0 S_CS hzc S_FM hfm S_AD S_HI S_LO (show C16 (65279 : Int32) from by unfold C16; decide) h_r943 h_r944) hml [(.int (1 : Int32)), (.int (65279 : Int32)), (.int r943), (.int r944)] [] (lenOf pd_27547 rfl) rfl rfl (hb hby at_31) rfl hE944 (ok rfl) (ok rfl) (ok rfl) (ok rfl) ?_
      intro v954 T954 L954 q954 X954
      obtain ⟨x954, rfl, N954q, K954, g954E, t954, kb954, cd954, N2954, vs954, g954v, g954c, g954V, g954O⟩ := q954
      have N954 := Fr.app N944 N954q
      have hbd955 : ∀ c ∈ ([(65279 : Int32)] : List Int32), ¬ c < 0 ∧ ¬ (65535 : Int32) < c := by
        intro c hc
        simp only [List.mem_cons, List.not_mem_nil, or_false] at hc
        rcases hc with rfl
        · exact (show C16 (65279 : Int32) from by unfold C16; decide)
      show Goes p e below _ T954 (mkF m 34 #[.val (.int p0), .val (.int p1), .val (.int p2), .val (.int p3), .val (.int (1 : Int32)), .val (.int (65279 : Int32)), .val (.int r943), .val (.int r944), .unset, .unset, .unset] [(.ref x954)])
      refine P1.astore X954.here hx #[.val (.int p0), .val (.int p1), .val (.int p2), .val (.int p3), .val (.int (1 : Int32)), .val (.int (65279 : Int32)), .val (.int r943), .val (.int r944), .val (.ref x954), .unset, .unset] (hb hby at_34) rfl rfl ?_
      refine P1.aload X954.here hx (hb hby at_36) rfl rfl ?_
      have Z956 : n0 ≤ T954.heap.size := Nat.le_trans Z0 K954.1
      have O957 : Old Z n0 T954.heap := O0.keep K954 all0
      have CR958 : CHr Z EL1 s.vm h0 s.vm T954.heap := CR0.trans (CHr.keep K954 sf0 CR0.1)
      have ks960 : h0.size ≤ T954.heap.size := Nat.le_trans ks0 K954.1
      refine Goes.callSW X954 hx (y := y0_) hS0 ks960 hZ hown (mvT hZ (own_w hw 31 rfl)) (mvT hZ (own_w hw 32 rfl)) (mvT hZ (own_w hw 33 rfl)) (mvT hZ (own_w hw 34 rfl)) (by decide) (kc' := 2) (ks' := 4) (backOfSH (W := 0) (rmWc1 l Z a0 hw [] x954 t954 kb954 cd954 N2954 vs954 zc fm T954.heap n0 Z956 O957 S_CS hzc S_FM hfm S_AD S_HI S_LO g954E g954v g954c g954V g954O) hZ (own_w hw 34 rfl) (own_w hw 33 rfl) (ok rfl) (ok rfl) hEL CR958.1) (g := (mkF m 38 #[.val (.int p0), .val (.int p1), .val (.int p2), .val (.int p3), .val (.int (1 : Int32)), .val (.int (65279 : Int32)), .val (.int r943), .val (.int r944), .val (.ref x954), .unset, .unset] [(.ref x954)])) rfl (by rw [hml]; rfl) (argsL := [(.ref x954)]) (rest := []) (lenOf pd_68746 rfl) rfl (by show 2 * 0 + _ ≤ _; exact Nat.le_of_eq rfl) (hb hby at_38) rfl rfl (ok rfl) (ok rfl) ?_
      intro v959 T959 L959 q959 Y959
      obtain ⟨X959, hS959, hZ, hown, CW959⟩ := Y959
      obtain ⟨x959, rfl, N959q, K959, g959E, t959, kb959, cd959, N2959, vs959, g959v, g959c, g959V, g959O⟩ := q959
      have N959 := Fr.app N954 N959q
      have ks959 : T959.heap.size ≤ T959.heap.size := Nat.le_refl _
      have hbd961 : ∀ c ∈ ([] : List Int32), ¬ c < 0 ∧ ¬ (65535 : Int32) < c := fun _ q => nomatch q
      show Goes p e below _ T959 (mkF m 41 #[.val (.int p0), .val (.int p1), .val (.int p2), .val (.int p3), .val (.int (1 : Int32)), .val (.int (65279 : Int32)), .val (.int r943), .val (.int r944), .val (.ref x954), .unset, .unset] [(.ref x959)])
      refine P1.astore X959.here hx #[.val (.int p0), .val (.int p1), .val (.int p2), .val (.int p3), .val (.int (1 : Int32)), .val (.int (65279 : Int32)), .val (.int r943), .val (.int r944), .val (.ref x954), .val (.ref x959), .unset] (hb hby at_41) rfl rfl ?_
      refine P1.iload X959.here hx (hb hby at_43) rfl ?_
      refine P1.ifNo X959.here hx (hb hby at_45) ((if0 _ _).trans (tlt (by decide : (0 : Int32) < (1 : Int32))).2.2.2) ?_
      refine P1.iload X959.here hx (hb hby at_48) rfl ?_
      refine P1.ldcI X959 hx hZ hown (own_w hw 79 rfl) (hb hby at_50) ?_
      refine P1.icmpNo X959.here hx (hb hby at_52) (teq (by decide : (65279 : Int32) = (65279 : Int32))).2 ?_
      refine P1.iload X959.here hx (hb hby at_55) rfl ?_
      refine P1.iconst X959.here hx (1 : Int32) (hb hby at_57) rfl ?_
      refine P1.isub X959.here hx (hb hby at_58) ?_
      have rw962 : ((1 : Int32) - (1 : Int32)) = (0 : Int32) := by decide
      rw [rw962]
      refine P1.iload X959.here hx (hb hby at_59) rfl ?_
      refine P1.iload X959.here hx (hb hby at_61) rfl ?_
      refine P1.iload X959.here hx (hb hby at_63) rfl ?_
      have Z963 : n0 ≤ T959.heap.size := Nat.le_trans Z956 K959.1
      have O964 : Old Z n0 T959.heap := O957.keep K959 all0
      have CR965 : CHr Z EL1 s.vm h0 T959.vm T959.heap := CR958.trans CW959
      refine Goes.callSW X959 hx (y := y2_) hS959 ks959 hZ hown (mvT hZ (own_w hw 6 rfl)) (mvT hZ (own_w hw 7 rfl)) (mvT hZ (own_w hw 2 rfl)) (mvT hZ (own_w hw 8 rfl)) (by decide) (kc' := 6) (ks' := 12) (backOfSH (W := 0) (rmMk0 l Z a0 hw [] r943 r944 r944 T959.heap n0 Z963 O964 ) hZ (own_w hw 8 rfl) (own_w hw 2 rfl) (ok rfl) (ok rfl) hEL CR965.1) (g := (mkF m 65 #[.val (.int p0), .val (.int p1), .val (.int p2), .val (.int p3), .val (.int (1 : Int32)), .val (.int (65279 : Int32)), .val (.int r943), .val (.int r944), .val (.ref x954), .val (.ref x959), .unset] [(.int r944), (.int r944), (.int r943), (.int (0 : Int32))])) rfl (by rw [hml]; rfl) (argsL := [(.int (0 : Int32)), (.int r943), (.int r944), (.int r944)]) (rest := []) (lenOf pd_27547 rfl) rfl (by show 2 * 0 + _ ≤ _; exact Nat.le_of_eq rfl) (hb hby at_65) rfl rfl (ok rfl) (ok rfl) ?_
      intro v966 T966 L966 q966 Y966
      obtain ⟨X966, hS966, hZ, hown, CW966⟩ := Y966
      obtain ⟨x966, rfl, N966q, K966, g966E, t966, kb966, cd966, N2966, vs966, g966v, g966c, g966V, g966O⟩ := q966
      have N966 := Fr.app N959 N966q
      have ks966 : T966.heap.size ≤ T966.heap.size := Nat.le_refl _
      have hbd967 : ∀ c ∈ ([] : List Int32), ¬ c < 0 ∧ ¬ (65535 : Int32) < c := fun _ q => nomatch q
      show Goes p e below _ T966 (mkF m 68 #[.val (.int p0), .val (.int p1), .val (.int p2), .val (.int p3), .val (.int (1 : Int32)), .val (.int (65279 : Int32)), .val (.int r943), .val (.int r944), .val (.ref x954), .val (.ref x959), .unset] [(.ref x966)])
      refine P1.goto X966.here hx 73 (hb hby at_68) (by decide) (by decide) ?_
      refine P1.astore X966.here hx #[.val (.int p0), .val (.int p1), .val (.int p2), .val (.int p3), .val (.int (1 : Int32)), .val (.int (65279 : Int32)), .val (.int r943), .val (.int r944), .val (.ref x954), .val (.ref x959), .val (.ref x966)] (hb hby at_73) rfl rfl ?_
      refine P1.aload X966.here hx (hb hby at_75) rfl rfl ?_
      refine P1.aload X966.here hx (hb hby at_77) rfl rfl ?_
      have E968 : Exa Z T966.heap x959 "java/lang/String" := g959E.keep K966
      have F969 : Fld Z T966.heap x959 "java/lang/String" "value" "[B" (.ref t959) := g959v.keep K966 nin0
      have F970 : Fld Z T966.heap x959 "java/lang/String" "coder" "B" (.int cd959) := g959c.keep K966 nin0
      have V971 : Arv Z T966.heap t959 kb959 .byte N2959 vs959 (.int (0 : Int32)) := g959V.keep K966 nin0
      have O972 : Old Z n0 T966.heap := O964.keep K966 all0
      refine Goes.callV X966 hx hZ (y := y11_) (z := y11_) (Qc := fun v h' L => (((v = some (.int 1) ∧ ([] : List Int32) = ([] : List Int32)) ∨ (v = some (.int 0) ∧ ¬ ([] : List Int32) = ([] : List Int32))) ∧ L = [] ∧ h' = T966.heap)) hown (mvT hZ (own_w hw 40 rfl)) (mvT hZ (own_w hw 41 rfl)) (notFace_of_selects (args := #[]) (mvT hZ (own_w hw 43 rfl))) (mvT hZ (own_w hw 43 rfl)) (mvT hZ (own_w hw 42 rfl)) (by decide) (kc' := 0) (ks' := 0) (StrChars.Road.eqW (W := 0) (s := s.setVm T966.vm) hZ (fun d hd => hw d (in_wordsEq d hd)) (kI := 4) (own_w hw 10 rfl) E968 F969 F970 V971 g959O hbd961 (ok rfl) g966E g966v g966c g966V g966O hbd967 (ok rfl) (S_CS.ext O972.2) hzc (ok rfl) (ok rfl)) (b := x959) rfl E968 (g := (mkF m 79 #[.val (.int p0), .val (.int p1), .val (.int p2), .val (.int p3), .val (.int (1 : Int32)), .val (.int (65279 : Int32)), .val (.int r943), .val (.int r944), .val (.ref x954), .val (.ref x959), .val (.ref x966)] [(.ref x966), (.ref x959)])) rfl (by rw [hml]; rfl) (argsL := [(.ref x966)]) (rest := []) (lenOf pd_20140 rfl) rfl (by show 2 * 0 + _ ≤ _; exact Nat.le_of_eq rfl) (hb hby at_79) rfl (ok rfl) (ok rfl) ?_
      intro v973 T973 L973 q973 X973
      obtain ⟨q973, rfl, hE973⟩ := q973
      have N973 := Fr.app N966 (Fr.nil n0)
      obtain ⟨rfl, -⟩ := q973.resolve_right (fun z => z.2 rfl)
      show Goes p e below _ T973 (mkF m 82 #[.val (.int p0), .val (.int p1), .val (.int p2), .val (.int p3), .val (.int (1 : Int32)), .val (.int (65279 : Int32)), .val (.int r943), .val (.int r944), .val (.ref x954), .val (.ref x959), .val (.ref x966)] [(.int (1 : Int32))])
      have CR974 : CHr Z EL1 s.vm h0 T966.vm T966.heap := CR965.trans CW966
      refine Goes.retNW X973 hx Bd.notSynchronized hS966 ks966 hZ hEL (hh ▸ CR974) hE973 (t := .boolean) Bd.returns (by simp) (hb hby at_82) (ok rfl) (ok rfl) ?_
      exact ⟨rfl, N973⟩
    ·
      refine P1.iload X944.here hx (hb hby at_23) rfl ?_
      refine P1.iload X944.here hx (hb hby at_25) rfl ?_
      refine P1.iload X944.here hx (hb hby at_27) rfl ?_
      refine P1.iload X944.here hx (hb hby at_29) rfl ?_
      refine P1.callS X944 hx hZ hown (own_w hw 6 rfl) (own_w hw 7 rfl) (own_w hw 2 rfl) (own_w hw 8 rfl) (by decide) (rmMk1 l Z a0 hw [] r942 r943 r944 zc fm h0 n0 Z0 O0 S_CS hzc S_FM hfm S_AD S_HI S_LO h_r942 h_r943 h_r944) hml [(.int (1 : Int32)), (.int r942), (.int r943), (.int r944)] [] (lenOf pd_27547 rfl) rfl rfl (hb hby at_31) rfl hE944 (ok rfl) (ok rfl) (ok rfl) (ok rfl) ?_
      intro v975 T975 L975 q975 X975
      obtain ⟨x975, rfl, N975q, K975, g975E, t975, kb975, cd975, N2975, vs975, g975v, g975c, g975V, g975O⟩ := q975
      have N975 := Fr.app N944 N975q
      have hbd976 : ∀ c ∈ ([r942] : List Int32), ¬ c < 0 ∧ ¬ (65535 : Int32) < c := by
        intro c hc
        simp only [List.mem_cons, List.not_mem_nil, or_false] at hc
        rcases hc with rfl
        · exact h_r942
      show Goes p e below _ T975 (mkF m 34 #[.val (.int p0), .val (.int p1), .val (.int p2), .val (.int p3), .val (.int (1 : Int32)), .val (.int r942), .val (.int r943), .val (.int r944), .unset, .unset, .unset] [(.ref x975)])
      refine P1.astore X975.here hx #[.val (.int p0), .val (.int p1), .val (.int p2), .val (.int p3), .val (.int (1 : Int32)), .val (.int r942), .val (.int r943), .val (.int r944), .val (.ref x975), .unset, .unset] (hb hby at_34) rfl rfl ?_
      refine P1.aload X975.here hx (hb hby at_36) rfl rfl ?_
      have Z977 : n0 ≤ T975.heap.size := Nat.le_trans Z0 K975.1
      have O978 : Old Z n0 T975.heap := O0.keep K975 all0
      refine P1.callS X975 hx hZ hown (own_w hw 31 rfl) (own_w hw 32 rfl) (own_w hw 33 rfl) (own_w hw 34 rfl) (by decide) (rmWk1 l Z a0 hw [] x975 t975 kb975 cd975 N2975 vs975 r942 zc fm T975.heap n0 Z977 O978 S_CS hzc S_FM hfm S_AD S_HI S_LO g975E g975v g975c g975V g975O h_r942 hbom) hml [(.ref x975)] [] (lenOf pd_68746 rfl) rfl rfl (hb hby at_38) rfl rfl (ok rfl) (ok rfl) (ok rfl) (ok rfl) ?_
      intro v979 T979 L979 q979 X979
      obtain ⟨rfl, N979q, hE979⟩ := q979
      have N979 := Fr.app N975 N979q
      show Goes p e below _ T979 (mkF m 41 #[.val (.int p0), .val (.int p1), .val (.int p2), .val (.int p3), .val (.int (1 : Int32)), .val (.int r942), .val (.int r943), .val (.int r944), .val (.ref x975), .unset, .unset] [(.ref x975)])
      refine P1.astore X979.here hx #[.val (.int p0), .val (.int p1), .val (.int p2), .val (.int p3), .val (.int (1 : Int32)), .val (.int r942), .val (.int r943), .val (.int r944), .val (.ref x975), .val (.ref x975), .unset] (hb hby at_41) rfl rfl ?_
      refine P1.iload X979.here hx (hb hby at_43) rfl ?_
      refine P1.ifNo X979.here hx (hb hby at_45) ((if0 _ _).trans (tlt (by decide : (0 : Int32) < (1 : Int32))).2.2.2) ?_
      refine P1.iload X979.here hx (hb hby at_48) rfl ?_
      refine P1.ldcI X979 hx hZ hown (own_w hw 79 rfl) (hb hby at_50) ?_
      refine P1.icmpYes X979.here hx 71 (hb hby at_52) (feq (hbom : ¬ (r942 = (65279 : Int32)))).2 (by decide) (by decide) ?_
      refine P1.aload X979.here hx (hb hby at_71) rfl rfl ?_
      refine P1.astore X979.here hx #[.val (.int p0), .val (.int p1), .val (.int p2), .val (.int p3), .val (.int (1 : Int32)), .val (.int r942), .val (.int r943), .val (.int r944), .val (.ref x975), .val (.ref x975), .val (.ref x975)] (hb hby at_73) rfl rfl ?_
      refine P1.aload X979.here hx (hb hby at_75) rfl rfl ?_
      refine P1.aload X979.here hx (hb hby at_77) rfl rfl ?_
      refine Goes.callV X979 hx hZ (y := y11_) (z := y11_) (Qc := fun v h' L => (((v = some (.int 1) ∧ ([r942] : List Int32) = ([r942] : List Int32)) ∨ (v = some (.int 0) ∧ ¬ ([r942] : List Int32) = ([r942] : List Int32))) ∧ L = [] ∧ h' = T975.heap)) hown (mvT hZ (own_w hw 40 rfl)) (mvT hZ (own_w hw 41 rfl)) (notFace_of_selects (args := #[]) (mvT hZ (own_w hw 43 rfl))) (mvT hZ (own_w hw 43 rfl)) (mvT hZ (own_w hw 42 rfl)) (by decide) (kc' := 0) (ks' := 0) (StrChars.Road.eqW (W := 0) hZ (fun d hd => hw d (in_wordsEq d hd)) (kI := 4) (own_w hw 10 rfl) g975E g975v g975c g975V g975O hbd976 (ok rfl) g975E g975v g975c g975V g975O hbd976 (ok rfl) (S_CS.ext O978.2) hzc (ok rfl) (ok rfl)) (b := x975) hE979 g975E (g := (mkF m 79 #[.val (.int p0), .val (.int p1), .val (.int p2), .val (.int p3), .val (.int (1 : Int32)), .val (.int r942), .val (.int r943), .val (.int r944), .val (.ref x975), .val (.ref x975), .val (.ref x975)] [(.ref x975), (.ref x975)])) rfl (by rw [hml]; rfl) (argsL := [(.ref x975)]) (rest := []) (lenOf pd_20140 rfl) rfl (by show 2 * 0 + _ ≤ _; exact Nat.le_of_eq rfl) (hb hby at_79) rfl (ok rfl) (ok rfl) ?_
      intro v980 T980 L980 q980 X980
      obtain ⟨q980, rfl, hE980⟩ := q980
      have N980 := Fr.app N979 (Fr.nil n0)
      obtain ⟨rfl, -⟩ := q980.resolve_right (fun z => z.2 rfl)
      show Goes p e below _ T980 (mkF m 82 #[.val (.int p0), .val (.int p1), .val (.int p2), .val (.int p3), .val (.int (1 : Int32)), .val (.int r942), .val (.int r943), .val (.int r944), .val (.ref x975), .val (.ref x975), .val (.ref x975)] [(.int (1 : Int32))])
      have ks981 : h0.size ≤ T975.heap.size := Nat.le_trans ks0 K975.1
      have CR982 : CHr Z EL1 s.vm h0 s.vm T975.heap := CR0.trans (CHr.keep K975 sf0 CR0.1)
      refine Goes.retNW X980 hx Bd.notSynchronized hS0 ks981 hZ hEL (hh ▸ CR982) hE980 (t := .boolean) Bd.returns (by simp) (hb hby at_82) (ok rfl) (ok rfl) ?_
      exact ⟨rfl, N980⟩
  ·
    have rw983 : (p0 &&& (3 : Int32)) = (2 : Int32) := hn
    rw [rw983]
    by_cases hbom : r942 = (65279 : Int32)
    ·
      subst hbom
      refine P1.iload X944.here hx (hb hby at_23) rfl ?_
      refine P1.iload X944.here hx (hb hby at_25) rfl ?_
      refine P1.iload X944.here hx (hb hby at_27) rfl ?_
      refine P1.iload X944.here hx (hb hby at_29) rfl ?_
      refine P1.callS X944 hx hZ hown (own_w hw 6 rfl) (own_w hw 7 rfl) (own_w hw 2 rfl) (own_w hw 8 rfl) (by decide) (rmMk2 l Z a0 hw [] (65279 : Int32) r943 r944 zc fm h0 n0 Z0 O0 S_CS hzc S_FM hfm S_AD S_HI S_LO (show C16 (65279 : Int32) from by unfold C16; decide) h_r943 h_r944) hml [(.int (2 : Int32)), (.int (65279 : Int32)), (.int r943), (.int r944)] [] (lenOf pd_27547 rfl) rfl rfl (hb hby at_31) rfl hE944 (ok rfl) (ok rfl) (ok rfl) (ok rfl) ?_
      intro v984 T984 L984 q984 X984
      obtain ⟨x984, rfl, N984q, K984, g984E, t984, kb984, cd984, N2984, vs984, g984v, g984c, g984V, g984O⟩ := q984
      have N984 := Fr.app N944 N984q
      have hbd985 : ∀ c ∈ ([(65279 : Int32), r943] : List Int32), ¬ c < 0 ∧ ¬ (65535 : Int32) < c := by
        intro c hc
        simp only [List.mem_cons, List.not_mem_nil, or_false] at hc
        rcases hc with rfl | rfl
        · exact (show C16 (65279 : Int32) from by unfold C16; decide)
        · exact h_r943
      show Goes p e below _ T984 (mkF m 34 #[.val (.int p0), .val (.int p1), .val (.int p2), .val (.int p3), .val (.int (2 : Int32)), .val (.int (65279 : Int32)), .val (.int r943), .val (.int r944), .unset, .unset, .unset] [(.ref x984)])
      refine P1.astore X984.here hx #[.val (.int p0), .val (.int p1), .val (.int p2), .val (.int p3), .val (.int (2 : Int32)), .val (.int (65279 : Int32)), .val (.int r943), .val (.int r944), .val (.ref x984), .unset, .unset] (hb hby at_34) rfl rfl ?_
      refine P1.aload X984.here hx (hb hby at_36) rfl rfl ?_
      have Z986 : n0 ≤ T984.heap.size := Nat.le_trans Z0 K984.1
      have O987 : Old Z n0 T984.heap := O0.keep K984 all0
      refine P1.callS X984 hx hZ hown (own_w hw 31 rfl) (own_w hw 32 rfl) (own_w hw 33 rfl) (own_w hw 34 rfl) (by decide) (rmWc2 l Z a0 hw [] x984 t984 kb984 cd984 N2984 vs984 r943 zc fm T984.heap n0 Z986 O987 S_CS hzc S_FM hfm S_AD S_HI S_LO g984E g984v g984c g984V g984O h_r943) hml [(.ref x984)] [] (lenOf pd_68746 rfl) rfl rfl (hb hby at_38) rfl rfl (ok rfl) (ok rfl) (ok rfl) (ok rfl) ?_
      intro v988 T988 L988 q988 X988
      obtain ⟨x988, rfl, N988q, K988, g988E, t988, kb988, cd988, N2988, vs988, g988v, g988c, g988V, g988O⟩ := q988
      have N988 := Fr.app N984 N988q
      have hbd989 : ∀ c ∈ ([r943] : List Int32), ¬ c < 0 ∧ ¬ (65535 : Int32) < c := by
        intro c hc
        simp only [List.mem_cons, List.not_mem_nil, or_false] at hc
        rcases hc with rfl
        · exact h_r943
      show Goes p e below _ T988 (mkF m 41 #[.val (.int p0), .val (.int p1), .val (.int p2), .val (.int p3), .val (.int (2 : Int32)), .val (.int (65279 : Int32)), .val (.int r943), .val (.int r944), .val (.ref x984), .unset, .unset] [(.ref x988)])
      refine P1.astore X988.here hx #[.val (.int p0), .val (.int p1), .val (.int p2), .val (.int p3), .val (.int (2 : Int32)), .val (.int (65279 : Int32)), .val (.int r943), .val (.int r944), .val (.ref x984), .val (.ref x988), .unset] (hb hby at_41) rfl rfl ?_
      refine P1.iload X988.here hx (hb hby at_43) rfl ?_
      refine P1.ifNo X988.here hx (hb hby at_45) ((if0 _ _).trans (tlt (by decide : (0 : Int32) < (2 : Int32))).2.2.2) ?_
      refine P1.iload X988.here hx (hb hby at_48) rfl ?_
      refine P1.ldcI X988 hx hZ hown (own_w hw 79 rfl) (hb hby at_50) ?_
      refine P1.icmpNo X988.here hx (hb hby at_52) (teq (by decide : (65279 : Int32) = (65279 : Int32))).2 ?_
      refine P1.iload X988.here hx (hb hby at_55) rfl ?_
      refine P1.iconst X988.here hx (1 : Int32) (hb hby at_57) rfl ?_
      refine P1.isub X988.here hx (hb hby at_58) ?_
      have rw990 : ((2 : Int32) - (1 : Int32)) = (1 : Int32) := by decide
      rw [rw990]
      refine P1.iload X988.here hx (hb hby at_59) rfl ?_
      refine P1.iload X988.here hx (hb hby at_61) rfl ?_
      refine P1.iload X988.here hx (hb hby at_63) rfl ?_
      have Z991 : n0 ≤ T988.heap.size := Nat.le_trans Z986 K988.1
      have O992 : Old Z n0 T988.heap := O987.keep K988 all0
      refine P1.callS X988 hx hZ hown (own_w hw 6 rfl) (own_w hw 7 rfl) (own_w hw 2 rfl) (own_w hw 8 rfl) (by decide) (rmMk1 l Z a0 hw [] r943 r944 r944 zc fm T988.heap n0 Z991 O992 S_CS hzc S_FM hfm S_AD S_HI S_LO h_r943 h_r944 h_r944) hml [(.int (1 : Int32)), (.int r943), (.int r944), (.int r944)] [] (lenOf pd_27547 rfl) rfl rfl (hb hby at_65) rfl rfl (ok rfl) (ok rfl) (ok rfl) (ok rfl) ?_
      intro v993 T993 L993 q993 X993
      obtain ⟨x993, rfl, N993q, K993, g993E, t993, kb993, cd993, N2993, vs993, g993v, g993c, g993V, g993O⟩ := q993
      have N993 := Fr.app N988 N993q
      have hbd994 : ∀ c ∈ ([r943] : List Int32), ¬ c < 0 ∧ ¬ (65535 : Int32) < c := by
        intro c hc
        simp only [List.mem_cons, List.not_mem_nil, or_false] at hc
        rcases hc with rfl
        · exact h_r943
      show Goes p e below _ T993 (mkF m 68 #[.val (.int p0), .val (.int p1), .val (.int p2), .val (.int p3), .val (.int (2 : Int32)), .val (.int (65279 : Int32)), .val (.int r943), .val (.int r944), .val (.ref x984), .val (.ref x988), .unset] [(.ref x993)])
      refine P1.goto X993.here hx 73 (hb hby at_68) (by decide) (by decide) ?_
      refine P1.astore X993.here hx #[.val (.int p0), .val (.int p1), .val (.int p2), .val (.int p3), .val (.int (2 : Int32)), .val (.int (65279 : Int32)), .val (.int r943), .val (.int r944), .val (.ref x984), .val (.ref x988), .val (.ref x993)] (hb hby at_73) rfl rfl ?_
      refine P1.aload X993.here hx (hb hby at_75) rfl rfl ?_
      refine P1.aload X993.here hx (hb hby at_77) rfl rfl ?_
      have E995 : Exa Z T993.heap x988 "java/lang/String" := g988E.keep K993
      have F996 : Fld Z T993.heap x988 "java/lang/String" "value" "[B" (.ref t988) := g988v.keep K993 nin0
      have F997 : Fld Z T993.heap x988 "java/lang/String" "coder" "B" (.int cd988) := g988c.keep K993 nin0
      have V998 : Arv Z T993.heap t988 kb988 .byte N2988 vs988 (.int (0 : Int32)) := g988V.keep K993 nin0
      have O999 : Old Z n0 T993.heap := O992.keep K993 all0
      refine Goes.callV X993 hx hZ (y := y11_) (z := y11_) (Qc := fun v h' L => (((v = some (.int 1) ∧ ([r943] : List Int32) = ([r943] : List Int32)) ∨ (v = some (.int 0) ∧ ¬ ([r943] : List Int32) = ([r943] : List Int32))) ∧ L = [] ∧ h' = T993.heap)) hown (mvT hZ (own_w hw 40 rfl)) (mvT hZ (own_w hw 41 rfl)) (notFace_of_selects (args := #[]) (mvT hZ (own_w hw 43 rfl))) (mvT hZ (own_w hw 43 rfl)) (mvT hZ (own_w hw 42 rfl)) (by decide) (kc' := 0) (ks' := 0) (StrChars.Road.eqW (W := 0) hZ (fun d hd => hw d (in_wordsEq d hd)) (kI := 4) (own_w hw 10 rfl) E995 F996 F997 V998 g988O hbd989 (ok rfl) g993E g993v g993c g993V g993O hbd994 (ok rfl) (S_CS.ext O999.2) hzc (ok rfl) (ok rfl)) (b := x988) rfl E995 (g := (mkF m 79 #[.val (.int p0), .val (.int p1), .val (.int p2), .val (.int p3), .val (.int (2 : Int32)), .val (.int (65279 : Int32)), .val (.int r943), .val (.int r944), .val (.ref x984), .val (.ref x988), .val (.ref x993)] [(.ref x993), (.ref x988)])) rfl (by rw [hml]; rfl) (argsL := [(.ref x993)]) (rest := []) (lenOf pd_20140 rfl) rfl (by show 2 * 0 + _ ≤ _; exact Nat.le_of_eq rfl) (hb hby at_79) rfl (ok rfl) (ok rfl) ?_
      intro v1000 T1000 L1000 q1000 X1000
      obtain ⟨q1000, rfl, hE1000⟩ := q1000
      have N1000 := Fr.app N993 (Fr.nil n0)
      obtain ⟨rfl, -⟩ := q1000.resolve_right (fun z => z.2 rfl)
      show Goes p e below _ T1000 (mkF m 82 #[.val (.int p0), .val (.int p1), .val (.int p2), .val (.int p3), .val (.int (2 : Int32)), .val (.int (65279 : Int32)), .val (.int r943), .val (.int r944), .val (.ref x984), .val (.ref x988), .val (.ref x993)] [(.int (1 : Int32))])
      have ks1001 : h0.size ≤ T984.heap.size := Nat.le_trans ks0 K984.1
      have ks1002 : h0.size ≤ T988.heap.size := Nat.le_trans ks1001 K988.1
      have ks1003 : h0.size ≤ T993.heap.size := Nat.le_trans ks1002 K993.1
      have CR1004 : CHr Z EL1 s.vm h0 s.vm T984.heap := CR0.trans (CHr.keep K984 sf0 CR0.1)
      have CR1005 : CHr Z EL1 s.vm h0 s.vm T988.heap := CR1004.trans (CHr.keep K988 sf0 CR1004.1)
      have CR1006 : CHr Z EL1 s.vm h0 s.vm T993.heap := CR1005.trans (CHr.keep K993 sf0 CR1005.1)
      refine Goes.retNW X1000 hx Bd.notSynchronized hS0 ks1003 hZ hEL (hh ▸ CR1006) hE1000 (t := .boolean) Bd.returns (by simp) (hb hby at_82) (ok rfl) (ok rfl) ?_
      exact ⟨rfl, N1000⟩
    ·
      refine P1.iload X944.here hx (hb hby at_23) rfl ?_
      refine P1.iload X944.here hx (hb hby at_25) rfl ?_
      refine P1.iload X944.here hx (hb hby at_27) rfl ?_
      refine P1.iload X944.here hx (hb hby at_29) rfl ?_
      refine P1.callS X944 hx hZ hown (own_w hw 6 rfl) (own_w hw 7 rfl) (own_w hw 2 rfl) (own_w hw 8 rfl) (by decide) (rmMk2 l Z a0 hw [] r942 r943 r944 zc fm h0 n0 Z0 O0 S_CS hzc S_FM hfm S_AD S_HI S_LO h_r942 h_r943 h_r944) hml [(.int (2 : Int32)), (.int r942), (.int r943), (.int r944)] [] (lenOf pd_27547 rfl) rfl rfl (hb hby at_31) rfl hE944 (ok rfl) (ok rfl) (ok rfl) (ok rfl) ?_
      intro v1007 T1007 L1007 q1007 X1007
      obtain ⟨x1007, rfl, N1007q, K1007, g1007E, t1007, kb1007, cd1007, N21007, vs1007, g1007v, g1007c, g1007V, g1007O⟩ := q1007
      have N1007 := Fr.app N944 N1007q
      have hbd1008 : ∀ c ∈ ([r942, r943] : List Int32), ¬ c < 0 ∧ ¬ (65535 : Int32) < c := by
        intro c hc
        simp only [List.mem_cons, List.not_mem_nil, or_false] at hc
        rcases hc with rfl | rfl
        · exact h_r942
        · exact h_r943
      show Goes p e below _ T1007 (mkF m 34 #[.val (.int p0), .val (.int p1), .val (.int p2), .val (.int p3), .val (.int (2 : Int32)), .val (.int r942), .val (.int r943), .val (.int r944), .unset, .unset, .unset] [(.ref x1007)])
      refine P1.astore X1007.here hx #[.val (.int p0), .val (.int p1), .val (.int p2), .val (.int p3), .val (.int (2 : Int32)), .val (.int r942), .val (.int r943), .val (.int r944), .val (.ref x1007), .unset, .unset] (hb hby at_34) rfl rfl ?_
      refine P1.aload X1007.here hx (hb hby at_36) rfl rfl ?_
      have Z1009 : n0 ≤ T1007.heap.size := Nat.le_trans Z0 K1007.1
      have O1010 : Old Z n0 T1007.heap := O0.keep K1007 all0
      refine P1.callS X1007 hx hZ hown (own_w hw 31 rfl) (own_w hw 32 rfl) (own_w hw 33 rfl) (own_w hw 34 rfl) (by decide) (rmWk2 l Z a0 hw [] x1007 t1007 kb1007 cd1007 N21007 vs1007 r942 r943 zc fm T1007.heap n0 Z1009 O1010 S_CS hzc S_FM hfm S_AD S_HI S_LO g1007E g1007v g1007c g1007V g1007O h_r942 h_r943 hbom) hml [(.ref x1007)] [] (lenOf pd_68746 rfl) rfl rfl (hb hby at_38) rfl rfl (ok rfl) (ok rfl) (ok rfl) (ok rfl) ?_
      intro v1011 T1011 L1011 q1011 X1011
      obtain ⟨rfl, N1011q, hE1011⟩ := q1011
      have N1011 := Fr.app N1007 N1011q
      show Goes p e below _ T1011 (mkF m 41 #[.val (.int p0), .val (.int p1), .val (.int p2), .val (.int p3), .val (.int (2 : Int32)), .val (.int r942), .val (.int r943), .val (.int r944), .val (.ref x1007), .unset, .unset] [(.ref x1007)])
      refine P1.astore X1011.here hx #[.val (.int p0), .val (.int p1), .val (.int p2), .val (.int p3), .val (.int (2 : Int32)), .val (.int r942), .val (.int r943), .val (.int r944), .val (.ref x1007), .val (.ref x1007), .unset] (hb hby at_41) rfl rfl ?_
      refine P1.iload X1011.here hx (hb hby at_43) rfl ?_
      refine P1.ifNo X1011.here hx (hb hby at_45) ((if0 _ _).trans (tlt (by decide : (0 : Int32) < (2 : Int32))).2.2.2) ?_
      refine P1.iload X1011.here hx (hb hby at_48) rfl ?_
      refine P1.ldcI X1011 hx hZ hown (own_w hw 79 rfl) (hb hby at_50) ?_
      refine P1.icmpYes X1011.here hx 71 (hb hby at_52) (feq (hbom : ¬ (r942 = (65279 : Int32)))).2 (by decide) (by decide) ?_
      refine P1.aload X1011.here hx (hb hby at_71) rfl rfl ?_
      refine P1.astore X1011.here hx #[.val (.int p0), .val (.int p1), .val (.int p2), .val (.int p3), .val (.int (2 : Int32)), .val (.int r942), .val (.int r943), .val (.int r944), .val (.ref x1007), .val (.ref x1007), .val (.ref x1007)] (hb hby at_73) rfl rfl ?_
      refine P1.aload X1011.here hx (hb hby at_75) rfl rfl ?_
      refine P1.aload X1011.here hx (hb hby at_77) rfl rfl ?_
      refine Goes.callV X1011 hx hZ (y := y11_) (z := y11_) (Qc := fun v h' L => (((v = some (.int 1) ∧ ([r942, r943] : List Int32) = ([r942, r943] : List Int32)) ∨ (v = some (.int 0) ∧ ¬ ([r942, r943] : List Int32) = ([r942, r943] : List Int32))) ∧ L = [] ∧ h' = T1007.heap)) hown (mvT hZ (own_w hw 40 rfl)) (mvT hZ (own_w hw 41 rfl)) (notFace_of_selects (args := #[]) (mvT hZ (own_w hw 43 rfl))) (mvT hZ (own_w hw 43 rfl)) (mvT hZ (own_w hw 42 rfl)) (by decide) (kc' := 0) (ks' := 0) (StrChars.Road.eqW (W := 0) hZ (fun d hd => hw d (in_wordsEq d hd)) (kI := 4) (own_w hw 10 rfl) g1007E g1007v g1007c g1007V g1007O hbd1008 (ok rfl) g1007E g1007v g1007c g1007V g1007O hbd1008 (ok rfl) (S_CS.ext O1010.2) hzc (ok rfl) (ok rfl)) (b := x1007) hE1011 g1007E (g := (mkF m 79 #[.val (.int p0), .val (.int p1), .val (.int p2), .val (.int p3), .val (.int (2 : Int32)), .val (.int r942), .val (.int r943), .val (.int r944), .val (.ref x1007), .val (.ref x1007), .val (.ref x1007)] [(.ref x1007), (.ref x1007)])) rfl (by rw [hml]; rfl) (argsL := [(.ref x1007)]) (rest := []) (lenOf pd_20140 rfl) rfl (by show 2 * 0 + _ ≤ _; exact Nat.le_of_eq rfl) (hb hby at_79) rfl (ok rfl) (ok rfl) ?_
      intro v1012 T1012 L1012 q1012 X1012
      obtain ⟨q1012, rfl, hE1012⟩ := q1012
      have N1012 := Fr.app N1011 (Fr.nil n0)
      obtain ⟨rfl, -⟩ := q1012.resolve_right (fun z => z.2 rfl)
      show Goes p e below _ T1012 (mkF m 82 #[.val (.int p0), .val (.int p1), .val (.int p2), .val (.int p3), .val (.int (2 : Int32)), .val (.int r942), .val (.int r943), .val (.int r944), .val (.ref x1007), .val (.ref x1007), .val (.ref x1007)] [(.int (1 : Int32))])
      have ks1013 : h0.size ≤ T1007.heap.size := Nat.le_trans ks0 K1007.1
      have CR1014 : CHr Z EL1 s.vm h0 s.vm T1007.heap := CR0.trans (CHr.keep K1007 sf0 CR0.1)
      refine Goes.retNW X1012 hx Bd.notSynchronized hS0 ks1013 hZ hEL (hh ▸ CR1014) hE1012 (t := .boolean) Bd.returns (by simp) (hb hby at_82) (ok rfl) (ok rfl) ?_
      exact ⟨rfl, N1012⟩
  ·
    have rw1015 : (p0 &&& (3 : Int32)) = (3 : Int32) := hn
    rw [rw1015]
    by_cases hbom : r942 = (65279 : Int32)
    ·
      subst hbom
      refine P1.iload X944.here hx (hb hby at_23) rfl ?_
      refine P1.iload X944.here hx (hb hby at_25) rfl ?_
      refine P1.iload X944.here hx (hb hby at_27) rfl ?_
      refine P1.iload X944.here hx (hb hby at_29) rfl ?_
      refine P1.callS X944 hx hZ hown (own_w hw 6 rfl) (own_w hw 7 rfl) (own_w hw 2 rfl) (own_w hw 8 rfl) (by decide) (rmMk3 l Z a0 hw [] (65279 : Int32) r943 r944 zc fm h0 n0 Z0 O0 S_CS hzc S_FM hfm S_AD S_HI S_LO (show C16 (65279 : Int32) from by unfold C16; decide) h_r943 h_r944) hml [(.int (3 : Int32)), (.int (65279 : Int32)), (.int r943), (.int r944)] [] (lenOf pd_27547 rfl) rfl rfl (hb hby at_31) rfl hE944 (ok rfl) (ok rfl) (ok rfl) (ok rfl) ?_
      intro v1016 T1016 L1016 q1016 X1016
      obtain ⟨x1016, rfl, N1016q, K1016, g1016E, t1016, kb1016, cd1016, N21016, vs1016, g1016v, g1016c, g1016V, g1016O⟩ := q1016
      have N1016 := Fr.app N944 N1016q
      have hbd1017 : ∀ c ∈ ([(65279 : Int32), r943, r944] : List Int32), ¬ c < 0 ∧ ¬ (65535 : Int32) < c := by
        intro c hc
        simp only [List.mem_cons, List.not_mem_nil, or_false] at hc
        rcases hc with rfl | rfl | rfl
        · exact (show C16 (65279 : Int32) from by unfold C16; decide)
        · exact h_r943
        · exact h_r944
      show Goes p e below _ T1016 (mkF m 34 #[.val (.int p0), .val (.int p1), .val (.int p2), .val (.int p3), .val (.int (3 : Int32)), .val (.int (65279 : Int32)), .val (.int r943), .val (.int r944), .unset, .unset, .unset] [(.ref x1016)])
      refine P1.astore X1016.here hx #[.val (.int p0), .val (.int p1), .val (.int p2), .val (.int p3), .val (.int (3 : Int32)), .val (.int (65279 : Int32)), .val (.int r943), .val (.int r944), .val (.ref x1016), .unset, .unset] (hb hby at_34) rfl rfl ?_
      refine P1.aload X1016.here hx (hb hby at_36) rfl rfl ?_
      have Z1018 : n0 ≤ T1016.heap.size := Nat.le_trans Z0 K1016.1
      have O1019 : Old Z n0 T1016.heap := O0.keep K1016 all0
      refine P1.callS X1016 hx hZ hown (own_w hw 31 rfl) (own_w hw 32 rfl) (own_w hw 33 rfl) (own_w hw 34 rfl) (by decide) (rmWc3 l Z a0 hw [] x1016 t1016 kb1016 cd1016 N21016 vs1016 r943 r944 zc fm T1016.heap n0 Z1018 O1019 S_CS hzc S_FM hfm S_AD S_HI S_LO g1016E g1016v g1016c g1016V g1016O h_r943 h_r944) hml [(.ref x1016)] [] (lenOf pd_68746 rfl) rfl rfl (hb hby at_38) rfl rfl (ok rfl) (ok rfl) (ok rfl) (ok rfl) ?_
      intro v1020 T1020 L1020 q1020 X1020
      obtain ⟨x1020, rfl, N1020q, K1020, g1020E, t1020, kb1020, cd1020, N21020, vs1020, g1020v, g1020c, g1020V, g1020O⟩ := q1020
      have N1020 := Fr.app N1016 N1020q
      have hbd1021 : ∀ c ∈ ([r943, r944] : List Int32), ¬ c < 0 ∧ ¬ (65535 : Int32) < c := by
        intro c hc
        simp only [List.mem_cons, List.not_mem_nil, or_false] at hc
        rcases hc with rfl | rfl
        · exact h_r943
        · exact h_r944
      show Goes p e below _ T1020 (mkF m 41 #[.val (.int p0), .val (.int p1), .val (.int p2), .val (.int p3), .val (.int (3 : Int32)), .val (.int (65279 : Int32)), .val (.int r943), .val (.int r944), .val (.ref x1016), .unset, .unset] [(.ref x1020)])
      refine P1.astore X1020.here hx #[.val (.int p0), .val (.int p1), .val (.int p2), .val (.int p3), .val (.int (3 : Int32)), .val (.int (65279 : Int32)), .val (.int r943), .val (.int r944), .val (.ref x1016), .val (.ref x1020), .unset] (hb hby at_41) rfl rfl ?_
      refine P1.iload X1020.here hx (hb hby at_43) rfl ?_
      refine P1.ifNo X1020.here hx (hb hby at_45) ((if0 _ _).trans (tlt (by decide : (0 : Int32) < (3 : Int32))).2.2.2) ?_
      refine P1.iload X1020.here hx (hb hby at_48) rfl ?_
      refine P1.ldcI X1020 hx hZ hown (own_w hw 79 rfl) (hb hby at_50) ?_
      refine P1.icmpNo X1020.here hx (hb hby at_52) (teq (by decide : (65279 : Int32) = (65279 : Int32))).2 ?_
      refine P1.iload X1020.here hx (hb hby at_55) rfl ?_
      refine P1.iconst X1020.here hx (1 : Int32) (hb hby at_57) rfl ?_
      refine P1.isub X1020.here hx (hb hby at_58) ?_
      have rw1022 : ((3 : Int32) - (1 : Int32)) = (2 : Int32) := by decide
      rw [rw1022]
      refine P1.iload X1020.here hx (hb hby at_59) rfl ?_
      refine P1.iload X1020.here hx (hb hby at_61) rfl ?_
      refine P1.iload X1020.here hx (hb hby at_63) rfl ?_
      have Z1023 : n0 ≤ T1020.heap.size := Nat.le_trans Z1018 K1020.1
      have O1024 : Old Z n0 T1020.heap := O1019.keep K1020 all0
      refine P1.callS X1020 hx hZ hown (own_w hw 6 rfl) (own_w hw 7 rfl) (own_w hw 2 rfl) (own_w hw 8 rfl) (by decide) (rmMk2 l Z a0 hw [] r943 r944 r944 zc fm T1020.heap n0 Z1023 O1024 S_CS hzc S_FM hfm S_AD S_HI S_LO h_r943 h_r944 h_r944) hml [(.int (2 : Int32)), (.int r943), (.int r944), (.int r944)] [] (lenOf pd_27547 rfl) rfl rfl (hb hby at_65) rfl rfl (ok rfl) (ok rfl) (ok rfl) (ok rfl) ?_
      intro v1025 T1025 L1025 q1025 X1025
      obtain ⟨x1025, rfl, N1025q, K1025, g1025E, t1025, kb1025, cd1025, N21025, vs1025, g1025v, g1025c, g1025V, g1025O⟩ := q1025
      have N1025 := Fr.app N1020 N1025q
      have hbd1026 : ∀ c ∈ ([r943, r944] : List Int32), ¬ c < 0 ∧ ¬ (65535 : Int32) < c := by
        intro c hc
        simp only [List.mem_cons, List.not_mem_nil, or_false] at hc
        rcases hc with rfl | rfl
        · exact h_r943
        · exact h_r944
      show Goes p e below _ T1025 (mkF m 68 #[.val (.int p0), .val (.int p1), .val (.int p2), .val (.int p3), .val (.int (3 : Int32)), .val (.int (65279 : Int32)), .val (.int r943), .val (.int r944), .val (.ref x1016), .val (.ref x1020), .unset] [(.ref x1025)])
      refine P1.goto X1025.here hx 73 (hb hby at_68) (by decide) (by decide) ?_
      refine P1.astore X1025.here hx #[.val (.int p0), .val (.int p1), .val (.int p2), .val (.int p3), .val (.int (3 : Int32)), .val (.int (65279 : Int32)), .val (.int r943), .val (.int r944), .val (.ref x1016), .val (.ref x1020), .val (.ref x1025)] (hb hby at_73) rfl rfl ?_
      refine P1.aload X1025.here hx (hb hby at_75) rfl rfl ?_
      refine P1.aload X1025.here hx (hb hby at_77) rfl rfl ?_
      have E1027 : Exa Z T1025.heap x1020 "java/lang/String" := g1020E.keep K1025
      have F1028 : Fld Z T1025.heap x1020 "java/lang/String" "value" "[B" (.ref t1020) := g1020v.keep K1025 nin0
      have F1029 : Fld Z T1025.heap x1020 "java/lang/String" "coder" "B" (.int cd1020) := g1020c.keep K1025 nin0
      have V1030 : Arv Z T1025.heap t1020 kb1020 .byte N21020 vs1020 (.int (0 : Int32)) := g1020V.keep K1025 nin0
      have O1031 : Old Z n0 T1025.heap := O1024.keep K1025 all0
      refine Goes.callV X1025 hx hZ (y := y11_) (z := y11_) (Qc := fun v h' L => (((v = some (.int 1) ∧ ([r943, r944] : List Int32) = ([r943, r944] : List Int32)) ∨ (v = some (.int 0) ∧ ¬ ([r943, r944] : List Int32) = ([r943, r944] : List Int32))) ∧ L = [] ∧ h' = T1025.heap)) hown (mvT hZ (own_w hw 40 rfl)) (mvT hZ (own_w hw 41 rfl)) (notFace_of_selects (args := #[]) (mvT hZ (own_w hw 43 rfl))) (mvT hZ (own_w hw 43 rfl)) (mvT hZ (own_w hw 42 rfl)) (by decide) (kc' := 0) (ks' := 0) (StrChars.Road.eqW (W := 0) hZ (fun d hd => hw d (in_wordsEq d hd)) (kI := 4) (own_w hw 10 rfl) E1027 F1028 F1029 V1030 g1020O hbd1021 (ok rfl) g1025E g1025v g1025c g1025V g1025O hbd1026 (ok rfl) (S_CS.ext O1031.2) hzc (ok rfl) (ok rfl)) (b := x1020) rfl E1027 (g := (mkF m 79 #[.val (.int p0), .val (.int p1), .val (.int p2), .val (.int p3), .val (.int (3 : Int32)), .val (.int (65279 : Int32)), .val (.int r943), .val (.int r944), .val (.ref x1016), .val (.ref x1020), .val (.ref x1025)] [(.ref x1025), (.ref x1020)])) rfl (by rw [hml]; rfl) (argsL := [(.ref x1025)]) (rest := []) (lenOf pd_20140 rfl) rfl (by show 2 * 0 + _ ≤ _; exact Nat.le_of_eq rfl) (hb hby at_79) rfl (ok rfl) (ok rfl) ?_
      intro v1032 T1032 L1032 q1032 X1032
      obtain ⟨q1032, rfl, hE1032⟩ := q1032
      have N1032 := Fr.app N1025 (Fr.nil n0)
      obtain ⟨rfl, -⟩ := q1032.resolve_right (fun z => z.2 rfl)
      show Goes p e below _ T1032 (mkF m 82 #[.val (.int p0), .val (.int p1), .val (.int p2), .val (.int p3), .val (.int (3 : Int32)), .val (.int (65279 : Int32)), .val (.int r943), .val (.int r944), .val (.ref x1016), .val (.ref x1020), .val (.ref x1025)] [(.int (1 : Int32))])
      have ks1033 : h0.size ≤ T1016.heap.size := Nat.le_trans ks0 K1016.1
      have ks1034 : h0.size ≤ T1020.heap.size := Nat.le_trans ks1033 K1020.1
      have ks1035 : h0.size ≤ T1025.heap.size := Nat.le_trans ks1034 K1025.1
      have CR1036 : CHr Z EL1 s.vm h0 s.vm T1016.heap := CR0.trans (CHr.keep K1016 sf0 CR0.1)
      have CR1037 : CHr Z EL1 s.vm h0 s.vm T1020.heap := CR1036.trans (CHr.keep K1020 sf0 CR1036.1)
      have CR1038 : CHr Z EL1 s.vm h0 s.vm T1025.heap := CR1037.trans (CHr.keep K1025 sf0 CR1037.1)
      refine Goes.retNW X1032 hx Bd.notSynchronized hS0 ks1035 hZ hEL (hh ▸ CR1038) hE1032 (t := .boolean) Bd.returns (by simp) (hb hby at_82) (ok rfl) (ok rfl) ?_
      exact ⟨rfl, N1032⟩
    ·
      refine P1.iload X944.here hx (hb hby at_23) rfl ?_
      refine P1.iload X944.here hx (hb hby at_25) rfl ?_
      refine P1.iload X944.here hx (hb hby at_27) rfl ?_
      refine P1.iload X944.here hx (hb hby at_29) rfl ?_
      refine P1.callS X944 hx hZ hown (own_w hw 6 rfl) (own_w hw 7 rfl) (own_w hw 2 rfl) (own_w hw 8 rfl) (by decide) (rmMk3 l Z a0 hw [] r942 r943 r944 zc fm h0 n0 Z0 O0 S_CS hzc S_FM hfm S_AD S_HI S_LO h_r942 h_r943 h_r944) hml [(.int (3 : Int32)), (.int r942), (.int r943), (.int r944)] [] (lenOf pd_27547 rfl) rfl rfl (hb hby at_31) rfl hE944 (ok rfl) (ok rfl) (ok rfl) (ok rfl) ?_
      intro v1039 T1039 L1039 q1039 X1039
      obtain ⟨x1039, rfl, N1039q, K1039, g1039E, t1039, kb1039, cd1039, N21039, vs1039, g1039v, g1039c, g1039V, g1039O⟩ := q1039
      have N1039 := Fr.app N944 N1039q
      have hbd1040 : ∀ c ∈ ([r942, r943, r944] : List Int32), ¬ c < 0 ∧ ¬ (65535 : Int32) < c := by
        intro c hc
        simp only [List.mem_cons, List.not_mem_nil, or_false] at hc
        rcases hc with rfl | rfl | rfl
        · exact h_r942
        · exact h_r943
        · exact h_r944
      show Goes p e below _ T1039 (mkF m 34 #[.val (.int p0), .val (.int p1), .val (.int p2), .val (.int p3), .val (.int (3 : Int32)), .val (.int r942), .val (.int r943), .val (.int r944), .unset, .unset, .unset] [(.ref x1039)])
      refine P1.astore X1039.here hx #[.val (.int p0), .val (.int p1), .val (.int p2), .val (.int p3), .val (.int (3 : Int32)), .val (.int r942), .val (.int r943), .val (.int r944), .val (.ref x1039), .unset, .unset] (hb hby at_34) rfl rfl ?_
      refine P1.aload X1039.here hx (hb hby at_36) rfl rfl ?_
      have Z1041 : n0 ≤ T1039.heap.size := Nat.le_trans Z0 K1039.1
      have O1042 : Old Z n0 T1039.heap := O0.keep K1039 all0
      refine P1.callS X1039 hx hZ hown (own_w hw 31 rfl) (own_w hw 32 rfl) (own_w hw 33 rfl) (own_w hw 34 rfl) (by decide) (rmWk3 l Z a0 hw [] x1039 t1039 kb1039 cd1039 N21039 vs1039 r942 r943 r944 zc fm T1039.heap n0 Z1041 O1042 S_CS hzc S_FM hfm S_AD S_HI S_LO g1039E g1039v g1039c g1039V g1039O h_r942 h_r943 h_r944 hbom) hml [(.ref x1039)] [] (lenOf pd_68746 rfl) rfl rfl (hb hby at_38) rfl rfl (ok rfl) (ok rfl) (ok rfl) (ok rfl) ?_
      intro v1043 T1043 L1043 q1043 X1043
      obtain ⟨rfl, N1043q, hE1043⟩ := q1043
      have N1043 := Fr.app N1039 N1043q
      show Goes p e below _ T1043 (mkF m 41 #[.val (.int p0), .val (.int p1), .val (.int p2), .val (.int p3), .val (.int (3 : Int32)), .val (.int r942), .val (.int r943), .val (.int r944), .val (.ref x1039), .unset, .unset] [(.ref x1039)])
      refine P1.astore X1043.here hx #[.val (.int p0), .val (.int p1), .val (.int p2), .val (.int p3), .val (.int (3 : Int32)), .val (.int r942), .val (.int r943), .val (.int r944), .val (.ref x1039), .val (.ref x1039), .unset] (hb hby at_41) rfl rfl ?_
      refine P1.iload X1043.here hx (hb hby at_43) rfl ?_
      refine P1.ifNo X1043.here hx (hb hby at_45) ((if0 _ _).trans (tlt (by decide : (0 : Int32) < (3 : Int32))).2.2.2) ?_
      refine P1.iload X1043.here hx (hb hby at_48) rfl ?_
      refine P1.ldcI X1043 hx hZ hown (own_w hw 79 rfl) (hb hby at_50) ?_
      refine P1.icmpYes X1043.here hx 71 (hb hby at_52) (feq (hbom : ¬ (r942 = (65279 : Int32)))).2 (by decide) (by decide) ?_
      refine P1.aload X1043.here hx (hb hby at_71) rfl rfl ?_
      refine P1.astore X1043.here hx #[.val (.int p0), .val (.int p1), .val (.int p2), .val (.int p3), .val (.int (3 : Int32)), .val (.int r942), .val (.int r943), .val (.int r944), .val (.ref x1039), .val (.ref x1039), .val (.ref x1039)] (hb hby at_73) rfl rfl ?_
      refine P1.aload X1043.here hx (hb hby at_75) rfl rfl ?_
      refine P1.aload X1043.here hx (hb hby at_77) rfl rfl ?_
      refine Goes.callV X1043 hx hZ (y := y11_) (z := y11_) (Qc := fun v h' L => (((v = some (.int 1) ∧ ([r942, r943, r944] : List Int32) = ([r942, r943, r944] : List Int32)) ∨ (v = some (.int 0) ∧ ¬ ([r942, r943, r944] : List Int32) = ([r942, r943, r944] : List Int32))) ∧ L = [] ∧ h' = T1039.heap)) hown (mvT hZ (own_w hw 40 rfl)) (mvT hZ (own_w hw 41 rfl)) (notFace_of_selects (args := #[]) (mvT hZ (own_w hw 43 rfl))) (mvT hZ (own_w hw 43 rfl)) (mvT hZ (own_w hw 42 rfl)) (by decide) (kc' := 0) (ks' := 0) (StrChars.Road.eqW (W := 0) hZ (fun d hd => hw d (in_wordsEq d hd)) (kI := 4) (own_w hw 10 rfl) g1039E g1039v g1039c g1039V g1039O hbd1040 (ok rfl) g1039E g1039v g1039c g1039V g1039O hbd1040 (ok rfl) (S_CS.ext O1042.2) hzc (ok rfl) (ok rfl)) (b := x1039) hE1043 g1039E (g := (mkF m 79 #[.val (.int p0), .val (.int p1), .val (.int p2), .val (.int p3), .val (.int (3 : Int32)), .val (.int r942), .val (.int r943), .val (.int r944), .val (.ref x1039), .val (.ref x1039), .val (.ref x1039)] [(.ref x1039), (.ref x1039)])) rfl (by rw [hml]; rfl) (argsL := [(.ref x1039)]) (rest := []) (lenOf pd_20140 rfl) rfl (by show 2 * 0 + _ ≤ _; exact Nat.le_of_eq rfl) (hb hby at_79) rfl (ok rfl) (ok rfl) ?_
      intro v1044 T1044 L1044 q1044 X1044
      obtain ⟨q1044, rfl, hE1044⟩ := q1044
      have N1044 := Fr.app N1043 (Fr.nil n0)
      obtain ⟨rfl, -⟩ := q1044.resolve_right (fun z => z.2 rfl)
      show Goes p e below _ T1044 (mkF m 82 #[.val (.int p0), .val (.int p1), .val (.int p2), .val (.int p3), .val (.int (3 : Int32)), .val (.int r942), .val (.int r943), .val (.int r944), .val (.ref x1039), .val (.ref x1039), .val (.ref x1039)] [(.int (1 : Int32))])
      have ks1045 : h0.size ≤ T1039.heap.size := Nat.le_trans ks0 K1039.1
      have CR1046 : CHr Z EL1 s.vm h0 s.vm T1039.heap := CR0.trans (CHr.keep K1039 sf0 CR0.1)
      refine Goes.retNW X1044 hx Bd.notSynchronized hS0 ks1045 hZ hEL (hh ▸ CR1046) hE1044 (t := .boolean) Bd.returns (by simp) (hb hby at_82) (ok rfl) (ok rfl) ?_
      exact ⟨rfl, N1044⟩
set_option maxRecDepth 65536 in
set_option maxHeartbeats 40000000 in
theorem comes_1 {Post : Tables → Env → Array Value → State → Outcome → State → Prop} (hpost : ∀ tb e args s v u, (limb_1_1.after args s (.returned v) u = true ∧ limb_1_2.after args s (.returned v) u = true ∧ True) → ReturnedEndW s (.returned v) u (Jvm.fieldLocs frame_1_writes args s ++ Jvm.arrayLocs frame_1_arrays args s ++ Jvm.staticLocs frame_1_statics s) 40 2240 → Post tb e args s (.returned v) u) :
    ArmFor flags0 classFile x code maxLocals ret World_1 tables_1 room_1 Calls_1 rest_1 Pre_1 Post := by
  intro l hfl _ _ p e ha hc hk s m args below hf hA hF happ hP
  obtain ⟨hcalls, hrest, hpre⟩ := hP
  obtain ⟨-, -, -, hnamed, -, -, -, hat⟩ := (Spec.applies_iff hf).mp happ
  obtain ⟨hg, hn⟩ := and_e (Cond.before_iff.mp (show (Jvm.Cond.and given_1 narrow_1).before args s = true from hpre))
  obtain ⟨hg0, hg1⟩ := and_e hg
  obtain ⟨ha0, hgr0⟩ := and_e hg1
  obtain ⟨ha1, hgr1⟩ := and_e hgr0
  obtain ⟨ha2, hgr2⟩ := and_e hgr1
  obtain ⟨w0, w1, w2, w3, rfl⟩ : ∃ w0 w1 w2 w3 : Value, args = #[w0, w1, w2, w3] := by
    have hs : args.size = 4 := by simpa [Cond.value, given_1] using hg0
    obtain ⟨L⟩ := args
    match L, hs with
    | [w0, w1, w2, w3], _ => exact ⟨w0, w1, w2, w3, rfl⟩
  have hw := fun d (hd : d ∈ tables_1) => atoms_spec (ws := Jvm.Cond.code x code maxLocals ret :: tables_1) hat d (List.mem_cons_of_mem _ hd)
  have hfit : Fit s := fun {y c} hc i hi => by
    obtain ⟨ha, rfl⟩ := Array.getElem?_eq_some_iff.mp hc
    have q := List.all_eq_true.mp ((Array.all_eq_true_iff_forall_mem.mp hF) _ (Array.getElem_mem ha)) i (List.mem_range.mpr hi)
    simpa [Array.getElem?_eq_getElem hi] using q
  obtain ⟨hsets, hown0⟩ := atoms_of _ (rest_1_c_eq ▸ (show rest_1_c.before _ s = true from hrest))
  obtain ⟨i0, ei0⟩ := is_v ha0
  obtain rfl : w0 = (.int i0) := Option.some.inj ei0
  obtain ⟨i1, ei1⟩ := is_v ha1
  obtain rfl : w1 = (.int i1) := Option.some.inj ei1
  obtain ⟨i2, ei2⟩ := is_v ha2
  obtain rfl : w2 = (.int i2) := Option.some.inj ei2
  obtain ⟨i3, ei3⟩ := is_v hgr2
  obtain rfl : w3 = (.int i3) := Option.some.inj ei3
  obtain ⟨zc, ev_zc⟩ := is_v (Cond.before_iff.mp (hsets _ (List.mem_of_getElem? (i := 1) rfl)))
  have S_CS : Sta s s.heap "java/lang/String" "COMPACT_STRINGS" "Z" (.int zc) := Sta.start ev_zc (Or.inl (hsets _ (List.mem_of_getElem? (i := 0) rfl)))
  have hzc : ¬ zc = 0 := gotF (Cond.eq_ints ev_zc (Term.int_eval (0))) (not_v (Cond.before_iff.mp (hsets _ (List.mem_of_getElem? (i := 2) rfl))))
  obtain ⟨fm, ev_fm, hfm⟩ := isR_v (Cond.before_iff.mp (hsets _ (List.mem_of_getElem? (i := 8) rfl)))
  have S_FM : Sta s s.heap "jdk/internal/util/Preconditions" "SIOOBE_FORMATTER" "Ljava/util/function/BiFunction;" fm := Sta.start ev_fm (Or.inl (hsets _ (List.mem_of_getElem? (i := 7) rfl)))
  have S_AD : Sta s s.heap "java/lang/StringUTF16" "$assertionsDisabled" "Z" (.int (1 : Int32)) := Sta.start (own_eqV (Cond.before_iff.mp (hsets _ (List.mem_of_getElem? (i := 12) rfl))) (Term.int_eval _) (Or.inl ⟨_, rfl⟩)) (Or.inl (hsets _ (List.mem_of_getElem? (i := 11) rfl)))
  have S_HI : Sta s s.heap "java/lang/StringUTF16" "HI_BYTE_SHIFT" "I" (.int (0 : Int32)) := Sta.start (own_eqV (Cond.before_iff.mp (hsets _ (List.mem_of_getElem? (i := 15) rfl))) (Term.int_eval _) (Or.inl ⟨_, rfl⟩)) (Or.inl (hsets _ (List.mem_of_getElem? (i := 14) rfl)))
  have S_LO : Sta s s.heap "java/lang/StringUTF16" "LO_BYTE_SHIFT" "I" (.int (8 : Int32)) := Sta.start (own_eqV (Cond.before_iff.mp (hsets _ (List.mem_of_getElem? (i := 18) rfl))) (Term.int_eval _) (Or.inl ⟨_, rfl⟩)) (Or.inl (hsets _ (List.mem_of_getElem? (i := 17) rfl)))
  have hCH : CHv s EL1 s.vm s.heap := CHv.start (own_EL hw) (fun p hp => hcalls.1 p hp) (hsets _ (List.mem_of_getElem? (i := 2) rfl)) (own_w hw 24 rfl) (own_w hw 10 rfl)
  obtain ⟨n, o, h1, h2, h3, _, L, rfl, ⟨rfl, N⟩, -, hq⟩ := rm0 l s _ hw tables_1 i0 i1 i2 i3 zc fm s.heap s.heap.size (Nat.le_refl _) (Old.start s) S_CS hzc S_FM hfm S_AD S_HI S_LO p e ha hc hk s m _ below hf ((Spec.applies_iff_loose hf).mp happ).1 ⟨rfl, State.Warmed39.refl s, rfl, hCH⟩ trivial
  refine ⟨n, _, h1, h2, h3, hpost _ _ _ _ _ _ ⟨Cond.after_iff.mpr rfl, Cond.after_iff.mpr (eq_i res_at (Term.int_eval (1)) rfl), trivial⟩ ⟨hq.1, hq.2.1, hq.2.2.1, (hq.2.2.2.sift fun y hy => Or.inr (N y hy)).mono (ok rfl) (ok rfl)⟩⟩
theorem main_1_1 : Claimed_1_1 := comes_1 fun _ _ _ _ _ _ h hF => ⟨h.1, hF⟩
theorem main_1_2 : Claimed_1_2 := comes_1 fun _ _ _ _ _ _ h hF => ⟨h.2.1, hF⟩
end Jvm.Pilot.@@N@@
namespace Jvm.Pilot.@@N@@
open Jvm Jvm.ClassFile Sem Op Lib Jvm.Free Jvm.Stand Jvm.Pilot.@@N@@.Jvm.D
/-! MADE BY PROGRAM (witnessworld.py) out of the Statement's table words and the real class files: 23 classes; the members and pool entries that the words name. The judged class is class 1, her method 3. -/
namespace start1
open Jvm.ClassFile
def u (s : String) : CpInfo := .utf8 (stringToUtf16 s)
/-- a pool by its gaps: so many unusable entries, then the entry; so many at the end -/
def gap : Nat → List CpInfo → List CpInfo
  | 0, r => r
  | n + 1, r => .unusable :: gap n r
def poolList (es : List (Nat × CpInfo)) (last : Nat) : List CpInfo := es.foldr (fun e r => gap e.1 (e.2 :: r)) (gap last [])
def pool (es : List (Nat × CpInfo)) (last : Nat) : Array CpInfo := ⟨poolList es last⟩
def fileOf (pool : Array CpInfo) (this : Nat) (attrs : Array Attribute := #[]) (ms : Array MethodInfo := #[]) (fl : Nat := 33) (sup : Nat := 0) (ifs : Array Nat := #[]) (fds : Array FieldInfo := #[]) : ClassFile where
  minorVersion := 0
  majorVersion := 65
  constantPool := pool
  accessFlags := fl
  thisClass := this
  superClass := sup
  interfaces := ifs
  fields := fds
  methods := ms
  attributes := attrs
def plain (name : String) (sup : Option ClassId) : Class where
  name := name
  kind := .ordinary
  loader := none
  accessFlags := 33
  super := sup
  interfaces := #[]
  cf := none
  fields := #[]
  methods := #[]
  instanceTypes := #[]
  staticTypes := #[]
  resolved := #[]
  callSites := []
  init := .initialized
  statics := none
  mirror := none

def pool0 : Array CpInfo := pool [(5, u "<init>"), (0, u "()V"), (1, .class_ 10), (1, u "java/lang/Object")] 113

def k0c0 : Code := { maxStack := 0, maxLocals := 1, code := object_method_1_code, exceptionTable := #[], attributes := #[] }
def k0m0 : Method := { name := "<init>", desc := "()V", sig := { parameters := [], returnType := none }, accessFlags := 1, code := some k0c0 }
/-- java/lang/Object -/
def k0 : Class := { plain "java/lang/Object" none with
  accessFlags := 33
  interfaces := #[]
  cf := some (fileOf pool0 8 #[] #[{ accessFlags := 1, nameIndex := 5, descriptorIndex := 6, attributes := #[] }] 33 0 #[] #[])
  fields := #[]
  methods := #[k0m0]
  instanceTypes := #[]
  staticTypes := #[]
  resolved := Array.replicate 124 none
  statics := none }

def pool1 : Array CpInfo := pool [(2, .class_ 4), (1, u "java/lang/Object"), (0, u "<init>"), (0, u "()V"), (0, .integer 65536), (0, .integer 65279), (0, .integer 65535), (0, .class_ 11), (0, u "java/lang/String"), (0, .methodref 10 13), (0, .nameAndType 5 14), (0, u "([C)V"), (0, .methodref 16 17), (0, .class_ 18), (0, .nameAndType 19 20), (0, u "com/example/epaulet/epaulet/io/InputFilesWithoutByteOrderMarkPinLaw"), (0, u "ch"), (0, u "(I)C"), (0, .methodref 16 22), (0, .nameAndType 23 24), (0, u "mk"), (0, u "(ICCC)Ljava/lang/String;"), (0, .methodref 26 27), (0, .class_ 28), (0, .nameAndType 29 30), (0, u "com/example/epaulet/epaulet/io/InputFiles"), (0, u "withoutByteOrderMark"), (0, u "(Ljava/lang/String;)Ljava/lang/String;"), (0, .methodref 10 32), (0, .nameAndType 33 34), (0, u "equals"), (0, u "(Ljava/lang/Object;)Z"), (3, u "law"), (0, u "(IIII)Z")] 2

def k1m0 : Method := { name := "<init>", desc := "()V", sig := { parameters := [], returnType := none }, accessFlags := 2, code := none }
def k1c1 : Code := { maxStack := 2, maxLocals := 1, code := method_2_code, exceptionTable := #[], attributes := #[] }
def k1m1 : Method := { name := "ch", desc := "(I)C", sig := { parameters := [.int], returnType := some .char }, accessFlags := 10, code := some k1c1 }
def k1c2 : Code := { maxStack := 6, maxLocals := 4, code := method_3_code, exceptionTable := #[], attributes := #[] }
def k1m2 : Method := { name := "mk", desc := "(ICCC)Ljava/lang/String;", sig := { parameters := [.int, .char, .char, .char], returnType := some (.object "java/lang/String") }, accessFlags := 10, code := some k1c2 }
def k1c3 : Code := { maxStack := 4, maxLocals := 11, code := code, exceptionTable := #[], attributes := #[] }
def k1m3 : Method := { name := "law", desc := "(IIII)Z", sig := { parameters := [.int, .int, .int, .int], returnType := some .boolean }, accessFlags := 9, code := some k1c3 }
/-- com/example/epaulet/epaulet/io/InputFilesWithoutByteOrderMarkPinLaw -/
def k1 : Class := { plain "com/example/epaulet/epaulet/io/InputFilesWithoutByteOrderMarkPinLaw" (some 0) with
  accessFlags := 49
  interfaces := #[]
  cf := some (fileOf pool1 16 #[] #[{ accessFlags := 2, nameIndex := 5, descriptorIndex := 6, attributes := #[] }, { accessFlags := 10, nameIndex := 19, descriptorIndex := 20, attributes := #[] }, { accessFlags := 10, nameIndex := 23, descriptorIndex := 24, attributes := #[] }, { accessFlags := 9, nameIndex := 38, descriptorIndex := 39, attributes := #[] }] 49 2 #[] #[])
  fields := #[]
  methods := #[k1m0, k1m1, k1m2, k1m3]
  instanceTypes := #[]
  staticTypes := #[]
  resolved := Array.replicate 42 none
  statics := none }

def pool2 : Array CpInfo := pool [(1, .class_ 2), (0, u "java/io/Serializable"), (0, .class_ 4), (0, u "java/lang/Object")] 2

/-- java/io/Serializable -/
def k2 : Class := { plain "java/io/Serializable" (some 0) with
  accessFlags := 1537
  interfaces := #[]
  cf := some (fileOf pool2 1 #[] #[] 1537 3 #[] #[])
  fields := #[]
  methods := #[]
  instanceTypes := #[]
  staticTypes := #[]
  resolved := Array.replicate 7 none
  statics := none }

def pool3 : Array CpInfo := pool [(1, .class_ 2), (0, u "java/lang/Comparable"), (0, .class_ 4), (0, u "java/lang/Object")] 7

/-- java/lang/Comparable -/
def k3 : Class := { plain "java/lang/Comparable" (some 0) with
  accessFlags := 1537
  interfaces := #[]
  cf := some (fileOf pool3 1 #[] #[] 1537 3 #[] #[])
  fields := #[]
  methods := #[]
  instanceTypes := #[]
  staticTypes := #[]
  resolved := Array.replicate 12 none
  statics := none }

def pool4 : Array CpInfo := pool [(2, .class_ 4), (1, u "java/lang/CharSequence"), (42, .class_ 48), (0, u "java/lang/CharSequence$1CodePointIterator"), (10, .class_ 60), (0, u "java/lang/CharSequence$1CharIterator"), (5, .class_ 67), (0, u "java/lang/Object")] 63

/-- java/lang/CharSequence -/
def k4 : Class := { plain "java/lang/CharSequence" (some 0) with
  accessFlags := 1537
  interfaces := #[]
  cf := some (fileOf pool4 2 #[.nestMembers #[47, 59]] #[] 1537 66 #[] #[])
  fields := #[]
  methods := #[]
  instanceTypes := #[]
  staticTypes := #[]
  resolved := Array.replicate 131 none
  statics := none }

def pool5 : Array CpInfo := pool [(1, .class_ 2), (0, u "java/lang/constant/Constable"), (0, .class_ 4), (0, u "java/lang/Object")] 6

/-- java/lang/constant/Constable -/
def k5 : Class := { plain "java/lang/constant/Constable" (some 0) with
  accessFlags := 1537
  interfaces := #[]
  cf := some (fileOf pool5 1 #[] #[] 1537 3 #[] #[])
  fields := #[]
  methods := #[]
  instanceTypes := #[]
  staticTypes := #[]
  resolved := Array.replicate 11 none
  statics := none }

def pool6 : Array CpInfo := pool [(1, .class_ 2), (0, u "java/lang/constant/ConstantDesc"), (0, .class_ 4), (0, u "java/lang/Object")] 32

/-- java/lang/constant/ConstantDesc -/
def k6 : Class := { plain "java/lang/constant/ConstantDesc" (some 0) with
  accessFlags := 1537
  interfaces := #[]
  cf := some (fileOf pool6 1 #[] #[] 1537 3 #[] #[])
  fields := #[]
  methods := #[]
  instanceTypes := #[]
  staticTypes := #[]
  resolved := Array.replicate 37 none
  statics := none }

def pool7 : Array CpInfo := pool [(1, .methodref 2 3), (0, .class_ 4), (0, .nameAndType 5 6), (0, u "java/lang/Object"), (0, u "<init>"), (0, u "()V"), (0, .string 8), (0, u ""), (0, .fieldref 10 11), (0, .class_ 12), (0, .nameAndType 13 14), (0, u "java/lang/String"), (0, u "value"), (0, u "[B"), (0, .fieldref 10 16), (0, .nameAndType 17 18), (0, u "coder"), (0, u "B"), (2, u "hash"), (0, u "I"), (2, u "hashIsZero"), (0, u "Z"), (0, .methodref 10 28), (0, .nameAndType 5 29), (0, u "([CIILjava/lang/Void;)V"), (6, u "checkBoundsOffCount"), (0, u "(III)I"), (0, .fieldref 10 39), (0, .nameAndType 40 26), (0, u "COMPACT_STRINGS"), (1, .class_ 44), (1, u "java/lang/StringUTF16"), (0, u "compress"), (1, .methodref 42 48), (0, .nameAndType 49 50), (0, u "coderFromArrayLen"), (0, u "([BI)B"), (56, .class_ 109), (1, u "java/lang/StringLatin1"), (32, u "()Z"), (34, .methodref 42 178), (0, .nameAndType 45 179), (0, u "([CII)[B"), (31, u "([BB)V"), (122, u "()I"), (0, .methodref 10 336), (0, .nameAndType 17 337), (0, u "()B"), (25, u "([BI)C"), (27, u "(II)V"), (35, u "(I)C"), (64, .methodref 10 493), (0, .nameAndType 494 142), (0, u "isLatin1"), (0, .methodref 107 496), (0, .nameAndType 497 363), (0, u "charAt"), (0, .methodref 42 496), (2, u "checkIndex"), (3, .methodref 10 506), (0, .nameAndType 507 334), (0, u "length"), (5, u "checkFromToIndex"), (7, .methodref 10 522), (0, .nameAndType 523 524), (0, u "checkBoundsBeginEnd"), (0, u "(III)V"), (16, .methodref 107 542), (0, .nameAndType 543 544), (0, u "equals"), (0, u "([B[B)Z"), (28, u "(Ljava/lang/Object;)Z"), (1, .class_ 576), (0, u "java/lang/CharSequence"), (22, u "CASE_INSENSITIVE_ORDER"), (0, u "Ljava/util/Comparator;"), (80, .methodref 10 682), (0, .nameAndType 683 684), (0, u "substring"), (0, u "(II)Ljava/lang/String;"), (1, .nameAndType 687 688), (0, u "newString"), (0, u "([BII)Ljava/lang/String;"), (0, .methodref 42 686), (2, u "isEmpty"), (199, u "(I)Ljava/lang/String;"), (117, u "([C)V"), (42, .fieldref 1054 1055), (0, .class_ 1056), (0, .nameAndType 1057 1058), (0, u "jdk/internal/util/Preconditions"), (0, u "SIOOBE_FORMATTER"), (0, u "Ljava/util/function/BiFunction;"), (0, .methodref 1054 1060), (0, .nameAndType 501 1061), (0, u "(IILjava/util/function/BiFunction;)I"), (0, .methodref 1054 1063), (0, .nameAndType 513 1064), (0, u "(IIILjava/util/function/BiFunction;)I"), (0, .methodref 1054 1066), (0, .nameAndType 1067 1064), (0, u "checkFromIndexSize"), (33, u "serialPersistentFields"), (0, u "[Ljava/io/ObjectStreamField;"), (0, .class_ 1104), (0, u "java/lang/String$CaseInsensitiveComparator"), (1, .class_ 1107), (0, u "java/io/Serializable"), (0, .class_ 1109), (0, u "java/lang/Comparable"), (0, .class_ 1111), (0, u "java/lang/constant/Constable"), (0, .class_ 1113), (0, u "java/lang/constant/ConstantDesc"), (2, u "serialVersionUID"), (0, u "J"), (3, u "REPL"), (0, u "C"), (2, u "LATIN1"), (1, u "UTF16")] 323

def k7m0 : Method := { name := "<init>", desc := "()V", sig := { parameters := [], returnType := none }, accessFlags := 1, code := none }
def k7c1 : Code := { maxStack := 5, maxLocals := 2, code := jdk_42_method_3_code, exceptionTable := #[], attributes := #[] }
def k7m1 : Method := { name := "<init>", desc := "([C)V", sig := { parameters := [(.array .char)], returnType := none }, accessFlags := 1, code := some k7c1 }
def k7c2 : Code := { maxStack := 2, maxLocals := 1, code := jdk_42_method_54_code, exceptionTable := #[], attributes := #[] }
def k7m2 : Method := { name := "length", desc := "()I", sig := { parameters := [], returnType := some .int }, accessFlags := 1, code := some k7c2 }
def k7c3 : Code := { maxStack := 1, maxLocals := 1, code := jdk_42_method_55_code, exceptionTable := #[], attributes := #[] }
def k7m3 : Method := { name := "isEmpty", desc := "()Z", sig := { parameters := [], returnType := some .boolean }, accessFlags := 1, code := some k7c3 }
def k7c4 : Code := { maxStack := 2, maxLocals := 2, code := jdk_42_method_56_code, exceptionTable := #[], attributes := #[] }
def k7m4 : Method := { name := "charAt", desc := "(I)C", sig := { parameters := [.int], returnType := some .char }, accessFlags := 1, code := some k7c4 }
def k7c5 : Code := { maxStack := 2, maxLocals := 3, code := jdk_42_method_66_code, exceptionTable := #[], attributes := #[] }
def k7m5 : Method := { name := "equals", desc := "(Ljava/lang/Object;)Z", sig := { parameters := [(.object "java/lang/Object")], returnType := some .boolean }, accessFlags := 1, code := some k7c5 }
def k7c6 : Code := { maxStack := 3, maxLocals := 2, code := jdk_42_method_91_code, exceptionTable := #[], attributes := #[] }
def k7m6 : Method := { name := "substring", desc := "(I)Ljava/lang/String;", sig := { parameters := [.int], returnType := some (.object "java/lang/String") }, accessFlags := 1, code := some k7c6 }
def k7c7 : Code := { maxStack := 3, maxLocals := 5, code := jdk_42_method_92_code, exceptionTable := #[], attributes := #[] }
def k7m7 : Method := { name := "substring", desc := "(II)Ljava/lang/String;", sig := { parameters := [.int, .int], returnType := some (.object "java/lang/String") }, accessFlags := 1, code := some k7c7 }
def k7c8 : Code := { maxStack := 4, maxLocals := 6, code := jdk_42_method_149_code, exceptionTable := #[], attributes := #[] }
def k7m8 : Method := { name := "<init>", desc := "([CIILjava/lang/Void;)V", sig := { parameters := [(.array .char), .int, .int, (.object "java/lang/Void")], returnType := none }, accessFlags := 2, code := some k7c8 }
def k7c9 : Code := { maxStack := 2, maxLocals := 3, code := jdk_42_method_151_code, exceptionTable := #[], attributes := #[] }
def k7m9 : Method := { name := "<init>", desc := "([BB)V", sig := { parameters := [(.array .byte), .byte], returnType := none }, accessFlags := 0, code := some k7c9 }
def k7c10 : Code := { maxStack := 1, maxLocals := 1, code := jdk_42_method_152_code, exceptionTable := #[], attributes := #[] }
def k7m10 : Method := { name := "coder", desc := "()B", sig := { parameters := [], returnType := some .byte }, accessFlags := 0, code := some k7c10 }
def k7c11 : Code := { maxStack := 1, maxLocals := 1, code := jdk_42_method_154_code, exceptionTable := #[], attributes := #[] }
def k7m11 : Method := { name := "isLatin1", desc := "()Z", sig := { parameters := [], returnType := some .boolean }, accessFlags := 0, code := some k7c11 }
def k7c12 : Code := { maxStack := 3, maxLocals := 2, code := jdk_42_method_155_code, exceptionTable := #[], attributes := #[] }
def k7m12 : Method := { name := "checkIndex", desc := "(II)V", sig := { parameters := [.int, .int], returnType := none }, accessFlags := 8, code := some k7c12 }
def k7c13 : Code := { maxStack := 4, maxLocals := 3, code := jdk_42_method_157_code, exceptionTable := #[], attributes := #[] }
def k7m13 : Method := { name := "checkBoundsOffCount", desc := "(III)I", sig := { parameters := [.int, .int, .int], returnType := some .int }, accessFlags := 8, code := some k7c13 }
def k7c14 : Code := { maxStack := 4, maxLocals := 3, code := jdk_42_method_158_code, exceptionTable := #[], attributes := #[] }
def k7m14 : Method := { name := "checkBoundsBeginEnd", desc := "(III)V", sig := { parameters := [.int, .int, .int], returnType := none }, accessFlags := 8, code := some k7c14 }
/-- java/lang/String -/
def k7 : Class := { plain "java/lang/String" (some 0) with
  accessFlags := 49
  interfaces := #[2, 3, 4, 5, 6]
  cf := some (fileOf pool7 10 #[.nestMembers #[1103]] #[{ accessFlags := 1, nameIndex := 5, descriptorIndex := 6, attributes := #[] }, { accessFlags := 1, nameIndex := 5, descriptorIndex := 1010, attributes := #[] }, { accessFlags := 1, nameIndex := 507, descriptorIndex := 334, attributes := #[] }, { accessFlags := 1, nameIndex := 692, descriptorIndex := 142, attributes := #[] }, { accessFlags := 1, nameIndex := 497, descriptorIndex := 427, attributes := #[] }, { accessFlags := 1, nameIndex := 543, descriptorIndex := 573, attributes := #[] }, { accessFlags := 1, nameIndex := 683, descriptorIndex := 892, attributes := #[] }, { accessFlags := 1, nameIndex := 683, descriptorIndex := 684, attributes := #[] }, { accessFlags := 2, nameIndex := 5, descriptorIndex := 29, attributes := #[] }, { accessFlags := 0, nameIndex := 5, descriptorIndex := 211, attributes := #[] }, { accessFlags := 0, nameIndex := 17, descriptorIndex := 337, attributes := #[] }, { accessFlags := 0, nameIndex := 494, descriptorIndex := 142, attributes := #[] }, { accessFlags := 8, nameIndex := 501, descriptorIndex := 391, attributes := #[] }, { accessFlags := 8, nameIndex := 36, descriptorIndex := 37, attributes := #[] }, { accessFlags := 8, nameIndex := 523, descriptorIndex := 524, attributes := #[] }] 49 2 #[1106, 1108, 575, 1110, 1112] #[{ accessFlags := 18, nameIndex := 13, descriptorIndex := 14, attributes := #[] }, { accessFlags := 18, nameIndex := 17, descriptorIndex := 18, attributes := #[] }, { accessFlags := 2, nameIndex := 21, descriptorIndex := 22, attributes := #[] }, { accessFlags := 2, nameIndex := 25, descriptorIndex := 26, attributes := #[] }, { accessFlags := 26, nameIndex := 1116, descriptorIndex := 1117, attributes := #[] }, { accessFlags := 24, nameIndex := 40, descriptorIndex := 26, attributes := #[] }, { accessFlags := 26, nameIndex := 1101, descriptorIndex := 1102, attributes := #[] }, { accessFlags := 26, nameIndex := 1121, descriptorIndex := 1122, attributes := #[] }, { accessFlags := 25, nameIndex := 599, descriptorIndex := 600, attributes := #[] }, { accessFlags := 24, nameIndex := 1125, descriptorIndex := 18, attributes := #[] }, { accessFlags := 24, nameIndex := 1127, descriptorIndex := 18, attributes := #[] }])
  fields := #[{ name := "value", type := (.array .byte), accessFlags := 18, slot := 0, constantValue := 0 }, { name := "coder", type := .byte, accessFlags := 18, slot := 1, constantValue := 0 }, { name := "hash", type := .int, accessFlags := 2, slot := 2, constantValue := 0 }, { name := "hashIsZero", type := .boolean, accessFlags := 2, slot := 3, constantValue := 0 }, { name := "serialVersionUID", type := .long, accessFlags := 26, slot := 0, constantValue := 0 }, { name := "COMPACT_STRINGS", type := .boolean, accessFlags := 24, slot := 1, constantValue := 0 }, { name := "serialPersistentFields", type := (.array (.object "java/io/ObjectStreamField")), accessFlags := 26, slot := 2, constantValue := 0 }, { name := "REPL", type := .char, accessFlags := 26, slot := 3, constantValue := 0 }, { name := "CASE_INSENSITIVE_ORDER", type := (.object "java/util/Comparator"), accessFlags := 25, slot := 4, constantValue := 0 }, { name := "LATIN1", type := .byte, accessFlags := 24, slot := 5, constantValue := 0 }, { name := "UTF16", type := .byte, accessFlags := 24, slot := 6, constantValue := 0 }]
  methods := #[k7m0, k7m1, k7m2, k7m3, k7m4, k7m5, k7m6, k7m7, k7m8, k7m9, k7m10, k7m11, k7m12, k7m13, k7m14]
  instanceTypes := #[(.array .byte), .byte, .int, .boolean]
  staticTypes := #[.long, .boolean, (.array (.object "java/io/ObjectStreamField")), .char, (.object "java/util/Comparator"), .byte, .byte]
  resolved := Array.replicate 1451 none
  statics := some 0 }

def pool8 : Array CpInfo := pool [(2, .class_ 4), (1, u "java/lang/Object"), (0, u "<init>"), (0, u "()V"), (0, .class_ 8), (0, u "com/example/epaulet/epaulet/io/InputFiles"), (55, .class_ 66), (1, u "java/lang/String"), (5, u "(Ljava/lang/String;)Ljava/lang/String;"), (35, u "withoutByteOrderMark"), (24, .methodref 64 134), (0, .nameAndType 135 136), (0, u "isEmpty"), (0, u "()Z"), (0, .methodref 64 138), (0, .nameAndType 139 140), (0, u "charAt"), (0, u "(I)C"), (0, .integer 65279), (0, .methodref 64 143), (0, .nameAndType 144 145), (0, u "substring"), (0, u "(I)Ljava/lang/String;"), (28, u "MIB"), (0, u "I"), (2, u "MAX_MIB"), (1, u "BYTE_ORDER_MARK"), (0, u "C"), (0, u "NOT_UTF8"), (0, u "Ljava/lang/String;")] 36

def k8m0 : Method := { name := "<init>", desc := "()V", sig := { parameters := [], returnType := none }, accessFlags := 2, code := none }
def k8c1 : Code := { maxStack := 2, maxLocals := 1, code := prog_17_method_7_code, exceptionTable := #[], attributes := #[] }
def k8m1 : Method := { name := "withoutByteOrderMark", desc := "(Ljava/lang/String;)Ljava/lang/String;", sig := { parameters := [(.object "java/lang/String")], returnType := some (.object "java/lang/String") }, accessFlags := 8, code := some k8c1 }
/-- com/example/epaulet/epaulet/io/InputFiles -/
def k8 : Class := { plain "com/example/epaulet/epaulet/io/InputFiles" (some 0) with
  accessFlags := 48
  interfaces := #[]
  cf := some (fileOf pool8 7 #[] #[{ accessFlags := 2, nameIndex := 5, descriptorIndex := 6, attributes := #[] }, { accessFlags := 8, nameIndex := 108, descriptorIndex := 72, attributes := #[] }] 48 2 #[] #[{ accessFlags := 24, nameIndex := 174, descriptorIndex := 175, attributes := #[] }, { accessFlags := 24, nameIndex := 178, descriptorIndex := 175, attributes := #[] }, { accessFlags := 24, nameIndex := 180, descriptorIndex := 181, attributes := #[] }, { accessFlags := 24, nameIndex := 182, descriptorIndex := 183, attributes := #[] }])
  fields := #[{ name := "MIB", type := .int, accessFlags := 24, slot := 0, constantValue := 0 }, { name := "MAX_MIB", type := .int, accessFlags := 24, slot := 1, constantValue := 0 }, { name := "BYTE_ORDER_MARK", type := .char, accessFlags := 24, slot := 2, constantValue := 0 }, { name := "NOT_UTF8", type := (.object "java/lang/String"), accessFlags := 24, slot := 3, constantValue := 0 }]
  methods := #[k8m0, k8m1]
  instanceTypes := #[]
  staticTypes := #[.int, .int, .char, (.object "java/lang/String")]
  resolved := Array.replicate 220 none
  statics := none }

def pool9 : Array CpInfo := pool [(3, .class_ 4), (0, u "java/lang/String"), (1, .class_ 8), (1, u "java/lang/Object"), (0, u "<init>"), (0, u "()V"), (0, .methodref 12 13), (0, .class_ 14), (0, .nameAndType 15 16), (0, u "java/lang/StringUTF16"), (0, u "newBytesLength"), (0, u "(I)I"), (3, .integer 1073741823), (23, .fieldref 12 45), (0, .nameAndType 46 47), (0, u "$assertionsDisabled"), (0, u "Z"), (0, .methodref 12 49), (0, .nameAndType 50 51), (0, u "length"), (0, u "([B)I"), (7, .fieldref 12 60), (0, .nameAndType 61 62), (0, u "HI_BYTE_SHIFT"), (0, u "I"), (0, .fieldref 12 64), (0, .nameAndType 65 62), (0, u "LO_BYTE_SHIFT"), (1, .methodref 12 68), (0, .nameAndType 69 70), (0, u "checkIndex"), (0, u "(I[B)V"), (0, .methodref 12 72), (0, .nameAndType 73 74), (0, u "getChar"), (0, u "([BI)C"), (24, u "(II[B)V"), (7, .methodref 12 108), (0, .nameAndType 109 110), (0, u "newBytesFor"), (0, u "(I)[B"), (0, .methodref 12 112), (0, .nameAndType 113 114), (0, u "putChar"), (0, u "([BII)V"), (0, .methodref 12 116), (0, .nameAndType 117 118), (0, u "compress"), (0, u "([CI[BII)I"), (0, .methodref 12 120), (0, .nameAndType 121 122), (0, u "toBytes"), (0, u "([CII)[B"), (0, .methodref 12 124), (0, .nameAndType 117 125), (0, u "([BI[BII)I"), (0, .methodref 127 128), (0, .class_ 129), (0, .nameAndType 130 131), (0, u "java/util/Arrays"), (0, u "copyOfRange"), (0, u "([BII)[B"), (41, .methodref 12 174), (0, .nameAndType 175 99), (0, u "checkBoundsOffCount"), (75, .fieldref 3 252), (0, .nameAndType 253 47), (0, u "COMPACT_STRINGS"), (3, .methodref 12 258), (0, .nameAndType 117 131), (0, .methodref 12 260), (0, .nameAndType 261 262), (0, u "coderFromArrayLen"), (0, u "([BI)B"), (0, .methodref 3 264), (0, .nameAndType 9 265), (0, u "([BB)V"), (15, u "(III)I"), (13, .string 296), (0, u ""), (30, u "newString"), (0, u "([BII)Ljava/lang/String;"), (40, .class_ 371), (1, u "java/lang/StringUTF16$LinesSpliterator"), (20, u "charAt"), (21, .methodref 3 415), (0, .nameAndType 69 416), (0, u "(II)V"), (2, .methodref 3 420), (0, .nameAndType 175 281), (9, u "MAX_LENGTH"), (196, .class_ 628), (0, u "java/lang/StringUTF16$CodePointsSpliterator"), (0, .class_ 630), (0, u "java/lang/StringUTF16$CharsSpliterator")] 4

def k9m0 : Method := { name := "<init>", desc := "()V", sig := { parameters := [], returnType := none }, accessFlags := 0, code := none }
def k9c1 : Code := { maxStack := 1, maxLocals := 1, code := jdk_52_method_2_code, exceptionTable := #[], attributes := #[] }
def k9m1 : Method := { name := "newBytesFor", desc := "(I)[B", sig := { parameters := [.int], returnType := some (.array .byte) }, accessFlags := 9, code := some k9c1 }
def k9c2 : Code := { maxStack := 4, maxLocals := 1, code := jdk_52_method_3_code, exceptionTable := #[], attributes := #[] }
def k9m2 : Method := { name := "newBytesLength", desc := "(I)I", sig := { parameters := [.int], returnType := some .int }, accessFlags := 9, code := some k9c2 }
def k9c3 : Code := { maxStack := 4, maxLocals := 3, code := jdk_52_method_4_code, exceptionTable := #[], attributes := #[] }
def k9m3 : Method := { name := "putChar", desc := "([BII)V", sig := { parameters := [(.array .byte), .int, .int], returnType := none }, accessFlags := 8, code := some k9c3 }
def k9c4 : Code := { maxStack := 3, maxLocals := 2, code := jdk_52_method_5_code, exceptionTable := #[], attributes := #[] }
def k9m4 : Method := { name := "getChar", desc := "([BI)C", sig := { parameters := [(.array .byte), .int], returnType := some .char }, accessFlags := 8, code := some k9c4 }
def k9c5 : Code := { maxStack := 2, maxLocals := 1, code := jdk_52_method_6_code, exceptionTable := #[], attributes := #[] }
def k9m5 : Method := { name := "length", desc := "([B)I", sig := { parameters := [(.array .byte)], returnType := some .int }, accessFlags := 9, code := some k9c5 }
def k9c6 : Code := { maxStack := 4, maxLocals := 5, code := jdk_52_method_14_code, exceptionTable := #[], attributes := #[] }
def k9m6 : Method := { name := "toBytes", desc := "([CII)[B", sig := { parameters := [(.array .char), .int, .int], returnType := some (.array .byte) }, accessFlags := 9, code := some k9c6 }
def k9c7 : Code := { maxStack := 2, maxLocals := 2, code := jdk_52_method_15_code, exceptionTable := #[], attributes := #[] }
def k9m7 : Method := { name := "coderFromArrayLen", desc := "([BI)B", sig := { parameters := [(.array .byte), .int], returnType := some .byte }, accessFlags := 8, code := some k9c7 }
def k9c8 : Code := { maxStack := 5, maxLocals := 6, code := jdk_52_method_16_code, exceptionTable := #[], attributes := #[] }
def k9m8 : Method := { name := "compress", desc := "([CII)[B", sig := { parameters := [(.array .char), .int, .int], returnType := some (.array .byte) }, accessFlags := 9, code := some k9c8 }
def k9c9 : Code := { maxStack := 5, maxLocals := 6, code := jdk_52_method_17_code, exceptionTable := #[], attributes := #[] }
def k9m9 : Method := { name := "compress", desc := "([BII)[B", sig := { parameters := [(.array .byte), .int, .int], returnType := some (.array .byte) }, accessFlags := 9, code := some k9c9 }
def k9c10 : Code := { maxStack := 3, maxLocals := 7, code := jdk_52_method_21_code, exceptionTable := #[], attributes := #[] }
def k9m10 : Method := { name := "compress", desc := "([CI[BII)I", sig := { parameters := [(.array .char), .int, (.array .byte), .int, .int], returnType := some .int }, accessFlags := 9, code := some k9c10 }
def k9c11 : Code := { maxStack := 3, maxLocals := 7, code := jdk_52_method_22_code, exceptionTable := #[], attributes := #[] }
def k9m11 : Method := { name := "compress", desc := "([BI[BII)I", sig := { parameters := [(.array .byte), .int, (.array .byte), .int, .int], returnType := some .int }, accessFlags := 9, code := some k9c11 }
def k9c12 : Code := { maxStack := 6, maxLocals := 5, code := jdk_52_method_69_code, exceptionTable := #[], attributes := #[] }
def k9m12 : Method := { name := "newString", desc := "([BII)Ljava/lang/String;", sig := { parameters := [(.array .byte), .int, .int], returnType := some (.object "java/lang/String") }, accessFlags := 9, code := some k9c12 }
def k9c13 : Code := { maxStack := 2, maxLocals := 2, code := jdk_52_method_83_code, exceptionTable := #[], attributes := #[] }
def k9m13 : Method := { name := "charAt", desc := "([BI)C", sig := { parameters := [(.array .byte), .int], returnType := some .char }, accessFlags := 9, code := some k9c13 }
def k9c14 : Code := { maxStack := 2, maxLocals := 2, code := jdk_52_method_91_code, exceptionTable := #[], attributes := #[] }
def k9m14 : Method := { name := "checkIndex", desc := "(I[B)V", sig := { parameters := [.int, (.array .byte)], returnType := none }, accessFlags := 9, code := some k9c14 }
def k9c15 : Code := { maxStack := 3, maxLocals := 3, code := jdk_52_method_94_code, exceptionTable := #[], attributes := #[] }
def k9m15 : Method := { name := "checkBoundsOffCount", desc := "(II[B)V", sig := { parameters := [.int, .int, (.array .byte)], returnType := none }, accessFlags := 9, code := some k9c15 }
/-- java/lang/StringUTF16 -/
def k9 : Class := { plain "java/lang/StringUTF16" (some 0) with
  accessFlags := 48
  interfaces := #[]
  cf := some (fileOf pool9 12 #[.nestMembers #[627, 629, 369]] #[{ accessFlags := 0, nameIndex := 9, descriptorIndex := 10, attributes := #[] }, { accessFlags := 9, nameIndex := 109, descriptorIndex := 110, attributes := #[] }, { accessFlags := 9, nameIndex := 15, descriptorIndex := 16, attributes := #[] }, { accessFlags := 8, nameIndex := 113, descriptorIndex := 114, attributes := #[] }, { accessFlags := 8, nameIndex := 73, descriptorIndex := 74, attributes := #[] }, { accessFlags := 9, nameIndex := 50, descriptorIndex := 51, attributes := #[] }, { accessFlags := 9, nameIndex := 121, descriptorIndex := 122, attributes := #[] }, { accessFlags := 8, nameIndex := 261, descriptorIndex := 262, attributes := #[] }, { accessFlags := 9, nameIndex := 117, descriptorIndex := 122, attributes := #[] }, { accessFlags := 9, nameIndex := 117, descriptorIndex := 131, attributes := #[] }, { accessFlags := 9, nameIndex := 117, descriptorIndex := 118, attributes := #[] }, { accessFlags := 9, nameIndex := 117, descriptorIndex := 125, attributes := #[] }, { accessFlags := 9, nameIndex := 327, descriptorIndex := 328, attributes := #[] }, { accessFlags := 9, nameIndex := 392, descriptorIndex := 74, attributes := #[] }, { accessFlags := 9, nameIndex := 69, descriptorIndex := 70, attributes := #[] }, { accessFlags := 9, nameIndex := 175, descriptorIndex := 99, attributes := #[] }] 48 6 #[] #[{ accessFlags := 26, nameIndex := 61, descriptorIndex := 62, attributes := #[] }, { accessFlags := 26, nameIndex := 65, descriptorIndex := 62, attributes := #[] }, { accessFlags := 24, nameIndex := 430, descriptorIndex := 62, attributes := #[] }, { accessFlags := 4120, nameIndex := 46, descriptorIndex := 47, attributes := #[] }])
  fields := #[{ name := "HI_BYTE_SHIFT", type := .int, accessFlags := 26, slot := 0, constantValue := 0 }, { name := "LO_BYTE_SHIFT", type := .int, accessFlags := 26, slot := 1, constantValue := 0 }, { name := "MAX_LENGTH", type := .int, accessFlags := 24, slot := 2, constantValue := 0 }, { name := "$assertionsDisabled", type := .boolean, accessFlags := 4120, slot := 3, constantValue := 0 }]
  methods := #[k9m0, k9m1, k9m2, k9m3, k9m4, k9m5, k9m6, k9m7, k9m8, k9m9, k9m10, k9m11, k9m12, k9m13, k9m14, k9m15]
  instanceTypes := #[]
  staticTypes := #[.int, .int, .int, .boolean]
  resolved := Array.replicate 635 none
  statics := some 1 }

def pool10 : Array CpInfo := pool [(1, .class_ 2), (0, u "java/lang/String"), (1, .class_ 6), (1, u "java/lang/Object"), (0, u "<init>"), (0, u "()V"), (0, .methodref 1 10), (0, .nameAndType 11 12), (0, u "checkIndex"), (0, u "(II)V"), (1, .class_ 16), (1, u "java/lang/StringLatin1"), (36, u "([BI)C"), (67, u "$assertionsDisabled"), (0, u "Z"), (98, .class_ 223), (1, u "java/lang/StringLatin1$LinesSpliterator"), (28, u "charAt"), (28, u "equals"), (0, u "([B[B)Z"), (107, .class_ 391), (0, u "java/lang/StringLatin1$CharsSpliterator")] 3

def k10m0 : Method := { name := "<init>", desc := "()V", sig := { parameters := [], returnType := none }, accessFlags := 0, code := none }
def k10c1 : Code := { maxStack := 2, maxLocals := 2, code := jdk_43_method_2_code, exceptionTable := #[], attributes := #[] }
def k10m1 : Method := { name := "charAt", desc := "([BI)C", sig := { parameters := [(.array .byte), .int], returnType := some .char }, accessFlags := 9, code := some k10c1 }
def k10c2 : Code := { maxStack := 3, maxLocals := 3, code := jdk_43_method_13_code, exceptionTable := #[], attributes := #[] }
def k10m2 : Method := { name := "equals", desc := "([B[B)Z", sig := { parameters := [(.array .byte), (.array .byte)], returnType := some .boolean }, accessFlags := 9, code := some k10c2 }
/-- java/lang/StringLatin1 -/
def k10 : Class := { plain "java/lang/StringLatin1" (some 0) with
  accessFlags := 48
  interfaces := #[]
  cf := some (fileOf pool10 14 #[.nestMembers #[390, 221]] #[{ accessFlags := 0, nameIndex := 7, descriptorIndex := 8, attributes := #[] }, { accessFlags := 9, nameIndex := 252, descriptorIndex := 53, attributes := #[] }, { accessFlags := 9, nameIndex := 281, descriptorIndex := 282, attributes := #[] }] 48 4 #[] #[{ accessFlags := 4120, nameIndex := 121, descriptorIndex := 122, attributes := #[] }])
  fields := #[{ name := "$assertionsDisabled", type := .boolean, accessFlags := 4120, slot := 0, constantValue := 0 }]
  methods := #[k10m0, k10m1, k10m2]
  instanceTypes := #[]
  staticTypes := #[.boolean]
  resolved := Array.replicate 395 none
  statics := none }

def pool11 : Array CpInfo := pool [(2, .class_ 4), (1, u "java/lang/Object"), (0, u "<init>"), (0, u "()V"), (17, .class_ 26), (1, u "jdk/internal/util/Preconditions"), (6, u "checkIndex"), (13, u "checkFromToIndex"), (1, u "checkFromIndexSize"), (5, .class_ 56), (0, u "jdk/internal/util/Preconditions$4"), (57, .class_ 115), (0, u "jdk/internal/util/Preconditions$1"), (7, u "SIOOBE_FORMATTER"), (0, u "Ljava/util/function/BiFunction;"), (0, .class_ 126), (0, u "jdk/internal/util/Preconditions$2"), (3, u "AIOOBE_FORMATTER"), (0, .class_ 132), (0, u "jdk/internal/util/Preconditions$3"), (3, u "IOOBE_FORMATTER"), (41, u "(IILjava/util/function/BiFunction;)I"), (4, u "(IIILjava/util/function/BiFunction;)I")] 10

def k11m0 : Method := { name := "<init>", desc := "()V", sig := { parameters := [], returnType := none }, accessFlags := 1, code := none }
def k11c1 : Code := { maxStack := 3, maxLocals := 3, code := jdk_41_method_11_code, exceptionTable := #[], attributes := #[] }
def k11m1 : Method := { name := "checkIndex", desc := "(IILjava/util/function/BiFunction;)I", sig := { parameters := [.int, .int, (.object "java/util/function/BiFunction")], returnType := some .int }, accessFlags := 9, code := some k11c1 }
def k11c2 : Code := { maxStack := 4, maxLocals := 4, code := jdk_41_method_12_code, exceptionTable := #[], attributes := #[] }
def k11m2 : Method := { name := "checkFromToIndex", desc := "(IIILjava/util/function/BiFunction;)I", sig := { parameters := [.int, .int, .int, (.object "java/util/function/BiFunction")], returnType := some .int }, accessFlags := 9, code := some k11c2 }
def k11c3 : Code := { maxStack := 4, maxLocals := 4, code := jdk_41_method_13_code, exceptionTable := #[], attributes := #[] }
def k11m3 : Method := { name := "checkFromIndexSize", desc := "(IIILjava/util/function/BiFunction;)I", sig := { parameters := [.int, .int, .int, (.object "java/util/function/BiFunction")], returnType := some .int }, accessFlags := 9, code := some k11c3 }
/-- jdk/internal/util/Preconditions -/
def k11 : Class := { plain "jdk/internal/util/Preconditions" (some 0) with
  accessFlags := 33
  interfaces := #[]
  cf := some (fileOf pool11 24 #[.nestMembers #[55, 131, 125, 114]] #[{ accessFlags := 1, nameIndex := 5, descriptorIndex := 6, attributes := #[] }, { accessFlags := 9, nameIndex := 33, descriptorIndex := 178, attributes := #[] }, { accessFlags := 9, nameIndex := 47, descriptorIndex := 183, attributes := #[] }, { accessFlags := 9, nameIndex := 49, descriptorIndex := 183, attributes := #[] }] 33 2 #[] #[{ accessFlags := 25, nameIndex := 123, descriptorIndex := 124, attributes := #[] }, { accessFlags := 25, nameIndex := 130, descriptorIndex := 124, attributes := #[] }, { accessFlags := 25, nameIndex := 136, descriptorIndex := 124, attributes := #[] }])
  fields := #[{ name := "SIOOBE_FORMATTER", type := (.object "java/util/function/BiFunction"), accessFlags := 25, slot := 0, constantValue := 0 }, { name := "AIOOBE_FORMATTER", type := (.object "java/util/function/BiFunction"), accessFlags := 25, slot := 1, constantValue := 0 }, { name := "IOOBE_FORMATTER", type := (.object "java/util/function/BiFunction"), accessFlags := 25, slot := 2, constantValue := 0 }]
  methods := #[k11m0, k11m1, k11m2, k11m3]
  instanceTypes := #[]
  staticTypes := #[(.object "java/util/function/BiFunction"), (.object "java/util/function/BiFunction"), (.object "java/util/function/BiFunction")]
  resolved := Array.replicate 194 none
  statics := some 2 }

def pool12 : Array CpInfo := pool [(2, .class_ 4), (1, u "java/lang/Object"), (0, u "<init>"), (0, u "()V"), (7, .class_ 16), (1, u "java/util/Arrays"), (57, .class_ 76), (1, u "java/util/Arrays$NaturalOrder"), (36, .class_ 115), (1, u "java/util/Arrays$LegacyMergeSort"), (1, u "Z"), (21, u "copyOfRange"), (10, .methodref 151 152), (0, .class_ 153), (0, .nameAndType 154 155), (0, u "java/lang/System"), (0, u "arraycopy"), (0, u "(Ljava/lang/Object;ILjava/lang/Object;II)V"), (148, .methodref 305 306), (0, .class_ 307), (0, .nameAndType 308 309), (0, u "java/lang/Math"), (0, u "min"), (0, u "(II)I"), (29, .methodref 14 340), (0, .nameAndType 341 342), (0, u "copyOfRangeByte"), (0, u "([BII)[B"), (0, .methodref 14 344), (0, .nameAndType 345 346), (0, u "checkLength"), (0, u "(II)V"), (28, .class_ 376), (0, u "java/util/Arrays$ArrayList"), (68, u "$assertionsDisabled"), (269, u "MIN_ARRAY_SORT_GRAN"), (0, u "I"), (2, u "INSERTIONSORT_THRESHOLD"), (255, .class_ 976), (0, u "java/util/Arrays$ArrayItr")] 52

def k12m0 : Method := { name := "<init>", desc := "()V", sig := { parameters := [], returnType := none }, accessFlags := 2, code := none }
def k12c1 : Code := { maxStack := 4, maxLocals := 2, code := jdk_65_method_131_code, exceptionTable := #[], attributes := #[] }
def k12m1 : Method := { name := "checkLength", desc := "(II)V", sig := { parameters := [.int, .int], returnType := none }, accessFlags := 10, code := some k12c1 }
def k12c2 : Code := { maxStack := 3, maxLocals := 3, code := jdk_65_method_132_code, exceptionTable := #[], attributes := #[] }
def k12m2 : Method := { name := "copyOfRange", desc := "([BII)[B", sig := { parameters := [(.array .byte), .int, .int], returnType := some (.array .byte) }, accessFlags := 9, code := some k12c2 }
def k12c3 : Code := { maxStack := 6, maxLocals := 5, code := jdk_65_method_133_code, exceptionTable := #[], attributes := #[] }
def k12m3 : Method := { name := "copyOfRangeByte", desc := "([BII)[B", sig := { parameters := [(.array .byte), .int, .int], returnType := some (.array .byte) }, accessFlags := 10, code := some k12c3 }
/-- java/util/Arrays -/
def k12 : Class := { plain "java/util/Arrays" (some 0) with
  accessFlags := 49
  interfaces := #[]
  cf := some (fileOf pool12 14 #[.nestMembers #[975, 375, 113, 74]] #[{ accessFlags := 2, nameIndex := 5, descriptorIndex := 6, attributes := #[] }, { accessFlags := 10, nameIndex := 345, descriptorIndex := 346, attributes := #[] }, { accessFlags := 9, nameIndex := 139, descriptorIndex := 342, attributes := #[] }, { accessFlags := 10, nameIndex := 341, descriptorIndex := 342, attributes := #[] }] 49 2 #[] #[{ accessFlags := 26, nameIndex := 715, descriptorIndex := 716, attributes := #[] }, { accessFlags := 26, nameIndex := 719, descriptorIndex := 716, attributes := #[] }, { accessFlags := 4120, nameIndex := 445, descriptorIndex := 117, attributes := #[] }])
  fields := #[{ name := "MIN_ARRAY_SORT_GRAN", type := .int, accessFlags := 26, slot := 0, constantValue := 0 }, { name := "INSERTIONSORT_THRESHOLD", type := .int, accessFlags := 26, slot := 1, constantValue := 0 }, { name := "$assertionsDisabled", type := .boolean, accessFlags := 4120, slot := 2, constantValue := 0 }]
  methods := #[k12m0, k12m1, k12m2, k12m3]
  instanceTypes := #[]
  staticTypes := #[.int, .int, .boolean]
  resolved := Array.replicate 1029 none
  statics := none }

def pool13 : Array CpInfo := pool [(1, .class_ 2), (0, u "java/lang/Math"), (1, .class_ 6), (1, u "java/lang/Object"), (0, u "<init>"), (0, u "()V"), (89, .class_ 100), (1, u "java/lang/Math$RandomNumberGeneratorHolder"), (71, u "negativeZeroFloatBits"), (0, u "J"), (2, u "negativeZeroDoubleBits"), (24, u "min"), (43, u "$assertionsDisabled"), (0, u "Z"), (88, u "(II)I"), (2, u "twoToTheDoubleScaleDown"), (0, u "D"), (4, u "twoToTheDoubleScaleUp"), (9, u "E"), (3, u "PI"), (2, u "TAU"), (2, u "DEGREES_TO_RADIANS"), (0, u "RADIANS_TO_DEGREES")] 94

def k13m0 : Method := { name := "<init>", desc := "()V", sig := { parameters := [], returnType := none }, accessFlags := 2, code := none }
def k13c1 : Code := { maxStack := 2, maxLocals := 2, code := jdk_29_method_69_code, exceptionTable := #[], attributes := #[] }
def k13m1 : Method := { name := "min", desc := "(II)I", sig := { parameters := [.int, .int], returnType := some .int }, accessFlags := 9, code := some k13c1 }
/-- java/lang/Math -/
def k13 : Class := { plain "java/lang/Math" (some 0) with
  accessFlags := 49
  interfaces := #[]
  cf := some (fileOf pool13 1 #[.nestMembers #[98]] #[{ accessFlags := 2, nameIndex := 7, descriptorIndex := 8, attributes := #[] }, { accessFlags := 9, nameIndex := 201, descriptorIndex := 335, attributes := #[] }] 49 4 #[] #[{ accessFlags := 25, nameIndex := 354, descriptorIndex := 339, attributes := #[] }, { accessFlags := 25, nameIndex := 358, descriptorIndex := 339, attributes := #[] }, { accessFlags := 25, nameIndex := 361, descriptorIndex := 339, attributes := #[] }, { accessFlags := 26, nameIndex := 364, descriptorIndex := 339, attributes := #[] }, { accessFlags := 26, nameIndex := 365, descriptorIndex := 339, attributes := #[] }, { accessFlags := 26, nameIndex := 172, descriptorIndex := 173, attributes := #[] }, { accessFlags := 26, nameIndex := 176, descriptorIndex := 173, attributes := #[] }, { accessFlags := 8, nameIndex := 344, descriptorIndex := 339, attributes := #[] }, { accessFlags := 8, nameIndex := 338, descriptorIndex := 339, attributes := #[] }, { accessFlags := 4120, nameIndex := 245, descriptorIndex := 246, attributes := #[] }])
  fields := #[{ name := "E", type := .double, accessFlags := 25, slot := 0, constantValue := 0 }, { name := "PI", type := .double, accessFlags := 25, slot := 1, constantValue := 0 }, { name := "TAU", type := .double, accessFlags := 25, slot := 2, constantValue := 0 }, { name := "DEGREES_TO_RADIANS", type := .double, accessFlags := 26, slot := 3, constantValue := 0 }, { name := "RADIANS_TO_DEGREES", type := .double, accessFlags := 26, slot := 4, constantValue := 0 }, { name := "negativeZeroFloatBits", type := .long, accessFlags := 26, slot := 5, constantValue := 0 }, { name := "negativeZeroDoubleBits", type := .long, accessFlags := 26, slot := 6, constantValue := 0 }, { name := "twoToTheDoubleScaleUp", type := .double, accessFlags := 8, slot := 7, constantValue := 0 }, { name := "twoToTheDoubleScaleDown", type := .double, accessFlags := 8, slot := 8, constantValue := 0 }, { name := "$assertionsDisabled", type := .boolean, accessFlags := 4120, slot := 9, constantValue := 0 }]
  methods := #[k13m0, k13m1]
  instanceTypes := #[]
  staticTypes := #[.double, .double, .double, .double, .double, .long, .long, .double, .double, .boolean]
  resolved := Array.replicate 460 none
  statics := none }

def pool14 : Array CpInfo := pool [(2, .class_ 4), (1, u "java/lang/Object"), (0, u "<init>"), (0, u "()V"), (1, .class_ 10), (1, u "java/lang/System"), (0, u "allowSecurityManager"), (0, u "I"), (16, u "cons"), (0, u "Ljava/io/Console;"), (77, .class_ 110), (1, u "java/lang/System$CallersHolder"), (43, u "initialErrStream"), (0, u "Ljava/io/PrintStream;"), (19, u "security"), (0, u "Ljava/lang/SecurityManager;"), (31, .class_ 209), (0, u "java/lang/System$1"), (7, u "props"), (0, u "Ljava/util/Properties;"), (2, u "lineSeparator"), (0, u "Ljava/lang/String;"), (96, .class_ 321), (1, u "java/lang/System$LoggerFinder"), (5, .class_ 328), (0, u "java/lang/System$Logger"), (67, u "err"), (2, u "out"), (91, u "notSupportedJnuEncoding"), (15, u "in"), (17, u "initialIn"), (0, u "Ljava/io/InputStream;"), (35, u "bootLayer"), (0, u "Ljava/lang/ModuleLayer;"), (99, .class_ 664), (0, u "java/lang/System$2"), (9, u "NEVER"), (2, u "MAYBE"), (49, u "arraycopy"), (0, u "(Ljava/lang/Object;ILjava/lang/Object;II)V"), (72, .class_ 802), (0, u "java/lang/System$Logger$Level")] 31

def k14m0 : Method := { name := "<init>", desc := "()V", sig := { parameters := [], returnType := none }, accessFlags := 2, code := none }
def k14m1 : Method := { name := "arraycopy", desc := "(Ljava/lang/Object;ILjava/lang/Object;II)V", sig := { parameters := [(.object "java/lang/Object"), .int, (.object "java/lang/Object"), .int, .int], returnType := none }, accessFlags := 265, code := none }
/-- java/lang/System -/
def k14 : Class := { plain "java/lang/System" (some 0) with
  accessFlags := 49
  interfaces := #[]
  cf := some (fileOf pool14 8 #[.nestMembers #[319, 327, 801, 108, 663, 208]] #[{ accessFlags := 2, nameIndex := 5, descriptorIndex := 6, attributes := #[] }, { accessFlags := 265, nameIndex := 727, descriptorIndex := 728, attributes := #[] }] 49 2 #[] #[{ accessFlags := 25, nameIndex := 507, descriptorIndex := 526, attributes := #[] }, { accessFlags := 25, nameIndex := 399, descriptorIndex := 155, attributes := #[] }, { accessFlags := 25, nameIndex := 396, descriptorIndex := 155, attributes := #[] }, { accessFlags := 10, nameIndex := 525, descriptorIndex := 526, attributes := #[] }, { accessFlags := 26, nameIndex := 674, descriptorIndex := 12, attributes := #[] }, { accessFlags := 26, nameIndex := 677, descriptorIndex := 12, attributes := #[] }, { accessFlags := 10, nameIndex := 11, descriptorIndex := 12, attributes := #[] }, { accessFlags := 74, nameIndex := 175, descriptorIndex := 176, attributes := #[] }, { accessFlags := 10, nameIndex := 491, descriptorIndex := 222, attributes := #[] }, { accessFlags := 74, nameIndex := 29, descriptorIndex := 30, attributes := #[] }, { accessFlags := 74, nameIndex := 154, descriptorIndex := 155, attributes := #[] }, { accessFlags := 10, nameIndex := 217, descriptorIndex := 218, attributes := #[] }, { accessFlags := 10, nameIndex := 221, descriptorIndex := 222, attributes := #[] }, { accessFlags := 8, nameIndex := 562, descriptorIndex := 563, attributes := #[] }])
  fields := #[{ name := "in", type := (.object "java/io/InputStream"), accessFlags := 25, slot := 0, constantValue := 0 }, { name := "out", type := (.object "java/io/PrintStream"), accessFlags := 25, slot := 1, constantValue := 0 }, { name := "err", type := (.object "java/io/PrintStream"), accessFlags := 25, slot := 2, constantValue := 0 }, { name := "initialIn", type := (.object "java/io/InputStream"), accessFlags := 10, slot := 3, constantValue := 0 }, { name := "NEVER", type := .int, accessFlags := 26, slot := 4, constantValue := 0 }, { name := "MAYBE", type := .int, accessFlags := 26, slot := 5, constantValue := 0 }, { name := "allowSecurityManager", type := .int, accessFlags := 10, slot := 6, constantValue := 0 }, { name := "security", type := (.object "java/lang/SecurityManager"), accessFlags := 74, slot := 7, constantValue := 0 }, { name := "notSupportedJnuEncoding", type := (.object "java/lang/String"), accessFlags := 10, slot := 8, constantValue := 0 }, { name := "cons", type := (.object "java/io/Console"), accessFlags := 74, slot := 9, constantValue := 0 }, { name := "initialErrStream", type := (.object "java/io/PrintStream"), accessFlags := 74, slot := 10, constantValue := 0 }, { name := "props", type := (.object "java/util/Properties"), accessFlags := 10, slot := 11, constantValue := 0 }, { name := "lineSeparator", type := (.object "java/lang/String"), accessFlags := 10, slot := 12, constantValue := 0 }, { name := "bootLayer", type := (.object "java/lang/ModuleLayer"), accessFlags := 8, slot := 13, constantValue := 0 }]
  methods := #[k14m0, k14m1]
  instanceTypes := #[]
  staticTypes := #[(.object "java/io/InputStream"), (.object "java/io/PrintStream"), (.object "java/io/PrintStream"), (.object "java/io/InputStream"), .int, .int, .int, (.object "java/lang/SecurityManager"), (.object "java/lang/String"), (.object "java/io/Console"), (.object "java/io/PrintStream"), (.object "java/util/Properties"), (.object "java/lang/String"), (.object "java/lang/ModuleLayer")]
  resolved := Array.replicate 834 none
  statics := none }

def pool15 : Array CpInfo := pool [(9, u "<init>"), (6, .class_ 18), (1, u "java/lang/Object"), (0, u "()V"), (1, .class_ 23), (1, u "jdk/internal/util/ArraysSupport"), (0, u "LOG2_ARRAY_LONG_INDEX_SCALE"), (0, u "I"), (2, u "U"), (0, u "Ljdk/internal/misc/Unsafe;"), (8, u "BIG_ENDIAN"), (0, u "Z"), (8, u "LOG2_BYTE_BIT_SIZE"), (4, u "LOG2_ARRAY_INT_INDEX_SCALE"), (54, u "JLA"), (0, u "Ljdk/internal/access/JavaLangAccess;"), (11, u "LOG2_ARRAY_BOOLEAN_INDEX_SCALE"), (9, u "LOG2_ARRAY_BYTE_INDEX_SCALE"), (5, u "LOG2_ARRAY_CHAR_INDEX_SCALE"), (5, u "LOG2_ARRAY_SHORT_INDEX_SCALE"), (18, u "LOG2_ARRAY_FLOAT_INDEX_SCALE"), (24, u "LOG2_ARRAY_DOUBLE_INDEX_SCALE"), (89, u "T_BOOLEAN"), (2, u "T_CHAR"), (1, u "T_FLOAT"), (1, u "T_DOUBLE"), (1, u "T_BYTE"), (1, u "T_SHORT"), (1, u "T_INT"), (1, u "T_LONG"), (1, u "SOFT_MAX_ARRAY_LENGTH")] 83

def k15m0 : Method := { name := "<init>", desc := "()V", sig := { parameters := [], returnType := none }, accessFlags := 2, code := none }
/-- jdk/internal/util/ArraysSupport -/
def k15 : Class := { plain "jdk/internal/util/ArraysSupport" (some 0) with
  accessFlags := 33
  interfaces := #[]
  cf := some (fileOf pool15 21 #[] #[{ accessFlags := 2, nameIndex := 9, descriptorIndex := 19, attributes := #[] }] 33 16 #[] #[{ accessFlags := 24, nameIndex := 28, descriptorIndex := 29, attributes := #[] }, { accessFlags := 26, nameIndex := 38, descriptorIndex := 39, attributes := #[] }, { accessFlags := 25, nameIndex := 121, descriptorIndex := 25, attributes := #[] }, { accessFlags := 25, nameIndex := 131, descriptorIndex := 25, attributes := #[] }, { accessFlags := 25, nameIndex := 137, descriptorIndex := 25, attributes := #[] }, { accessFlags := 25, nameIndex := 143, descriptorIndex := 25, attributes := #[] }, { accessFlags := 25, nameIndex := 53, descriptorIndex := 25, attributes := #[] }, { accessFlags := 25, nameIndex := 24, descriptorIndex := 25, attributes := #[] }, { accessFlags := 25, nameIndex := 162, descriptorIndex := 25, attributes := #[] }, { accessFlags := 25, nameIndex := 187, descriptorIndex := 25, attributes := #[] }, { accessFlags := 26, nameIndex := 48, descriptorIndex := 25, attributes := #[] }, { accessFlags := 25, nameIndex := 277, descriptorIndex := 25, attributes := #[] }, { accessFlags := 25, nameIndex := 280, descriptorIndex := 25, attributes := #[] }, { accessFlags := 25, nameIndex := 282, descriptorIndex := 25, attributes := #[] }, { accessFlags := 25, nameIndex := 284, descriptorIndex := 25, attributes := #[] }, { accessFlags := 25, nameIndex := 286, descriptorIndex := 25, attributes := #[] }, { accessFlags := 25, nameIndex := 288, descriptorIndex := 25, attributes := #[] }, { accessFlags := 25, nameIndex := 290, descriptorIndex := 25, attributes := #[] }, { accessFlags := 25, nameIndex := 292, descriptorIndex := 25, attributes := #[] }, { accessFlags := 26, nameIndex := 108, descriptorIndex := 109, attributes := #[] }, { accessFlags := 25, nameIndex := 294, descriptorIndex := 25, attributes := #[] }])
  fields := #[{ name := "U", type := (.object "jdk/internal/misc/Unsafe"), accessFlags := 24, slot := 0, constantValue := 0 }, { name := "BIG_ENDIAN", type := .boolean, accessFlags := 26, slot := 1, constantValue := 0 }, { name := "LOG2_ARRAY_BOOLEAN_INDEX_SCALE", type := .int, accessFlags := 25, slot := 2, constantValue := 0 }, { name := "LOG2_ARRAY_BYTE_INDEX_SCALE", type := .int, accessFlags := 25, slot := 3, constantValue := 0 }, { name := "LOG2_ARRAY_CHAR_INDEX_SCALE", type := .int, accessFlags := 25, slot := 4, constantValue := 0 }, { name := "LOG2_ARRAY_SHORT_INDEX_SCALE", type := .int, accessFlags := 25, slot := 5, constantValue := 0 }, { name := "LOG2_ARRAY_INT_INDEX_SCALE", type := .int, accessFlags := 25, slot := 6, constantValue := 0 }, { name := "LOG2_ARRAY_LONG_INDEX_SCALE", type := .int, accessFlags := 25, slot := 7, constantValue := 0 }, { name := "LOG2_ARRAY_FLOAT_INDEX_SCALE", type := .int, accessFlags := 25, slot := 8, constantValue := 0 }, { name := "LOG2_ARRAY_DOUBLE_INDEX_SCALE", type := .int, accessFlags := 25, slot := 9, constantValue := 0 }, { name := "LOG2_BYTE_BIT_SIZE", type := .int, accessFlags := 26, slot := 10, constantValue := 0 }, { name := "T_BOOLEAN", type := .int, accessFlags := 25, slot := 11, constantValue := 0 }, { name := "T_CHAR", type := .int, accessFlags := 25, slot := 12, constantValue := 0 }, { name := "T_FLOAT", type := .int, accessFlags := 25, slot := 13, constantValue := 0 }, { name := "T_DOUBLE", type := .int, accessFlags := 25, slot := 14, constantValue := 0 }, { name := "T_BYTE", type := .int, accessFlags := 25, slot := 15, constantValue := 0 }, { name := "T_SHORT", type := .int, accessFlags := 25, slot := 16, constantValue := 0 }, { name := "T_INT", type := .int, accessFlags := 25, slot := 17, constantValue := 0 }, { name := "T_LONG", type := .int, accessFlags := 25, slot := 18, constantValue := 0 }, { name := "JLA", type := (.object "jdk/internal/access/JavaLangAccess"), accessFlags := 26, slot := 19, constantValue := 0 }, { name := "SOFT_MAX_ARRAY_LENGTH", type := .int, accessFlags := 25, slot := 20, constantValue := 0 }]
  methods := #[k15m0]
  instanceTypes := #[]
  staticTypes := #[(.object "jdk/internal/misc/Unsafe"), .boolean, .int, .int, .int, .int, .int, .int, .int, .int, .int, .int, .int, .int, .int, .int, .int, .int, .int, (.object "jdk/internal/access/JavaLangAccess"), .int]
  resolved := Array.replicate 378 none
  statics := none }

def pool16 : Array CpInfo := pool [(1, u "java/lang/Cloneable"), (0, .class_ 1), (0, u "java/lang/Object"), (0, .class_ 3)] 3

/-- java/lang/Cloneable -/
def k16 : Class := { plain "java/lang/Cloneable" (some 0) with
  accessFlags := 1537
  interfaces := #[]
  cf := some (fileOf pool16 2 #[] #[] 1537 4 #[] #[])
  fields := #[]
  methods := #[]
  instanceTypes := #[]
  staticTypes := #[]
  resolved := Array.replicate 8 none
  statics := none }

/-- the primitive byte -/
def k17 : Class := { plain "byte" none with kind := .primitive 'B', accessFlags := 0x411 }
/-- [B -/
def k18 : Class := { plain "[B" (some 0) with kind := .array 17 .byte, interfaces := #[16, 2], accessFlags := 1041 }

/-- the primitive char -/
def k19 : Class := { plain "char" none with kind := .primitive 'C', accessFlags := 0x411 }
/-- [C -/
def k20 : Class := { plain "[C" (some 0) with kind := .array 19 .char, interfaces := #[16, 2], accessFlags := 1041 }

/-- the primitive int -/
def k21 : Class := { plain "int" none with kind := .primitive 'I', accessFlags := 0x411 }
/-- [I -/
def k22 : Class := { plain "[I" (some 0) with kind := .array 21 .int, interfaces := #[16, 2], accessFlags := 1041 }

def heap : Heap := #[{ cls := 7, slots := #[.long 0, .int 1, .null, .int 0, .null, .int 0, .int 0], vm := .statics 7 },
  { cls := 9, slots := #[.int 0, .int 8, .int 0, .int 1], vm := .statics 9 },
  { cls := 11, slots := #[.null, .null, .null], vm := .statics 11 }]
def classes : Array Class := #[k0, k1, k2, k3, k4, k5, k6, k7, k8, k9, k10, k11, k12, k13, k14, k15, k16, k17, k18, k19, k20, k21, k22]
def interned : List (Array UInt16 × Addr) := []
def slotsUsed : Nat := 14
def theMethod : MethodId := ⟨1, 3⟩
def args0 : Array Value := #[.int 5, .int 7, .int 1, .int 2]
def aboutOver (below : List Frame) : State where
  vm := { classes := classes, interned := interned.toArray }
  heap := heap
  slotsUsed := slotsUsed
  threads := #[{ frames := .invoking theMethod args0 :: below }]
def below0 : List Frame := [.native { method := ⟨0, 0⟩, args := #[] }]
def about1 : State := aboutOver below0
def p0 : Program := .bare "" "" ""
def e0 : Env := launch0.env 0 0 0
theorem w_frames : about1.frames = Frame.invoking theMethod args0 :: below0 := rfl
set_option maxRecDepth 65536 in
theorem w_args : argsFit about1.vm theMethod args0 = true := by decide +kernel
set_option maxRecDepth 65536 in
theorem w_heap : heapFits about1 = true := by decide +kernel
set_option maxRecDepth 65536 in
theorem w_runnable : about1.curStatus? = some .runnable := by decide +kernel
set_option maxRecDepth 65536 in
theorem w_alone : about1.alone = true := by decide +kernel
set_option maxRecDepth 65536 in
theorem w_named : about1.methodNamed? x = some theMethod := by decide +kernel
set_option maxRecDepth 65536 in
theorem w_hears : about1.hears theMethod below0 = true := by decide +kernel
set_option maxRecDepth 65536 in
theorem w_ripe : about1.ripe theMethod args0 below0 = true := by decide +kernel
theorem w_running : about1.status = .running := rfl
set_option maxRecDepth 65536 in
theorem w_room : about1.hasRoom e0.platform room_1 = true :=
  launch0.hasRoom_least _ room_1 (by decide +kernel) (by decide +kernel) (by decide +kernel) (by decide +kernel) (by decide +kernel) (by decide +kernel)
theorem allAtoms_all (ts : List Jvm.Cond) (a : Array Jvm.Value) (st : Jvm.State) : (allAtoms ts).before a st = ts.all (fun c => c.before a st) := by
  induction ts with
  | nil => rfl
  | cons c t ih =>
    show (Jvm.Cond.and c (allAtoms t)).before a st = _
    rw [Jvm.Cond.before_and, ih, List.all_cons]
def words1 : List Jvm.Cond := Jvm.Cond.code x code maxLocals ret :: tables_1
/-- a 'code' word, met by the world's own term for the bytes: nothing is compared byte by byte -/
theorem code_word {y : MethodName} {bytes : ByteArray} {mx : Nat} {rt : Option FieldType} {a : Array Value} {s : State} {m : MethodId} {meth : Method} {c : Code} (h1 : s.methodNamed? y = some m) (h2 : s.vm.method? m = some meth) (h3 : meth.code = some c) (h4 : c.code = bytes)
    (h5 : (c.maxLocals == mx && c.exceptionTable.isEmpty && decide (c.maxStack ≤ mostOperands) && decide (meth.sig.returnType = rt) && !meth.locks && decide (parseMethodDescriptor y.desc = some meth.sig)) = true) : (Jvm.Cond.code y bytes mx rt).before a s = true := by
  simp only [Bool.and_eq_true, beq_iff_eq, Bool.not_eq_true', decide_eq_true_eq] at h5
  obtain ⟨⟨⟨⟨⟨g1, g2⟩, g3⟩, g4⟩, g5⟩, g6⟩ := h5
  simp [Cond.before, Cond.holds, Cond.value, h1, h2, h3, h4, g1, g2, g3, g4, g5, g6]
def isCode : Jvm.Cond → Bool
  | .code _ _ _ _ => true
  | _ => false
theorem all_split {L : List Jvm.Cond} {P : Jvm.Cond → Bool} (h1 : L.all (fun c => isCode c || P c) = true) (h2 : ∀ c ∈ L.filter isCode, P c = true) : L.all P = true := by
  refine List.all_eq_true.mpr fun c hc => ?_
  have h := List.all_eq_true.mp h1 c hc
  rcases Bool.eq_false_or_eq_true (isCode c) with hi | hi
  · exact h2 c (List.mem_filter.mpr ⟨hc, hi⟩)
  · simpa [hi] using h
set_option maxRecDepth 65536 in
theorem w_c0 : (Jvm.Cond.code x code maxLocals ret).before args0 about1 = true := code_word (m := ⟨1, 3⟩) (meth := k1m3) (c := k1c3) (by decide +kernel) rfl rfl rfl (by decide +kernel)
set_option maxRecDepth 65536 in
theorem w_c1 : (Jvm.Cond.code ({ cls := "com/example/epaulet/epaulet/io/InputFilesWithoutByteOrderMarkPinLaw", name := "ch", desc := "(I)C" } : Jvm.MethodName) method_2_code (1 : Nat) (Option.some Jvm.ClassFile.FieldType.char)).before args0 about1 = true := code_word (m := ⟨1, 1⟩) (meth := k1m1) (c := k1c1) (by decide +kernel) rfl rfl rfl (by decide +kernel)
set_option maxRecDepth 65536 in
theorem w_c2 : (Jvm.Cond.code ({ cls := "com/example/epaulet/epaulet/io/InputFilesWithoutByteOrderMarkPinLaw", name := "mk", desc := "(ICCC)Ljava/lang/String;" } : Jvm.MethodName) method_3_code (4 : Nat) (Option.some (Jvm.ClassFile.FieldType.object "java/lang/String"))).before args0 about1 = true := code_word (m := ⟨1, 2⟩) (meth := k1m2) (c := k1c2) (by decide +kernel) rfl rfl rfl (by decide +kernel)
set_option maxRecDepth 65536 in
theorem w_c3 : (Jvm.Cond.code ({ cls := "java/lang/String", name := "<init>", desc := "([C)V" } : Jvm.MethodName) jdk_42_method_3_code (2 : Nat) (Option.none : Option Jvm.ClassFile.FieldType)).before args0 about1 = true := code_word (m := ⟨7, 1⟩) (meth := k7m1) (c := k7c1) (by decide +kernel) rfl rfl rfl (by decide +kernel)
set_option maxRecDepth 65536 in
theorem w_c4 : (Jvm.Cond.code ({ cls := "java/lang/String", name := "<init>", desc := "([CIILjava/lang/Void;)V" } : Jvm.MethodName) jdk_42_method_149_code (6 : Nat) (Option.none : Option Jvm.ClassFile.FieldType)).before args0 about1 = true := code_word (m := ⟨7, 8⟩) (meth := k7m8) (c := k7c8) (by decide +kernel) rfl rfl rfl (by decide +kernel)
set_option maxRecDepth 65536 in
theorem w_c5 : (Jvm.Cond.code ({ cls := "java/lang/Object", name := "<init>", desc := "()V" } : Jvm.MethodName) object_method_1_code (1 : Nat) (Option.none : Option Jvm.ClassFile.FieldType)).before args0 about1 = true := code_word (m := ⟨0, 0⟩) (meth := k0m0) (c := k0c0) (by decide +kernel) rfl rfl rfl (by decide +kernel)
set_option maxRecDepth 65536 in
theorem w_c6 : (Jvm.Cond.code ({ cls := "com/example/epaulet/epaulet/io/InputFiles", name := "withoutByteOrderMark", desc := "(Ljava/lang/String;)Ljava/lang/String;" } : Jvm.MethodName) prog_17_method_7_code (1 : Nat) (Option.some (Jvm.ClassFile.FieldType.object "java/lang/String"))).before args0 about1 = true := code_word (m := ⟨8, 1⟩) (meth := k8m1) (c := k8c1) (by decide +kernel) rfl rfl rfl (by decide +kernel)
set_option maxRecDepth 65536 in
theorem w_c7 : (Jvm.Cond.code ({ cls := "java/lang/String", name := "isEmpty", desc := "()Z" } : Jvm.MethodName) jdk_42_method_55_code (1 : Nat) (Option.some Jvm.ClassFile.FieldType.boolean)).before args0 about1 = true := code_word (m := ⟨7, 3⟩) (meth := k7m3) (c := k7c3) (by decide +kernel) rfl rfl rfl (by decide +kernel)
set_option maxRecDepth 65536 in
theorem w_c8 : (Jvm.Cond.code ({ cls := "java/lang/String", name := "equals", desc := "(Ljava/lang/Object;)Z" } : Jvm.MethodName) jdk_42_method_66_code (3 : Nat) (Option.some Jvm.ClassFile.FieldType.boolean)).before args0 about1 = true := code_word (m := ⟨7, 5⟩) (meth := k7m5) (c := k7c5) (by decide +kernel) rfl rfl rfl (by decide +kernel)
set_option maxRecDepth 65536 in
theorem w_c9 : (Jvm.Cond.code ({ cls := "java/lang/StringUTF16", name := "compress", desc := "([CII)[B" } : Jvm.MethodName) jdk_52_method_16_code (6 : Nat) (Option.some (Jvm.ClassFile.FieldType.array Jvm.ClassFile.FieldType.byte))).before args0 about1 = true := code_word (m := ⟨9, 8⟩) (meth := k9m8) (c := k9c8) (by decide +kernel) rfl rfl rfl (by decide +kernel)
set_option maxRecDepth 65536 in
theorem w_c10 : (Jvm.Cond.code ({ cls := "java/lang/StringUTF16", name := "compress", desc := "([CI[BII)I" } : Jvm.MethodName) jdk_52_method_21_code (7 : Nat) (Option.some Jvm.ClassFile.FieldType.int)).before args0 about1 = true := code_word (m := ⟨9, 10⟩) (meth := k9m10) (c := k9c10) (by decide +kernel) rfl rfl rfl (by decide +kernel)
set_option maxRecDepth 65536 in
theorem w_c11 : (Jvm.Cond.code ({ cls := "java/lang/StringUTF16", name := "coderFromArrayLen", desc := "([BI)B" } : Jvm.MethodName) jdk_52_method_15_code (2 : Nat) (Option.some Jvm.ClassFile.FieldType.byte)).before args0 about1 = true := code_word (m := ⟨9, 7⟩) (meth := k9m7) (c := k9c7) (by decide +kernel) rfl rfl rfl (by decide +kernel)
set_option maxRecDepth 65536 in
theorem w_c12 : (Jvm.Cond.code ({ cls := "java/lang/String", name := "charAt", desc := "(I)C" } : Jvm.MethodName) jdk_42_method_56_code (2 : Nat) (Option.some Jvm.ClassFile.FieldType.char)).before args0 about1 = true := code_word (m := ⟨7, 4⟩) (meth := k7m4) (c := k7c4) (by decide +kernel) rfl rfl rfl (by decide +kernel)
set_option maxRecDepth 65536 in
theorem w_c13 : (Jvm.Cond.code ({ cls := "java/lang/String", name := "isLatin1", desc := "()Z" } : Jvm.MethodName) jdk_42_method_154_code (1 : Nat) (Option.some Jvm.ClassFile.FieldType.boolean)).before args0 about1 = true := code_word (m := ⟨7, 11⟩) (meth := k7m11) (c := k7c11) (by decide +kernel) rfl rfl rfl (by decide +kernel)
set_option maxRecDepth 65536 in
theorem w_c14 : (Jvm.Cond.code ({ cls := "java/lang/StringLatin1", name := "charAt", desc := "([BI)C" } : Jvm.MethodName) jdk_43_method_2_code (2 : Nat) (Option.some Jvm.ClassFile.FieldType.char)).before args0 about1 = true := code_word (m := ⟨10, 1⟩) (meth := k10m1) (c := k10c1) (by decide +kernel) rfl rfl rfl (by decide +kernel)
set_option maxRecDepth 65536 in
theorem w_c15 : (Jvm.Cond.code ({ cls := "java/lang/String", name := "checkIndex", desc := "(II)V" } : Jvm.MethodName) jdk_42_method_155_code (2 : Nat) (Option.none : Option Jvm.ClassFile.FieldType)).before args0 about1 = true := code_word (m := ⟨7, 12⟩) (meth := k7m12) (c := k7c12) (by decide +kernel) rfl rfl rfl (by decide +kernel)
set_option maxRecDepth 65536 in
theorem w_c16 : (Jvm.Cond.code ({ cls := "jdk/internal/util/Preconditions", name := "checkIndex", desc := "(IILjava/util/function/BiFunction;)I" } : Jvm.MethodName) jdk_41_method_11_code (3 : Nat) (Option.some Jvm.ClassFile.FieldType.int)).before args0 about1 = true := code_word (m := ⟨11, 1⟩) (meth := k11m1) (c := k11c1) (by decide +kernel) rfl rfl rfl (by decide +kernel)
set_option maxRecDepth 65536 in
theorem w_c17 : (Jvm.Cond.code ({ cls := "java/lang/StringUTF16", name := "toBytes", desc := "([CII)[B" } : Jvm.MethodName) jdk_52_method_14_code (5 : Nat) (Option.some (Jvm.ClassFile.FieldType.array Jvm.ClassFile.FieldType.byte))).before args0 about1 = true := code_word (m := ⟨9, 6⟩) (meth := k9m6) (c := k9c6) (by decide +kernel) rfl rfl rfl (by decide +kernel)
set_option maxRecDepth 65536 in
theorem w_c18 : (Jvm.Cond.code ({ cls := "java/lang/StringUTF16", name := "newBytesFor", desc := "(I)[B" } : Jvm.MethodName) jdk_52_method_2_code (1 : Nat) (Option.some (Jvm.ClassFile.FieldType.array Jvm.ClassFile.FieldType.byte))).before args0 about1 = true := code_word (m := ⟨9, 1⟩) (meth := k9m1) (c := k9c1) (by decide +kernel) rfl rfl rfl (by decide +kernel)
set_option maxRecDepth 65536 in
theorem w_c19 : (Jvm.Cond.code ({ cls := "java/lang/StringUTF16", name := "newBytesLength", desc := "(I)I" } : Jvm.MethodName) jdk_52_method_3_code (1 : Nat) (Option.some Jvm.ClassFile.FieldType.int)).before args0 about1 = true := code_word (m := ⟨9, 2⟩) (meth := k9m2) (c := k9c2) (by decide +kernel) rfl rfl rfl (by decide +kernel)
set_option maxRecDepth 65536 in
theorem w_c20 : (Jvm.Cond.code ({ cls := "java/lang/StringUTF16", name := "putChar", desc := "([BII)V" } : Jvm.MethodName) jdk_52_method_4_code (3 : Nat) (Option.none : Option Jvm.ClassFile.FieldType)).before args0 about1 = true := code_word (m := ⟨9, 3⟩) (meth := k9m3) (c := k9c3) (by decide +kernel) rfl rfl rfl (by decide +kernel)
set_option maxRecDepth 65536 in
theorem w_c21 : (Jvm.Cond.code ({ cls := "java/lang/StringUTF16", name := "getChar", desc := "([BI)C" } : Jvm.MethodName) jdk_52_method_5_code (2 : Nat) (Option.some Jvm.ClassFile.FieldType.char)).before args0 about1 = true := code_word (m := ⟨9, 4⟩) (meth := k9m4) (c := k9c4) (by decide +kernel) rfl rfl rfl (by decide +kernel)
set_option maxRecDepth 65536 in
theorem w_c22 : (Jvm.Cond.code ({ cls := "java/lang/StringUTF16", name := "charAt", desc := "([BI)C" } : Jvm.MethodName) jdk_52_method_83_code (2 : Nat) (Option.some Jvm.ClassFile.FieldType.char)).before args0 about1 = true := code_word (m := ⟨9, 13⟩) (meth := k9m13) (c := k9c13) (by decide +kernel) rfl rfl rfl (by decide +kernel)
set_option maxRecDepth 65536 in
theorem w_c23 : (Jvm.Cond.code ({ cls := "java/lang/StringUTF16", name := "checkIndex", desc := "(I[B)V" } : Jvm.MethodName) jdk_52_method_91_code (2 : Nat) (Option.none : Option Jvm.ClassFile.FieldType)).before args0 about1 = true := code_word (m := ⟨9, 14⟩) (meth := k9m14) (c := k9c14) (by decide +kernel) rfl rfl rfl (by decide +kernel)
set_option maxRecDepth 65536 in
theorem w_c24 : (Jvm.Cond.code ({ cls := "java/lang/StringUTF16", name := "length", desc := "([B)I" } : Jvm.MethodName) jdk_52_method_6_code (1 : Nat) (Option.some Jvm.ClassFile.FieldType.int)).before args0 about1 = true := code_word (m := ⟨9, 5⟩) (meth := k9m5) (c := k9c5) (by decide +kernel) rfl rfl rfl (by decide +kernel)
set_option maxRecDepth 65536 in
theorem w_c25 : (Jvm.Cond.code ({ cls := "java/lang/String", name := "substring", desc := "(I)Ljava/lang/String;" } : Jvm.MethodName) jdk_42_method_91_code (2 : Nat) (Option.some (Jvm.ClassFile.FieldType.object "java/lang/String"))).before args0 about1 = true := code_word (m := ⟨7, 6⟩) (meth := k7m6) (c := k7c6) (by decide +kernel) rfl rfl rfl (by decide +kernel)
set_option maxRecDepth 65536 in
theorem w_c26 : (Jvm.Cond.code ({ cls := "java/lang/String", name := "length", desc := "()I" } : Jvm.MethodName) jdk_42_method_54_code (1 : Nat) (Option.some Jvm.ClassFile.FieldType.int)).before args0 about1 = true := code_word (m := ⟨7, 2⟩) (meth := k7m2) (c := k7c2) (by decide +kernel) rfl rfl rfl (by decide +kernel)
set_option maxRecDepth 65536 in
theorem w_c27 : (Jvm.Cond.code ({ cls := "java/lang/String", name := "coder", desc := "()B" } : Jvm.MethodName) jdk_42_method_152_code (1 : Nat) (Option.some Jvm.ClassFile.FieldType.byte)).before args0 about1 = true := code_word (m := ⟨7, 10⟩) (meth := k7m10) (c := k7c10) (by decide +kernel) rfl rfl rfl (by decide +kernel)
set_option maxRecDepth 65536 in
theorem w_c28 : (Jvm.Cond.code ({ cls := "java/lang/String", name := "substring", desc := "(II)Ljava/lang/String;" } : Jvm.MethodName) jdk_42_method_92_code (5 : Nat) (Option.some (Jvm.ClassFile.FieldType.object "java/lang/String"))).before args0 about1 = true := code_word (m := ⟨7, 7⟩) (meth := k7m7) (c := k7c7) (by decide +kernel) rfl rfl rfl (by decide +kernel)
set_option maxRecDepth 65536 in
theorem w_c29 : (Jvm.Cond.code ({ cls := "java/lang/String", name := "checkBoundsBeginEnd", desc := "(III)V" } : Jvm.MethodName) jdk_42_method_158_code (3 : Nat) (Option.none : Option Jvm.ClassFile.FieldType)).before args0 about1 = true := code_word (m := ⟨7, 14⟩) (meth := k7m14) (c := k7c14) (by decide +kernel) rfl rfl rfl (by decide +kernel)
set_option maxRecDepth 65536 in
theorem w_c30 : (Jvm.Cond.code ({ cls := "jdk/internal/util/Preconditions", name := "checkFromToIndex", desc := "(IIILjava/util/function/BiFunction;)I" } : Jvm.MethodName) jdk_41_method_12_code (4 : Nat) (Option.some Jvm.ClassFile.FieldType.int)).before args0 about1 = true := code_word (m := ⟨11, 2⟩) (meth := k11m2) (c := k11c2) (by decide +kernel) rfl rfl rfl (by decide +kernel)
set_option maxRecDepth 65536 in
theorem w_c31 : (Jvm.Cond.code ({ cls := "java/lang/StringUTF16", name := "newString", desc := "([BII)Ljava/lang/String;" } : Jvm.MethodName) jdk_52_method_69_code (5 : Nat) (Option.some (Jvm.ClassFile.FieldType.object "java/lang/String"))).before args0 about1 = true := code_word (m := ⟨9, 12⟩) (meth := k9m12) (c := k9c12) (by decide +kernel) rfl rfl rfl (by decide +kernel)
set_option maxRecDepth 65536 in
theorem w_c32 : (Jvm.Cond.code ({ cls := "java/lang/StringUTF16", name := "compress", desc := "([BII)[B" } : Jvm.MethodName) jdk_52_method_17_code (6 : Nat) (Option.some (Jvm.ClassFile.FieldType.array Jvm.ClassFile.FieldType.byte))).before args0 about1 = true := code_word (m := ⟨9, 9⟩) (meth := k9m9) (c := k9c9) (by decide +kernel) rfl rfl rfl (by decide +kernel)
set_option maxRecDepth 65536 in
theorem w_c33 : (Jvm.Cond.code ({ cls := "java/lang/StringUTF16", name := "compress", desc := "([BI[BII)I" } : Jvm.MethodName) jdk_52_method_22_code (7 : Nat) (Option.some Jvm.ClassFile.FieldType.int)).before args0 about1 = true := code_word (m := ⟨9, 11⟩) (meth := k9m11) (c := k9c11) (by decide +kernel) rfl rfl rfl (by decide +kernel)
set_option maxRecDepth 65536 in
theorem w_c34 : (Jvm.Cond.code ({ cls := "java/lang/StringUTF16", name := "checkBoundsOffCount", desc := "(II[B)V" } : Jvm.MethodName) jdk_52_method_94_code (3 : Nat) (Option.none : Option Jvm.ClassFile.FieldType)).before args0 about1 = true := code_word (m := ⟨9, 15⟩) (meth := k9m15) (c := k9c15) (by decide +kernel) rfl rfl rfl (by decide +kernel)
set_option maxRecDepth 65536 in
theorem w_c35 : (Jvm.Cond.code ({ cls := "java/lang/String", name := "checkBoundsOffCount", desc := "(III)I" } : Jvm.MethodName) jdk_42_method_157_code (3 : Nat) (Option.some Jvm.ClassFile.FieldType.int)).before args0 about1 = true := code_word (m := ⟨7, 13⟩) (meth := k7m13) (c := k7c13) (by decide +kernel) rfl rfl rfl (by decide +kernel)
set_option maxRecDepth 65536 in
theorem w_c36 : (Jvm.Cond.code ({ cls := "jdk/internal/util/Preconditions", name := "checkFromIndexSize", desc := "(IIILjava/util/function/BiFunction;)I" } : Jvm.MethodName) jdk_41_method_13_code (4 : Nat) (Option.some Jvm.ClassFile.FieldType.int)).before args0 about1 = true := code_word (m := ⟨11, 3⟩) (meth := k11m3) (c := k11c3) (by decide +kernel) rfl rfl rfl (by decide +kernel)
set_option maxRecDepth 65536 in
theorem w_c37 : (Jvm.Cond.code ({ cls := "java/util/Arrays", name := "copyOfRange", desc := "([BII)[B" } : Jvm.MethodName) jdk_65_method_132_code (3 : Nat) (Option.some (Jvm.ClassFile.FieldType.array Jvm.ClassFile.FieldType.byte))).before args0 about1 = true := code_word (m := ⟨12, 2⟩) (meth := k12m2) (c := k12c2) (by decide +kernel) rfl rfl rfl (by decide +kernel)
set_option maxRecDepth 65536 in
theorem w_c38 : (Jvm.Cond.code ({ cls := "java/util/Arrays", name := "copyOfRangeByte", desc := "([BII)[B" } : Jvm.MethodName) jdk_65_method_133_code (5 : Nat) (Option.some (Jvm.ClassFile.FieldType.array Jvm.ClassFile.FieldType.byte))).before args0 about1 = true := code_word (m := ⟨12, 3⟩) (meth := k12m3) (c := k12c3) (by decide +kernel) rfl rfl rfl (by decide +kernel)
set_option maxRecDepth 65536 in
theorem w_c39 : (Jvm.Cond.code ({ cls := "java/util/Arrays", name := "checkLength", desc := "(II)V" } : Jvm.MethodName) jdk_65_method_131_code (2 : Nat) (Option.none : Option Jvm.ClassFile.FieldType)).before args0 about1 = true := code_word (m := ⟨12, 1⟩) (meth := k12m1) (c := k12c1) (by decide +kernel) rfl rfl rfl (by decide +kernel)
set_option maxRecDepth 65536 in
theorem w_c40 : (Jvm.Cond.code ({ cls := "java/lang/Math", name := "min", desc := "(II)I" } : Jvm.MethodName) jdk_29_method_69_code (2 : Nat) (Option.some Jvm.ClassFile.FieldType.int)).before args0 about1 = true := code_word (m := ⟨13, 1⟩) (meth := k13m1) (c := k13c1) (by decide +kernel) rfl rfl rfl (by decide +kernel)
set_option maxRecDepth 65536 in
theorem w_c41 : (Jvm.Cond.code ({ cls := "java/lang/String", name := "<init>", desc := "([BB)V" } : Jvm.MethodName) jdk_42_method_151_code (3 : Nat) (Option.none : Option Jvm.ClassFile.FieldType)).before args0 about1 = true := code_word (m := ⟨7, 9⟩) (meth := k7m9) (c := k7c9) (by decide +kernel) rfl rfl rfl (by decide +kernel)
set_option maxRecDepth 65536 in
theorem w_c42 : (Jvm.Cond.code ({ cls := "java/lang/StringLatin1", name := "equals", desc := "([B[B)Z" } : Jvm.MethodName) jdk_43_method_13_code (3 : Nat) (Option.some Jvm.ClassFile.FieldType.boolean)).before args0 about1 = true := code_word (m := ⟨10, 2⟩) (meth := k10m2) (c := k10c2) (by decide +kernel) rfl rfl rfl (by decide +kernel)
def codes1 : List Jvm.Cond := [Jvm.Cond.code x code maxLocals ret, Jvm.Cond.code ({ cls := "com/example/epaulet/epaulet/io/InputFilesWithoutByteOrderMarkPinLaw", name := "ch", desc := "(I)C" } : Jvm.MethodName) method_2_code (1 : Nat) (Option.some Jvm.ClassFile.FieldType.char), Jvm.Cond.code ({ cls := "com/example/epaulet/epaulet/io/InputFilesWithoutByteOrderMarkPinLaw", name := "mk", desc := "(ICCC)Ljava/lang/String;" } : Jvm.MethodName) method_3_code (4 : Nat) (Option.some (Jvm.ClassFile.FieldType.object "java/lang/String")), Jvm.Cond.code ({ cls := "java/lang/String", name := "<init>", desc := "([C)V" } : Jvm.MethodName) jdk_42_method_3_code (2 : Nat) (Option.none : Option Jvm.ClassFile.FieldType), Jvm.Cond.code ({ cls := "java/lang/String", name := "<init>", desc := "([CIILjava/lang/Void;)V" } : Jvm.MethodName) jdk_42_method_149_code (6 : Nat) (Option.none : Option Jvm.ClassFile.FieldType), Jvm.Cond.code ({ cls := "java/lang/Object", name := "<init>", desc := "()V" } : Jvm.MethodName) object_method_1_code (1 : Nat) (Option.none : Option Jvm.ClassFile.FieldType), Jvm.Cond.code ({ cls := "com/example/epaulet/epaulet/io/InputFiles", name := "withoutByteOrderMark", desc := "(Ljava/lang/String;)Ljava/lang/String;" } : Jvm.MethodName) prog_17_method_7_code (1 : Nat) (Option.some (Jvm.ClassFile.FieldType.object "java/lang/String")), Jvm.Cond.code ({ cls := "java/lang/String", name := "isEmpty", desc := "()Z" } : Jvm.MethodName) jdk_42_method_55_code (1 : Nat) (Option.some Jvm.ClassFile.FieldType.boolean), Jvm.Cond.code ({ cls := "java/lang/String", name := "equals", desc := "(Ljava/lang/Object;)Z" } : Jvm.MethodName) jdk_42_method_66_code (3 : Nat) (Option.some Jvm.ClassFile.FieldType.boolean), Jvm.Cond.code ({ cls := "java/lang/StringUTF16", name := "compress", desc := "([CII)[B" } : Jvm.MethodName) jdk_52_method_16_code (6 : Nat) (Option.some (Jvm.ClassFile.FieldType.array Jvm.ClassFile.FieldType.byte)), Jvm.Cond.code ({ cls := "java/lang/StringUTF16", name := "compress", desc := "([CI[BII)I" } : Jvm.MethodName) jdk_52_method_21_code (7 : Nat) (Option.some Jvm.ClassFile.FieldType.int), Jvm.Cond.code ({ cls := "java/lang/StringUTF16", name := "coderFromArrayLen", desc := "([BI)B" } : Jvm.MethodName) jdk_52_method_15_code (2 : Nat) (Option.some Jvm.ClassFile.FieldType.byte), Jvm.Cond.code ({ cls := "java/lang/String", name := "charAt", desc := "(I)C" } : Jvm.MethodName) jdk_42_method_56_code (2 : Nat) (Option.some Jvm.ClassFile.FieldType.char), Jvm.Cond.code ({ cls := "java/lang/String", name := "isLatin1", desc := "()Z" } : Jvm.MethodName) jdk_42_method_154_code (1 : Nat) (Option.some Jvm.ClassFile.FieldType.boolean), Jvm.Cond.code ({ cls := "java/lang/StringLatin1", name := "charAt", desc := "([BI)C" } : Jvm.MethodName) jdk_43_method_2_code (2 : Nat) (Option.some Jvm.ClassFile.FieldType.char), Jvm.Cond.code ({ cls := "java/lang/String", name := "checkIndex", desc := "(II)V" } : Jvm.MethodName) jdk_42_method_155_code (2 : Nat) (Option.none : Option Jvm.ClassFile.FieldType), Jvm.Cond.code ({ cls := "jdk/internal/util/Preconditions", name := "checkIndex", desc := "(IILjava/util/function/BiFunction;)I" } : Jvm.MethodName) jdk_41_method_11_code (3 : Nat) (Option.some Jvm.ClassFile.FieldType.int), Jvm.Cond.code ({ cls := "java/lang/StringUTF16", name := "toBytes", desc := "([CII)[B" } : Jvm.MethodName) jdk_52_method_14_code (5 : Nat) (Option.some (Jvm.ClassFile.FieldType.array Jvm.ClassFile.FieldType.byte)), Jvm.Cond.code ({ cls := "java/lang/StringUTF16", name := "newBytesFor", desc := "(I)[B" } : Jvm.MethodName) jdk_52_method_2_code (1 : Nat) (Option.some (Jvm.ClassFile.FieldType.array Jvm.ClassFile.FieldType.byte)), Jvm.Cond.code ({ cls := "java/lang/StringUTF16", name := "newBytesLength", desc := "(I)I" } : Jvm.MethodName) jdk_52_method_3_code (1 : Nat) (Option.some Jvm.ClassFile.FieldType.int), Jvm.Cond.code ({ cls := "java/lang/StringUTF16", name := "putChar", desc := "([BII)V" } : Jvm.MethodName) jdk_52_method_4_code (3 : Nat) (Option.none : Option Jvm.ClassFile.FieldType), Jvm.Cond.code ({ cls := "java/lang/StringUTF16", name := "getChar", desc := "([BI)C" } : Jvm.MethodName) jdk_52_method_5_code (2 : Nat) (Option.some Jvm.ClassFile.FieldType.char), Jvm.Cond.code ({ cls := "java/lang/StringUTF16", name := "charAt", desc := "([BI)C" } : Jvm.MethodName) jdk_52_method_83_code (2 : Nat) (Option.some Jvm.ClassFile.FieldType.char), Jvm.Cond.code ({ cls := "java/lang/StringUTF16", name := "checkIndex", desc := "(I[B)V" } : Jvm.MethodName) jdk_52_method_91_code (2 : Nat) (Option.none : Option Jvm.ClassFile.FieldType), Jvm.Cond.code ({ cls := "java/lang/StringUTF16", name := "length", desc := "([B)I" } : Jvm.MethodName) jdk_52_method_6_code (1 : Nat) (Option.some Jvm.ClassFile.FieldType.int), Jvm.Cond.code ({ cls := "java/lang/String", name := "substring", desc := "(I)Ljava/lang/String;" } : Jvm.MethodName) jdk_42_method_91_code (2 : Nat) (Option.some (Jvm.ClassFile.FieldType.object "java/lang/String")), Jvm.Cond.code ({ cls := "java/lang/String", name := "length", desc := "()I" } : Jvm.MethodName) jdk_42_method_54_code (1 : Nat) (Option.some Jvm.ClassFile.FieldType.int), Jvm.Cond.code ({ cls := "java/lang/String", name := "coder", desc := "()B" } : Jvm.MethodName) jdk_42_method_152_code (1 : Nat) (Option.some Jvm.ClassFile.FieldType.byte), Jvm.Cond.code ({ cls := "java/lang/String", name := "substring", desc := "(II)Ljava/lang/String;" } : Jvm.MethodName) jdk_42_method_92_code (5 : Nat) (Option.some (Jvm.ClassFile.FieldType.object "java/lang/String")), Jvm.Cond.code ({ cls := "java/lang/String", name := "checkBoundsBeginEnd", desc := "(III)V" } : Jvm.MethodName) jdk_42_method_158_code (3 : Nat) (Option.none : Option Jvm.ClassFile.FieldType), Jvm.Cond.code ({ cls := "jdk/internal/util/Preconditions", name := "checkFromToIndex", desc := "(IIILjava/util/function/BiFunction;)I" } : Jvm.MethodName) jdk_41_method_12_code (4 : Nat) (Option.some Jvm.ClassFile.FieldType.int), Jvm.Cond.code ({ cls := "java/lang/StringUTF16", name := "newString", desc := "([BII)Ljava/lang/String;" } : Jvm.MethodName) jdk_52_method_69_code (5 : Nat) (Option.some (Jvm.ClassFile.FieldType.object "java/lang/String")), Jvm.Cond.code ({ cls := "java/lang/StringUTF16", name := "compress", desc := "([BII)[B" } : Jvm.MethodName) jdk_52_method_17_code (6 : Nat) (Option.some (Jvm.ClassFile.FieldType.array Jvm.ClassFile.FieldType.byte)), Jvm.Cond.code ({ cls := "java/lang/StringUTF16", name := "compress", desc := "([BI[BII)I" } : Jvm.MethodName) jdk_52_method_22_code (7 : Nat) (Option.some Jvm.ClassFile.FieldType.int), Jvm.Cond.code ({ cls := "java/lang/StringUTF16", name := "checkBoundsOffCount", desc := "(II[B)V" } : Jvm.MethodName) jdk_52_method_94_code (3 : Nat) (Option.none : Option Jvm.ClassFile.FieldType), Jvm.Cond.code ({ cls := "java/lang/String", name := "checkBoundsOffCount", desc := "(III)I" } : Jvm.MethodName) jdk_42_method_157_code (3 : Nat) (Option.some Jvm.ClassFile.FieldType.int), Jvm.Cond.code ({ cls := "jdk/internal/util/Preconditions", name := "checkFromIndexSize", desc := "(IIILjava/util/function/BiFunction;)I" } : Jvm.MethodName) jdk_41_method_13_code (4 : Nat) (Option.some Jvm.ClassFile.FieldType.int), Jvm.Cond.code ({ cls := "java/util/Arrays", name := "copyOfRange", desc := "([BII)[B" } : Jvm.MethodName) jdk_65_method_132_code (3 : Nat) (Option.some (Jvm.ClassFile.FieldType.array Jvm.ClassFile.FieldType.byte)), Jvm.Cond.code ({ cls := "java/util/Arrays", name := "copyOfRangeByte", desc := "([BII)[B" } : Jvm.MethodName) jdk_65_method_133_code (5 : Nat) (Option.some (Jvm.ClassFile.FieldType.array Jvm.ClassFile.FieldType.byte)), Jvm.Cond.code ({ cls := "java/util/Arrays", name := "checkLength", desc := "(II)V" } : Jvm.MethodName) jdk_65_method_131_code (2 : Nat) (Option.none : Option Jvm.ClassFile.FieldType), Jvm.Cond.code ({ cls := "java/lang/Math", name := "min", desc := "(II)I" } : Jvm.MethodName) jdk_29_method_69_code (2 : Nat) (Option.some Jvm.ClassFile.FieldType.int), Jvm.Cond.code ({ cls := "java/lang/String", name := "<init>", desc := "([BB)V" } : Jvm.MethodName) jdk_42_method_151_code (3 : Nat) (Option.none : Option Jvm.ClassFile.FieldType), Jvm.Cond.code ({ cls := "java/lang/StringLatin1", name := "equals", desc := "([B[B)Z" } : Jvm.MethodName) jdk_43_method_13_code (3 : Nat) (Option.some Jvm.ClassFile.FieldType.boolean)]
set_option maxRecDepth 65536 in
theorem codes_eq : words1.filter isCode = codes1 := rfl
theorem w_codes : ∀ c ∈ words1.filter isCode, c.before args0 about1 = true := by
  rw [codes_eq]
  intro c hc
  simp only [codes1, List.mem_cons, List.not_mem_nil, or_false] at hc
  rcases hc with rfl | rfl | rfl | rfl | rfl | rfl | rfl | rfl | rfl | rfl | rfl | rfl | rfl | rfl | rfl | rfl | rfl | rfl | rfl | rfl | rfl | rfl | rfl | rfl | rfl | rfl | rfl | rfl | rfl | rfl | rfl | rfl | rfl | rfl | rfl | rfl | rfl | rfl | rfl | rfl | rfl | rfl | rfl
  · exact w_c0
  · exact w_c1
  · exact w_c2
  · exact w_c3
  · exact w_c4
  · exact w_c5
  · exact w_c6
  · exact w_c7
  · exact w_c8
  · exact w_c9
  · exact w_c10
  · exact w_c11
  · exact w_c12
  · exact w_c13
  · exact w_c14
  · exact w_c15
  · exact w_c16
  · exact w_c17
  · exact w_c18
  · exact w_c19
  · exact w_c20
  · exact w_c21
  · exact w_c22
  · exact w_c23
  · exact w_c24
  · exact w_c25
  · exact w_c26
  · exact w_c27
  · exact w_c28
  · exact w_c29
  · exact w_c30
  · exact w_c31
  · exact w_c32
  · exact w_c33
  · exact w_c34
  · exact w_c35
  · exact w_c36
  · exact w_c37
  · exact w_c38
  · exact w_c39
  · exact w_c40
  · exact w_c41
  · exact w_c42
set_option maxRecDepth 65536 in
theorem w_t1 : (words1.take 24).all (fun c => isCode c || c.before args0 about1) = true := by decide +kernel
set_option maxRecDepth 65536 in
theorem w_t2 : ((words1.drop 24).take 24).all (fun c => isCode c || c.before args0 about1) = true := by decide +kernel
set_option maxRecDepth 65536 in
theorem w_t3 : (((words1.drop 24).drop 24).take 24).all (fun c => isCode c || c.before args0 about1) = true := by decide +kernel
set_option maxRecDepth 65536 in
theorem w_t4 : ((((words1.drop 24).drop 24).drop 24).take 24).all (fun c => isCode c || c.before args0 about1) = true := by decide +kernel
set_option maxRecDepth 65536 in
theorem w_t5 : (((((words1.drop 24).drop 24).drop 24).drop 24).take 24).all (fun c => isCode c || c.before args0 about1) = true := by decide +kernel
set_option maxRecDepth 65536 in
theorem w_t6 : ((((((words1.drop 24).drop 24).drop 24).drop 24).drop 24).take 24).all (fun c => isCode c || c.before args0 about1) = true := by decide +kernel
set_option maxRecDepth 65536 in
theorem w_t7 : (((((((words1.drop 24).drop 24).drop 24).drop 24).drop 24).drop 24).take 24).all (fun c => isCode c || c.before args0 about1) = true := by decide +kernel
set_option maxRecDepth 65536 in
theorem w_t8 : (((((((words1.drop 24).drop 24).drop 24).drop 24).drop 24).drop 24).drop 24).all (fun c => isCode c || c.before args0 about1) = true := by decide +kernel
theorem w_tables : (allAtoms (Jvm.Cond.code x code maxLocals ret :: tables_1)).before args0 about1 = true := by
  rw [allAtoms_all]
  show words1.all (fun c => c.before args0 about1) = true
  refine all_split ?_ w_codes
  rw [← List.take_append_drop 24 words1, List.all_append, w_t1, ← List.take_append_drop 24 (words1.drop 24), List.all_append, w_t2, ← List.take_append_drop 24 ((words1.drop 24).drop 24), List.all_append, w_t3, ← List.take_append_drop 24 (((words1.drop 24).drop 24).drop 24), List.all_append, w_t4, ← List.take_append_drop 24 ((((words1.drop 24).drop 24).drop 24).drop 24), List.all_append, w_t5, ← List.take_append_drop 24 (((((words1.drop 24).drop 24).drop 24).drop 24).drop 24), List.all_append, w_t6, ← List.take_append_drop 24 ((((((words1.drop 24).drop 24).drop 24).drop 24).drop 24).drop 24), List.all_append, w_t7, w_t8]
  rfl
set_option maxRecDepth 65536 in
theorem w_rest : rest_1_c.before args0 about1 = true := by decide +kernel
set_option maxRecDepth 65536 in
theorem w_case : (Jvm.Cond.and given_1 narrow_1).before args0 about1 = true := by decide +kernel
set_option maxRecDepth 65536 in
theorem w_consts : constsHeld consts_1 about1 := Jvm.Lit.constsHeldB_iff.mp (by decide +kernel)
theorem w_applies : (headSpec (Jvm.Cond.code x code maxLocals ret :: tables_1) room_1).applies x e0.platform about1 = true :=
  (Spec.applies_iff w_frames).mpr ⟨w_running, w_runnable, w_alone, w_named, w_hears, w_ripe, w_room, w_tables⟩
theorem atStart : AtStart classFile x code maxLocals ret World_1 tables_1 room_1 Calls_1 rest_1 Pre_1 launch0 p0 e0 about1 theMethod args0 below0 :=
  ⟨lists_1, trivial, launch0.admits_env _ _ _, launch0.least_env, fairChoices_fair.cas, fairChoices_fair.clock, w_frames, w_args, w_heap, w_applies, ⟨w_consts, trivial⟩, w_rest, w_case⟩
end start1
theorem witness_1 : WitnessClaimed_1 := ⟨start1.p0, start1.e0, start1.about1, start1.theMethod, start1.args0, start1.below0, start1.atStart⟩
end Jvm.Pilot.@@N@@
