import JvmDerived
import JvmDerived.Pilot.@@N@@Statement
import JvmDerived.Pilot.@@N@@Code
set_option linter.unusedVariables false
set_option linter.unusedSimpArgs false
namespace Jvm.RoadKit
open Sem ClassFile Op Lib Jvm.Stand Jvm.Free Jvm.LawKit
section New
variable {p : Program} {l : Launch} {e : Env} {R : Room} {s : State} {m : MethodId} {args : Array Value} {below : List Frame} {meth : Method} {c : Code} {T : State} {locs : List Loc} {cells slots : Nat}
theorem retI (X : Stand p l e R s m args below meth c T locs cells slots) (hx : p.tables.exec = Jvm.exec) {pc : Nat} {Ls : Array Slot} {z : Int32} {rest : List Value} (hret : meth.sig.returnType = some .int) (hd : decode c.code pc = .ok (.ireturn, 1)) {fs : List Frame}
    (hl : ∀ (f : JFrame) (acts : List Action), f.method = m → f.locked = none → f.entered = [] → (doReturn e (T.setTop f) acts (some (.int z))).1 = T.setFrames fs) : Steps p.tables e below (T.setTop (mkF m pc Ls (.int z :: rest))) (T.setFrames fs) := by
  have hm' : T.vm.method? m = some meth := X.method'
  have hn : narrow .int (.int z) = .int z := rfl
  show Steps p.tables e below (T.setTop { method := m, pc := pc, locals := Ls, stack := _ :: rest, locked := none }) _
  jvm_step X.here [X.here.top, hx, hd, hm', hret, hn]
  first | (intro acts; rw [hl _ acts rfl rfl rfl]) | rw [hl _ _ rfl rfl rfl]
  exact Steps.refl _
end New
end Jvm.RoadKit
namespace Jvm.RoadKit
open Sem ClassFile Op Lib Jvm.Stand Jvm.Free Jvm.LawKit
section Own
variable {p : Program} {l : Launch} {e : Env} {R : Room} {s : State} {m : MethodId} {args : Array Value} {below : List Frame} {meth : Method} {c : Code} {T T' : State} {locs : List Loc} {cells slots : Nat} {Q : Option Value → Heap → List Loc → Prop} {F : Option Value → State → Prop} {kc ks : Nat} {g g' : JFrame} {Z : State} {a0 : Array Value} {h : Heap}
/-- the body that stands at T with the frame g comes to its end, and leaves what F says -/
def Goes (p : Program) (e : Env) (below : List Frame) (F : Option Value → State → Prop) (T : State) (g : JFrame) : Prop :=
  ∃ s₂ o, Steps p.tables e below (T.setTop g) s₂ ∧ s₂.status = .running ∧ Ended s₂ below o ∧ ∃ v, o = .returned v ∧ F v s₂
def EndQ (s : State) (Q : Option Value → Heap → List Loc → Prop) (kc ks : Nat) (v : Option Value) (t : State) : Prop := ∃ L, Q v t.heap L ∧ FrameEnd s (.returned v) t L kc ks
theorem Goes.give (h : Goes p e below (EndQ s Q kc ks) T g) : ∃ s₂ o, Steps p.tables e below (T.setTop g) s₂ ∧ s₂.status = .running ∧ Ended s₂ below o ∧ ∃ v L, o = .returned v ∧ Q v s₂.heap L ∧ FrameEnd s o s₂ L kc ks := by
  obtain ⟨s2, o, h1, h2, h3, v, rfl, L, h4, h5⟩ := h
  exact ⟨s2, _, h1, h2, h3, v, L, rfl, h4, h5⟩
theorem Goes.step (k : ∀ t, Steps p.tables e below (T'.setTop g') t → Steps p.tables e below (T.setTop g) t) (h : Goes p e below F T' g') : Goes p e below F T g := by
  obtain ⟨s2, o, h1, r⟩ := h
  exact ⟨s2, o, k _ h1, r⟩
theorem Goes.out {v : Option Value} (X : Stand p l e R s m args below meth c T locs cells slots) (hlk : meth.locks = false) (hv : meth.sig.returnType = none → v = none) (hq : Q v T.heap locs) (hc : cells ≤ kc) (hs : slots ≤ ks)
    (k : ∀ fs, (∀ (f : JFrame) (acts : List Action), f.method = m → f.locked = none → f.entered = [] → (doReturn e (T.setTop f) acts v).1 = T.setFrames fs) → Steps p.tables e below (T.setTop g) (T.setFrames fs)) : Goes p e below (EndQ s Q kc ks) T g := by
  obtain ⟨fs, hr, hrun, hended, hW, hsame⟩ := X.leave (v := v) hv hlk
  exact ⟨_, _, k fs hr, hrun, hended, _, rfl, _, hq, ⟨_, rfl⟩, hW, hsame.mono hc hs⟩
theorem Goes.retI (X : Stand p l e R s m args below meth c T locs cells slots) (hx : p.tables.exec = Jvm.exec) (hlk : meth.locks = false) {pc : Nat} {Ls : Array Slot} {z : Int32} {rest : List Value} (hret : meth.sig.returnType = some .int) (hd : decode c.code pc = .ok (.ireturn, 1))
    (hc : cells ≤ kc) (hs : slots ≤ ks) (hq : Q (some (.int z)) T.heap locs) : Goes p e below (EndQ s Q kc ks) T (mkF m pc Ls (.int z :: rest)) :=
  Goes.out X hlk (fun h => by rw [hret] at h; cases h) hq hc hs fun fs hr => RoadKit.retI X hx hret hd hr
theorem Goes.retN (X : Stand p l e R s m args below meth c T locs cells slots) (hx : p.tables.exec = Jvm.exec) (hlk : meth.locks = false) {pc : Nat} {Ls : Array Slot} {z : Int32} {t : FieldType} {rest : List Value} (hret : meth.sig.returnType = some t) (ht : t = .boolean ∨ t = .byte ∨ t = .char ∨ t = .short) (hd : decode c.code pc = .ok (.ireturn, 1))
    (hc : cells ≤ kc) (hs : slots ≤ ks) (hq : Q (some (.int (nar t z))) T.heap locs) : Goes p e below (EndQ s Q kc ks) T (mkF m pc Ls (.int z :: rest)) :=
  Goes.out X hlk (fun h => by rw [hret] at h; cases h) hq hc hs fun fs hr => RoadKit.retN X hx hret ht hd hr
theorem Goes.retA (X : Stand p l e R s m args below meth c T locs cells slots) (hx : p.tables.exec = Jvm.exec) (hlk : meth.locks = false) {pc : Nat} {Ls : Array Slot} {w : Value} {t : FieldType} {rest : List Value} (hret : meth.sig.returnType = some t) (ht : t.isReference = true) (hw : w.isRef = true) (hd : decode c.code pc = .ok (.areturn, 1))
    (hc : cells ≤ kc) (hs : slots ≤ ks) (hq : Q (some w) T.heap locs) : Goes p e below (EndQ s Q kc ks) T (mkF m pc Ls (w :: rest)) :=
  Goes.out X hlk (fun h => by rw [hret] at h; cases h) hq hc hs fun fs hr => RoadKit.retOut X hx hret (by cases w <;> cases t <;> first | rfl | (simp [FieldType.isReference] at ht) | (simp [Value.isRef] at hw)) (Or.inr (Or.inr (Or.inr (Or.inr ⟨rfl, ht, hw⟩)))) hd hr
theorem Goes.retJ (X : Stand p l e R s m args below meth c T locs cells slots) (hx : p.tables.exec = Jvm.exec) (hlk : meth.locks = false) {pc : Nat} {Ls : Array Slot} {z : Int64} {rest : List Value} (hret : meth.sig.returnType = some .long) (hd : decode c.code pc = .ok (.lreturn, 1))
    (hc : cells ≤ kc) (hs : slots ≤ ks) (hq : Q (some (.long z)) T.heap locs) : Goes p e below (EndQ s Q kc ks) T (mkF m pc Ls (.long z :: rest)) :=
  Goes.out X hlk (fun h => by rw [hret] at h; cases h) hq hc hs fun fs hr => RoadKit.retOut X hx hret rfl (Or.inr (Or.inl ⟨rfl, rfl, _, rfl⟩)) hd hr
theorem Goes.retV (X : Stand p l e R s m args below meth c T locs cells slots) (hx : p.tables.exec = Jvm.exec) (hlk : meth.locks = false) {pc : Nat} {Ls : Array Slot} (hret : meth.sig.returnType = none) (hd : decode c.code pc = .ok (.return_, 1))
    (hc : cells ≤ kc) (hs : slots ≤ ks) (hq : Q none T.heap locs) : Goes p e below (EndQ s Q kc ks) T (mkF m pc Ls []) :=
  Goes.out X hlk (fun _ => rfl) hq hc hs fun fs hr => X.returnOut hx hret hd hr
/-- a static call, by its callee's contract -/
theorem Goes.callS (X : Stand p l e R s m args below meth c T locs cells slots) (hx : p.tables.exec = Jvm.exec) {own : String} {index : Nat} {y : MethodName} {bytes : ByteArray} {maxL : Nat} {ret : Option FieldType}
    (hown : s.vm.findClass own = some m.cls) (hlink : (Cond.methodLink own index y).before args s = true) (hstat : (Cond.static y).before args s = true) (hinit : (Cond.initialized y.cls).before args s = true)
    (hcode : (Cond.code y bytes maxL ret).before args s = true) (hy : y.cls ≠ "java/lang/invoke/MethodHandle" ∧ y.cls ≠ "java/lang/invoke/VarHandle")
    {W : Nat} {as' : Array Value} {Qc : Option Value → Heap → List Loc → Prop} {kc' ks' : Nat}
    (hK : Back l R p e below s args y 3 W (fun A a => a = as' ∧ A.U.heap = h ∧ A.cells + kc' ≤ R.cells ∧ A.slots + ks' ≤ R.slots) (fun A _ v B => ∃ L, Qc v B.U.heap L ∧ B.locs = A.locs ++ L ∧ B.cells = A.cells + kc' ∧ B.slots = A.slots + ks'))
    (hg : g.method = m) (hsize : g.locals.size = c.maxLocals) {argsL rest : List Value} (hlen : ∀ sig, parseMethodDescriptor y.desc = some sig → argsL.length = sig.parameters.length)
    (hstack : g.stack = argsL.reverse ++ rest) (hW : 2 * g.monitorRoom + (rest.map fun v => v.category).sum ≤ W) (hdg : decode c.code g.pc = .ok (.invokestatic index, 3)) (ha : argsL.toArray = as') (eT : T.heap = h) (hc : cells + kc' ≤ R.cells) (hs : slots + ks' ≤ R.slots)
    (k : ∀ (v : Option Value) (T' : State) (L : List Loc), Qc v T'.heap L → Stand p l e R s m args below meth c T' (locs ++ L) (cells + kc') (slots + ks') → Goes p e below F T' { g with pc := g.pc + 3, stack := v.toList ++ rest }) : Goes p e below F T g := by
  obtain ⟨v, vm₁, ⟨T', L', k', n'⟩, -, X', ⟨L, hQ, h1, h2, h3⟩, st⟩ := Jvm.LawKit.callS X hx hown hlink hstat hinit hcode hy hK hg hsize hlen hstack hW hdg (fun _ _ => ⟨ha, eT, hc, hs⟩)
  dsimp only [Pt.U, Pt.locs, Pt.cells, Pt.slots] at X' h1 h2 h3 st hQ
  subst h1 h2 h3
  exact Goes.step st (k v T' L hQ X')
/-- a constructor, by its contract -/
theorem Goes.callC (X : Stand p l e R s m args below meth c T locs cells slots) (hx : p.tables.exec = Jvm.exec) {own : String} {index : Nat} {y : MethodName} {bytes : ByteArray} {maxL : Nat} (hy1 : y.name = "<init>")
    (hown : s.vm.findClass own = some m.cls) (hlink : (Cond.methodLink own index y).before args s = true) (hinst : (Cond.instanceMethod y).before args s = true) (hcode : (Cond.code y bytes maxL none).before args s = true)
    (hy : y.cls ≠ "java/lang/invoke/MethodHandle" ∧ y.cls ≠ "java/lang/invoke/VarHandle")
    {W : Nat} {as' : Array Value} {Qc : Option Value → Heap → List Loc → Prop} {kc' ks' : Nat}
    (hK : Back l R p e below s args y 3 W (fun A a => a = as' ∧ A.U.heap = h ∧ A.cells + kc' ≤ R.cells ∧ A.slots + ks' ≤ R.slots) (fun A _ v B => ∃ L, Qc v B.U.heap L ∧ B.locs = A.locs ++ L ∧ B.cells = A.cells + kc' ∧ B.slots = A.slots + ks'))
    (hg : g.method = m) (hsize : g.locals.size = c.maxLocals) {a : Addr} {argsL rest : List Value} (hlen : ∀ sig, parseMethodDescriptor y.desc = some sig → argsL.length = sig.parameters.length)
    (hstack : g.stack = argsL.reverse ++ .ref a :: rest) (hW : 2 * g.monitorRoom + (rest.map fun v => v.category).sum ≤ W) (hdg : decode c.code g.pc = .ok (.invokespecial index, 3)) (ha : (.ref a :: argsL).toArray = as') (eT : T.heap = h) (hc : cells + kc' ≤ R.cells) (hs : slots + ks' ≤ R.slots)
    (k : ∀ (v : Option Value) (T' : State) (L : List Loc), Qc v T'.heap L → Stand p l e R s m args below meth c T' (locs ++ L) (cells + kc') (slots + ks') → Goes p e below F T' { g with pc := g.pc + 3, stack := v.toList ++ rest }) : Goes p e below F T g := by
  obtain ⟨v, vm₁, ⟨T', L', k', n'⟩, -, X', ⟨L, hQ, h1, h2, h3⟩, st⟩ := X.specialBack hx hy1 hown hlink hinst hcode hy hK hg hsize (Steps.refl _) hlen hstack hW hdg (fun _ _ => ⟨ha, eT, hc, hs⟩)
  dsimp only [Pt.U, Pt.locs, Pt.cells, Pt.slots] at X' h1 h2 h3 st hQ
  subst h1 h2 h3
  exact Goes.step (fun t q => st.trans q) (k v T' L hQ X')
/-- an instance method, by the contract of the body that is selected -/
theorem Goes.callV (X : Stand p l e R s m args below meth c T locs cells slots) (hx : p.tables.exec = Jvm.exec) (hZ : Z.Warmed39 s.vm) {own C : String} {index : Nat} {y z : MethodName}
    (hown : s.vm.findClass own = some m.cls) (hlink : (Cond.methodLink own index y).before args s = true) (hdecl : (Cond.declares y).before args s = true) (hnf : NotFace s y)
    (hsel : (Cond.selects C y z).before args s = true) (hinst : (Cond.instanceMethod z).before args s = true)
    (hy : y.cls ≠ "java/lang/invoke/MethodHandle" ∧ y.cls ≠ "java/lang/invoke/VarHandle")
    {W : Nat} {as' : Array Value} {Qc : Option Value → Heap → List Loc → Prop} {kc' ks' : Nat}
    (hK : Back l R p e below s args z 3 W (fun A a => a = as' ∧ A.U.heap = h ∧ A.cells + kc' ≤ R.cells ∧ A.slots + ks' ≤ R.slots) (fun A _ v B => ∃ L, Qc v B.U.heap L ∧ B.locs = A.locs ++ L ∧ B.cells = A.cells + kc' ∧ B.slots = A.slots + ks'))
    {b : Addr} (eT : T.heap = h) (E : Exa Z h b C)
    (hg : g.method = m) (hsize : g.locals.size = c.maxLocals) {argsL rest : List Value} (hlen : ∀ sig, parseMethodDescriptor y.desc = some sig → argsL.length = sig.parameters.length)
    (hstack : g.stack = argsL.reverse ++ .ref b :: rest) (hW : 2 * g.monitorRoom + (rest.map fun v => v.category).sum ≤ W) (hdg : decode c.code g.pc = .ok (.invokevirtual index, 3)) (ha : (.ref b :: argsL).toArray = as') (hc : cells + kc' ≤ R.cells) (hs : slots + ks' ≤ R.slots)
    (k : ∀ (v : Option Value) (T' : State) (L : List Loc), Qc v T'.heap L → Stand p l e R s m args below meth c T' (locs ++ L) (cells + kc') (slots + ks') → Goes p e below F T' { g with pc := g.pc + 3, stack := v.toList ++ rest }) : Goes p e below F T g := by
  obtain ⟨cq, kq, qa, qb, qc⟩ := isOf hZ eT E
  obtain ⟨v, vm₁, ⟨T', L', k', n'⟩, -, X', ⟨L, hQ, h1, h2, h3⟩, st⟩ := X.virtualBack hx hown hlink hdecl hnf hsel hinst hy hK qa qc hg hsize (Steps.refl _) hlen hstack hW hdg (fun _ _ => ⟨ha, eT, hc, hs⟩)
  dsimp only [Pt.U, Pt.locs, Pt.cells, Pt.slots] at X' h1 h2 h3 st hQ
  subst h1 h2 h3
  exact Goes.step (fun t q => st.trans q) (k v T' L hQ X')
/-- a private method called by invokevirtual -/
theorem Goes.callP (X : Stand p l e R s m args below meth c T locs cells slots) (hx : p.tables.exec = Jvm.exec) {own C : String} {index : Nat} {y : MethodName} {bytes : ByteArray} {maxL : Nat} {ret : Option FieldType}
    (hown : s.vm.findClass own = some m.cls) (hlink : (Cond.methodLink own index y).before args s = true) (hinst : (Cond.instanceMethod y).before args s = true) (hsel : (Cond.selects y.cls y y).before args s = true)
    (hpriv : s.PrivateAt y) (hcode : (Cond.code y bytes maxL ret).before args s = true)
    (hy : y.cls ≠ "java/lang/invoke/MethodHandle" ∧ y.cls ≠ "java/lang/invoke/VarHandle")
    {W : Nat} {as' : Array Value} {Qc : Option Value → Heap → List Loc → Prop} {kc' ks' : Nat}
    (hK : Back l R p e below s args y 3 W (fun A a => a = as' ∧ A.U.heap = h ∧ A.cells + kc' ≤ R.cells ∧ A.slots + ks' ≤ R.slots) (fun A _ v B => ∃ L, Qc v B.U.heap L ∧ B.locs = A.locs ++ L ∧ B.cells = A.cells + kc' ∧ B.slots = A.slots + ks'))
    {b : Addr} (eT : T.heap = h) (E : Exa Z h b C)
    (hg : g.method = m) (hsize : g.locals.size = c.maxLocals) {argsL rest : List Value} (hlen : ∀ sig, parseMethodDescriptor y.desc = some sig → argsL.length = sig.parameters.length)
    (hstack : g.stack = argsL.reverse ++ .ref b :: rest) (hW : 2 * g.monitorRoom + (rest.map fun v => v.category).sum ≤ W) (hdg : decode c.code g.pc = .ok (.invokevirtual index, 3)) (ha : (.ref b :: argsL).toArray = as') (hc : cells + kc' ≤ R.cells) (hs : slots + ks' ≤ R.slots)
    (k : ∀ (v : Option Value) (T' : State) (L : List Loc), Qc v T'.heap L → Stand p l e R s m args below meth c T' (locs ++ L) (cells + kc') (slots + ks') → Goes p e below F T' { g with pc := g.pc + 3, stack := v.toList ++ rest }) : Goes p e below F T g := by
  obtain ⟨cq, q1, q2⟩ := E.cell
  obtain ⟨v, vm₁, ⟨T', L', k', n'⟩, -, X', ⟨L, hQ, h1, h2, h3⟩, st⟩ := X.privateBack hx hown hlink hinst hsel hpriv hcode hy hK hg hsize (Steps.refl _) (by rw [eT]; exact q1) q2 hlen hstack hW hdg (fun _ _ => ⟨ha, eT, hc, hs⟩)
  dsimp only [Pt.U, Pt.locs, Pt.cells, Pt.slots] at X' h1 h2 h3 st hQ
  subst h1 h2 h3
  exact Goes.step (fun t q => st.trans q) (k v T' L hQ X')
/-- clone() of an array whose elements are known -/
theorem cloneV {a : Addr} {ty : FieldType} (X : Stand p l e R s m args below meth c T locs cells slots) (hx : p.tables.exec = Jvm.exec) (hZ : Z.Warmed39 s.vm) {own ad : String} {index : Nat} (hown : s.vm.findClass own = some m.cls)
    (w1 : (Cond.methodLink own index ⟨ad, "clone", "()Ljava/lang/Object;"⟩).before a0 Z = true) (w2 : (Cond.sameMethod ad "java/lang/Object" "clone" "()Ljava/lang/Object;").before a0 Z = true) (w3 : (Cond.native ⟨"java/lang/Object", "clone", "()Ljava/lang/Object;"⟩).before a0 Z = true)
    (w4 : (Cond.instanceMethod ⟨"java/lang/Object", "clone", "()Ljava/lang/Object;"⟩).before a0 Z = true) (w5 : (Cond.selects ad ⟨ad, "clone", "()Ljava/lang/Object;"⟩ ⟨"java/lang/Object", "clone", "()Ljava/lang/Object;"⟩).before a0 Z = true) (w6 : (Cond.castable ad "java/lang/Cloneable").before a0 Z = true)
    (eT : T.heap = h) {k : ClassId} {z : Int32} {vs : List Value} {dv : Value} (FA : Arv Z h a k ty z vs dv) (E : Exa Z h a ad) {g : JFrame} (hg : g.method = m) (hsize : g.locals.size = c.maxLocals) {rest : List Value} (hst : g.stack = .ref a :: rest) (hd : decode c.code g.pc = .ok (.invokevirtual index, 3))
    (hf : 1 ≤ R.frames) {W cap : Nat} (hW : 2 * g.monitorRoom + (rest.map fun v => v.category).sum ≤ W) (hl : W + 14 ≤ R.locals) (hcap : z.toNatClampNeg ≤ cap) (hc : cells + 1 ≤ R.cells) (hsl : slots + cap ≤ R.slots) :
    ∃ T' h', Stand p l e R s m args below meth c T' locs (cells + 1) (slots + cap) ∧ T'.heap = h' ∧ Ext h h' ∧ Arv Z h' h.size k ty z vs dv ∧ Exa Z h' h.size ad ∧
      ∀ target, Steps p.tables e below (T'.setTop { g with pc := g.pc + 3, stack := .ref h.size :: rest }) target → Steps p.tables e below (T.setTop g) target := by
  obtain ⟨cl, A, q1, S, q3, H, G⟩ := FA
  have FC : FitC Z cl := fitC_of A fun i hi v hv => by rw [H i hi] at hv; cases hv; exact G i hi
  obtain ⟨T', h', X', e', ex, A', E', st⟩ := cloneA X hx hZ hown w1 w2 w3 w4 w5 w6 eT A E FC hg hsize hst hd hf hW hl (by rw [S]; exact hcap) hc hsl
  exact ⟨T', h', X', e', ex, ⟨cloneOf cl, A', q1, S, q3, H, G⟩, E', st⟩
end Own
end Jvm.RoadKit
namespace Jvm.RoadKit
open Sem ClassFile Op Lib Jvm.Stand Jvm.Free Jvm.LawKit
namespace P1
section P1
variable {p : Program} {e : Env} {below : List Frame} {F : Option Value → State → Prop} {T : State} {m : MethodId} {c : Code} {pc : Nat} {Ls : Array Slot} {S : List Value}
theorem aloadN (h : At T m c below) (hx : p.tables.exec = Jvm.exec) {k : Fin 4} {v : Value} (hd : decode c.code pc = .ok (.aload_n k, 1)) (hl : Ls[k.val]? = some (.val v)) (hv : v.isRef = true) (hr : Goes p e below F T (mkF m (pc + 1) Ls (v :: S))) : Goes p e below F T (mkF m pc Ls (S)) := Goes.step (fun t k => XS.aloadN h hx rfl hd hl hv k) hr
theorem aload (h : At T m c below) (hx : p.tables.exec = Jvm.exec) {k : Nat} {v : Value} (hd : decode c.code pc = .ok (.aload k, 2)) (hl : Ls[k]? = some (.val v)) (hv : v.isRef = true) (hr : Goes p e below F T (mkF m (pc + 2) Ls (v :: S))) : Goes p e below F T (mkF m pc Ls (S)) := Goes.step (fun t k => XS.aload h hx rfl hd hl hv k) hr
theorem iloadN (h : At T m c below) (hx : p.tables.exec = Jvm.exec) {k : Fin 4} {v : Int32} (hd : decode c.code pc = .ok (.iload_n k, 1)) (hl : Ls[k.val]? = some (.val (.int v))) (hr : Goes p e below F T (mkF m (pc + 1) Ls ((.int v) :: S))) : Goes p e below F T (mkF m pc Ls (S)) := Goes.step (fun t k => XS.iloadN h hx rfl hd hl k) hr
theorem iload (h : At T m c below) (hx : p.tables.exec = Jvm.exec) {k : Nat} {v : Int32} (hd : decode c.code pc = .ok (.iload k, 2)) (hl : Ls[k]? = some (.val (.int v))) (hr : Goes p e below F T (mkF m (pc + 2) Ls ((.int v) :: S))) : Goes p e below F T (mkF m pc Ls (S)) := Goes.step (fun t k => XS.iload h hx rfl hd hl k) hr
theorem lloadN (h : At T m c below) (hx : p.tables.exec = Jvm.exec) {k : Fin 4} {v : Int64} (hd : decode c.code pc = .ok (.lload_n k, 1)) (hl : Ls[k.val]? = some (.val (.long v))) (hr : Goes p e below F T (mkF m (pc + 1) Ls ((.long v) :: S))) : Goes p e below F T (mkF m pc Ls (S)) := Goes.step (fun t k => XS.lloadN h hx rfl hd hl k) hr
theorem lload (h : At T m c below) (hx : p.tables.exec = Jvm.exec) {k : Nat} {v : Int64} (hd : decode c.code pc = .ok (.lload k, 2)) (hl : Ls[k]? = some (.val (.long v))) (hr : Goes p e below F T (mkF m (pc + 2) Ls ((.long v) :: S))) : Goes p e below F T (mkF m pc Ls (S)) := Goes.step (fun t k => XS.lload h hx rfl hd hl k) hr
theorem astoreN (h : At T m c below) (hx : p.tables.exec = Jvm.exec) {k : Fin 4} {x : Value} (l' : Array Slot) (hd : decode c.code pc = .ok (.astore_n k, 1)) (hv : x.isRef = true) (hl : storeLocals Ls k.val x = some l') (hr : Goes p e below F T (mkF m (pc + 1) l' (S))) : Goes p e below F T (mkF m pc Ls (x :: S)) := Goes.step (fun t k => XS.astoreN h hx rfl hd rfl hv hl k) hr
theorem astore (h : At T m c below) (hx : p.tables.exec = Jvm.exec) {k : Nat} {x : Value} (l' : Array Slot) (hd : decode c.code pc = .ok (.astore k, 2)) (hv : x.isRef = true) (hl : storeLocals Ls k x = some l') (hr : Goes p e below F T (mkF m (pc + 2) l' (S))) : Goes p e below F T (mkF m pc Ls (x :: S)) := Goes.step (fun t k => XS.astore h hx rfl hd rfl hv hl k) hr
theorem istoreN (h : At T m c below) (hx : p.tables.exec = Jvm.exec) {k : Fin 4} {x : Int32} (l' : Array Slot) (hd : decode c.code pc = .ok (.istore_n k, 1)) (hl : storeLocals Ls k.val (.int x) = some l') (hr : Goes p e below F T (mkF m (pc + 1) l' (S))) : Goes p e below F T (mkF m pc Ls ((.int x) :: S)) := Goes.step (fun t k => XS.istoreN h hx rfl hd rfl hl k) hr
theorem istore (h : At T m c below) (hx : p.tables.exec = Jvm.exec) {k : Nat} {x : Int32} (l' : Array Slot) (hd : decode c.code pc = .ok (.istore k, 2)) (hl : storeLocals Ls k (.int x) = some l') (hr : Goes p e below F T (mkF m (pc + 2) l' (S))) : Goes p e below F T (mkF m pc Ls ((.int x) :: S)) := Goes.step (fun t k => XS.istore h hx rfl hd rfl hl k) hr
theorem lstoreN (h : At T m c below) (hx : p.tables.exec = Jvm.exec) {k : Fin 4} {x : Int64} (l' : Array Slot) (hd : decode c.code pc = .ok (.lstore_n k, 1)) (hl : storeLocals Ls k.val (.long x) = some l') (hr : Goes p e below F T (mkF m (pc + 1) l' (S))) : Goes p e below F T (mkF m pc Ls ((.long x) :: S)) := Goes.step (fun t k => XS.lstoreN h hx rfl hd rfl hl k) hr
theorem lstore (h : At T m c below) (hx : p.tables.exec = Jvm.exec) {k : Nat} {x : Int64} (l' : Array Slot) (hd : decode c.code pc = .ok (.lstore k, 2)) (hl : storeLocals Ls k (.long x) = some l') (hr : Goes p e below F T (mkF m (pc + 2) l' (S))) : Goes p e below F T (mkF m pc Ls ((.long x) :: S)) := Goes.step (fun t k => XS.lstore h hx rfl hd rfl hl k) hr
theorem iconst (h : At T m c below) (hx : p.tables.exec = Jvm.exec) (z : Int32) {i : Int} (hd : decode c.code pc = .ok (.iconst i, 1)) (hz : Int32.ofInt i = z) (hr : Goes p e below F T (mkF m (pc + 1) Ls (.int z :: S))) : Goes p e below F T (mkF m pc Ls S) := by subst hz; exact Goes.step (fun t k => XS.iconst h hx rfl hd k) hr
theorem bipush (h : At T m c below) (hx : p.tables.exec = Jvm.exec) (z : Int32) {i : Int} (hd : decode c.code pc = .ok (.bipush i, 2)) (hz : (Int8.ofInt i).toInt32 = z) (hr : Goes p e below F T (mkF m (pc + 2) Ls (.int z :: S))) : Goes p e below F T (mkF m pc Ls S) := by subst hz; exact Goes.step (fun t k => XS.bipush h hx rfl hd k) hr
theorem sipush (h : At T m c below) (hx : p.tables.exec = Jvm.exec) (z : Int32) {i : Int} (hd : decode c.code pc = .ok (.sipush i, 3)) (hz : (Int16.ofInt i).toInt32 = z) (hr : Goes p e below F T (mkF m (pc + 3) Ls (.int z :: S))) : Goes p e below F T (mkF m pc Ls S) := by subst hz; exact Goes.step (fun t k => XS.sipush h hx rfl hd k) hr
theorem aconstNull (h : At T m c below) (hx : p.tables.exec = Jvm.exec)  (hd : decode c.code pc = .ok (.aconst_null, 1)) (hr : Goes p e below F T (mkF m (pc + 1) Ls (.null :: S))) : Goes p e below F T (mkF m pc Ls (S)) := Goes.step (fun t k => XS.aconstNull h hx rfl hd k) hr
theorem dup (h : At T m c below) (hx : p.tables.exec = Jvm.exec) {x : Value} (hd : decode c.code pc = .ok (.dup, 1)) (hc : x.category = 1) (hr : Goes p e below F T (mkF m (pc + 1) Ls (x :: x :: S))) : Goes p e below F T (mkF m pc Ls (x :: S)) := Goes.step (fun t k => XS.dup h hx rfl hd rfl hc k) hr
theorem pop (h : At T m c below) (hx : p.tables.exec = Jvm.exec) {x : Value} (hd : decode c.code pc = .ok (.pop, 1)) (hc : x.category = 1) (hr : Goes p e below F T (mkF m (pc + 1) Ls (S))) : Goes p e below F T (mkF m pc Ls (x :: S)) := Goes.step (fun t k => XS.pop h hx rfl hd rfl hc k) hr
theorem goto (h : At T m c below) (hx : p.tables.exec = Jvm.exec) {o : Int} (pc' : Nat) (hd : decode c.code pc = .ok (.goto o, 3)) (ho : 0 ≤ (pc : Int) + o) (hp : ((pc : Int) + o).toNat = pc') (hr : Goes p e below F T (mkF m pc' Ls (S))) : Goes p e below F T (mkF m pc Ls (S)) := Goes.step (fun t k => XS.goto h hx rfl (pc0 := pc) rfl hd ho hp k) hr
theorem iadd (h : At T m c below) (hx : p.tables.exec = Jvm.exec) {x y : Int32} (hd : decode c.code pc = .ok (.iadd, 1)) (hr : Goes p e below F T (mkF m (pc + 1) Ls (.int (x + y) :: S))) : Goes p e below F T (mkF m pc Ls (.int y :: .int x :: S)) := Goes.step (fun t k => XS.iadd h hx rfl hd rfl k) hr
theorem isub (h : At T m c below) (hx : p.tables.exec = Jvm.exec) {x y : Int32} (hd : decode c.code pc = .ok (.isub, 1)) (hr : Goes p e below F T (mkF m (pc + 1) Ls (.int (x - y) :: S))) : Goes p e below F T (mkF m pc Ls (.int y :: .int x :: S)) := Goes.step (fun t k => XS.isub h hx rfl hd rfl k) hr
theorem imul (h : At T m c below) (hx : p.tables.exec = Jvm.exec) {x y : Int32} (hd : decode c.code pc = .ok (.imul, 1)) (hr : Goes p e below F T (mkF m (pc + 1) Ls (.int (x * y) :: S))) : Goes p e below F T (mkF m pc Ls (.int y :: .int x :: S)) := Goes.step (fun t k => XS.imul h hx rfl hd rfl k) hr
theorem iand (h : At T m c below) (hx : p.tables.exec = Jvm.exec) {x y : Int32} (hd : decode c.code pc = .ok (.iand, 1)) (hr : Goes p e below F T (mkF m (pc + 1) Ls (.int (x &&& y) :: S))) : Goes p e below F T (mkF m pc Ls (.int y :: .int x :: S)) := Goes.step (fun t k => XS.iand h hx rfl hd rfl k) hr
theorem ior (h : At T m c below) (hx : p.tables.exec = Jvm.exec) {x y : Int32} (hd : decode c.code pc = .ok (.ior, 1)) (hr : Goes p e below F T (mkF m (pc + 1) Ls (.int (x ||| y) :: S))) : Goes p e below F T (mkF m pc Ls (.int y :: .int x :: S)) := Goes.step (fun t k => XS.ior h hx rfl hd rfl k) hr
theorem ixor (h : At T m c below) (hx : p.tables.exec = Jvm.exec) {x y : Int32} (hd : decode c.code pc = .ok (.ixor, 1)) (hr : Goes p e below F T (mkF m (pc + 1) Ls (.int (x ^^^ y) :: S))) : Goes p e below F T (mkF m pc Ls (.int y :: .int x :: S)) := Goes.step (fun t k => XS.ixor h hx rfl hd rfl k) hr
end P1
end P1
end Jvm.RoadKit
namespace Jvm.RoadKit
open Sem ClassFile Op Lib Jvm.Stand Jvm.Free Jvm.LawKit
section OwnStart
variable {Z : State} {args : Array Value} {t u : Term} {a : Addr} {cl : Cell} {ty : FieldType} {v : Value}
theorem own_eqV (h : (Cond.eq t u).value args Z none Z [] = some true) (hu : u.eval args Z none [] Z = some v) (hv : (∃ z, v = .int z) ∨ v.isRef = true) : t.eval args Z none [] Z = some v := by
  cases ht : t.eval args Z none [] Z with
  | none => simp [Cond.value, ht] at h
  | some x =>
    rcases hv with ⟨z, rfl⟩ | hv
    · cases x <;> simp_all [Cond.value, Value.isRef]
    · cases x <;> cases v <;> simp_all [Cond.value, Value.isRef]
theorem own_len {n : Int32} (A : Arr Z Z.heap a cl ty) (ev : t.eval args Z none [] Z = some (.ref a)) (h : (Cond.eq (.length t) (.int n)).value args Z none Z [] = some true) : cl.slots.size < 2 ^ 31 ∧ cl.slots.size.toInt32 = n := by
  have q := own_eqV h (Term.int_eval n) (Or.inl ⟨_, rfl⟩)
  have harr := Arr.fin (U := Z) (Vm.Alike.refl _) A
  by_cases hl : cl.slots.size < 2 ^ 31
  · rw [len_f ev harr hl] at q
    exact ⟨hl, Value.int.inj (Option.some.inj q)⟩
  · simp [Term.eval, ev, harr, hl] at q
theorem own_elem {j : Int32} (A : Arr Z Z.heap a cl ty) (ev : t.eval args Z none [] Z = some (.ref a)) (h : (Term.elem t (.int j)).eval args Z none [] Z = some v) : cl.slots[j.toNatClampNeg]? = some v := (elem_in h ev (Term.int_eval j) A.1).2
theorem own_fld {C n d : String} (ev : t.eval args Z none [] Z = some (.ref a)) (h : (Term.field t C n d).eval args Z none [] Z = some v) : Fld Z Z.heap a C n d v := Fld.start ((fld_at ev).symm.trans h)
end OwnStart
end Jvm.RoadKit
namespace Jvm.RoadKit
open Sem ClassFile Op Lib Jvm.Stand Jvm.Free Jvm.LawKit
theorem own_and255 (x : Int32) : ¬ (x &&& 255) < 0 ∧ ¬ (255 : Int32) < (x &&& 255) := by
  have t : ∀ k : Fin 256, ¬ (Int32.ofNat k.val) < 0 ∧ ¬ (255 : Int32) < (Int32.ofNat k.val) := by decide +kernel
  have h : (x &&& 255).toBitVec.toNat < 256 := by
    simp only [Int32.toBitVec_and, BitVec.toNat_and]
    exact Nat.lt_succ_of_le Nat.and_le_right
  have e : (x &&& 255) = Int32.ofNat (x &&& 255).toBitVec.toNat := by
    apply Int32.toBitVec_inj.mp
    show _ = BitVec.ofNat 32 _
    rw [BitVec.ofNat_toNat]; simp
  rw [e]
  exact t ⟨_, h⟩
theorem own_byteOf {c : Int32} (h : ¬ c < 0 ∧ ¬ (255 : Int32) < c) : ∃ k : Fin 256, c = Int32.ofNat k.val := by
  obtain ⟨h1, h2⟩ := h
  rw [Int32.lt_iff_toInt_lt] at h1 h2
  have e0 : (0 : Int32).toInt = 0 := rfl
  have e1 : (255 : Int32).toInt = 255 := rfl
  refine ⟨⟨c.toInt.toNat, by omega⟩, ?_⟩
  apply Int32.toInt_inj.mp
  show c.toInt = (Int32.ofNat c.toInt.toNat).toInt
  rw [Int32.toInt_ofNat_of_lt (by omega)]
  omega
theorem own_nar {c : Int32} (h : ¬ c < 0 ∧ ¬ (255 : Int32) < c) : nar .char c = c := by
  have t : ∀ k : Fin 256, nar .char (Int32.ofNat k.val) = Int32.ofNat k.val := by decide +kernel
  obtain ⟨k, rfl⟩ := own_byteOf h
  exact t k
theorem own_i2c {c : Int32} (h : ¬ c < 0 ∧ ¬ (255 : Int32) < c) : c.toUInt32.toUInt16.toUInt32.toInt32 = c := own_nar h
end Jvm.RoadKit
namespace Jvm.RoadKit
open Sem ClassFile Op Lib Jvm.Stand Jvm.Free Jvm.LawKit
theorem own_eqL {Z : State} {args : Array Value} {t u : Term} {x : Int64} {idx : List Nat} (h : (Cond.eq t u).value args Z none Z idx = some true) (hu : u.eval args Z none idx Z = some (.long x)) : t.eval args Z none idx Z = some (.long x) := by
  cases ht : t.eval args Z none idx Z with
  | none => simp [Cond.value, ht] at h
  | some y => cases y <;> simp_all [Cond.value, Value.isRef]
theorem own_cache {s : State} {args : Array Value} {ca : Addr} {cl : Cell} {C n d : String} (A : Arr s s.heap ca cl (.object "java/lang/Long")) (ev : (Term.static C n d).eval args s none [] s = some (.ref ca)) (l1 : cl.slots.size < 2 ^ 31) (l2 : cl.slots.size.toInt32 = 256)
    (h : (Jvm.Cond.all (Term.static C n d) (Jvm.Cond.and (Jvm.Cond.exactly (Jvm.Term.elem (Term.static C n d) (Jvm.Term.index 0)) "java/lang/Long") (Jvm.Cond.eq (Jvm.Term.field (Jvm.Term.elem (Term.static C n d) (Jvm.Term.index 0)) "java/lang/Long" "value" "J") (Jvm.Term.op1 Jvm.Unary.i2l (Jvm.Term.sub (Jvm.Term.index 0) (Jvm.Term.int 128)))))).value args s none s [] = some true) :
    cl.slots.size = 256 ∧ ∀ j : Int32, ¬ j < 0 → j < 256 → ∃ a : Addr, cl.slots[j.toNatClampNeg]? = some (.ref a) ∧ Exa s s.heap a "java/lang/Long" ∧ Fld s s.heap a "java/lang/Long" "value" "J" (.long (j - 128).toInt64) := by
  have e256 : (256 : Int32).toInt = 256 := rfl
  have e0 : (0 : Int32).toInt = 0 := rfl
  have hs : cl.slots.size = 256 := by
    have q := len_toInt l1
    rw [l2, e256] at q
    omega
  refine ⟨hs, fun j hj0 hj1 => ?_⟩
  have harr := Arr.fin (U := s) (Vm.Alike.refl _) A
  have hi : j.toNatClampNeg < cl.slots.size := by
    rw [hs]
    rw [Int32.lt_iff_toInt_lt] at hj0 hj1
    simp only [Int32.toNatClampNeg]
    omega
  have h1 := Cond.all_elim ev harr h _ hi
  obtain ⟨g1, g2⟩ := and_e h1
  obtain ⟨a, ea⟩ := exa_v g1
  have evi : (Term.static C n d).eval args s none [j.toNatClampNeg] s = some (.ref ca) := by
    simpa only [Term.eval] using ev
  have hin := elem_in ea evi (idx_at hj0) A.1
  refine ⟨a, hin.2, exa_at ea g1, ?_⟩
  refine Fld.start ((fld_at ea).symm.trans (own_eqL g2 ?_))
  have hidx : (Term.index 0).eval args s none [j.toNatClampNeg] s = some (.int j) := idx_at hj0
  simp [Term.eval, hidx, Unary.apply]
  rw [(back32 hj0).1]
theorem own_lcmp_self (q : Int64) : (lcmpW q q) = (0 : Int32) := by rw [lcW]; exact (lc_eq q q).mpr rfl
theorem own_inb {cl : Cell} {j : Int32} (hs : cl.slots.size = 256) (h0 : ¬ j < 0) (h1 : j < 256) : ¬ (j < 0 ∨ cl.slots.size ≤ j.toNatClampNeg) := by
  have e256 : (256 : Int32).toInt = 256 := rfl
  have e0 : (0 : Int32).toInt = 0 := rfl
  rw [hs]
  rw [Int32.lt_iff_toInt_lt] at h0 h1 ⊢
  simp only [Int32.toNatClampNeg]
  omega
theorem own_long {q : Int64} (h1 : ¬ (lcmpW q (-128 : Int64)) < 0) (h2 : ¬ ((0 : Int32) < lcmpW q (127 : Int64))) : ¬ (q.toInt32 + 128) < 0 ∧ (q.toInt32 + 128) < 256 ∧ (q.toInt32 + 128 - 128).toInt64 = q := by
  rw [lcW, lc_lt] at h1
  rw [lcW, lc_gt] at h2
  rw [Int64.lt_iff_toInt_lt] at h1 h2
  have a1 : (-128 : Int64).toInt = -128 := rfl
  have a2 : (127 : Int64).toInt = 127 := rfl
  have e256 : (256 : Int32).toInt = 256 := rfl
  have e128 : (128 : Int32).toInt = 128 := rfl
  have e0 : (0 : Int32).toInt = 0 := rfl
  have t : q.toInt32.toInt = q.toInt := by
    rw [Int64.toInt_toInt32]
    exact Int.bmod_eq_of_le (by omega) (by omega)
  have t2 : (q.toInt32 + 128).toInt = q.toInt + 128 := by
    rw [Int32.toInt_add, t, e128]
    exact Int.bmod_eq_of_le (by omega) (by omega)
  refine ⟨?_, ?_, ?_⟩
  · rw [Int32.lt_iff_toInt_lt]; omega
  · rw [Int32.lt_iff_toInt_lt]; omega
  · apply Int64.toInt_inj.mp
    rw [Int32.toInt_toInt64, Int32.toInt_sub, t2, e128]
    rw [Int.bmod_eq_of_le (by omega) (by omega)]
    omega
end Jvm.RoadKit
/- laws to paste: Road.backV (cut by pick.py; bodies as the Statement names them) -/
namespace Jvm.Pilot.@@N@@
namespace StrChars
open Jvm Sem ClassFile Op Lib Jvm.Stand Jvm.Free.XT Jvm.Free.ALB Jvm.Free.JM Jvm.Free
open Jvm.Lib.Cold (StaticIs)
/-- a char array whose places are chars -/
def Ch (a : Addr) (A : Cell) (U : State) : Prop := Arr .char a A U ∧ Typed .char A
theorem Ch.mv {a : Addr} {A : Cell} {U U' : State} (h : Ch a A U) (hal : U.vm.Alike U'.vm) (hh : U'.heap = U.heap) : Ch a A U' := ⟨h.1.mv hal hh, h.2⟩
theorem Ch.keep {a : Addr} {A : Cell} {U U' : State} (h : Ch a A U) (hal : U.vm.Alike U'.vm) (hk : U'.heap[a]? = some A) : Ch a A U' := ⟨h.1.keep hal hk, h.2⟩
/-- what place i of a char[]'s cell holds -/
def cv (A : Cell) (i : Nat) : Int32 := match A.slots[i]? with | some (.int x) => x | _ => 0
theorem Ch.get {a : Addr} {A : Cell} {U : State} (h : Ch a A U) {i : Nat} (hi : i < A.slots.size) : A.slots[i]? = some (.int (cv A i)) := by
  have e := Array.getElem?_eq_getElem hi
  have f := h.2 i _ e
  unfold cv; rw [e]
  generalize A.slots[i] = v at f
  cases v <;> simp [fits] at f ⊢
/-- the byte that i2b leaves of a char -/
def lo8 (x : Int32) : Int32 := x.toInt8.toInt32
theorem fits_lo8 (y : Int32) : fits .byte (.int (lo8 y)) = true := by
  have h1 := y.toInt8.le_toInt
  have h2 := y.toInt8.toInt_lt
  simp only [lo8, fits, Bool.and_eq_true, decide_eq_true_eq, Int32.le_iff_toInt_le, Int8.toInt_toInt32, show (-128 : Int32).toInt = -128 from by decide, show (127 : Int32).toInt = 127 from by decide]
  omega
/-- A' is A but that each place j of lo .. hi - 1 holds f j -/
def Laid (A A' : Cell) (lo hi : Nat) (f : Nat → Value) : Prop := A'.cls = A.cls ∧ A'.vm = A.vm ∧ A'.slots.size = A.slots.size ∧ ∀ i, A'.slots[i]? = if lo ≤ i ∧ i < hi then some (f i) else A.slots[i]?
theorem Laid.zero (A : Cell) (lo : Nat) (f : Nat → Value) : Laid A A lo (lo + 0) f := ⟨rfl, rfl, rfl, fun i => by rw [if_neg (by omega)]⟩
theorem Laid.step {A Ak : Cell} {lo k : Nat} {f : Nat → Value} {v : Value} (h : Laid A Ak lo k f) (hlo : lo ≤ k) (hk : k < Ak.slots.size) (hv : v = f k) : Laid A (Ak.setSlot k v) lo (k + 1) f := by
  refine ⟨h.1, h.2.1, by simpa [Cell.setSlot] using h.2.2.1, fun i => ?_⟩
  by_cases e : k = i
  · subst e; rw [Cell.slots_setSlot_self v hk, if_pos (by omega), hv]
  · rw [Cell.slots_setSlot_ne v e, h.2.2.2 i]
    by_cases q : lo ≤ i ∧ i < k
    · rw [if_pos q, if_pos (by omega)]
    · rw [if_neg q, if_neg (by omega)]
def U16 : String := "java/lang/StringUTF16"
namespace Cmp5
def yN : MethodName := ⟨"java/lang/StringUTF16", "compress", "([CI[BII)I"⟩
abbrev yB : ByteArray := jdk_52_method_21_code
theorem d0 : decode yB 0 = .ok (.iconst 0, 1) := by decide +kernel
theorem d1 : decode yB 1 = .ok (.istore 5, 2) := by decide +kernel
theorem d3 : decode yB 3 = .ok (.iload 5, 2) := by decide +kernel
theorem d5 : decode yB 5 = .ok (.iload 4, 2) := by decide +kernel
theorem d7 : decode yB 7 = .ok (.if_icmp (.ge) 37, 3) := by decide +kernel
theorem d10 : decode yB 10 = .ok (.aload_n 0, 1) := by decide +kernel
theorem d11 : decode yB 11 = .ok (.iload_n 1, 1) := by decide +kernel
theorem d12 : decode yB 12 = .ok (.caload, 1) := by decide +kernel
theorem d13 : decode yB 13 = .ok (.istore 6, 2) := by decide +kernel
theorem d15 : decode yB 15 = .ok (.iload 6, 2) := by decide +kernel
theorem d17 : decode yB 17 = .ok (.sipush 255, 3) := by decide +kernel
theorem d20 : decode yB 20 = .ok (.if_icmp (.le) 6, 3) := by decide +kernel
theorem d26 : decode yB 26 = .ok (.aload_n 2, 1) := by decide +kernel
theorem d27 : decode yB 27 = .ok (.iload_n 3, 1) := by decide +kernel
theorem d28 : decode yB 28 = .ok (.iload 6, 2) := by decide +kernel
theorem d30 : decode yB 30 = .ok (.i2b, 1) := by decide +kernel
theorem d31 : decode yB 31 = .ok (.bastore, 1) := by decide +kernel
theorem d32 : decode yB 32 = .ok (.iinc 1 1, 3) := by decide +kernel
theorem d35 : decode yB 35 = .ok (.iinc 3 1, 3) := by decide +kernel
theorem d38 : decode yB 38 = .ok (.iinc 5 1, 3) := by decide +kernel
theorem d41 : decode yB 41 = .ok (.goto (-38), 3) := by decide +kernel
theorem d44 : decode yB 44 = .ok (.iload 4, 2) := by decide +kernel
theorem d46 : decode yB 46 = .ok (.ireturn, 1) := by decide +kernel
def site : List Cond := []
def tab : Cond := tabOf yN yB 7 (some .int) site
def P (b : Addr) (A : Cell) (d : Addr) (B : Cell) (o q len : Nat) (args : Array Value) (s : State) : Prop := args = #[.ref b, .int (Int32.ofNat o), .ref d, .int (Int32.ofNat q), .int (Int32.ofNat len)] ∧ Ch b A s ∧ Arr .byte d B s ∧ b ≠ d ∧ o + len ≤ A.slots.size ∧ q + len ≤ B.slots.size ∧ ∀ i, i < len → ¬ 255 < cv A (o + i)
def E (b : Addr) (A : Cell) (d : Addr) (B : Cell) (o q len : Nat) (r : Option Value) (s u : State) : Prop := r = some (.int (Int32.ofNat len)) ∧ ∃ B', Put d B' s u ∧ Laid B B' q (q + len) (fun j => Value.int (lo8 (cv A (o + (j - q)))))
/-- no char of the range above 255: len; the places written hold each char's low byte -/
theorem law (l : Launch) (b : Addr) (A : Cell) (d : Addr) (B : Cell) (o q len : Nat) : Law l yN 5 5 0 0 yB 7 (some .int) site (P b A d B o q len) (E b A d B o q len) (copyLocs d q len) 0 0 := by
  refine Law.of_walk (plainFor_of_name (by decide +kernel)) (by decide +kernel) (by decide +kernel) (by decide) (fun _ _ h => by rw [h.1]; rfl) (fun _ U U' hal hh h => ⟨h.1, h.2.1.mv hal hh, h.2.2.1.mv hal hh, h.2.2.2⟩) (fun r U U' V V' h1 hal h2 h => ⟨h.1, h.2.elim fun B' q => ⟨B', q.1.mv h1 h2, q.2⟩⟩) ?_
  intro p e s m args below meth c s₁ X0 hexec hbytes hml hret hlk hnm hown hh0 W hP
  obtain ⟨rfl, hA, hB, hne, l1, l2, hp⟩ := hP
  have c1 : Steps p.tables e below (s₁.setTop (entryFrame m #[.ref b, .int (Int32.ofNat o), .ref d, .int (Int32.ofNat q), .int (Int32.ofNat len)] 7)) (s₁.setTop (mkF m 0 #[.val (.ref b), .val (.int (Int32.ofNat o)), .val (.ref d), .val (.int (Int32.ofNat q)), .val (.int (Int32.ofNat len)), .unset, .unset] [])) := entry rfl
  have hA0 := hA.1.mv X0.warmed.alike hh0
  have hB0 := hB.mv X0.warmed.alike hh0
  have a31 := hA.1.2.2.2
  have c2 : Steps p.tables e below (s₁.setTop (entryFrame m #[.ref b, .int (Int32.ofNat o), .ref d, .int (Int32.ofNat q), .int (Int32.ofNat len)] 7)) (s₁.setTop (mkF m 3 #[.val (.ref b), .val (.int (Int32.ofNat o)), .val (.ref d), .val (.int (Int32.ofNat q)), .val (.int (Int32.ofNat len)), .val (.int 0), .unset] [])) := c1.trans (by
    refine iconstV X0.here hexec rfl 0 (hb hbytes d0) (by decide) ?_
    refine XS.istore X0.here hexec rfl (hb hbytes d1) rfl rfl ?_
    exact Steps.refl _)
  have loop : ∀ (r i : Nat), i + r = len → ∀ (z : Slot), (z = .unset ∨ ∃ w, z = .val w ∧ w.category = 1) → ∀ (Tl : State) (Bk : Cell), Stand p l e { frames := 0, locals := 0, cells := 0, slots := 0 } s m #[.ref b, .int (Int32.ofNat o), .ref d, .int (Int32.ofNat q), .int (Int32.ofNat len)] below meth c Tl ([] ++ copyLocs d q i) 0 0 → Put d Bk s₁ Tl → Laid B Bk q (q + i) (fun j => Value.int (lo8 (cv A (o + (j - q))))) →
      Steps p.tables e below (s₁.setTop (entryFrame m #[.ref b, .int (Int32.ofNat o), .ref d, .int (Int32.ofNat q), .int (Int32.ofNat len)] 7)) (Tl.setTop (mkF m 3 #[.val (.ref b), .val (.int (Int32.ofNat (o + i))), .val (.ref d), .val (.int (Int32.ofNat (q + i))), .val (.int (Int32.ofNat len)), .val (.int (Int32.ofNat i)), z] [])) → ∃ (T' : State) (B' : Cell) (z' : Slot), Stand p l e { frames := 0, locals := 0, cells := 0, slots := 0 } s m #[.ref b, .int (Int32.ofNat o), .ref d, .int (Int32.ofNat q), .int (Int32.ofNat len)] below meth c T' ([] ++ copyLocs d q len) 0 0 ∧ Put d B' s₁ T' ∧ Laid B B' q (q + len) (fun j => Value.int (lo8 (cv A (o + (j - q))))) ∧
      Steps p.tables e below (s₁.setTop (entryFrame m #[.ref b, .int (Int32.ofNat o), .ref d, .int (Int32.ofNat q), .int (Int32.ofNat len)] 7)) (T'.setTop (mkF m 3 #[.val (.ref b), .val (.int (Int32.ofNat (o + len))), .val (.ref d), .val (.int (Int32.ofNat (q + len))), .val (.int (Int32.ofNat len)), .val (.int (Int32.ofNat len)), z'] [])) := by
    intro r
    induction r with
    | zero =>
      intro i hi z hz Tl Bk Xl pl fl cl
      have hil : i = len := by omega
      rw [hil] at Xl fl cl
      exact ⟨Tl, Bk, z, Xl, pl, fl, cl⟩
    | succ r ih =>
      intro i hi z hz Tl Bk Xl pl fl cl
      have all := X0.warmed.alike.symm.trans Xl.warmed.alike
      have hAl := hA0.keep all (pl.other hne hA0.1)
      have hBk := hB0.like all pl.1 fl.1 fl.2.1 fl.2.2.1
      have hlt : q + i < Bk.slots.size := by rw [fl.2.2.1]; omega
      have c3 : Steps p.tables e below (s₁.setTop (entryFrame m #[.ref b, .int (Int32.ofNat o), .ref d, .int (Int32.ofNat q), .int (Int32.ofNat len)] 7)) (Tl.setTop (mkF m 12 #[.val (.ref b), .val (.int (Int32.ofNat (o + i))), .val (.ref d), .val (.int (Int32.ofNat (q + i))), .val (.int (Int32.ofNat len)), .val (.int (Int32.ofNat i)), z] [.int (Int32.ofNat (o + i)), .ref b])) := cl.trans (by
        refine XS.iload Xl.here hexec rfl (hb hbytes d3) rfl ?_
        refine XS.iload Xl.here hexec rfl (hb hbytes d5) rfl ?_
        refine XS.icmpNo Xl.here hexec rfl (hb hbytes d7) rfl (ii_ge_f (lt32 (by omega) (by omega))) ?_
        refine XS.aloadN Xl.here hexec rfl (hb hbytes d10) rfl rfl ?_
        refine XS.iloadN Xl.here hexec rfl (hb hbytes d11) rfl ?_
        exact Steps.refl _)
      have c4 : Steps p.tables e below (s₁.setTop (entryFrame m #[.ref b, .int (Int32.ofNat o), .ref d, .int (Int32.ofNat q), .int (Int32.ofNat len)] 7)) (Tl.setTop (mkF m 13 #[.val (.ref b), .val (.int (Int32.ofNat (o + i))), .val (.ref d), .val (.int (Int32.ofNat (q + i))), .val (.int (Int32.ofNat len)), .val (.int (Int32.ofNat i)), z] [.int (cv A (o + i))])) := c3.trans (by
        refine Xl.aget hexec hAl rfl (hA.get (i := o + i) (by omega)) rfl rfl (hb hbytes d12) ?_
        exact Steps.refl _)
      have c5 : Steps p.tables e below (s₁.setTop (entryFrame m #[.ref b, .int (Int32.ofNat o), .ref d, .int (Int32.ofNat q), .int (Int32.ofNat len)] 7)) (Tl.setTop (mkF m 15 #[.val (.ref b), .val (.int (Int32.ofNat (o + i))), .val (.ref d), .val (.int (Int32.ofNat (q + i))), .val (.int (Int32.ofNat len)), .val (.int (Int32.ofNat i)), .val (.int (cv A (o + i)))] [])) := c4.trans (by
        refine XS.istoreS Xl.here hexec rfl (hb hbytes d13) rfl rfl hz ?_
        exact Steps.refl _)
      have c6 : Steps p.tables e below (s₁.setTop (entryFrame m #[.ref b, .int (Int32.ofNat o), .ref d, .int (Int32.ofNat q), .int (Int32.ofNat len)] 7)) (Tl.setTop (mkF m 31 #[.val (.ref b), .val (.int (Int32.ofNat (o + i))), .val (.ref d), .val (.int (Int32.ofNat (q + i))), .val (.int (Int32.ofNat len)), .val (.int (Int32.ofNat i)), .val (.int (cv A (o + i)))] [.int (lo8 (cv A (o + i))), .int (Int32.ofNat (q + i)), .ref d])) := c5.trans (by
        refine XS.iload Xl.here hexec rfl (hb hbytes d15) rfl ?_
        refine sipushV Xl.here hexec rfl 255 (hb hbytes d17) (by decide) ?_
        refine XS.icmpYes Xl.here hexec rfl (pc0 := 20) rfl (hb hbytes d20) rfl (ii_le_t (hp i (by omega))) (by decide) rfl ?_
        refine XS.aloadN Xl.here hexec rfl (hb hbytes d26) rfl rfl ?_
        refine XS.iloadN Xl.here hexec rfl (hb hbytes d27) rfl ?_
        refine XS.iload Xl.here hexec rfl (hb hbytes d28) rfl ?_
        refine i2b Xl.here hexec rfl (hb hbytes d30) rfl ?_
        exact Steps.refl _)
      obtain ⟨T7, X7, p7, st7⟩ := Xl.aput hexec hBk rfl hlt rfl (fits_lo8 (cv A (o + i))) (g := (mkF m 31 #[.val (.ref b), .val (.int (Int32.ofNat (o + i))), .val (.ref d), .val (.int (Int32.ofNat (q + i))), .val (.int (Int32.ofNat len)), .val (.int (Int32.ofNat i)), .val (.int (cv A (o + i)))] [.int (lo8 (cv A (o + i))), .int (Int32.ofNat (q + i)), .ref d])) rfl (rest := []) rfl (hb hbytes d31)
      have c8 : Steps p.tables e below (s₁.setTop (entryFrame m #[.ref b, .int (Int32.ofNat o), .ref d, .int (Int32.ofNat q), .int (Int32.ofNat len)] 7)) (T7.setTop (mkF m 32 #[.val (.ref b), .val (.int (Int32.ofNat (o + i))), .val (.ref d), .val (.int (Int32.ofNat (q + i))), .val (.int (Int32.ofNat len)), .val (.int (Int32.ofNat i)), .val (.int (cv A (o + i)))] [])) := c6.trans (st7 _ (Steps.refl _))
      have c9 : Steps p.tables e below (s₁.setTop (entryFrame m #[.ref b, .int (Int32.ofNat o), .ref d, .int (Int32.ofNat q), .int (Int32.ofNat len)] 7)) (T7.setTop (mkF m 3 #[.val (.ref b), .val (.int (Int32.ofNat (o + i) + 1)), .val (.ref d), .val (.int (Int32.ofNat (q + i) + 1)), .val (.int (Int32.ofNat len)), .val (.int (Int32.ofNat i + 1)), .val (.int (cv A (o + i)))] [])) := c8.trans (by
        refine iincV X7.here hexec rfl 1 (hb hbytes d32) (by decide) rfl rfl ?_
        refine iincV X7.here hexec rfl 1 (hb hbytes d35) (by decide) rfl rfl ?_
        refine iincV X7.here hexec rfl 1 (hb hbytes d38) (by decide) rfl rfl ?_
        refine XS.goto X7.here hexec rfl (pc0 := 41) rfl (hb hbytes d41) (by decide) rfl ?_
        exact Steps.refl _)
      have c10 : Steps p.tables e below (s₁.setTop (entryFrame m #[.ref b, .int (Int32.ofNat o), .ref d, .int (Int32.ofNat q), .int (Int32.ofNat len)] 7)) (T7.setTop (mkF m 3 #[.val (.ref b), .val (.int (Int32.ofNat (o + (i + 1)))), .val (.ref d), .val (.int (Int32.ofNat (q + (i + 1)))), .val (.int (Int32.ofNat len)), .val (.int (Int32.ofNat (i + 1))), .val (.int (cv A (o + i)))] [])) := by
        have := c9
        rw [succ32, succ32, succ32] at this
        exact this
      exact ih (i + 1) (by omega) _ (Or.inr ⟨_, rfl, rfl⟩) T7 _ (by rw [copyLocs_step, ← List.append_assoc]; exact X7) (pl.trans p7) (fl.step (by omega) hlt (by simp)) c10
  obtain ⟨T9, B9, z9, X9, p9, f9, g9⟩ := loop len 0 (by omega) .unset (Or.inl rfl) s₁ B (by simpa [copyLocs] using X0) ⟨hB0.1, fun _ _ => rfl, rfl⟩ (Laid.zero _ _ _) c2
  have c11 : Steps p.tables e below (s₁.setTop (entryFrame m #[.ref b, .int (Int32.ofNat o), .ref d, .int (Int32.ofNat q), .int (Int32.ofNat len)] 7)) (T9.setTop (mkF m 46 #[.val (.ref b), .val (.int (Int32.ofNat (o + len))), .val (.ref d), .val (.int (Int32.ofNat (q + len))), .val (.int (Int32.ofNat len)), .val (.int (Int32.ofNat len)), z9] [.int (Int32.ofNat len)])) := g9.trans (by
    refine XS.iload X9.here hexec rfl (hb hbytes d3) rfl ?_
    refine XS.iload X9.here hexec rfl (hb hbytes d5) rfl ?_
    refine XS.icmpYes X9.here hexec rfl (pc0 := 7) rfl (hb hbytes d7) rfl (ii_ge_t (nlt32 (by omega) (Nat.le_refl _))) (by decide) rfl ?_
    refine XS.iload X9.here hexec rfl (hb hbytes d44) rfl ?_
    exact Steps.refl _)
  exact ⟨T9, some (.int (Int32.ofNat len)), _, _, _, X9, by simp, rfl, rfl, (fun h => by cases h), ⟨rfl, B9, p9.from hh0, f9⟩, fun fs hl => c11.trans (X9.ireturnOut hexec hret rfl (Or.inl rfl) (hb hbytes d46) hl)⟩
end Cmp5
namespace Cmp3
def yN : MethodName := ⟨"java/lang/StringUTF16", "compress", "([CII)[B"⟩
abbrev yB : ByteArray := jdk_52_method_16_code
theorem d0 : decode yB 0 = .ok (.iload_n 2, 1) := by decide +kernel
theorem d1 : decode yB 1 = .ok (.newarray .byte, 2) := by decide +kernel
theorem d3 : decode yB 3 = .ok (.astore_n 3, 1) := by decide +kernel
theorem d4 : decode yB 4 = .ok (.aload_n 0, 1) := by decide +kernel
theorem d5 : decode yB 5 = .ok (.iload_n 1, 1) := by decide +kernel
theorem d6 : decode yB 6 = .ok (.aload_n 3, 1) := by decide +kernel
theorem d7 : decode yB 7 = .ok (.iconst 0, 1) := by decide +kernel
theorem d8 : decode yB 8 = .ok (.iload_n 2, 1) := by decide +kernel
theorem d9 : decode yB 9 = .ok (.invokestatic 115, 3) := by decide +kernel
theorem d12 : decode yB 12 = .ok (.istore 4, 2) := by decide +kernel
theorem d14 : decode yB 14 = .ok (.iload 4, 2) := by decide +kernel
theorem d16 : decode yB 16 = .ok (.iload_n 2, 1) := by decide +kernel
theorem d17 : decode yB 17 = .ok (.if_icmp (.eq) 40, 3) := by decide +kernel
theorem d57 : decode yB 57 = .ok (.aload_n 3, 1) := by decide +kernel
theorem d58 : decode yB 58 = .ok (.areturn, 1) := by decide +kernel
def site : List Cond := [.arrayClass .byte, Cmp5.tab] ++ staticW U16 115 Cmp5.yN
def tab : Cond := tabOf yN yB 6 (some (.array .byte)) site
def P (b : Addr) (A : Cell) (o len : Nat) (args : Array Value) (s : State) : Prop := args = #[.ref b, .int (Int32.ofNat o), .int (Int32.ofNat len)] ∧ Ch b A s ∧ o + len ≤ A.slots.size ∧ len ≤ 536870912 ∧ ∀ i, i < len → ¬ 255 < cv A (o + i)
def E (b : Addr) (A : Cell) (o len : Nat) (r : Option Value) (s u : State) : Prop := NewArr .byte "[B" len (fun j => .int (lo8 (cv A (o + j)))) r s u ∧ u.heap.size = s.heap.size + 1
/-- no char of the range above 255: a new byte[] of their low bytes -/
theorem law (l : Launch) (b : Addr) (A : Cell) (o len : Nat) : Law l yN 3 3 1 18 yB 6 (some (.array .byte)) site (P b A o len) (E b A o len) [] 1 len := by
  refine Law.of_walk (plainFor_of_name (by decide +kernel)) (by decide +kernel) (by decide +kernel) (by decide) (fun _ _ h => by rw [h.1]; rfl) (fun _ U U' hal hh h => ⟨h.1, h.2.1.mv hal hh, h.2.2⟩) (fun r U U' V V' h1 hal h2 h => ⟨NewArr.mv r U U' V V' h1 hal h2 h.1, by rw [h1, h2]; exact h.2⟩) ?_
  intro p e s m args below meth c s₁ X0 hexec hbytes hml hret hlk hnm hown hh0 W hP
  obtain ⟨rfl, hA, l1, l2, hp⟩ := hP
  have a31 := hA.1.2.2.2
  have c1 : Steps p.tables e below (s₁.setTop (entryFrame m #[.ref b, .int (Int32.ofNat o), .int (Int32.ofNat len)] 6)) (s₁.setTop (mkF m 0 #[.val (.ref b), .val (.int (Int32.ofNat o)), .val (.int (Int32.ofNat len)), .unset, .unset, .unset] [])) := entry rfl
  have c2 : Steps p.tables e below (s₁.setTop (entryFrame m #[.ref b, .int (Int32.ofNat o), .int (Int32.ofNat len)] 6)) (s₁.setTop (mkF m 1 #[.val (.ref b), .val (.int (Int32.ofNat o)), .val (.int (Int32.ofNat len)), .unset, .unset, .unset] [.int (Int32.ofNat len)])) := c1.trans (by
    refine XS.iloadN X0.here hexec rfl (hb hbytes d0) rfl ?_
    exact Steps.refl _)
  obtain ⟨T3, B3, X3, ba3, bs3, bv3, bh3, bf3, st3⟩ := X0.anew hexec (atype := .byte) (wk W (.arrayClass .byte)) rfl (by show len * 1 ≤ _; omega) (by omega) (g := (mkF m 1 #[.val (.ref b), .val (.int (Int32.ofNat o)), .val (.int (Int32.ofNat len)), .unset, .unset, .unset] [.int (Int32.ofNat len)])) rfl (hb hbytes d1) (rest := []) rfl (Nat.le_refl _) (by show 0 + len ≤ len; omega)
  rw [hh0] at ba3 st3
  have kp3 : XT.Kept s T3 := (XT.Kept.of_eq hh0).push bh3
  have hA3 := hA.keep X3.warmed.alike (kp3 _ _ hA.1.1)
  have hne : b ≠ s.heap.size := hA.1.ne
  have c4 : Steps p.tables e below (s₁.setTop (entryFrame m #[.ref b, .int (Int32.ofNat o), .int (Int32.ofNat len)] 6)) (T3.setTop (mkF m 3 #[.val (.ref b), .val (.int (Int32.ofNat o)), .val (.int (Int32.ofNat len)), .unset, .unset, .unset] [.ref s.heap.size])) := c2.trans (st3 _ (Steps.refl _))
  have c5 : Steps p.tables e below (s₁.setTop (entryFrame m #[.ref b, .int (Int32.ofNat o), .int (Int32.ofNat len)] 6)) (T3.setTop (mkF m 9 #[.val (.ref b), .val (.int (Int32.ofNat o)), .val (.int (Int32.ofNat len)), .val (.ref s.heap.size), .unset, .unset] [.int (Int32.ofNat len), .int 0, .ref s.heap.size, .int (Int32.ofNat o), .ref b])) := c4.trans (by
    refine XS.astoreN X3.here hexec rfl (hb hbytes d3) rfl rfl rfl ?_
    refine XS.aloadN X3.here hexec rfl (hb hbytes d4) rfl rfl ?_
    refine XS.iloadN X3.here hexec rfl (hb hbytes d5) rfl ?_
    refine XS.aloadN X3.here hexec rfl (hb hbytes d6) rfl rfl ?_
    refine iconstV X3.here hexec rfl 0 (hb hbytes d7) (by decide) ?_
    refine XS.iloadN X3.here hexec rfl (hb hbytes d8) rfl ?_
    exact Steps.refl _)
  obtain ⟨v6, T6, X6, E6, g6⟩ := X3.callS hexec (Cmp5.law l b A s.heap.size B3 o 0 len) hown (wks W (staticW U16 115 Cmp5.yN)) (wk W Cmp5.tab) (W := 0) (Nat.le_of_ble_eq_true rfl) (Nat.le_of_ble_eq_true rfl) (Nat.le_refl _) (by show 0 + len + 0 ≤ len; omega) (g := (mkF m 9 #[.val (.ref b), .val (.int (Int32.ofNat o)), .val (.int (Int32.ofNat len)), .val (.ref s.heap.size), .unset, .unset] [.int (Int32.ofNat len), .int (Int32.ofNat 0), .ref s.heap.size, .int (Int32.ofNat o), .ref b])) rfl (by rw [hml]; rfl) c5 (argsL := [.ref b, .int (Int32.ofNat o), .ref s.heap.size, .int (Int32.ofNat 0), .int (Int32.ofNat len)]) (rest := []) rfl rfl (by show 2 * 0 + 0 ≤ _; decide) (hb hbytes d9) (⟨rfl, hA3, ba3, hne, l1, by rw [bs3]; simp, hp⟩)
  obtain ⟨rfl, B6, p6, f6⟩ := E6
  have c7 : Steps p.tables e below (s₁.setTop (entryFrame m #[.ref b, .int (Int32.ofNat o), .int (Int32.ofNat len)] 6)) (T6.setTop (mkF m 12 #[.val (.ref b), .val (.int (Int32.ofNat o)), .val (.int (Int32.ofNat len)), .val (.ref s.heap.size), .unset, .unset] [.int (Int32.ofNat len)])) := g6
  have c8 : Steps p.tables e below (s₁.setTop (entryFrame m #[.ref b, .int (Int32.ofNat o), .int (Int32.ofNat len)] 6)) (T6.setTop (mkF m 58 #[.val (.ref b), .val (.int (Int32.ofNat o)), .val (.int (Int32.ofNat len)), .val (.ref s.heap.size), .val (.int (Int32.ofNat len)), .unset] [.ref s.heap.size])) := c7.trans (by
    refine XS.istore X6.here hexec rfl (hb hbytes d12) rfl rfl ?_
    refine XS.iload X6.here hexec rfl (hb hbytes d14) rfl ?_
    refine XS.iloadN X6.here hexec rfl (hb hbytes d16) rfl ?_
    refine XS.icmpYes X6.here hexec rfl (pc0 := 17) rfl (hb hbytes d17) rfl (ii_eq_t rfl) (by decide) rfl ?_
    refine XS.aloadN X6.here hexec rfl (hb hbytes d57) rfl rfl ?_
    exact Steps.refl _)
  have X8 := X6.wide (L' := []) (cells' := 1) (slots' := len) (fun x hx hlt => by
    simp only [List.nil_append, copyLocs, List.mem_map, List.mem_range] at hx
    obtain ⟨i, -, rfl⟩ := hx
    exact absurd hlt (Nat.lt_irrefl _)) (Nat.le_refl _) (by omega)
  exact ⟨T6, some (.ref s.heap.size), _, _, _, X8, rfl, rfl, rfl, (fun h => by cases h), ⟨⟨rfl, B6, ba3.like (X3.warmed.alike.symm.trans X6.warmed.alike) p6.1 f6.1 f6.2.1 f6.2.2.1, f6.2.1.trans bv3, by rw [X6.warmed.alike.findClass, f6.1]; exact bf3, by rw [f6.2.2.1, bs3]; simp, fun j hj => by rw [f6.2.2.2 j, if_pos (by omega)]; rfl, kp3.put p6 (Nat.le_refl _)⟩, by rw [p6.2.2, bh3, hh0]; simp⟩, fun fs hl => c8.trans (X8.areturnOut hexec rfl hret rfl (hb hbytes d58) hl)⟩
end Cmp3
namespace CodL
def yN : MethodName := ⟨"java/lang/StringUTF16", "coderFromArrayLen", "([BI)B"⟩
abbrev yB : ByteArray := jdk_52_method_15_code
theorem d0 : decode yB 0 = .ok (.iload_n 1, 1) := by decide +kernel
theorem d1 : decode yB 1 = .ok (.aload_n 0, 1) := by decide +kernel
theorem d2 : decode yB 2 = .ok (.arraylength, 1) := by decide +kernel
theorem d3 : decode yB 3 = .ok (.isub, 1) := by decide +kernel
theorem d4 : decode yB 4 = .ok (.bipush 31, 2) := by decide +kernel
theorem d6 : decode yB 6 = .ok (.iushr, 1) := by decide +kernel
theorem d7 : decode yB 7 = .ok (.i2b, 1) := by decide +kernel
theorem d8 : decode yB 8 = .ok (.ireturn, 1) := by decide +kernel
def site : List Cond := []
def tab : Cond := tabOf yN yB 2 (some .byte) site
def P (d : Addr) (B : Cell) (args : Array Value) (s : State) : Prop := args = #[.ref d, .int (Int32.ofNat B.slots.size)] ∧ Arr .byte d B s
def E (r : Option Value) (s u : State) : Prop := XT.PureE (some (.int 0)) r s u
/-- an array as long as the number of chars: LATIN1 -/
theorem law (l : Launch) (d : Addr) (B : Cell) : Law l yN 2 2 0 0 yB 2 (some .byte) site (P d B) E [] 0 0 := by
  refine Law.of_walk (plainFor_of_name (by decide +kernel)) (by decide +kernel) (by decide +kernel) (by decide) (fun _ _ h => by rw [h.1]; rfl) (fun _ U U' hal hh h => ⟨h.1, h.2.mv hal hh⟩) (fun r U U' V V' h1 hal h2 h => XT.PureE.mv r U U' V V' h1 hal h2 h) ?_
  intro p e s m args below meth c s₁ X0 hexec hbytes hml hret hlk hnm hown hh0 W hP
  obtain ⟨rfl, hB⟩ := hP
  have hB0 := hB.mv X0.warmed.alike hh0
  have c1 : Steps p.tables e below (s₁.setTop (entryFrame m #[.ref d, .int (Int32.ofNat B.slots.size)] 2)) (s₁.setTop (mkF m 0 #[.val (.ref d), .val (.int (Int32.ofNat B.slots.size))] [])) := entry rfl
  have c2 : Steps p.tables e below (s₁.setTop (entryFrame m #[.ref d, .int (Int32.ofNat B.slots.size)] 2)) (s₁.setTop (mkF m 2 #[.val (.ref d), .val (.int (Int32.ofNat B.slots.size))] [.ref d, .int (Int32.ofNat B.slots.size)])) := c1.trans (by
    refine XS.iloadN X0.here hexec rfl (hb hbytes d0) rfl ?_
    refine XS.aloadN X0.here hexec rfl (hb hbytes d1) rfl rfl ?_
    exact Steps.refl _)
  have c3 : Steps p.tables e below (s₁.setTop (entryFrame m #[.ref d, .int (Int32.ofNat B.slots.size)] 2)) (s₁.setTop (mkF m 8 #[.val (.ref d), .val (.int (Int32.ofNat B.slots.size))] [.int (lo8 (ushr (Int32.ofNat B.slots.size - Int32.ofNat B.slots.size) 31))])) := c2.trans (by
    refine X0.alen hexec hB0 rfl rfl (hb hbytes d2) ?_
    refine XS.isub X0.here hexec rfl (hb hbytes d3) rfl ?_
    refine bipushV X0.here hexec rfl 31 (hb hbytes d4) (by decide) ?_
    refine iushr X0.here hexec rfl (hb hbytes d6) rfl ?_
    refine i2b X0.here hexec rfl (hb hbytes d7) rfl ?_
    exact Steps.refl _)
  have e0 : lo8 (ushr (Int32.ofNat B.slots.size - Int32.ofNat B.slots.size) 31) = 0 := by rw [Int32.sub_self]; decide
  rw [e0] at c3
  exact ⟨s₁, some (.int 0), _, _, _, X0, rfl, rfl, rfl, (fun h => by cases h), ⟨rfl, hh0⟩, fun fs hl => c3.trans (X0.ireturnOut hexec hret rfl (Or.inr (Or.inr (Or.inl rfl))) (hb hbytes d8) hl)⟩
end CodL
/-- the String at a is Latin-1 over a new byte[] (the heap's one new cell): the low bytes of the len chars of A from o on; every cell but a is kept -/
def Got (a : Addr) (D : Cell) (fV fC : Field) (A : Cell) (o len : Nat) (r : Option Value) (s u : State) : Prop := r = none ∧ ∃ D' V : Cell, Blank "java/lang/String" a D' u ∧ Same D D' [fV.slot, fC.slot] ∧ D'.slots[fV.slot]? = some (.ref s.heap.size) ∧ D'.slots[fC.slot]? = some (.int 0) ∧ Arr .byte s.heap.size V u ∧ V.vm = .none ∧ u.vm.findClass "[B" = some V.cls ∧ V.slots.size = len ∧ (∀ j, j < len → V.slots[j]? = some (.int (lo8 (cv A (o + j))))) ∧ (∀ (y : Addr) (c : Cell), y ≠ a → s.heap[y]? = some c → u.heap[y]? = some c) ∧ u.heap.size = s.heap.size + 1
theorem Got.mv {a : Addr} {D A : Cell} {fV fC : Field} {o len : Nat} : ∀ r (U U' V V' : State), U'.heap = U.heap → V.vm.Alike V'.vm → V'.heap = V.heap → Got a D fV fC A o len r U V → Got a D fV fC A o len r U' V' :=
  fun r U U' V V' h1 hal h2 ⟨e0, D', X, a1, a2, a3, a4, a5, a6, a7, a8, a9, a10, a11⟩ => ⟨e0, D', X, a1.mv hal h2, a2, by rw [h1]; exact a3, a4, by rw [h1]; exact a5.mv hal h2, a6, by rw [hal.findClass]; exact a7, a8, a9, by rw [h1, h2]; exact a10, by rw [h1, h2]; exact a11⟩
namespace New4
def yN : MethodName := ⟨"java/lang/String", "<init>", "([CIILjava/lang/Void;)V"⟩
abbrev yB : ByteArray := jdk_42_method_149_code
theorem d0 : decode yB 0 = .ok (.aload_n 0, 1) := by decide +kernel
theorem d1 : decode yB 1 = .ok (.invokespecial 1, 3) := by decide +kernel
theorem d4 : decode yB 4 = .ok (.iload_n 3, 1) := by decide +kernel
theorem d5 : decode yB 5 = .ok (.ifCond (.ne) 22, 3) := by decide +kernel
theorem d27 : decode yB 27 = .ok (.getstatic 38, 3) := by decide +kernel
theorem d30 : decode yB 30 = .ok (.ifCond (.eq) 28, 3) := by decide +kernel
theorem d33 : decode yB 33 = .ok (.aload_n 1, 1) := by decide +kernel
theorem d34 : decode yB 34 = .ok (.iload_n 2, 1) := by decide +kernel
theorem d35 : decode yB 35 = .ok (.iload_n 3, 1) := by decide +kernel
theorem d36 : decode yB 36 = .ok (.invokestatic 177, 3) := by decide +kernel
theorem d39 : decode yB 39 = .ok (.astore 5, 2) := by decide +kernel
theorem d41 : decode yB 41 = .ok (.aload_n 0, 1) := by decide +kernel
theorem d42 : decode yB 42 = .ok (.aload 5, 2) := by decide +kernel
theorem d44 : decode yB 44 = .ok (.iload_n 3, 1) := by decide +kernel
theorem d45 : decode yB 45 = .ok (.invokestatic 47, 3) := by decide +kernel
theorem d48 : decode yB 48 = .ok (.putfield 15, 3) := by decide +kernel
theorem d51 : decode yB 51 = .ok (.aload_n 0, 1) := by decide +kernel
theorem d52 : decode yB 52 = .ok (.aload 5, 2) := by decide +kernel
theorem d54 : decode yB 54 = .ok (.putfield 9, 3) := by decide +kernel
theorem d57 : decode yB 57 = .ok (.return_, 1) := by decide +kernel
def site : List Cond := [.fieldLink "java/lang/String" 38 "java/lang/String" "COMPACT_STRINGS" "Z", Cmp3.tab, CodL.tab, .laysFinal "java/lang/String" "java/lang/String" "value" "[B", .fieldLink "java/lang/String" 9 "java/lang/String" "value" "[B", .laysFinal "java/lang/String" "java/lang/String" "coder" "B", .fieldLink "java/lang/String" 15 "java/lang/String" "coder" "B"] ++ objW "java/lang/String" 1 ++ staticW "java/lang/String" 177 Cmp3.yN ++ staticW "java/lang/String" 47 CodL.yN
def tab : Cond := tabOf yN yB 6 none site
def P (a : Addr) (D : Cell) (fV fC : Field) (b : Addr) (A : Cell) (z : Int32) (o len : Nat) (args : Array Value) (s : State) : Prop := args = #[.ref a, .ref b, .int (Int32.ofNat o), .int (Int32.ofNat len), .null] ∧ Blank "java/lang/String" a D s ∧ Found "java/lang/String" "value" "[B" fV s ∧ Found "java/lang/String" "coder" "B" fC s ∧ Ch b A s ∧ StaticIs s "java/lang/String" "COMPACT_STRINGS" "Z" (.int z) ∧ ¬ z = 0 ∧ 0 < len ∧ o + len ≤ A.slots.size ∧ len ≤ 536870912 ∧ ∀ i, i < len → ¬ 255 < cv A (o + i)
def E (a : Addr) (D : Cell) (fV fC : Field) (A : Cell) (o len : Nat) (r : Option Value) (s u : State) : Prop := Got a D fV fC A o len r s u
/-- len > 0, no char of the range above 255: a Latin-1 String of their low bytes -/
theorem law (l : Launch) (a : Addr) (D : Cell) (fV fC : Field) (b : Addr) (A : Cell) (z : Int32) (o len : Nat) : Law l yN 5 4 2 35 yB 6 none site (P a D fV fC b A z o len) (E a D fV fC A o len) [⟨a, fC.slot⟩, ⟨a, fV.slot⟩] 1 len := by
  refine Law.of_walk (plainFor_of_name (by decide +kernel)) (by decide +kernel) (by decide +kernel) (by decide) (fun _ _ h => by rw [h.1]; rfl) (fun _ U U' hal hh h => ⟨h.1, h.2.1.mv hal hh, h.2.2.1.al hal, h.2.2.2.1.al hal, h.2.2.2.2.1.mv hal hh, h.2.2.2.2.2.1.there hal hh, h.2.2.2.2.2.2⟩) (fun r U U' V V' h1 hal h2 h => Got.mv r U U' V V' h1 hal h2 h) ?_
  intro p e s m args below meth c s₁ X0 hexec hbytes hml hret hlk hnm hown hh0 W hP
  obtain ⟨rfl, hB, f1, f2, hA, s1, hz, l0, l1, l2, hp⟩ := hP
  have a31 := hA.1.2.2.2
  have c1 : Steps p.tables e below (s₁.setTop (entryFrame m #[.ref a, .ref b, .int (Int32.ofNat o), .int (Int32.ofNat len), .null] 6)) (s₁.setTop (mkF m 0 #[.val (.ref a), .val (.ref b), .val (.int (Int32.ofNat o)), .val (.int (Int32.ofNat len)), .val .null, .unset] [])) := entry rfl
  have c2 : Steps p.tables e below (s₁.setTop (entryFrame m #[.ref a, .ref b, .int (Int32.ofNat o), .int (Int32.ofNat len), .null] 6)) (s₁.setTop (mkF m 1 #[.val (.ref a), .val (.ref b), .val (.int (Int32.ofNat o)), .val (.int (Int32.ofNat len)), .val .null, .unset] [.ref a])) := c1.trans (by
    refine XS.aloadN X0.here hexec rfl (hb hbytes d0) rfl rfl ?_
    exact Steps.refl _)
  obtain ⟨T3, X3, q3, st3⟩ := X0.oinit hexec hown (wks W (objW "java/lang/String" 1)) (g := (mkF m 1 #[.val (.ref a), .val (.ref b), .val (.int (Int32.ofNat o)), .val (.int (Int32.ofNat len)), .val .null, .unset] [.ref a])) rfl (by rw [hml]; rfl) (rest := []) rfl (hb hbytes d1) (W := 0) (by show 2 * 0 + 0 ≤ _; decide) (Nat.le_of_ble_eq_true rfl) (Nat.le_of_ble_eq_true rfl)
  have hh3 := q3.trans hh0
  have c4 : Steps p.tables e below (s₁.setTop (entryFrame m #[.ref a, .ref b, .int (Int32.ofNat o), .int (Int32.ofNat len), .null] 6)) (T3.setTop (mkF m 27 #[.val (.ref a), .val (.ref b), .val (.int (Int32.ofNat o)), .val (.int (Int32.ofNat len)), .val .null, .unset] [])) := (c2.trans (st3 _ (Steps.refl _))).trans (by
    refine XS.iloadN X3.here hexec rfl (hb hbytes d4) rfl ?_
    refine XS.ifYes X3.here hexec rfl (pc0 := 5) rfl (hb hbytes d5) rfl (i0_ne_t (nz32 (by omega) l0)) (by decide) rfl ?_
    exact Steps.refl _)
  obtain ⟨T5, X5, q5, st5⟩ := X3.sget hexec hown (wk W (.fieldLink "java/lang/String" 38 "java/lang/String" "COMPACT_STRINGS" "Z")) s1 (fun _ _ h => by rw [hh3]; exact h) (g := (mkF m 27 #[.val (.ref a), .val (.ref b), .val (.int (Int32.ofNat o)), .val (.int (Int32.ofNat len)), .val .null, .unset] [])) rfl (hb hbytes d27)
  have hh5 := q5.trans hh3
  have c6 : Steps p.tables e below (s₁.setTop (entryFrame m #[.ref a, .ref b, .int (Int32.ofNat o), .int (Int32.ofNat len), .null] 6)) (T5.setTop (mkF m 30 #[.val (.ref a), .val (.ref b), .val (.int (Int32.ofNat o)), .val (.int (Int32.ofNat len)), .val .null, .unset] [.int z])) := c4.trans (st5 _ (Steps.refl _))
  have c7 : Steps p.tables e below (s₁.setTop (entryFrame m #[.ref a, .ref b, .int (Int32.ofNat o), .int (Int32.ofNat len), .null] 6)) (T5.setTop (mkF m 36 #[.val (.ref a), .val (.ref b), .val (.int (Int32.ofNat o)), .val (.int (Int32.ofNat len)), .val .null, .unset] [.int (Int32.ofNat len), .int (Int32.ofNat o), .ref b])) := c6.trans (by
    refine XS.ifNo X5.here hexec rfl (hb hbytes d30) rfl (i0_eq_f hz) ?_
    refine XS.aloadN X5.here hexec rfl (hb hbytes d33) rfl rfl ?_
    refine XS.iloadN X5.here hexec rfl (hb hbytes d34) rfl ?_
    refine XS.iloadN X5.here hexec rfl (hb hbytes d35) rfl ?_
    exact Steps.refl _)
  obtain ⟨v8, T8, X8, E8, g8⟩ := X5.callS hexec (Cmp3.law l b A o len) hown (wks W (staticW "java/lang/String" 177 Cmp3.yN)) (wk W Cmp3.tab) (W := 0) (Nat.le_of_ble_eq_true rfl) (Nat.le_of_ble_eq_true rfl) (Nat.le_refl _) (by show 0 + len ≤ len; omega) (g := (mkF m 36 #[.val (.ref a), .val (.ref b), .val (.int (Int32.ofNat o)), .val (.int (Int32.ofNat len)), .val .null, .unset] [.int (Int32.ofNat len), .int (Int32.ofNat o), .ref b])) rfl (by rw [hml]; rfl) c7 (argsL := [.ref b, .int (Int32.ofNat o), .int (Int32.ofNat len)]) (rest := []) rfl rfl (by show 2 * 0 + 0 ≤ _; decide) (hb hbytes d36) (⟨rfl, hA.mv X5.warmed.alike hh5, l1, l2, hp⟩)
  obtain ⟨e8, z8⟩ := E8
  obtain ⟨rfl, N, n1, n2, n3, n4, n5, n6⟩ := NewArr.mv _ T5 s _ _ hh5.symm (Vm.Alike.refl _) rfl e8
  rw [hh5] at z8
  have hB1 := hB.keep X8.warmed.alike (n6 _ _ hB.1)
  have hne : s.heap.size ≠ a := (Nat.ne_of_lt (Array.getElem?_eq_some_iff.mp hB.1).1).symm
  have c9 : Steps p.tables e below (s₁.setTop (entryFrame m #[.ref a, .ref b, .int (Int32.ofNat o), .int (Int32.ofNat len), .null] 6)) (T8.setTop (mkF m 39 #[.val (.ref a), .val (.ref b), .val (.int (Int32.ofNat o)), .val (.int (Int32.ofNat len)), .val .null, .unset] [.ref s.heap.size])) := g8
  have c10 : Steps p.tables e below (s₁.setTop (entryFrame m #[.ref a, .ref b, .int (Int32.ofNat o), .int (Int32.ofNat len), .null] 6)) (T8.setTop (mkF m 45 #[.val (.ref a), .val (.ref b), .val (.int (Int32.ofNat o)), .val (.int (Int32.ofNat len)), .val .null, .val (.ref s.heap.size)] [.int (Int32.ofNat N.slots.size), .ref s.heap.size, .ref a])) := by
    have hc : Steps p.tables e below (s₁.setTop (entryFrame m #[.ref a, .ref b, .int (Int32.ofNat o), .int (Int32.ofNat len), .null] 6)) (T8.setTop (mkF m 45 #[.val (.ref a), .val (.ref b), .val (.int (Int32.ofNat o)), .val (.int (Int32.ofNat len)), .val .null, .val (.ref s.heap.size)] [.int (Int32.ofNat len), .ref s.heap.size, .ref a])) := c9.trans (by
      refine XS.astore X8.here hexec rfl (hb hbytes d39) rfl rfl rfl ?_
      refine XS.aloadN X8.here hexec rfl (hb hbytes d41) rfl rfl ?_
      refine XS.aload X8.here hexec rfl (hb hbytes d42) rfl rfl ?_
      refine XS.iloadN X8.here hexec rfl (hb hbytes d44) rfl ?_
      exact Steps.refl _)
    rw [n4]; exact hc
  obtain ⟨v11, T11, X11, E11, g11⟩ := X8.callS hexec (CodL.law l s.heap.size N) hown (wks W (staticW "java/lang/String" 47 CodL.yN)) (wk W CodL.tab) (W := 1) (Nat.le_of_ble_eq_true rfl) (Nat.le_of_ble_eq_true rfl) (Nat.le_refl _) (by show 0 + len + 0 ≤ len; omega) (g := (mkF m 45 #[.val (.ref a), .val (.ref b), .val (.int (Int32.ofNat o)), .val (.int (Int32.ofNat len)), .val .null, .val (.ref s.heap.size)] [.int (Int32.ofNat N.slots.size), .ref s.heap.size, .ref a])) rfl (by rw [hml]; rfl) c10 (argsL := [.ref s.heap.size, .int (Int32.ofNat N.slots.size)]) (rest := [.ref a]) rfl rfl (by show 2 * 0 + (1 + 0) ≤ _; decide) (hb hbytes d45) (⟨rfl, n1⟩)
  obtain ⟨rfl, q11⟩ := E11
  have hB11 := hB1.mv (X8.warmed.alike.symm.trans X11.warmed.alike) q11
  have c12 : Steps p.tables e below (s₁.setTop (entryFrame m #[.ref a, .ref b, .int (Int32.ofNat o), .int (Int32.ofNat len), .null] 6)) (T11.setTop (mkF m 48 #[.val (.ref a), .val (.ref b), .val (.int (Int32.ofNat o)), .val (.int (Int32.ofNat len)), .val .null, .val (.ref s.heap.size)] [.int 0, .ref a])) := g11
  obtain ⟨T13, X13, p13, bl13, sl13, st13⟩ := X11.finit hexec hown (wk W (.fieldLink "java/lang/String" 15 "java/lang/String" "coder" "B")) (Or.inr ⟨_, (wk W (.laysFinal "java/lang/String" "java/lang/String" "coder" "B"))⟩) (Or.inl ⟨rfl, hnm⟩) f2 (Or.inl rfl) hB11 (t := .byte) (by decide +kernel) rfl (g := (mkF m 48 #[.val (.ref a), .val (.ref b), .val (.int (Int32.ofNat o)), .val (.int (Int32.ofNat len)), .val .null, .val (.ref s.heap.size)] [.int 0, .ref a])) rfl (rest := []) rfl (hb hbytes d48)
  have c14 : Steps p.tables e below (s₁.setTop (entryFrame m #[.ref a, .ref b, .int (Int32.ofNat o), .int (Int32.ofNat len), .null] 6)) (T13.setTop (mkF m 54 #[.val (.ref a), .val (.ref b), .val (.int (Int32.ofNat o)), .val (.int (Int32.ofNat len)), .val .null, .val (.ref s.heap.size)] [.ref s.heap.size, .ref a])) := (c12.trans (st13 _ (Steps.refl _))).trans (by
    refine XS.aloadN X13.here hexec rfl (hb hbytes d51) rfl rfl ?_
    refine XS.aload X13.here hexec rfl (hb hbytes d52) rfl rfl ?_
    exact Steps.refl _)
  obtain ⟨T15, X15, p15, bl15, sl15, st15⟩ := X13.finit hexec hown (wk W (.fieldLink "java/lang/String" 9 "java/lang/String" "value" "[B")) (Or.inr ⟨_, (wk W (.laysFinal "java/lang/String" "java/lang/String" "value" "[B"))⟩) (Or.inl ⟨rfl, hnm⟩) f1 (Or.inl rfl) bl13 (t := (.array .byte)) (by decide +kernel) rfl (g := (mkF m 54 #[.val (.ref a), .val (.ref b), .val (.int (Int32.ofNat o)), .val (.int (Int32.ofNat len)), .val .null, .val (.ref s.heap.size)] [.ref s.heap.size, .ref a])) rfl (rest := []) rfl (hb hbytes d54)
  have c16 : Steps p.tables e below (s₁.setTop (entryFrame m #[.ref a, .ref b, .int (Int32.ofNat o), .int (Int32.ofNat len), .null] 6)) (T15.setTop (mkF m 57 #[.val (.ref a), .val (.ref b), .val (.int (Int32.ofNat o)), .val (.int (Int32.ofNat len)), .val .null, .val (.ref s.heap.size)] [])) := c14.trans (st15 _ (Steps.refl _))
  have ap := apart (Or.inr ⟨_, (wk W (.laysFinal "java/lang/String" "java/lang/String" "value" "[B"))⟩) (Or.inr ⟨_, (wk W (.laysFinal "java/lang/String" "java/lang/String" "coder" "B"))⟩) f1 f2 (t₁ := .array .byte) (t₂ := .byte) (by decide +kernel) (by decide +kernel) (by decide)
  have al := X8.warmed.alike.symm.trans X15.warmed.alike
  have n7 : T11.heap[s.heap.size]? = some N := by rw [q11]; exact n1.1
  exact ⟨T15, none, _, _, _, X15, by simp, rfl, by omega, (fun _ => rfl), ⟨rfl, _, N, bl15, ((Same.refl D _).set _ (by simp)).set _ (by simp), sl15, (Cell.slots_setSlot_ne _ ap).trans sl13, n1.keep al (p15.other hne (p13.other hne n7)), n2, by rw [al.findClass]; exact n3, n4, n5, fun y c h1 h2 => p15.other h1 (p13.other h1 (by rw [q11]; exact n6 y c h2)), by rw [p15.2.2, p13.2.2, q11]; exact z8⟩, fun fs hl => c16.trans (X15.returnOut hexec hret (hb hbytes d57) hl)⟩
end New4
namespace New1
def yN : MethodName := ⟨"java/lang/String", "<init>", "([C)V"⟩
abbrev yB : ByteArray := jdk_42_method_3_code
theorem d0 : decode yB 0 = .ok (.aload_n 0, 1) := by decide +kernel
theorem d1 : decode yB 1 = .ok (.aload_n 1, 1) := by decide +kernel
theorem d2 : decode yB 2 = .ok (.iconst 0, 1) := by decide +kernel
theorem d3 : decode yB 3 = .ok (.aload_n 1, 1) := by decide +kernel
theorem d4 : decode yB 4 = .ok (.arraylength, 1) := by decide +kernel
theorem d5 : decode yB 5 = .ok (.aconst_null, 1) := by decide +kernel
theorem d6 : decode yB 6 = .ok (.invokespecial 27, 3) := by decide +kernel
theorem d9 : decode yB 9 = .ok (.return_, 1) := by decide +kernel
def site : List Cond := [New4.tab] ++ initW "java/lang/String" 27 New4.yN
def tab : Cond := tabOf yN yB 2 none site
def P (a : Addr) (D : Cell) (fV fC : Field) (b : Addr) (A : Cell) (z : Int32) (args : Array Value) (s : State) : Prop := args = #[.ref a, .ref b] ∧ Blank "java/lang/String" a D s ∧ Found "java/lang/String" "value" "[B" fV s ∧ Found "java/lang/String" "coder" "B" fC s ∧ Ch b A s ∧ StaticIs s "java/lang/String" "COMPACT_STRINGS" "Z" (.int z) ∧ ¬ z = 0 ∧ 0 < A.slots.size ∧ A.slots.size ≤ 536870912 ∧ ∀ i, i < A.slots.size → ¬ 255 < cv A i
def E (a : Addr) (D : Cell) (fV fC : Field) (A : Cell) (r : Option Value) (s u : State) : Prop := Got a D fV fC A 0 A.slots.size r s u
/-- new String(chars), not empty, no char above 255: a Latin-1 String of their low bytes -/
theorem law (l : Launch) (a : Addr) (D : Cell) (fV fC : Field) (b : Addr) (A : Cell) (z : Int32) : Law l yN 2 1 3 52 yB 2 none site (P a D fV fC b A z) (E a D fV fC A) [⟨a, fC.slot⟩, ⟨a, fV.slot⟩] 1 A.slots.size := by
  refine Law.of_walk (plainFor_of_name (by decide +kernel)) (by decide +kernel) (by decide +kernel) (by decide) (fun _ _ h => by rw [h.1]; rfl) (fun _ U U' hal hh h => ⟨h.1, h.2.1.mv hal hh, h.2.2.1.al hal, h.2.2.2.1.al hal, h.2.2.2.2.1.mv hal hh, h.2.2.2.2.2.1.there hal hh, h.2.2.2.2.2.2⟩) (fun r U U' V V' h1 hal h2 h => Got.mv r U U' V V' h1 hal h2 h) ?_
  intro p e s m args below meth c s₁ X0 hexec hbytes hml hret hlk hnm hown hh0 W hP
  obtain ⟨rfl, hB, f1, f2, hA, s1, hz, l0, l2, hp⟩ := hP
  have c1 : Steps p.tables e below (s₁.setTop (entryFrame m #[.ref a, .ref b] 2)) (s₁.setTop (mkF m 0 #[.val (.ref a), .val (.ref b)] [])) := entry rfl
  have c2 : Steps p.tables e below (s₁.setTop (entryFrame m #[.ref a, .ref b] 2)) (s₁.setTop (mkF m 6 #[.val (.ref a), .val (.ref b)] [.null, .int (Int32.ofNat A.slots.size), .int 0, .ref b, .ref a])) := c1.trans (by
    refine XS.aloadN X0.here hexec rfl (hb hbytes d0) rfl rfl ?_
    refine XS.aloadN X0.here hexec rfl (hb hbytes d1) rfl rfl ?_
    refine iconstV X0.here hexec rfl 0 (hb hbytes d2) (by decide) ?_
    refine XS.aloadN X0.here hexec rfl (hb hbytes d3) rfl rfl ?_
    refine X0.alen hexec (hA.1.mv X0.warmed.alike hh0) rfl rfl (hb hbytes d4) ?_
    refine XS.aconstNull X0.here hexec rfl (hb hbytes d5) ?_
    exact Steps.refl _)
  obtain ⟨v3, T3, X3, E3, g3⟩ := X0.callN hexec (New4.law l a D fV fC b A z 0 A.slots.size) rfl hown (wks W (initW "java/lang/String" 27 New4.yN)) (W New4.tab (by simp only [site, List.mem_cons, List.mem_append, true_or, or_true])) (W := 0) (Nat.le_of_ble_eq_true rfl) (Nat.le_of_ble_eq_true rfl) (Nat.le_refl _) (by show 0 + A.slots.size ≤ A.slots.size; omega) (g := (mkF m 6 #[.val (.ref a), .val (.ref b)] [.null, .int (Int32.ofNat A.slots.size), .int (Int32.ofNat 0), .ref b, .ref a])) rfl (by rw [hml]; rfl) c2 (argsL := [.ref b, .int (Int32.ofNat 0), .int (Int32.ofNat A.slots.size), .null]) (rest := []) rfl rfl (by show 2 * 0 + 0 ≤ _; decide) (hb hbytes d6) (⟨rfl, hB.mv X0.warmed.alike hh0, f1.al X0.warmed.alike, f2.al X0.warmed.alike, hA.mv X0.warmed.alike hh0, s1.there X0.warmed.alike hh0, hz, l0, by omega, l2, fun i hi => by rw [Nat.zero_add]; exact hp i hi⟩)
  have e0 := Got.mv _ s₁ s _ _ hh0.symm (Vm.Alike.refl _) rfl E3
  obtain rfl := e0.1
  have c4 : Steps p.tables e below (s₁.setTop (entryFrame m #[.ref a, .ref b] 2)) (T3.setTop (mkF m 9 #[.val (.ref a), .val (.ref b)] [])) := g3
  exact ⟨T3, none, _, _, _, X3, by simp, rfl, by omega, (fun _ => rfl), e0, fun fs hl => c4.trans (X3.returnOut hexec hret (hb hbytes d9) hl)⟩
theorem pays {l : Launch} {R : Room} {p : Program} {e : Env} {below : List Frame} {s : State} {sargs : Array Value} {len W : Nat} (a : Addr) (D : Cell) (fV fC : Field) (b : Addr) (A : Cell) (z : Int32) (htab : tab.before sargs s = true) (hfr : 4 ≤ R.frames) (hlo : W + 65 ≤ R.locals) :
    Back l R p e below s sargs yN len W (fun A₁ a₁ => A₁.cells + 1 ≤ R.cells ∧ A₁.slots + A.slots.size ≤ R.slots ∧ P a D fV fC b A z a₁ A₁.U) (fun A₁ _ v₁ B₁ => E a D fV fC A v₁ A₁.U B₁.U ∧ B₁.locs = A₁.locs ++ [⟨a, fC.slot⟩, ⟨a, fV.slot⟩] ∧ B₁.cells = A₁.cells + 1 ∧ B₁.slots = A₁.slots + A.slots.size) :=
  (law l a D fV fC b A z).pays htab hfr (by omega)
end New1
end StrChars
namespace StrChars.Road
open Jvm Sem ClassFile Op Lib Jvm.Stand Jvm.Free Jvm.Free.XT
open Jvm.Lib.Cold (StaticIs)
abbrev ST : String := "java/lang/String"
/-- every table word that New1's law asks, flat -/
abbrev words : List Jvm.Cond := [.code New1.yN New1.yB 2 none, .initialized ST, .methodLink ST 27 New4.yN, .instanceMethod New4.yN,
  .code New4.yN New4.yB 6 none, .fieldLink ST 38 ST "COMPACT_STRINGS" "Z", .laysFinal ST ST "value" "[B", .fieldLink ST 9 ST "value" "[B", .laysFinal ST ST "coder" "B", .fieldLink ST 15 ST "coder" "B",
  .methodLink ST 1 Lib.objectInit, .instanceMethod Lib.objectInit, .code Lib.objectInit ⟨#[0xb1]⟩ 1 none, .methodLink ST 177 Cmp3.yN, .static Cmp3.yN, .methodLink ST 47 CodL.yN, .static CodL.yN,
  .code Cmp3.yN Cmp3.yB 6 (some (.array .byte)), .initialized U16, .arrayClass .byte, .methodLink U16 115 Cmp5.yN, .static Cmp5.yN, .code Cmp5.yN Cmp5.yB 7 (some .int), .code CodL.yN CodL.yB 2 (some .byte)]
theorem tab_of {a : Array Value} {s : State} (h : ∀ w ∈ words, w.before a s = true) : New1.tab.before a s = true := by
  have h5 : Cmp5.tab.before a s = true := unparts (wk h (.code Cmp5.yN Cmp5.yB 7 (some .int))) (wks h (.initialized Cmp5.yN.cls :: Cmp5.site))
  have hc : CodL.tab.before a s = true := unparts (wk h (.code CodL.yN CodL.yB 2 (some .byte))) (wks h (.initialized CodL.yN.cls :: CodL.site))
  have q5 : ∀ w ∈ Cmp5.tab :: words, w.before a s = true := fun w hw => (List.mem_cons.mp hw).elim (fun e => e ▸ h5) (h w)
  have h3 : Cmp3.tab.before a s = true := unparts (wk q5 (.code Cmp3.yN Cmp3.yB 6 (some (.array .byte)))) (wks q5 (.initialized Cmp3.yN.cls :: Cmp3.site))
  have q3 : ∀ w ∈ Cmp3.tab :: CodL.tab :: words, w.before a s = true := fun w hw => (List.mem_cons.mp hw).elim (fun e => e ▸ h3) fun hw => (List.mem_cons.mp hw).elim (fun e => e ▸ hc) (h w)
  have h4 : New4.tab.before a s = true := unparts (wk q3 (.code New4.yN New4.yB 6 none)) (wks q3 (.initialized New4.yN.cls :: New4.site))
  have q4 : ∀ w ∈ New4.tab :: words, w.before a s = true := fun w hw => (List.mem_cons.mp hw).elim (fun e => e ▸ h4) (h w)
  exact unparts (wk q4 (.code New1.yN New1.yB 2 none)) (wks q4 (.initialized New1.yN.cls :: New1.site))
/-- the words ride from the start Z to the walk's own state -/
theorem moved {Z s : State} {a0 args : Array Value} (hZ : Z.Warmed39 s.vm) (hw : ∀ d ∈ words, d.before a0 Z = true) : ∀ d ∈ words, d.before args s = true := fun d hd => by
  have q := hw d hd
  have t : ∀ d ∈ words, d = .arrayClass .byte ∨ (d.onTables && d.keepsFace) = true := by decide +kernel
  rcases t d hd with rfl | t
  · exact RoadKit.mvA hZ q
  · exact RoadKit.mv hZ q t
/-- WHAT COMES BACK, over the tables of the start Z: h the heap at the call, h' behind it -/
def Q (Z : State) (x : Addr) (A : Cell) (h : Heap) (v : Option Value) (h' : Heap) (L : List Loc) : Prop := v = none ∧ (∀ y ∈ L, y.base = x) ∧ RoadKit.Keep h h' [x] ∧ h'.size = h.size + 1 ∧ RoadKit.Exa Z h' x ST ∧ RoadKit.Fld Z h' x ST "value" "[B" (.ref h.size) ∧ RoadKit.Fld Z h' x ST "coder" "B" (.int 0) ∧
  (∃ V : Cell, RoadKit.Arr Z h' h.size V .byte ∧ V.vm = .none ∧ Z.vm.findClass "[B" = some V.cls ∧ V.slots.size = A.slots.size ∧ ∀ j, j < A.slots.size → V.slots[j]? = some (.int (lo8 (cv A j)))) ∧
  ∀ (O n d : String) (w : Value), RoadKit.Fld Z h x O n d w → RoadKit.slotOf Z O n d ≠ RoadKit.slotOf Z ST "value" "[B" → RoadKit.slotOf Z O n d ≠ RoadKit.slotOf Z ST "coder" "B" → RoadKit.Fld Z h' x O n d w
/-- **new String(chars) AT A CALL, IN THE ROAD'S FORM**: for specialBack behind newO: x the fresh String, b the char[] with the cell A -/
theorem back {p : Program} {l : Launch} {e : Env} {R : Room} {s : State} {args : Array Value} {below : List Frame} {len W : Nat} {Z : State} {a0 : Array Value} {h : Heap} (hZ : Z.Warmed39 s.vm) (hw : ∀ d ∈ words, d.before a0 Z = true) {kI : Nat} (wi : (Jvm.Cond.instantiable ST kI).before a0 Z = true)
    {x b : Addr} {A : Cell} {z : Int32} {v0 c0 : Value} (E : RoadKit.Exa Z h x ST) (V : RoadKit.Fld Z h x ST "value" "[B" v0) (C : RoadKit.Fld Z h x ST "coder" "B" c0) (K : RoadKit.Arr Z h b A .char) (hty : Typed .char A) (S : RoadKit.Sta Z h ST "COMPACT_STRINGS" "Z" (.int z)) (hz : ¬ z = 0)
    (l0 : 0 < A.slots.size) (l2 : A.slots.size ≤ 536870912) (hp : ∀ i, i < A.slots.size → ¬ 255 < cv A i) (hfr : 4 ≤ R.frames) (hlo : W + 65 ≤ R.locals) :
    Back l R p e below s args New1.yN len W (fun P a => a = #[.ref x, .ref b] ∧ P.U.heap = h ∧ P.cells + 1 ≤ R.cells ∧ P.slots + A.slots.size ≤ R.slots)
      (fun P _ v B => ∃ L, Q Z x A h v B.U.heap L ∧ B.locs = P.locs ++ L ∧ B.cells = P.cells + 1 ∧ B.slots = P.slots + A.slots.size) := by
  intro m meth c P g ig mk a X hg hsize hdg hW hn hp'
  obtain ⟨rfl, rfl, r1, r2⟩ := hp'
  have al : Z.vm.Alike P.U.vm := hZ.alike.trans X.warmed.alike
  obtain ⟨D, cfV, kV, iV, fV, hD, gV, stV, knV, obV, asV, slV⟩ := id V
  obtain ⟨D', cfC, kC, iC, fC, hD', gC, stC, -, -, asC, slC⟩ := id C
  cases hD.symm.trans hD'
  obtain ⟨D2, kD, e1, e2, e3, e4, e5⟩ := id E
  cases hD.symm.trans e1
  obtain ⟨c2, k2, i1, i2, i3, -⟩ := Cond.instantiable_spec wi
  cases e2.symm.trans i1
  cases e3.symm.trans i2
  obtain ⟨kU, u1, u2⟩ := al.2.2 _ _ e3
  have hB : Blank ST x D P.U := ⟨hD, ⟨knV, fun q hq => by rw [hq] at obV; cases obV⟩, by rw [al.findClass]; exact e2, kU, u1, by rw [u2]; exact i3, by rw [u2]; exact e5 i3⟩
  have F1 : Found ST "value" "[B" fV P.U := ⟨SBG.found_only al ⟨cfV, kV, iV, gV⟩, stV⟩
  have F2 : Found ST "coder" "B" fC P.U := ⟨SBG.found_only al ⟨cfC, kC, iC, gC⟩, stC⟩
  have hA : Ch b A P.U := ⟨⟨K.1, State.isArrayOf_alike al K.2.1, K.2.2, by omega⟩, hty⟩
  have hS : StaticIs P.U ST "COMPACT_STRINGS" "Z" (.int z) := by
    obtain ⟨cfS, iS, kS, fS, st, cS, t1, t2, t3, t4, t5, t6, t7⟩ := S
    exact StaticIs.there (s := { Z with heap := P.U.heap }) ⟨cfS, iS, kS, fS, st, cS, t1, t2, t3, t4, t5, (fun q => by rw [q] at t6; cases t6), t7⟩ al rfl
  obtain ⟨v, B, X', ⟨⟨hv, E', V', q1, q2, q3, q4, q5, q6, q7, q8, q9, q10, q11⟩, hl, hc, hs⟩, st⟩ := New1.pays x D fV fC b A z (tab_of (moved hZ hw)) hfr hlo m meth c P g ig mk _ X hg hsize hdg hW hn ⟨r1, r2, rfl, hB, F1, F2, hA, hS, hz, l0, l2, hp⟩
  have al' : Z.vm.Alike B.U.vm := hZ.alike.trans X'.warmed.alike
  have hsz : E'.slots.size = D.slots.size := by
    obtain ⟨-, -, -, kB, w1, w2, w3⟩ := q1
    obtain ⟨kB', y1, y2⟩ := al'.2.2 _ _ e3
    rw [q2.2.1] at w1
    cases w1.symm.trans y1
    rw [w3, e5 i3, y2]
  refine ⟨v, B, X', ⟨_, ⟨hv, ?_, ⟨by omega, fun y cy hy hn' => q10 y cy (by simpa using hn') hy, fun y cy hy => ?_⟩, q11, ⟨E', _, q1.1, by rw [q2.2.1]; exact e2, by rw [q2.2.1]; exact e3, by rw [q2.1]; exact obV, fun _ => by rw [hsz]; exact e5 i3⟩,
    ⟨E', cfV, kV, iV, fV, q1.1, gV, stV, by rw [q2.1]; exact knV, by rw [q2.1]; exact obV, by rw [q2.2.1]; exact asV, q3⟩, ⟨E', cfC, kC, iC, fC, q1.1, gC, stC, by rw [q2.1]; exact knV, by rw [q2.1]; exact obV, by rw [q2.2.1]; exact asC, q4⟩,
    ⟨V', ⟨q5.1, State.isArrayOf_alike al'.symm q5.2.1, q5.2.2.1⟩, q6, by rw [← al'.findClass]; exact q7, q8, fun j hj => by have := q9 j hj; rwa [Nat.zero_add] at this⟩, fun O n d w F n1 n2 => ?_⟩, hl, hc, hs⟩, st⟩
  · intro y hy
    simp only [List.mem_cons, List.not_mem_nil, or_false] at hy
    rcases hy with rfl | rfl <;> rfl
  · by_cases q : y = x
    · subst q
      cases hD.symm.trans hy
      exact ⟨E', q1.1, q2.2.1, q2.1, hsz⟩
    · exact ⟨cy, q10 y cy q hy, rfl, rfl, rfl⟩
  · obtain ⟨D3, cf, k, i, f, g1, g2, g3, g4, g5, g6, g7⟩ := F
    cases hD.symm.trans g1
    simp only [RoadKit.slotOf, g2, gV, gC, Option.map_some, Option.getD_some] at n1 n2
    exact ⟨E', cf, k, i, f, q1.1, g2, g3, by rw [q2.1]; exact g4, by rw [q2.1]; exact g5, by rw [q2.2.1]; exact g6, by rw [q2.2.2 f.slot (by simp [n1, n2])]; exact g7⟩
end StrChars.Road
namespace StrChars.Road
open Jvm Sem ClassFile Op Lib Jvm.Stand Jvm.Free Jvm.Free.XT
/-- WHAT COMES BACK, the byte[] as a list of values -/
def QA (Z : State) (x : Addr) (zn : Int32) (cs : List Int32) (h : Heap) (v : Option Value) (h' : Heap) (L : List Loc) : Prop := v = none ∧ (∀ y ∈ L, y.base = x) ∧ RoadKit.Keep h h' [x] ∧ h'.size = h.size + 1 ∧ RoadKit.Exa Z h' x ST ∧ RoadKit.Fld Z h' x ST "value" "[B" (.ref h.size) ∧ RoadKit.Fld Z h' x ST "coder" "B" (.int 0) ∧
  (∃ kb, Z.vm.findClass "[B" = some kb ∧ RoadKit.Arv Z h' h.size kb .byte zn (cs.map fun c => .int (lo8 c)) (.int 0)) ∧
  ∀ (O n d : String) (w : Value), RoadKit.Fld Z h x O n d w → RoadKit.slotOf Z O n d ≠ RoadKit.slotOf Z ST "value" "[B" → RoadKit.slotOf Z O n d ≠ RoadKit.slotOf Z ST "coder" "B" → RoadKit.Fld Z h' x O n d w
/-- **new String(chars) AT A CALL, THE ARRAYS AS LISTS**: the char[] at b holds cs, not empty, no char above 255 -/
theorem backArv {p : Program} {l : Launch} {e : Env} {R : Room} {s : State} {args : Array Value} {below : List Frame} {len W : Nat} {Z : State} {a0 : Array Value} {h : Heap} (hZ : Z.Warmed39 s.vm) (hw : ∀ d ∈ words, d.before a0 Z = true) {kI : Nat} (wi : (Jvm.Cond.instantiable ST kI).before a0 Z = true)
    {x b : Addr} {k : ClassId} {zn z : Int32} {cs : List Int32} {dv v0 c0 : Value} (E : RoadKit.Exa Z h x ST) (V : RoadKit.Fld Z h x ST "value" "[B" v0) (C : RoadKit.Fld Z h x ST "coder" "B" c0) (K : RoadKit.Arv Z h b k .char zn (cs.map Value.int) dv) (S : RoadKit.Sta Z h ST "COMPACT_STRINGS" "Z" (.int z)) (hz : ¬ z = 0)
    (hlen : zn.toNatClampNeg = cs.length) (h0 : 0 < cs.length) (hbig : cs.length ≤ 536870912) (hall : ∀ c ∈ cs, ¬ 255 < c) (hfr : 4 ≤ R.frames) (hlo : W + 65 ≤ R.locals) :
    Back l R p e below s args New1.yN len W (fun P a => a = #[.ref x, .ref b] ∧ P.U.heap = h ∧ P.cells + 1 ≤ R.cells ∧ P.slots + cs.length ≤ R.slots)
      (fun P _ v B => ∃ L, QA Z x zn cs h v B.U.heap L ∧ B.locs = P.locs ++ L ∧ B.cells = P.cells + 1 ∧ B.slots = P.slots + cs.length) := by
  obtain ⟨A, K1, K2, K3, K4, K5, K6⟩ := K
  have e : A.slots.size = cs.length := K3.trans hlen
  have hat : ∀ (i : Nat) (hi : i < cs.length), A.slots[i]? = some (.int cs[i]) := fun i hi => by rw [K5 i (by omega)]; simp [List.getD_eq_getElem?_getD, hi]
  have hcv : ∀ (i : Nat) (hi : i < cs.length), cv A i = cs[i] := fun i hi => by unfold cv; rw [hat i hi]
  have hty : Typed .char A := fun i v hv => by
    have hi : i < A.slots.size := (Array.getElem?_eq_some_iff.mp hv).1
    have q := K5 i hi
    rw [hv] at q
    rw [Option.some.inj q]
    exact K6 i hi
  refine Back.mono (back hZ hw wi E V C K1 hty S hz (by omega) (by omega) (fun i hi => by rw [hcv i (by omega)]; exact hall _ (List.getElem_mem _)) hfr hlo) (fun P a hp => ⟨hp.1, hp.2.1, hp.2.2.1, by rw [e]; exact hp.2.2.2⟩) (fun P a v B hp hq => ?_)
  obtain ⟨L, ⟨q1, q2, q3, q4, q5, q6, q7, ⟨V', v1, v2, v3, v4, v5⟩, q9⟩, hl, hc, hs⟩ := hq
  refine ⟨L, ⟨q1, q2, q3, q4, q5, q6, q7, ⟨V'.cls, v3, V', v1, rfl, by rw [v4, e, hlen], K4, fun i hi => ?_, fun i hi => ?_⟩, q9⟩, hl, hc, by rw [hs, e]⟩
  · have hi' : i < cs.length := by omega
    rw [v5 i (by omega), hcv i hi']; simp [List.getD_eq_getElem?_getD, hi']
  · have hi' : i < cs.length := by omega
    simp only [List.getD_eq_getElem?_getD, List.getElem?_map, List.getElem?_eq_getElem hi', Option.map_some, Option.getD_some]
    exact fits_lo8 _
end StrChars.Road
namespace StrChars.Road
open Jvm Sem ClassFile Op Lib Jvm.Stand Jvm.Free Jvm.Free.XT
/-- WHAT COMES BACK, in the writer's own shape -/
def QV (Z : State) (x : Addr) (N : Int32) (bs : List Int32) (h : Heap) (n0 : Nat) (v : Option Value) (h' : Heap) (L : List Loc) : Prop := v = none ∧ RoadKit.Fr n0 L ∧ RoadKit.Keep h h' [x] ∧ RoadKit.Exa Z h' x ST ∧ RoadKit.Fld Z h' x ST "coder" "B" (.int 0) ∧
  ∃ (t : Addr) (kb : ClassId), n0 ≤ t ∧ h.size ≤ t ∧ ¬ t = x ∧ RoadKit.Fld Z h' x ST "value" "[B" (.ref t) ∧ RoadKit.Arv Z h' t kb .byte N (bs.map Value.int) (.int 0)
/-- **new String(chars) AT A CALL, FOR THE WRITER**: a char[] of n known ints, each 0 to 255 -/
theorem backV {p : Program} {l : Launch} {e : Env} {R : Room} {s : State} {args : Array Value} {below : List Frame} {len W : Nat} {Z : State} {a0 : Array Value} {h : Heap} (hZ : Z.Warmed39 s.vm) (hw : ∀ d ∈ words, d.before a0 Z = true) {kI : Nat} (wi : (Jvm.Cond.instantiable ST kI).before a0 Z = true)
    {x b : Addr} {kC : ClassId} {cs bs : List Int32} {d v0 c0 : Value} {z N : Int32} {n n0 : Nat} (hx0 : n0 ≤ x) (hh0 : n0 ≤ h.size) (E : RoadKit.Exa Z h x ST) (V : RoadKit.Fld Z h x ST "value" "[B" v0) (C : RoadKit.Fld Z h x ST "coder" "B" c0) (K : RoadKit.Arv Z h b kC .char N (cs.map Value.int) d) (S : RoadKit.Sta Z h ST "COMPACT_STRINGS" "Z" (.int z)) (hz : ¬ z = 0)
    (hn : cs.length = n) (hN : N = Int32.ofNat n) (l0 : 0 < n) (l2 : n ≤ 4000) (hp : ∀ c ∈ cs, ¬ c < 0 ∧ ¬ (255 : Int32) < c) (hb : bs = cs.map (fun c => c.toInt8.toInt32)) (hfr : 4 ≤ R.frames) (hlo : W + 65 ≤ R.locals) :
    Back l R p e below s args (⟨"java/lang/String", "<init>", "([C)V"⟩ : MethodName) len W (fun P a => a = #[.ref x, .ref b] ∧ P.U.heap = h ∧ P.cells + 1 ≤ R.cells ∧ P.slots + n ≤ R.slots)
      (fun P _ v B => ∃ L, QV Z x N bs h n0 v B.U.heap L ∧ B.locs = P.locs ++ L ∧ B.cells = P.cells + 1 ∧ B.slots = P.slots + n) := by
  subst hn hN hb
  refine Back.mono (backArv hZ hw wi E V C K S hz (n32 (by omega)) l0 (by omega) (fun c hc => (hp c hc).2) hfr hlo) (fun P a hp => hp) (fun P a v B hp hq => ?_)
  obtain ⟨L, ⟨q1, q2, q3, q4, q5, q6, q7, ⟨kb, v1, v2⟩, q9⟩, hl, hc, hs⟩ := hq
  exact ⟨L, ⟨q1, fun y hy => by rw [q2 y hy]; exact hx0, q3, q5, q7, h.size, kb, hh0, Nat.le_refl _, Nat.ne_of_gt E.lt, q6, by rw [List.map_map]; exact v2⟩, hl, hc, hs⟩
end StrChars.Road
end Jvm.Pilot.@@N@@

namespace Jvm.Pilot.@@N@@
open Jvm Jvm.ClassFile Sem Op Lib Jvm.Free Jvm.Stand Jvm.LawKit Jvm.RoadKit Bundle Jvm.Pilot.@@N@@.Jvm.D
theorem own_w {Z : State} {a0 : Array Value} (hw : ∀ d ∈ tables_1, d.before a0 Z = true) (i : Nat) {d : Jvm.Cond} (h : tables_1[i]? = some d) : d.before a0 Z = true := hw d (List.mem_of_getElem? h)
theorem ok {a b : Nat} (h : Nat.ble a b = true) : a ≤ b := Nat.le_of_ble_eq_true h
abbrev y0_ : MethodName := ⟨"java/lang/Boolean", "booleanValue", "()Z"⟩
abbrev y1_ : MethodName := ⟨"java/lang/Boolean", "equals", "(Ljava/lang/Object;)Z"⟩
abbrev y2_ : MethodName := ⟨"java/lang/Boolean", "valueOf", "(Z)Ljava/lang/Boolean;"⟩
abbrev y3_ : MethodName := ⟨"java/lang/Long", "<init>", "(J)V"⟩
abbrev y4_ : MethodName := ⟨"java/lang/Long", "longValue", "()J"⟩
abbrev y5_ : MethodName := ⟨"java/lang/Long", "valueOf", "(J)Ljava/lang/Long;"⟩
abbrev y6_ : MethodName := ⟨"java/lang/Number", "<init>", "()V"⟩
abbrev y7_ : MethodName := ⟨"java/lang/Record", "<init>", "()V"⟩
abbrev y9_ : MethodName := ⟨"java/lang/String", "equals", "(Ljava/lang/Object;)Z"⟩
abbrev y10_ : MethodName := ⟨"org/attestry/status/StatusEntry", "<init>", "(Ljava/lang/String;Ljava/lang/Long;Ljava/lang/String;Ljava/lang/Boolean;Ljava/lang/String;)V"⟩
abbrev y11_ : MethodName := ⟨"org/attestry/status/StatusEntry", "error", "()Ljava/lang/String;"⟩
abbrev y12_ : MethodName := ⟨"org/attestry/status/StatusEntry", "index", "()Ljava/lang/Long;"⟩
abbrev y13_ : MethodName := ⟨"org/attestry/status/StatusEntry", "isSetFor", "(Ljava/lang/String;)Z"⟩
abbrev y14_ : MethodName := ⟨"org/attestry/status/StatusEntry", "list", "()Ljava/lang/String;"⟩
abbrev y15_ : MethodName := ⟨"org/attestry/status/StatusEntry", "purpose", "()Ljava/lang/String;"⟩
abbrev y16_ : MethodName := ⟨"org/attestry/status/StatusEntry", "read", "(Ljava/lang/String;JLjava/lang/String;Z)Lorg/attestry/status/StatusEntry;"⟩
abbrev y17_ : MethodName := ⟨"org/attestry/status/StatusEntry", "set", "()Ljava/lang/Boolean;"⟩
theorem own_up {cs : List Int32} (h : ∀ c ∈ cs, ¬ c < 0 ∧ ¬ (255 : Int32) < c) : ∀ c ∈ cs, ¬ c < 0 ∧ ¬ (65535 : Int32) < c := fun c hc => ⟨(h c hc).1, fun q => (h c hc).2 (by rw [Int32.lt_iff_toInt_lt] at q ⊢; have e1 : (65535 : Int32).toInt = 65535 := rfl; have e2 : (255 : Int32).toInt = 255 := rfl; omega)⟩
theorem d12_0 : decode prog_30_method_8_code 0 = .ok (.aload_n 0, 1) := by decide +kernel
theorem d12_1 : decode prog_30_method_8_code 1 = .ok (.getfield 7, 3) := by decide +kernel
theorem d12_4 : decode prog_30_method_8_code 4 = .ok (.areturn, 1) := by decide +kernel
theorem pn_org_attestry_status_StatusEntry : plainName "org/attestry/status/StatusEntry" = true := by first | (simp [plainName, overriddenIn]; done) | decide +kernel
theorem efPu (m : MethodId) (a : Addr) : entryFrame m #[(.ref a)] 1 = mkF m 0 #[.val (.ref a)] [] := by first | (simp [entryFrame, mkF, argsToLocals, Value.category]; done) | rfl
def QPu (Z : State) (a : Addr) (o : Addr) (h0 : Heap) (n0 : Nat) (v : Option Value) (h : Heap) (L : List Loc) : Prop := v = some (.ref o) ∧ Fr n0 L ∧ h = h0
set_option maxRecDepth 65536 in
set_option maxHeartbeats 40000000 in
theorem rmPu (l : Launch) (Z : State) (a0 : Array Value) (hw : ∀ d ∈ tables_1, d.before a0 Z = true) (ws : List Jvm.Cond) (a : Addr) (o : Addr) (h0 : Heap) (n0 : Nat) (Z0 : n0 ≤ h0.size) (O0 : Old Z n0 h0) (Fa : Fld Z h0 a "org/attestry/status/StatusEntry" "purpose" "Ljava/lang/String;" (.ref o)) :
    MetFree l y15_ (head1 (Jvm.Cond.code y15_ prog_30_method_8_code 1 (some (.object "java/lang/String")) :: ws) ({ frames := 0, cells := 0, slots := 0, locals := 0 } : Room)) (fun aa U => aa = #[(.ref a)] ∧ Z.Warmed39 U.vm ∧ U.heap = h0) (fun _ _ _ _ _ => True) (fun _ U oo U' => ∃ vv LL, oo = .returned vv ∧ QPu Z a o h0 n0 vv U'.heap LL ∧ FrameEnd U oo U' LL ({ frames := 0, cells := 0, slots := 0, locals := 0 } : Room).cells ({ frames := 0, cells := 0, slots := 0, locals := 0 } : Room).slots) := by
  refine MetFree.of_bodySF (plainFor_of_name pn_org_attestry_status_StatusEntry) hisR ?_
  intro p e s m args below meth c s₁ Bd hml0 hP hK
  obtain ⟨rfl, hZ, hh⟩ := hP
  have hx := Bd.exec
  have hby := Bd.bytes
  have hml : c.maxLocals = 1 := hml0
  have hown : s.vm.findClass "org/attestry/status/StatusEntry" = some m.cls := findClass_of_methodNamed Bd.named
  have hnm := (name_of_methodNamed Bd.named Bd.method).1
  have X0 : Stand p l e ({ frames := 0, cells := 0, slots := 0, locals := 0 } : Room) s m #[(.ref a)] below meth c s₁ [] 0 0 := Stand.of_body Bd
  have e0 : s₁.heap = h0 := by rw [← hh, Bd.state]; rfl
  have N0 := Fr.nil n0
  refine Goes.give (Q := QPu Z a o h0 n0) ?_
  rw [efPu m a]
  have K0 : Keep h0 h0 [] := Keep.refl _ _
  refine P1.aloadN X0.here hx (hb hby d12_0) rfl rfl ?_
  obtain ⟨T1, X1, e1, st1⟩ := getF X0 hx hZ hown (host := "") (Or.inl (own_w hw 58 rfl)) Via.refl e0 Fa (g := (mkF m 1 #[.val (.ref a)] [(.ref a)])) rfl rfl (hb hby d12_1)
  refine Goes.step (T' := T1) (g' := (mkF m 4 #[.val (.ref a)] [(.ref o)])) st1 ?_
  refine Goes.retA X1 hx Bd.notSynchronized Bd.returns rfl rfl (hb hby d12_4) (ok rfl) (ok rfl) ?_
  rw [e1]
  exact ⟨rfl, N0, rfl⟩
theorem d14_0 : decode prog_30_method_9_code 0 = .ok (.aload_n 0, 1) := by decide +kernel
theorem d14_1 : decode prog_30_method_9_code 1 = .ok (.getfield 13, 3) := by decide +kernel
theorem d14_4 : decode prog_30_method_9_code 4 = .ok (.areturn, 1) := by decide +kernel
theorem efIx (m : MethodId) (a : Addr) : entryFrame m #[(.ref a)] 1 = mkF m 0 #[.val (.ref a)] [] := by first | (simp [entryFrame, mkF, argsToLocals, Value.category]; done) | rfl
def QIx (Z : State) (a : Addr) (o : Addr) (h0 : Heap) (n0 : Nat) (v : Option Value) (h : Heap) (L : List Loc) : Prop := v = some (.ref o) ∧ Fr n0 L ∧ h = h0
set_option maxRecDepth 65536 in
set_option maxHeartbeats 40000000 in
theorem rmIx (l : Launch) (Z : State) (a0 : Array Value) (hw : ∀ d ∈ tables_1, d.before a0 Z = true) (ws : List Jvm.Cond) (a : Addr) (o : Addr) (h0 : Heap) (n0 : Nat) (Z0 : n0 ≤ h0.size) (O0 : Old Z n0 h0) (Fa : Fld Z h0 a "org/attestry/status/StatusEntry" "index" "Ljava/lang/Long;" (.ref o)) :
    MetFree l y12_ (head1 (Jvm.Cond.code y12_ prog_30_method_9_code 1 (some (.object "java/lang/Long")) :: ws) ({ frames := 0, cells := 0, slots := 0, locals := 0 } : Room)) (fun aa U => aa = #[(.ref a)] ∧ Z.Warmed39 U.vm ∧ U.heap = h0) (fun _ _ _ _ _ => True) (fun _ U oo U' => ∃ vv LL, oo = .returned vv ∧ QIx Z a o h0 n0 vv U'.heap LL ∧ FrameEnd U oo U' LL ({ frames := 0, cells := 0, slots := 0, locals := 0 } : Room).cells ({ frames := 0, cells := 0, slots := 0, locals := 0 } : Room).slots) := by
  refine MetFree.of_bodySF (plainFor_of_name pn_org_attestry_status_StatusEntry) hisR ?_
  intro p e s m args below meth c s₁ Bd hml0 hP hK
  obtain ⟨rfl, hZ, hh⟩ := hP
  have hx := Bd.exec
  have hby := Bd.bytes
  have hml : c.maxLocals = 1 := hml0
  have hown : s.vm.findClass "org/attestry/status/StatusEntry" = some m.cls := findClass_of_methodNamed Bd.named
  have hnm := (name_of_methodNamed Bd.named Bd.method).1
  have X0 : Stand p l e ({ frames := 0, cells := 0, slots := 0, locals := 0 } : Room) s m #[(.ref a)] below meth c s₁ [] 0 0 := Stand.of_body Bd
  have e0 : s₁.heap = h0 := by rw [← hh, Bd.state]; rfl
  have N0 := Fr.nil n0
  refine Goes.give (Q := QIx Z a o h0 n0) ?_
  rw [efIx m a]
  have K0 : Keep h0 h0 [] := Keep.refl _ _
  refine P1.aloadN X0.here hx (hb hby d14_0) rfl rfl ?_
  obtain ⟨T2, X2, e2, st2⟩ := getF X0 hx hZ hown (host := "") (Or.inl (own_w hw 60 rfl)) Via.refl e0 Fa (g := (mkF m 1 #[.val (.ref a)] [(.ref a)])) rfl rfl (hb hby d14_1)
  refine Goes.step (T' := T2) (g' := (mkF m 4 #[.val (.ref a)] [(.ref o)])) st2 ?_
  refine Goes.retA X2 hx Bd.notSynchronized Bd.returns rfl rfl (hb hby d14_4) (ok rfl) (ok rfl) ?_
  rw [e2]
  exact ⟨rfl, N0, rfl⟩
theorem d16_0 : decode prog_30_method_10_code 0 = .ok (.aload_n 0, 1) := by decide +kernel
theorem d16_1 : decode prog_30_method_10_code 1 = .ok (.getfield 17, 3) := by decide +kernel
theorem d16_4 : decode prog_30_method_10_code 4 = .ok (.areturn, 1) := by decide +kernel
theorem efLi (m : MethodId) (a : Addr) : entryFrame m #[(.ref a)] 1 = mkF m 0 #[.val (.ref a)] [] := by first | (simp [entryFrame, mkF, argsToLocals, Value.category]; done) | rfl
def QLi (Z : State) (a : Addr) (o : Addr) (h0 : Heap) (n0 : Nat) (v : Option Value) (h : Heap) (L : List Loc) : Prop := v = some (.ref o) ∧ Fr n0 L ∧ h = h0
set_option maxRecDepth 65536 in
set_option maxHeartbeats 40000000 in
theorem rmLi (l : Launch) (Z : State) (a0 : Array Value) (hw : ∀ d ∈ tables_1, d.before a0 Z = true) (ws : List Jvm.Cond) (a : Addr) (o : Addr) (h0 : Heap) (n0 : Nat) (Z0 : n0 ≤ h0.size) (O0 : Old Z n0 h0) (Fa : Fld Z h0 a "org/attestry/status/StatusEntry" "list" "Ljava/lang/String;" (.ref o)) :
    MetFree l y14_ (head1 (Jvm.Cond.code y14_ prog_30_method_10_code 1 (some (.object "java/lang/String")) :: ws) ({ frames := 0, cells := 0, slots := 0, locals := 0 } : Room)) (fun aa U => aa = #[(.ref a)] ∧ Z.Warmed39 U.vm ∧ U.heap = h0) (fun _ _ _ _ _ => True) (fun _ U oo U' => ∃ vv LL, oo = .returned vv ∧ QLi Z a o h0 n0 vv U'.heap LL ∧ FrameEnd U oo U' LL ({ frames := 0, cells := 0, slots := 0, locals := 0 } : Room).cells ({ frames := 0, cells := 0, slots := 0, locals := 0 } : Room).slots) := by
  refine MetFree.of_bodySF (plainFor_of_name pn_org_attestry_status_StatusEntry) hisR ?_
  intro p e s m args below meth c s₁ Bd hml0 hP hK
  obtain ⟨rfl, hZ, hh⟩ := hP
  have hx := Bd.exec
  have hby := Bd.bytes
  have hml : c.maxLocals = 1 := hml0
  have hown : s.vm.findClass "org/attestry/status/StatusEntry" = some m.cls := findClass_of_methodNamed Bd.named
  have hnm := (name_of_methodNamed Bd.named Bd.method).1
  have X0 : Stand p l e ({ frames := 0, cells := 0, slots := 0, locals := 0 } : Room) s m #[(.ref a)] below meth c s₁ [] 0 0 := Stand.of_body Bd
  have e0 : s₁.heap = h0 := by rw [← hh, Bd.state]; rfl
  have N0 := Fr.nil n0
  refine Goes.give (Q := QLi Z a o h0 n0) ?_
  rw [efLi m a]
  have K0 : Keep h0 h0 [] := Keep.refl _ _
  refine P1.aloadN X0.here hx (hb hby d16_0) rfl rfl ?_
  obtain ⟨T3, X3, e3, st3⟩ := getF X0 hx hZ hown (host := "") (Or.inl (own_w hw 62 rfl)) Via.refl e0 Fa (g := (mkF m 1 #[.val (.ref a)] [(.ref a)])) rfl rfl (hb hby d16_1)
  refine Goes.step (T' := T3) (g' := (mkF m 4 #[.val (.ref a)] [(.ref o)])) st3 ?_
  refine Goes.retA X3 hx Bd.notSynchronized Bd.returns rfl rfl (hb hby d16_4) (ok rfl) (ok rfl) ?_
  rw [e3]
  exact ⟨rfl, N0, rfl⟩
theorem d17_0 : decode prog_30_method_11_code 0 = .ok (.aload_n 0, 1) := by decide +kernel
theorem d17_1 : decode prog_30_method_11_code 1 = .ok (.getfield 20, 3) := by decide +kernel
theorem d17_4 : decode prog_30_method_11_code 4 = .ok (.areturn, 1) := by decide +kernel
theorem efSe (m : MethodId) (a : Addr) : entryFrame m #[(.ref a)] 1 = mkF m 0 #[.val (.ref a)] [] := by first | (simp [entryFrame, mkF, argsToLocals, Value.category]; done) | rfl
def QSe (Z : State) (a : Addr) (o : Addr) (h0 : Heap) (n0 : Nat) (v : Option Value) (h : Heap) (L : List Loc) : Prop := v = some (.ref o) ∧ Fr n0 L ∧ h = h0
set_option maxRecDepth 65536 in
set_option maxHeartbeats 40000000 in
theorem rmSe (l : Launch) (Z : State) (a0 : Array Value) (hw : ∀ d ∈ tables_1, d.before a0 Z = true) (ws : List Jvm.Cond) (a : Addr) (o : Addr) (h0 : Heap) (n0 : Nat) (Z0 : n0 ≤ h0.size) (O0 : Old Z n0 h0) (Fa : Fld Z h0 a "org/attestry/status/StatusEntry" "set" "Ljava/lang/Boolean;" (.ref o)) :
    MetFree l y17_ (head1 (Jvm.Cond.code y17_ prog_30_method_11_code 1 (some (.object "java/lang/Boolean")) :: ws) ({ frames := 0, cells := 0, slots := 0, locals := 0 } : Room)) (fun aa U => aa = #[(.ref a)] ∧ Z.Warmed39 U.vm ∧ U.heap = h0) (fun _ _ _ _ _ => True) (fun _ U oo U' => ∃ vv LL, oo = .returned vv ∧ QSe Z a o h0 n0 vv U'.heap LL ∧ FrameEnd U oo U' LL ({ frames := 0, cells := 0, slots := 0, locals := 0 } : Room).cells ({ frames := 0, cells := 0, slots := 0, locals := 0 } : Room).slots) := by
  refine MetFree.of_bodySF (plainFor_of_name pn_org_attestry_status_StatusEntry) hisR ?_
  intro p e s m args below meth c s₁ Bd hml0 hP hK
  obtain ⟨rfl, hZ, hh⟩ := hP
  have hx := Bd.exec
  have hby := Bd.bytes
  have hml : c.maxLocals = 1 := hml0
  have hown : s.vm.findClass "org/attestry/status/StatusEntry" = some m.cls := findClass_of_methodNamed Bd.named
  have hnm := (name_of_methodNamed Bd.named Bd.method).1
  have X0 : Stand p l e ({ frames := 0, cells := 0, slots := 0, locals := 0 } : Room) s m #[(.ref a)] below meth c s₁ [] 0 0 := Stand.of_body Bd
  have e0 : s₁.heap = h0 := by rw [← hh, Bd.state]; rfl
  have N0 := Fr.nil n0
  refine Goes.give (Q := QSe Z a o h0 n0) ?_
  rw [efSe m a]
  have K0 : Keep h0 h0 [] := Keep.refl _ _
  refine P1.aloadN X0.here hx (hb hby d17_0) rfl rfl ?_
  obtain ⟨T4, X4, e4, st4⟩ := getF X0 hx hZ hown (host := "") (Or.inl (own_w hw 64 rfl)) Via.refl e0 Fa (g := (mkF m 1 #[.val (.ref a)] [(.ref a)])) rfl rfl (hb hby d17_1)
  refine Goes.step (T' := T4) (g' := (mkF m 4 #[.val (.ref a)] [(.ref o)])) st4 ?_
  refine Goes.retA X4 hx Bd.notSynchronized Bd.returns rfl rfl (hb hby d17_4) (ok rfl) (ok rfl) ?_
  rw [e4]
  exact ⟨rfl, N0, rfl⟩
theorem d18_0 : decode prog_30_method_12_code 0 = .ok (.aload_n 0, 1) := by decide +kernel
theorem d18_1 : decode prog_30_method_12_code 1 = .ok (.getfield 24, 3) := by decide +kernel
theorem d18_4 : decode prog_30_method_12_code 4 = .ok (.areturn, 1) := by decide +kernel
theorem efEr (m : MethodId) (a : Addr) : entryFrame m #[(.ref a)] 1 = mkF m 0 #[.val (.ref a)] [] := by first | (simp [entryFrame, mkF, argsToLocals, Value.category]; done) | rfl
def QEr (Z : State) (a : Addr) (h0 : Heap) (n0 : Nat) (v : Option Value) (h : Heap) (L : List Loc) : Prop := v = some .null ∧ Fr n0 L ∧ h = h0
set_option maxRecDepth 65536 in
set_option maxHeartbeats 40000000 in
theorem rmEr (l : Launch) (Z : State) (a0 : Array Value) (hw : ∀ d ∈ tables_1, d.before a0 Z = true) (ws : List Jvm.Cond) (a : Addr) (h0 : Heap) (n0 : Nat) (Z0 : n0 ≤ h0.size) (O0 : Old Z n0 h0) (Fa : Fld Z h0 a "org/attestry/status/StatusEntry" "error" "Ljava/lang/String;" .null) :
    MetFree l y11_ (head1 (Jvm.Cond.code y11_ prog_30_method_12_code 1 (some (.object "java/lang/String")) :: ws) ({ frames := 0, cells := 0, slots := 0, locals := 0 } : Room)) (fun aa U => aa = #[(.ref a)] ∧ Z.Warmed39 U.vm ∧ U.heap = h0) (fun _ _ _ _ _ => True) (fun _ U oo U' => ∃ vv LL, oo = .returned vv ∧ QEr Z a h0 n0 vv U'.heap LL ∧ FrameEnd U oo U' LL ({ frames := 0, cells := 0, slots := 0, locals := 0 } : Room).cells ({ frames := 0, cells := 0, slots := 0, locals := 0 } : Room).slots) := by
  refine MetFree.of_bodySF (plainFor_of_name pn_org_attestry_status_StatusEntry) hisR ?_
  intro p e s m args below meth c s₁ Bd hml0 hP hK
  obtain ⟨rfl, hZ, hh⟩ := hP
  have hx := Bd.exec
  have hby := Bd.bytes
  have hml : c.maxLocals = 1 := hml0
  have hown : s.vm.findClass "org/attestry/status/StatusEntry" = some m.cls := findClass_of_methodNamed Bd.named
  have hnm := (name_of_methodNamed Bd.named Bd.method).1
  have X0 : Stand p l e ({ frames := 0, cells := 0, slots := 0, locals := 0 } : Room) s m #[(.ref a)] below meth c s₁ [] 0 0 := Stand.of_body Bd
  have e0 : s₁.heap = h0 := by rw [← hh, Bd.state]; rfl
  have N0 := Fr.nil n0
  refine Goes.give (Q := QEr Z a h0 n0) ?_
  rw [efEr m a]
  have K0 : Keep h0 h0 [] := Keep.refl _ _
  refine P1.aloadN X0.here hx (hb hby d18_0) rfl rfl ?_
  obtain ⟨T5, X5, e5, st5⟩ := getF X0 hx hZ hown (host := "") (Or.inl (own_w hw 66 rfl)) Via.refl e0 Fa (g := (mkF m 1 #[.val (.ref a)] [(.ref a)])) rfl rfl (hb hby d18_1)
  refine Goes.step (T' := T5) (g' := (mkF m 4 #[.val (.ref a)] [.null])) st5 ?_
  refine Goes.retA X5 hx Bd.notSynchronized Bd.returns rfl rfl (hb hby d18_4) (ok rfl) (ok rfl) ?_
  rw [e5]
  exact ⟨rfl, N0, rfl⟩
theorem d15_0 : decode jdk_35_method_31_code 0 = .ok (.aload_n 0, 1) := by decide +kernel
theorem d15_1 : decode jdk_35_method_31_code 1 = .ok (.getfield 273, 3) := by decide +kernel
theorem d15_4 : decode jdk_35_method_31_code 4 = .ok (.lreturn, 1) := by decide +kernel
theorem pn_java_lang_Long : plainName "java/lang/Long" = true := by first | (simp [plainName, overriddenIn]; done) | decide +kernel
theorem efLv (m : MethodId) (a : Addr) : entryFrame m #[(.ref a)] 1 = mkF m 0 #[.val (.ref a)] [] := by first | (simp [entryFrame, mkF, argsToLocals, Value.category]; done) | rfl
def QLv (Z : State) (a : Addr) (q : Int64) (h0 : Heap) (n0 : Nat) (v : Option Value) (h : Heap) (L : List Loc) : Prop := v = some (.long q) ∧ Fr n0 L ∧ h = h0
set_option maxRecDepth 65536 in
set_option maxHeartbeats 40000000 in
theorem rmLv (l : Launch) (Z : State) (a0 : Array Value) (hw : ∀ d ∈ tables_1, d.before a0 Z = true) (ws : List Jvm.Cond) (a : Addr) (q : Int64) (h0 : Heap) (n0 : Nat) (Z0 : n0 ≤ h0.size) (O0 : Old Z n0 h0) (Fa : Fld Z h0 a "java/lang/Long" "value" "J" (.long q)) :
    MetFree l y4_ (head1 (Jvm.Cond.code y4_ jdk_35_method_31_code 1 (some .long) :: ws) ({ frames := 0, cells := 0, slots := 0, locals := 0 } : Room)) (fun aa U => aa = #[(.ref a)] ∧ Z.Warmed39 U.vm ∧ U.heap = h0) (fun _ _ _ _ _ => True) (fun _ U oo U' => ∃ vv LL, oo = .returned vv ∧ QLv Z a q h0 n0 vv U'.heap LL ∧ FrameEnd U oo U' LL ({ frames := 0, cells := 0, slots := 0, locals := 0 } : Room).cells ({ frames := 0, cells := 0, slots := 0, locals := 0 } : Room).slots) := by
  refine MetFree.of_bodySF (plainFor_of_name pn_java_lang_Long) hisR ?_
  intro p e s m args below meth c s₁ Bd hml0 hP hK
  obtain ⟨rfl, hZ, hh⟩ := hP
  have hx := Bd.exec
  have hby := Bd.bytes
  have hml : c.maxLocals = 1 := hml0
  have hown : s.vm.findClass "java/lang/Long" = some m.cls := findClass_of_methodNamed Bd.named
  have hnm := (name_of_methodNamed Bd.named Bd.method).1
  have X0 : Stand p l e ({ frames := 0, cells := 0, slots := 0, locals := 0 } : Room) s m #[(.ref a)] below meth c s₁ [] 0 0 := Stand.of_body Bd
  have e0 : s₁.heap = h0 := by rw [← hh, Bd.state]; rfl
  have N0 := Fr.nil n0
  refine Goes.give (Q := QLv Z a q h0 n0) ?_
  rw [efLv m a]
  have K0 : Keep h0 h0 [] := Keep.refl _ _
  refine P1.aloadN X0.here hx (hb hby d15_0) rfl rfl ?_
  obtain ⟨T6, X6, e6, st6⟩ := getF X0 hx hZ hown (host := "") (Or.inl (own_w hw 88 rfl)) Via.refl e0 Fa (g := (mkF m 1 #[.val (.ref a)] [(.ref a)])) rfl rfl (hb hby d15_1)
  refine Goes.step (T' := T6) (g' := (mkF m 4 #[.val (.ref a)] [(.long q)])) st6 ?_
  refine Goes.retJ X6 hx Bd.notSynchronized Bd.returns (hb hby d15_4) (ok rfl) (ok rfl) ?_
  rw [e6]
  exact ⟨rfl, N0, rfl⟩
theorem d21_0 : decode jdk_2055_method_4_code 0 = .ok (.aload_n 0, 1) := by decide +kernel
theorem d21_1 : decode jdk_2055_method_4_code 1 = .ok (.getfield 7, 3) := by decide +kernel
theorem d21_4 : decode jdk_2055_method_4_code 4 = .ok (.ireturn, 1) := by decide +kernel
theorem pn_java_lang_Boolean : plainName "java/lang/Boolean" = true := by first | (simp [plainName, overriddenIn]; done) | decide +kernel
theorem efBv (m : MethodId) (a : Addr) : entryFrame m #[(.ref a)] 1 = mkF m 0 #[.val (.ref a)] [] := by first | (simp [entryFrame, mkF, argsToLocals, Value.category]; done) | rfl
def QBv (Z : State) (a : Addr) (q : Int32) (h0 : Heap) (n0 : Nat) (v : Option Value) (h : Heap) (L : List Loc) : Prop := v = some (.int (nar .boolean q)) ∧ Fr n0 L ∧ h = h0
set_option maxRecDepth 65536 in
set_option maxHeartbeats 40000000 in
theorem rmBv (l : Launch) (Z : State) (a0 : Array Value) (hw : ∀ d ∈ tables_1, d.before a0 Z = true) (ws : List Jvm.Cond) (a : Addr) (q : Int32) (h0 : Heap) (n0 : Nat) (Z0 : n0 ≤ h0.size) (O0 : Old Z n0 h0) (Fa : Fld Z h0 a "java/lang/Boolean" "value" "Z" (.int q)) :
    MetFree l y0_ (head1 (Jvm.Cond.code y0_ jdk_2055_method_4_code 1 (some .boolean) :: ws) ({ frames := 0, cells := 0, slots := 0, locals := 0 } : Room)) (fun aa U => aa = #[(.ref a)] ∧ Z.Warmed39 U.vm ∧ U.heap = h0) (fun _ _ _ _ _ => True) (fun _ U oo U' => ∃ vv LL, oo = .returned vv ∧ QBv Z a q h0 n0 vv U'.heap LL ∧ FrameEnd U oo U' LL ({ frames := 0, cells := 0, slots := 0, locals := 0 } : Room).cells ({ frames := 0, cells := 0, slots := 0, locals := 0 } : Room).slots) := by
  refine MetFree.of_bodySF (plainFor_of_name pn_java_lang_Boolean) hisR ?_
  intro p e s m args below meth c s₁ Bd hml0 hP hK
  obtain ⟨rfl, hZ, hh⟩ := hP
  have hx := Bd.exec
  have hby := Bd.bytes
  have hml : c.maxLocals = 1 := hml0
  have hown : s.vm.findClass "java/lang/Boolean" = some m.cls := findClass_of_methodNamed Bd.named
  have hnm := (name_of_methodNamed Bd.named Bd.method).1
  have X0 : Stand p l e ({ frames := 0, cells := 0, slots := 0, locals := 0 } : Room) s m #[(.ref a)] below meth c s₁ [] 0 0 := Stand.of_body Bd
  have e0 : s₁.heap = h0 := by rw [← hh, Bd.state]; rfl
  have N0 := Fr.nil n0
  refine Goes.give (Q := QBv Z a q h0 n0) ?_
  rw [efBv m a]
  have K0 : Keep h0 h0 [] := Keep.refl _ _
  refine P1.aloadN X0.here hx (hb hby d21_0) rfl rfl ?_
  obtain ⟨T7, X7, e7, st7⟩ := getF X0 hx hZ hown (host := "") (Or.inl (own_w hw 118 rfl)) Via.refl e0 Fa (g := (mkF m 1 #[.val (.ref a)] [(.ref a)])) rfl rfl (hb hby d21_1)
  refine Goes.step (T' := T7) (g' := (mkF m 4 #[.val (.ref a)] [(.int q)])) st7 ?_
  refine Goes.retN X7 hx Bd.notSynchronized (t := .boolean) Bd.returns (by simp) (hb hby d21_4) (ok rfl) (ok rfl) ?_
  rw [e7]
  exact ⟨rfl, N0, rfl⟩
theorem d13_0 : decode jdk_42_method_66_code 0 = .ok (.aload_n 0, 1) := by decide +kernel
theorem d13_1 : decode jdk_42_method_66_code 1 = .ok (.aload_n 1, 1) := by decide +kernel
theorem d13_2 : decode jdk_42_method_66_code 2 = .ok (.if_acmp .ne 5, 3) := by decide +kernel
theorem d13_5 : decode jdk_42_method_66_code 5 = .ok (.iconst 1, 1) := by decide +kernel
theorem d13_6 : decode jdk_42_method_66_code 6 = .ok (.ireturn, 1) := by decide +kernel
theorem d13_7 : decode jdk_42_method_66_code 7 = .ok (.aload_n 1, 1) := by decide +kernel
theorem d13_8 : decode jdk_42_method_66_code 8 = .ok (.instanceof 10, 3) := by decide +kernel
theorem d13_11 : decode jdk_42_method_66_code 11 = .ok (.ifCond .eq 43, 3) := by decide +kernel
theorem d13_14 : decode jdk_42_method_66_code 14 = .ok (.aload_n 1, 1) := by decide +kernel
theorem d13_15 : decode jdk_42_method_66_code 15 = .ok (.checkcast 10, 3) := by decide +kernel
theorem d13_18 : decode jdk_42_method_66_code 18 = .ok (.astore_n 2, 1) := by decide +kernel
theorem d13_19 : decode jdk_42_method_66_code 19 = .ok (.getstatic 38, 3) := by decide +kernel
theorem d13_22 : decode jdk_42_method_66_code 22 = .ok (.ifCond .eq 14, 3) := by decide +kernel
theorem d13_25 : decode jdk_42_method_66_code 25 = .ok (.aload_n 0, 1) := by decide +kernel
theorem d13_26 : decode jdk_42_method_66_code 26 = .ok (.getfield 15, 3) := by decide +kernel
theorem d13_29 : decode jdk_42_method_66_code 29 = .ok (.aload_n 2, 1) := by decide +kernel
theorem d13_30 : decode jdk_42_method_66_code 30 = .ok (.getfield 15, 3) := by decide +kernel
theorem d13_33 : decode jdk_42_method_66_code 33 = .ok (.if_icmp .ne 21, 3) := by decide +kernel
theorem d13_36 : decode jdk_42_method_66_code 36 = .ok (.aload_n 0, 1) := by decide +kernel
theorem d13_37 : decode jdk_42_method_66_code 37 = .ok (.getfield 9, 3) := by decide +kernel
theorem d13_40 : decode jdk_42_method_66_code 40 = .ok (.aload_n 2, 1) := by decide +kernel
theorem d13_41 : decode jdk_42_method_66_code 41 = .ok (.getfield 9, 3) := by decide +kernel
theorem d13_44 : decode jdk_42_method_66_code 44 = .ok (.invokestatic 541, 3) := by decide +kernel
theorem d13_47 : decode jdk_42_method_66_code 47 = .ok (.ifCond .eq 7, 3) := by decide +kernel
theorem d13_50 : decode jdk_42_method_66_code 50 = .ok (.iconst 1, 1) := by decide +kernel
theorem d13_51 : decode jdk_42_method_66_code 51 = .ok (.goto 4, 3) := by decide +kernel
theorem d13_54 : decode jdk_42_method_66_code 54 = .ok (.iconst 0, 1) := by decide +kernel
theorem d13_55 : decode jdk_42_method_66_code 55 = .ok (.ireturn, 1) := by decide +kernel
theorem pn_java_lang_String : plainName "java/lang/String" = true := by first | (simp [plainName, overriddenIn]; done) | decide +kernel
theorem efEq (m : MethodId) (a : Addr) (a : Addr) : entryFrame m #[(.ref a), (.ref a)] 3 = mkF m 0 #[.val (.ref a), .val (.ref a), .unset] [] := by first | (simp [entryFrame, mkF, argsToLocals, Value.category]; done) | rfl
def QEq (Z : State) (a : Addr) (h0 : Heap) (n0 : Nat) (v : Option Value) (h : Heap) (L : List Loc) : Prop := v = some (.int 1) ∧ Fr n0 L ∧ h = h0
set_option maxRecDepth 65536 in
set_option maxHeartbeats 40000000 in
theorem rmEq (l : Launch) (Z : State) (a0 : Array Value) (hw : ∀ d ∈ tables_1, d.before a0 Z = true) (ws : List Jvm.Cond) (a : Addr) (h0 : Heap) (n0 : Nat) (Z0 : n0 ≤ h0.size) (O0 : Old Z n0 h0) :
    MetFree l y9_ (head1 (Jvm.Cond.code y9_ jdk_42_method_66_code 3 (some .boolean) :: ws) ({ frames := 0, cells := 0, slots := 0, locals := 0 } : Room)) (fun aa U => aa = #[(.ref a), (.ref a)] ∧ Z.Warmed39 U.vm ∧ U.heap = h0) (fun _ _ _ _ _ => True) (fun _ U oo U' => ∃ vv LL, oo = .returned vv ∧ QEq Z a h0 n0 vv U'.heap LL ∧ FrameEnd U oo U' LL ({ frames := 0, cells := 0, slots := 0, locals := 0 } : Room).cells ({ frames := 0, cells := 0, slots := 0, locals := 0 } : Room).slots) := by
  refine MetFree.of_bodySF (plainFor_of_name pn_java_lang_String) hisR ?_
  intro p e s m args below meth c s₁ Bd hml0 hP hK
  obtain ⟨rfl, hZ, hh⟩ := hP
  have hx := Bd.exec
  have hby := Bd.bytes
  have hml : c.maxLocals = 3 := hml0
  have hown : s.vm.findClass "java/lang/String" = some m.cls := findClass_of_methodNamed Bd.named
  have hnm := (name_of_methodNamed Bd.named Bd.method).1
  have X0 : Stand p l e ({ frames := 0, cells := 0, slots := 0, locals := 0 } : Room) s m #[(.ref a), (.ref a)] below meth c s₁ [] 0 0 := Stand.of_body Bd
  have e0 : s₁.heap = h0 := by rw [← hh, Bd.state]; rfl
  have N0 := Fr.nil n0
  refine Goes.give (Q := QEq Z a h0 n0) ?_
  rw [efEq m a a]
  have K0 : Keep h0 h0 [] := Keep.refl _ _
  refine P1.aloadN X0.here hx (hb hby d13_0) rfl rfl ?_
  refine P1.aloadN X0.here hx (hb hby d13_1) rfl rfl ?_
  refine Goes.step (T' := s₁) (g' := (mkF m 5 #[.val (.ref a), .val (.ref a), .unset] [])) (fun t k => Jvm.RoadKit.acmp (g := (mkF m 2 #[.val (.ref a), .val (.ref a), .unset] [(.ref a), (.ref a)])) X0 hx rfl rfl rfl (pc0 := 2) (pc' := 5) (same := true) rfl (hb hby d13_2) rfl (decide_eq_true rfl) (by decide) (by decide) k) ?_
  refine P1.iconst X0.here hx (1 : Int32) (hb hby d13_5) rfl ?_
  refine Goes.retN X0 hx Bd.notSynchronized (t := .boolean) Bd.returns (by simp) (hb hby d13_6) (ok rfl) (ok rfl) ?_
  rw [e0]
  exact ⟨rfl, N0, rfl⟩
theorem d11_0 : decode jdk_30_method_1_code 0 = .ok (.aload_n 0, 1) := by decide +kernel
theorem d11_1 : decode jdk_30_method_1_code 1 = .ok (.invokespecial 1, 3) := by decide +kernel
theorem d11_4 : decode jdk_30_method_1_code 4 = .ok (.return_, 1) := by decide +kernel
theorem pn_java_lang_Record : plainName "java/lang/Record" = true := by first | (simp [plainName, overriddenIn]; done) | decide +kernel
theorem efRec (m : MethodId) (a : Addr) : entryFrame m #[(.ref a)] 1 = mkF m 0 #[.val (.ref a)] [] := by first | (simp [entryFrame, mkF, argsToLocals, Value.category]; done) | rfl
def QRec (Z : State) (a : Addr) (h0 : Heap) (n0 : Nat) (v : Option Value) (h : Heap) (L : List Loc) : Prop := v = none ∧ Fr n0 L ∧ h = h0
set_option maxRecDepth 65536 in
set_option maxHeartbeats 40000000 in
theorem rmRec (l : Launch) (Z : State) (a0 : Array Value) (hw : ∀ d ∈ tables_1, d.before a0 Z = true) (ws : List Jvm.Cond) (a : Addr) (h0 : Heap) (n0 : Nat) (Z0 : n0 ≤ h0.size) (O0 : Old Z n0 h0) :
    MetFree l y7_ (head1 (Jvm.Cond.code y7_ jdk_30_method_1_code 1 none :: ws) ({ frames := 1, cells := 0, slots := 0, locals := 12 } : Room)) (fun aa U => aa = #[(.ref a)] ∧ Z.Warmed39 U.vm ∧ U.heap = h0) (fun _ _ _ _ _ => True) (fun _ U oo U' => ∃ vv LL, oo = .returned vv ∧ QRec Z a h0 n0 vv U'.heap LL ∧ FrameEnd U oo U' LL ({ frames := 1, cells := 0, slots := 0, locals := 12 } : Room).cells ({ frames := 1, cells := 0, slots := 0, locals := 12 } : Room).slots) := by
  refine MetFree.of_bodySF (plainFor_of_name pn_java_lang_Record) hisR ?_
  intro p e s m args below meth c s₁ Bd hml0 hP hK
  obtain ⟨rfl, hZ, hh⟩ := hP
  have hx := Bd.exec
  have hby := Bd.bytes
  have hml : c.maxLocals = 1 := hml0
  have hown : s.vm.findClass "java/lang/Record" = some m.cls := findClass_of_methodNamed Bd.named
  have hnm := (name_of_methodNamed Bd.named Bd.method).1
  have X0 : Stand p l e ({ frames := 1, cells := 0, slots := 0, locals := 12 } : Room) s m #[(.ref a)] below meth c s₁ [] 0 0 := Stand.of_body Bd
  have e0 : s₁.heap = h0 := by rw [← hh, Bd.state]; rfl
  have N0 := Fr.nil n0
  refine Goes.give (Q := QRec Z a h0 n0) ?_
  rw [efRec m a]
  have K0 : Keep h0 h0 [] := Keep.refl _ _
  refine P1.aloadN X0.here hx (hb hby d11_0) rfl rfl ?_
  obtain ⟨T8, X8, e8, st8⟩ := initO X0 hx hZ hown (own_w hw 57 rfl) (own_w hw 12 rfl) (own_w hw 13 rfl) e0 (g := (mkF m 1 #[.val (.ref a)] [(.ref a)])) rfl (by rw [hml]; rfl) rfl (hb hby d11_1) (by decide) (W := 0) (by show 2 * 0 + _ ≤ _; exact Nat.le_of_eq rfl) (by decide)
  refine Goes.step (T' := T8) (g' := (mkF m 4 #[.val (.ref a)] [])) st8 ?_
  refine Goes.retV X8 hx Bd.notSynchronized Bd.returns (hb hby d11_4) (ok rfl) (ok rfl) ?_
  rw [e8]
  exact ⟨rfl, N0, rfl⟩
theorem d23_0 : decode jdk_18_method_1_code 0 = .ok (.aload_n 0, 1) := by decide +kernel
theorem d23_1 : decode jdk_18_method_1_code 1 = .ok (.invokespecial 1, 3) := by decide +kernel
theorem d23_4 : decode jdk_18_method_1_code 4 = .ok (.return_, 1) := by decide +kernel
theorem pn_java_lang_Number : plainName "java/lang/Number" = true := by first | (simp [plainName, overriddenIn]; done) | decide +kernel
theorem efNum (m : MethodId) (a : Addr) : entryFrame m #[(.ref a)] 1 = mkF m 0 #[.val (.ref a)] [] := by first | (simp [entryFrame, mkF, argsToLocals, Value.category]; done) | rfl
def QNum (Z : State) (a : Addr) (h0 : Heap) (n0 : Nat) (v : Option Value) (h : Heap) (L : List Loc) : Prop := v = none ∧ Fr n0 L ∧ h = h0
set_option maxRecDepth 65536 in
set_option maxHeartbeats 40000000 in
theorem rmNum (l : Launch) (Z : State) (a0 : Array Value) (hw : ∀ d ∈ tables_1, d.before a0 Z = true) (ws : List Jvm.Cond) (a : Addr) (h0 : Heap) (n0 : Nat) (Z0 : n0 ≤ h0.size) (O0 : Old Z n0 h0) :
    MetFree l y6_ (head1 (Jvm.Cond.code y6_ jdk_18_method_1_code 1 none :: ws) ({ frames := 1, cells := 0, slots := 0, locals := 12 } : Room)) (fun aa U => aa = #[(.ref a)] ∧ Z.Warmed39 U.vm ∧ U.heap = h0) (fun _ _ _ _ _ => True) (fun _ U oo U' => ∃ vv LL, oo = .returned vv ∧ QNum Z a h0 n0 vv U'.heap LL ∧ FrameEnd U oo U' LL ({ frames := 1, cells := 0, slots := 0, locals := 12 } : Room).cells ({ frames := 1, cells := 0, slots := 0, locals := 12 } : Room).slots) := by
  refine MetFree.of_bodySF (plainFor_of_name pn_java_lang_Number) hisR ?_
  intro p e s m args below meth c s₁ Bd hml0 hP hK
  obtain ⟨rfl, hZ, hh⟩ := hP
  have hx := Bd.exec
  have hby := Bd.bytes
  have hml : c.maxLocals = 1 := hml0
  have hown : s.vm.findClass "java/lang/Number" = some m.cls := findClass_of_methodNamed Bd.named
  have hnm := (name_of_methodNamed Bd.named Bd.method).1
  have X0 : Stand p l e ({ frames := 1, cells := 0, slots := 0, locals := 12 } : Room) s m #[(.ref a)] below meth c s₁ [] 0 0 := Stand.of_body Bd
  have e0 : s₁.heap = h0 := by rw [← hh, Bd.state]; rfl
  have N0 := Fr.nil n0
  refine Goes.give (Q := QNum Z a h0 n0) ?_
  rw [efNum m a]
  have K0 : Keep h0 h0 [] := Keep.refl _ _
  refine P1.aloadN X0.here hx (hb hby d23_0) rfl rfl ?_
  obtain ⟨T9, X9, e9, st9⟩ := initO X0 hx hZ hown (own_w hw 139 rfl) (own_w hw 12 rfl) (own_w hw 13 rfl) e0 (g := (mkF m 1 #[.val (.ref a)] [(.ref a)])) rfl (by rw [hml]; rfl) rfl (hb hby d23_1) (by decide) (W := 0) (by show 2 * 0 + _ ≤ _; exact Nat.le_of_eq rfl) (by decide)
  refine Goes.step (T' := T9) (g' := (mkF m 4 #[.val (.ref a)] [])) st9 ?_
  refine Goes.retV X9 hx Bd.notSynchronized Bd.returns (hb hby d23_4) (ok rfl) (ok rfl) ?_
  rw [e9]
  exact ⟨rfl, N0, rfl⟩
theorem d22_0 : decode jdk_35_method_26_code 0 = .ok (.aload_n 0, 1) := by decide +kernel
theorem d22_1 : decode jdk_35_method_26_code 1 = .ok (.invokespecial 270, 3) := by decide +kernel
theorem d22_4 : decode jdk_35_method_26_code 4 = .ok (.aload_n 0, 1) := by decide +kernel
theorem d22_5 : decode jdk_35_method_26_code 5 = .ok (.lload_n 1, 1) := by decide +kernel
theorem d22_6 : decode jdk_35_method_26_code 6 = .ok (.putfield 273, 3) := by decide +kernel
theorem d22_9 : decode jdk_35_method_26_code 9 = .ok (.return_, 1) := by decide +kernel
theorem pd_380 : parseMethodDescriptor "()V" = some ⟨[], none⟩ := by decide +kernel
theorem efLI (m : MethodId) (a : Addr) (q : Int64) : entryFrame m #[(.ref a), (.long q)] 3 = mkF m 0 #[.val (.ref a), .val (.long q), .second] [] := by first | (simp [entryFrame, mkF, argsToLocals, Value.category]; done) | rfl
def QLI (Z : State) (a : Addr) (q : Int64) (h0 : Heap) (n0 : Nat) (v : Option Value) (h : Heap) (L : List Loc) : Prop := v = none ∧ Fr n0 L ∧ Keep h0 h [a] ∧ Exa Z h a "java/lang/Long" ∧ Fld Z h a "java/lang/Long" "value" "J" (.long q)
set_option maxRecDepth 65536 in
set_option maxHeartbeats 40000000 in
theorem rmLI (l : Launch) (Z : State) (a0 : Array Value) (hw : ∀ d ∈ tables_1, d.before a0 Z = true) (ws : List Jvm.Cond) (a : Addr) (q : Int64) (h0 : Heap) (n0 : Nat) (Z0 : n0 ≤ h0.size) (O0 : Old Z n0 h0) (ga : n0 ≤ a) (Ea : Exa Z h0 a "java/lang/Long") (Fa : Fld Z h0 a "java/lang/Long" "value" "J" (.long (0 : Int64))) :
    MetFree l y3_ (head1 (Jvm.Cond.code y3_ jdk_35_method_26_code 3 none :: ws) ({ frames := 2, cells := 0, slots := 0, locals := 24 } : Room)) (fun aa U => aa = #[(.ref a), (.long q)] ∧ Z.Warmed39 U.vm ∧ U.heap = h0) (fun _ _ _ _ _ => True) (fun _ U oo U' => ∃ vv LL, oo = .returned vv ∧ QLI Z a q h0 n0 vv U'.heap LL ∧ FrameEnd U oo U' LL ({ frames := 2, cells := 0, slots := 0, locals := 24 } : Room).cells ({ frames := 2, cells := 0, slots := 0, locals := 24 } : Room).slots) := by
  refine MetFree.of_bodySF (plainFor_of_name pn_java_lang_Long) hisR ?_
  intro p e s m args below meth c s₁ Bd hml0 hP hK
  obtain ⟨rfl, hZ, hh⟩ := hP
  have hx := Bd.exec
  have hby := Bd.bytes
  have hml : c.maxLocals = 3 := hml0
  have hown : s.vm.findClass "java/lang/Long" = some m.cls := findClass_of_methodNamed Bd.named
  have hnm := (name_of_methodNamed Bd.named Bd.method).1
  have X0 : Stand p l e ({ frames := 2, cells := 0, slots := 0, locals := 24 } : Room) s m #[(.ref a), (.long q)] below meth c s₁ [] 0 0 := Stand.of_body Bd
  have e0 : s₁.heap = h0 := by rw [← hh, Bd.state]; rfl
  have N0 := Fr.nil n0
  refine Goes.give (Q := QLI Z a q h0 n0) ?_
  rw [efLI m a q]
  have K0 : Keep h0 h0 [] := Keep.refl _ _
  have K0 : Keep h0 h0 [a] := Keep.refl _ _
  refine P1.aloadN X0.here hx (hb hby d22_0) rfl rfl ?_
  refine Goes.callC X0 hx (y := y6_) rfl hown (mvT hZ (own_w hw 133 rfl)) (mvT hZ (own_w hw 134 rfl)) (mvT hZ (own_w hw 138 rfl)) (by decide) (kc' := 0) (ks' := 0) (backOf (W := 0) (rmNum l Z a0 hw [] a h0 n0 Z0 O0 ) hZ (own_w hw 138 rfl) (own_w hw 137 rfl) (ok rfl) (ok rfl)) (g := (mkF m 1 #[.val (.ref a), .val (.long q), .second] [(.ref a)])) (a := a) rfl (by rw [hml]; rfl) (argsL := []) (rest := []) (lenOf pd_380 rfl) rfl (by show 2 * 0 + _ ≤ _; exact Nat.le_of_eq rfl) (hb hby d22_1) rfl e0 (ok rfl) (ok rfl) ?_
  intro v10 T10 L10 q10 X10
  obtain ⟨rfl, N10q, hE10⟩ := q10
  have N10 := Fr.app N0 N10q
  show Goes p e below _ T10 (mkF m 4 #[.val (.ref a), .val (.long q), .second] [])
  refine P1.aloadN X10.here hx (hb hby d22_4) rfl rfl ?_
  refine P1.lloadN X10.here hx (hb hby d22_5) rfl ?_
  obtain ⟨T11, h11, X11, e11, W11, st11⟩ := putF X10 hx hZ hown (host := "") (Or.inl (own_w hw 88 rfl)) Via.refl hE10 Fa Ea (Or.inr ⟨(own_w hw 89 rfl), rfl, hnm⟩) (own_w hw 128 rfl) (ty := .long) (by decide) rfl rfl (g := (mkF m 6 #[.val (.ref a), .val (.long q), .second] [(.long q), (.ref a)])) rfl rfl (hb hby d22_6)
  have Fw11 : Fld Z h11 a "java/lang/Long" "value" "J" (.long q) := Fa.same W11
  have N11 := Fr.snoc X11 N10 ga
  refine Goes.step (T' := T11) (g' := (mkF m 9 #[.val (.ref a), .val (.long q), .second] [])) st11 ?_
  refine Goes.retV X11 hx Bd.notSynchronized Bd.returns (hb hby d22_9) (ok rfl) (ok rfl) ?_
  rw [e11]
  have K12 : Keep h0 h11 [a] := K0.wr W11 (Or.inl (by simp))
  have E13 : Exa Z h11 a "java/lang/Long" := Ea.wr W11
  exact ⟨rfl, N11, K12, E13, Fw11⟩
theorem d8_0 : decode jdk_35_method_24_code 0 = .ok (.sipush 128, 3) := by decide +kernel
theorem d8_3 : decode jdk_35_method_24_code 3 = .ok (.istore_n 2, 1) := by decide +kernel
theorem d8_4 : decode jdk_35_method_24_code 4 = .ok (.lload_n 0, 1) := by decide +kernel
theorem d8_5 : decode jdk_35_method_24_code 5 = .ok (.ldc2_w 230, 3) := by decide +kernel
theorem d8_8 : decode jdk_35_method_24_code 8 = .ok (.lcmp, 1) := by decide +kernel
theorem d8_9 : decode jdk_35_method_24_code 9 = .ok (.ifCond .lt 22, 3) := by decide +kernel
theorem d8_12 : decode jdk_35_method_24_code 12 = .ok (.lload_n 0, 1) := by decide +kernel
theorem d8_13 : decode jdk_35_method_24_code 13 = .ok (.ldc2_w 232, 3) := by decide +kernel
theorem d8_16 : decode jdk_35_method_24_code 16 = .ok (.lcmp, 1) := by decide +kernel
theorem d8_17 : decode jdk_35_method_24_code 17 = .ok (.ifCond .gt 14, 3) := by decide +kernel
theorem d8_20 : decode jdk_35_method_24_code 20 = .ok (.getstatic 234, 3) := by decide +kernel
theorem d8_23 : decode jdk_35_method_24_code 23 = .ok (.lload_n 0, 1) := by decide +kernel
theorem d8_24 : decode jdk_35_method_24_code 24 = .ok (.l2i, 1) := by decide +kernel
theorem d8_25 : decode jdk_35_method_24_code 25 = .ok (.sipush 128, 3) := by decide +kernel
theorem d8_28 : decode jdk_35_method_24_code 28 = .ok (.iadd, 1) := by decide +kernel
theorem d8_29 : decode jdk_35_method_24_code 29 = .ok (.aaload, 1) := by decide +kernel
theorem d8_30 : decode jdk_35_method_24_code 30 = .ok (.areturn, 1) := by decide +kernel
theorem d8_31 : decode jdk_35_method_24_code 31 = .ok (.new 1, 3) := by decide +kernel
theorem d8_34 : decode jdk_35_method_24_code 34 = .ok (.dup, 1) := by decide +kernel
theorem d8_35 : decode jdk_35_method_24_code 35 = .ok (.lload_n 0, 1) := by decide +kernel
theorem d8_36 : decode jdk_35_method_24_code 36 = .ok (.invokespecial 240, 3) := by decide +kernel
theorem d8_39 : decode jdk_35_method_24_code 39 = .ok (.areturn, 1) := by decide +kernel
theorem pd_655 : parseMethodDescriptor "(J)V" = some ⟨[.long], none⟩ := by decide +kernel
theorem efLV (m : MethodId) (q : Int64) : entryFrame m #[(.long q)] 3 = mkF m 0 #[.val (.long q), .second, .unset] [] := by first | (simp [entryFrame, mkF, argsToLocals, Value.category]; done) | rfl
def QLV (Z : State) (q : Int64) (zc : Int32) (fm : Value) (bf : Addr) (bt : Addr) (ca : Addr) (cl_ca : Cell) (h0 : Heap) (n0 : Nat) (v : Option Value) (h : Heap) (L : List Loc) : Prop := ∃ a, v = some (.ref a) ∧ Fr n0 L ∧ Keep h0 h [] ∧ Exa Z h a "java/lang/Long" ∧ Fld Z h a "java/lang/Long" "value" "J" (.long q)
set_option maxRecDepth 65536 in
set_option maxHeartbeats 40000000 in
theorem rmLV (l : Launch) (Z : State) (a0 : Array Value) (hw : ∀ d ∈ tables_1, d.before a0 Z = true) (ws : List Jvm.Cond) (q : Int64) (zc : Int32) (fm : Value) (bf : Addr) (bt : Addr) (ca : Addr) (cl_ca : Cell) (h0 : Heap) (n0 : Nat) (Z0 : n0 ≤ h0.size) (O0 : Old Z n0 h0) (S_CS : Sta Z Z.heap "java/lang/String" "COMPACT_STRINGS" "Z" (.int zc)) (hzc : ¬ zc = 0) (S_FM : Sta Z Z.heap "jdk/internal/util/Preconditions" "SIOOBE_FORMATTER" "Ljava/util/function/BiFunction;" fm) (hfm : fm.isRef = true) (S_bf : Sta Z Z.heap "java/lang/Boolean" "FALSE" "Ljava/lang/Boolean;" (.ref bf)) (E_bf : Exa Z Z.heap bf "java/lang/Boolean") (F_bf : Fld Z Z.heap bf "java/lang/Boolean" "value" "Z" (.int (0 : Int32))) (S_bt : Sta Z Z.heap "java/lang/Boolean" "TRUE" "Ljava/lang/Boolean;" (.ref bt)) (E_bt : Exa Z Z.heap bt "java/lang/Boolean") (F_bt : Fld Z Z.heap bt "java/lang/Boolean" "value" "Z" (.int (1 : Int32))) (S_ca : Sta Z Z.heap "java/lang/Long$LongCache" "cache" "[Ljava/lang/Long;" (.ref ca)) (Ar_ca : Arr Z Z.heap ca cl_ca (.object "java/lang/Long")) (le_ca : cl_ca.slots.size = 256) (H_ca : ∀ j : Int32, ¬ j < 0 → j < 256 → ∃ a : Addr, cl_ca.slots[j.toNatClampNeg]? = some (.ref a) ∧ Exa Z Z.heap a "java/lang/Long" ∧ Fld Z Z.heap a "java/lang/Long" "value" "J" (.long (j - 128).toInt64)) :
    MetFree l y5_ (head1 (Jvm.Cond.code y5_ jdk_35_method_24_code 3 (some (.object "java/lang/Long")) :: ws) ({ frames := 3, cells := 1, slots := 1, locals := 39 } : Room)) (fun aa U => aa = #[(.long q)] ∧ Z.Warmed39 U.vm ∧ U.heap = h0) (fun _ _ _ _ _ => True) (fun _ U oo U' => ∃ vv LL, oo = .returned vv ∧ QLV Z q zc fm bf bt ca cl_ca h0 n0 vv U'.heap LL ∧ FrameEnd U oo U' LL ({ frames := 3, cells := 1, slots := 1, locals := 39 } : Room).cells ({ frames := 3, cells := 1, slots := 1, locals := 39 } : Room).slots) := by
  refine MetFree.of_bodySF (plainFor_of_name pn_java_lang_Long) hisR ?_
  intro p e s m args below meth c s₁ Bd hml0 hP hK
  obtain ⟨rfl, hZ, hh⟩ := hP
  have hx := Bd.exec
  have hby := Bd.bytes
  have hml : c.maxLocals = 3 := hml0
  have hown : s.vm.findClass "java/lang/Long" = some m.cls := findClass_of_methodNamed Bd.named
  have hnm := (name_of_methodNamed Bd.named Bd.method).1
  have X0 : Stand p l e ({ frames := 3, cells := 1, slots := 1, locals := 39 } : Room) s m #[(.long q)] below meth c s₁ [] 0 0 := Stand.of_body Bd
  have e0 : s₁.heap = h0 := by rw [← hh, Bd.state]; rfl
  have N0 := Fr.nil n0
  refine Goes.give (Q := QLV Z q zc fm bf bt ca cl_ca h0 n0) ?_
  rw [efLV m q]
  have K0 : Keep h0 h0 [] := Keep.refl _ _
  refine P1.sipush X0.here hx (128 : Int32) (hb hby d8_0) rfl ?_
  refine P1.istoreN X0.here hx #[.val (.long q), .second, .val (.int (128 : Int32))] (hb hby d8_3) rfl ?_
  refine P1.lloadN X0.here hx (hb hby d8_4) rfl ?_
  refine Goes.step (T' := s₁) (g' := (mkF m 8 #[.val (.long q), .second, .val (.int (128 : Int32))] [(.long (-128 : Int64)), (.long q)])) (fun t k => X0.ldc2Long hx hown (mvT hZ (own_w hw 40 rfl)) (g := (mkF m 5 #[.val (.long q), .second, .val (.int (128 : Int32))] [(.long q)])) rfl (hb hby d8_5) t k) ?_
  refine Goes.step (T' := s₁) (g' := (mkF m 9 #[.val (.long q), .second, .val (.int (128 : Int32))] [(.int (lcmpW q (-128 : Int64)))])) (fun t k => XS.lcmp X0.here hx rfl (hb hby d8_8) rfl k) ?_
  by_cases hb0 : (lcmpW q (-128 : Int64)) < (0 : Int32)
  ·
    refine Goes.step (T' := s₁) (g' := (mkF m 31 #[.val (.long q), .second, .val (.int (128 : Int32))] [])) (fun t k => XS.ifYes X0.here hx rfl (pc0 := 9) (pc' := 31) rfl (hb hby d8_9) rfl ((if0 _ _).trans (tlt (hb0 : (lcmpW q (-128 : Int64)) < (0 : Int32))).1) (by decide) (by decide) k) ?_
    obtain ⟨T14, h14, X14, e14, E14, A14, D14, -, st14⟩ := newO X0 hx hZ hown (own_w hw 127 rfl) (own_w hw 128 rfl) (own_w hw 38 rfl) e0 (g := (mkF m 31 #[.val (.long q), .second, .val (.int (128 : Int32))] [])) rfl (hb hby d8_31) (ok rfl) (ok rfl)
    obtain ⟨b14, g14⟩ : ∃ z, z = h0.size := ⟨_, rfl⟩
    rw [← g14] at A14 D14 st14
    have ge_b14 : n0 ≤ b14 := Nat.le_trans Z0 (Nat.le_of_eq g14.symm)
    have sz_b14 : h0.size ≤ b14 := Nat.le_trans K0.1 (Nat.le_of_eq g14.symm)
    have F14_value : Fld Z h14 b14 "java/lang/Long" "value" "J" (.long (0 : Int64)) := D14 (Or.inr (own_w hw 89 rfl)) (ty := .long) (by decide)
    refine Goes.step (T' := T14) (g' := (mkF m 34 #[.val (.long q), .second, .val (.int (128 : Int32))] [(.ref b14)])) st14 ?_
    refine P1.dup X14.here hx (hb hby d8_34) rfl ?_
    refine P1.lloadN X14.here hx (hb hby d8_35) rfl ?_
    have Z15 : n0 ≤ h14.size := Nat.le_trans Z0 E14.1
    have O16 : Old Z n0 h14 := O0.ext E14
    refine Goes.callC X14 hx (y := y3_) rfl hown (mvT hZ (own_w hw 129 rfl)) (mvT hZ (own_w hw 130 rfl)) (mvT hZ (own_w hw 132 rfl)) (by decide) (kc' := 0) (ks' := 0) (backOf (W := 1) (rmLI l Z a0 hw [] b14 q h14 n0 Z15 O16 ge_b14 A14 F14_value) hZ (own_w hw 132 rfl) (own_w hw 38 rfl) (ok rfl) (ok rfl)) (g := (mkF m 36 #[.val (.long q), .second, .val (.int (128 : Int32))] [(.long q), (.ref b14), (.ref b14)])) (a := b14) rfl (by rw [hml]; rfl) (argsL := [(.long q)]) (rest := [(.ref b14)]) (lenOf pd_655 rfl) rfl (by show 2 * 0 + _ ≤ _; exact Nat.le_of_eq rfl) (hb hby d8_36) rfl e14 (ok rfl) (ok rfl) ?_
    intro v17 T17 L17 q17 X17
    obtain ⟨rfl, N17q, K17, g17E, g17F⟩ := q17
    have N17 := Fr.app N0 N17q
    show Goes p e below _ T17 (mkF m 39 #[.val (.long q), .second, .val (.int (128 : Int32))] [(.ref b14)])
    refine Goes.retA X17 hx Bd.notSynchronized Bd.returns rfl rfl (hb hby d8_39) (ok rfl) (ok rfl) ?_
    have K18 : Keep h0 h14 [] := K0.ext E14
    have K19 : Keep h0 T17.heap [] := K18.trans K17 (allS (Or.inr sz_b14) all0)
    exact ⟨b14, rfl, N17, K19, g17E, g17F⟩
  ·
    refine Goes.step (T' := s₁) (g' := (mkF m 12 #[.val (.long q), .second, .val (.int (128 : Int32))] [])) (fun t k => XS.ifNo X0.here hx rfl (hb hby d8_9) rfl ((if0 _ _).trans (flt (hb0 : ¬ ((lcmpW q (-128 : Int64)) < (0 : Int32)))).1) k) ?_
    refine P1.lloadN X0.here hx (hb hby d8_12) rfl ?_
    refine Goes.step (T' := s₁) (g' := (mkF m 16 #[.val (.long q), .second, .val (.int (128 : Int32))] [(.long (127 : Int64)), (.long q)])) (fun t k => X0.ldc2Long hx hown (mvT hZ (own_w hw 41 rfl)) (g := (mkF m 13 #[.val (.long q), .second, .val (.int (128 : Int32))] [(.long q)])) rfl (hb hby d8_13) t k) ?_
    refine Goes.step (T' := s₁) (g' := (mkF m 17 #[.val (.long q), .second, .val (.int (128 : Int32))] [(.int (lcmpW q (127 : Int64)))])) (fun t k => XS.lcmp X0.here hx rfl (hb hby d8_16) rfl k) ?_
    by_cases hb1 : (0 : Int32) < (lcmpW q (127 : Int64))
    ·
      refine Goes.step (T' := s₁) (g' := (mkF m 31 #[.val (.long q), .second, .val (.int (128 : Int32))] [])) (fun t k => XS.ifYes X0.here hx rfl (pc0 := 17) (pc' := 31) rfl (hb hby d8_17) rfl ((if0 _ _).trans (tlt (hb1 : (0 : Int32) < (lcmpW q (127 : Int64)))).2.2.1) (by decide) (by decide) k) ?_
      obtain ⟨T20, h20, X20, e20, E20, A20, D20, -, st20⟩ := newO X0 hx hZ hown (own_w hw 127 rfl) (own_w hw 128 rfl) (own_w hw 38 rfl) e0 (g := (mkF m 31 #[.val (.long q), .second, .val (.int (128 : Int32))] [])) rfl (hb hby d8_31) (ok rfl) (ok rfl)
      obtain ⟨b20, g20⟩ : ∃ z, z = h0.size := ⟨_, rfl⟩
      rw [← g20] at A20 D20 st20
      have ge_b20 : n0 ≤ b20 := Nat.le_trans Z0 (Nat.le_of_eq g20.symm)
      have sz_b20 : h0.size ≤ b20 := Nat.le_trans K0.1 (Nat.le_of_eq g20.symm)
      have F20_value : Fld Z h20 b20 "java/lang/Long" "value" "J" (.long (0 : Int64)) := D20 (Or.inr (own_w hw 89 rfl)) (ty := .long) (by decide)
      refine Goes.step (T' := T20) (g' := (mkF m 34 #[.val (.long q), .second, .val (.int (128 : Int32))] [(.ref b20)])) st20 ?_
      refine P1.dup X20.here hx (hb hby d8_34) rfl ?_
      refine P1.lloadN X20.here hx (hb hby d8_35) rfl ?_
      have Z21 : n0 ≤ h20.size := Nat.le_trans Z0 E20.1
      have O22 : Old Z n0 h20 := O0.ext E20
      refine Goes.callC X20 hx (y := y3_) rfl hown (mvT hZ (own_w hw 129 rfl)) (mvT hZ (own_w hw 130 rfl)) (mvT hZ (own_w hw 132 rfl)) (by decide) (kc' := 0) (ks' := 0) (backOf (W := 1) (rmLI l Z a0 hw [] b20 q h20 n0 Z21 O22 ge_b20 A20 F20_value) hZ (own_w hw 132 rfl) (own_w hw 38 rfl) (ok rfl) (ok rfl)) (g := (mkF m 36 #[.val (.long q), .second, .val (.int (128 : Int32))] [(.long q), (.ref b20), (.ref b20)])) (a := b20) rfl (by rw [hml]; rfl) (argsL := [(.long q)]) (rest := [(.ref b20)]) (lenOf pd_655 rfl) rfl (by show 2 * 0 + _ ≤ _; exact Nat.le_of_eq rfl) (hb hby d8_36) rfl e20 (ok rfl) (ok rfl) ?_
      intro v23 T23 L23 q23 X23
      obtain ⟨rfl, N23q, K23, g23E, g23F⟩ := q23
      have N23 := Fr.app N0 N23q
      show Goes p e below _ T23 (mkF m 39 #[.val (.long q), .second, .val (.int (128 : Int32))] [(.ref b20)])
      refine Goes.retA X23 hx Bd.notSynchronized Bd.returns rfl rfl (hb hby d8_39) (ok rfl) (ok rfl) ?_
      have K24 : Keep h0 h20 [] := K0.ext E20
      have K25 : Keep h0 T23.heap [] := K24.trans K23 (allS (Or.inr sz_b20) all0)
      exact ⟨b20, rfl, N23, K25, g23E, g23F⟩
    ·
      refine Goes.step (T' := s₁) (g' := (mkF m 20 #[.val (.long q), .second, .val (.int (128 : Int32))] [])) (fun t k => XS.ifNo X0.here hx rfl (hb hby d8_17) rfl ((if0 _ _).trans (flt (hb1 : ¬ ((0 : Int32) < (lcmpW q (127 : Int64))))).2.2.1) k) ?_
      obtain ⟨T26, X26, e26, st26⟩ := getS2 X0 hx hZ hown (host := "") (Or.inl (own_w hw 42 rfl)) Via.refl e0 (S_ca.ext O0.2) (g := (mkF m 20 #[.val (.long q), .second, .val (.int (128 : Int32))] [])) rfl (hb hby d8_20)
      refine Goes.step (T' := T26) (g' := (mkF m 23 #[.val (.long q), .second, .val (.int (128 : Int32))] [(.ref ca)])) st26 ?_
      refine P1.lloadN X26.here hx (hb hby d8_23) rfl ?_
      refine Goes.step (T' := T26) (g' := (mkF m 25 #[.val (.long q), .second, .val (.int (128 : Int32))] [(.int (q.toInt32)), (.ref ca)])) (fun t k => XS.l2i X26.here hx rfl (hb hby d8_24) rfl k) ?_
      refine P1.sipush X26.here hx (128 : Int32) (hb hby d8_25) rfl ?_
      refine P1.iadd X26.here hx (hb hby d8_28) ?_
      obtain ⟨lo1, lo2, lo3⟩ := own_long hb0 hb1
      obtain ⟨ba, at_ba, E_ba, F_ba⟩ := H_ca ((q.toInt32) + (128 : Int32)) lo1 lo2
      rw [lo3] at F_ba
      have Ac := Ar_ca.ext O0.2
      refine Goes.step (T' := T26) (g' := (mkF m 30 #[.val (.long q), .second, .val (.int (128 : Int32))] [(.ref ba)])) (fun t k => X26.aaload hx (j := ((q.toInt32) + (128 : Int32))) (v := .ref ba) (by rw [e26]; exact Ac.1) (State.isArrayOf_alike hZ.alike Ac.2.1) rfl Ac.2.2 (own_inb le_ca lo1 lo2) at_ba (g := (mkF m 29 #[.val (.long q), .second, .val (.int (128 : Int32))] [(.int ((q.toInt32) + (128 : Int32))), (.ref ca)])) rfl rfl (hb hby d8_29) _ k) ?_
      refine Goes.retA X26 hx Bd.notSynchronized Bd.returns rfl rfl (hb hby d8_30) (ok rfl) (ok rfl) ?_
      rw [e26]
      exact ⟨ba, rfl, N0, K0, (E_ba.ext O0.2), (F_ba.ext O0.2)⟩
theorem d9_0 : decode jdk_2055_method_5_code 0 = .ok (.iload_n 0, 1) := by decide +kernel
theorem d9_1 : decode jdk_2055_method_5_code 1 = .ok (.ifCond .eq 9, 3) := by decide +kernel
theorem d9_4 : decode jdk_2055_method_5_code 4 = .ok (.getstatic 27, 3) := by decide +kernel
theorem d9_7 : decode jdk_2055_method_5_code 7 = .ok (.goto 6, 3) := by decide +kernel
theorem d9_10 : decode jdk_2055_method_5_code 10 = .ok (.getstatic 31, 3) := by decide +kernel
theorem d9_13 : decode jdk_2055_method_5_code 13 = .ok (.areturn, 1) := by decide +kernel
theorem efBV1 (m : MethodId)  : entryFrame m #[(.int (1 : Int32))] 1 = mkF m 0 #[.val (.int (1 : Int32))] [] := by first | (simp [entryFrame, mkF, argsToLocals, Value.category]; done) | rfl
def QBV1 (Z : State) (zc : Int32) (fm : Value) (bf : Addr) (bt : Addr) (ca : Addr) (cl_ca : Cell) (h0 : Heap) (n0 : Nat) (v : Option Value) (h : Heap) (L : List Loc) : Prop := v = some (.ref bt) ∧ Fr n0 L ∧ h = h0
set_option maxRecDepth 65536 in
set_option maxHeartbeats 40000000 in
theorem rmBV1 (l : Launch) (Z : State) (a0 : Array Value) (hw : ∀ d ∈ tables_1, d.before a0 Z = true) (ws : List Jvm.Cond) (zc : Int32) (fm : Value) (bf : Addr) (bt : Addr) (ca : Addr) (cl_ca : Cell) (h0 : Heap) (n0 : Nat) (Z0 : n0 ≤ h0.size) (O0 : Old Z n0 h0) (S_CS : Sta Z Z.heap "java/lang/String" "COMPACT_STRINGS" "Z" (.int zc)) (hzc : ¬ zc = 0) (S_FM : Sta Z Z.heap "jdk/internal/util/Preconditions" "SIOOBE_FORMATTER" "Ljava/util/function/BiFunction;" fm) (hfm : fm.isRef = true) (S_bf : Sta Z Z.heap "java/lang/Boolean" "FALSE" "Ljava/lang/Boolean;" (.ref bf)) (E_bf : Exa Z Z.heap bf "java/lang/Boolean") (F_bf : Fld Z Z.heap bf "java/lang/Boolean" "value" "Z" (.int (0 : Int32))) (S_bt : Sta Z Z.heap "java/lang/Boolean" "TRUE" "Ljava/lang/Boolean;" (.ref bt)) (E_bt : Exa Z Z.heap bt "java/lang/Boolean") (F_bt : Fld Z Z.heap bt "java/lang/Boolean" "value" "Z" (.int (1 : Int32))) (S_ca : Sta Z Z.heap "java/lang/Long$LongCache" "cache" "[Ljava/lang/Long;" (.ref ca)) (Ar_ca : Arr Z Z.heap ca cl_ca (.object "java/lang/Long")) (le_ca : cl_ca.slots.size = 256) (H_ca : ∀ j : Int32, ¬ j < 0 → j < 256 → ∃ a : Addr, cl_ca.slots[j.toNatClampNeg]? = some (.ref a) ∧ Exa Z Z.heap a "java/lang/Long" ∧ Fld Z Z.heap a "java/lang/Long" "value" "J" (.long (j - 128).toInt64)) :
    MetFree l y2_ (head1 (Jvm.Cond.code y2_ jdk_2055_method_5_code 1 (some (.object "java/lang/Boolean")) :: ws) ({ frames := 0, cells := 0, slots := 0, locals := 0 } : Room)) (fun aa U => aa = #[(.int (1 : Int32))] ∧ Z.Warmed39 U.vm ∧ U.heap = h0) (fun _ _ _ _ _ => True) (fun _ U oo U' => ∃ vv LL, oo = .returned vv ∧ QBV1 Z zc fm bf bt ca cl_ca h0 n0 vv U'.heap LL ∧ FrameEnd U oo U' LL ({ frames := 0, cells := 0, slots := 0, locals := 0 } : Room).cells ({ frames := 0, cells := 0, slots := 0, locals := 0 } : Room).slots) := by
  refine MetFree.of_bodySF (plainFor_of_name pn_java_lang_Boolean) hisR ?_
  intro p e s m args below meth c s₁ Bd hml0 hP hK
  obtain ⟨rfl, hZ, hh⟩ := hP
  have hx := Bd.exec
  have hby := Bd.bytes
  have hml : c.maxLocals = 1 := hml0
  have hown : s.vm.findClass "java/lang/Boolean" = some m.cls := findClass_of_methodNamed Bd.named
  have hnm := (name_of_methodNamed Bd.named Bd.method).1
  have X0 : Stand p l e ({ frames := 0, cells := 0, slots := 0, locals := 0 } : Room) s m #[(.int (1 : Int32))] below meth c s₁ [] 0 0 := Stand.of_body Bd
  have e0 : s₁.heap = h0 := by rw [← hh, Bd.state]; rfl
  have N0 := Fr.nil n0
  refine Goes.give (Q := QBV1 Z zc fm bf bt ca cl_ca h0 n0) ?_
  rw [efBV1 m ]
  have K0 : Keep h0 h0 [] := Keep.refl _ _
  refine P1.iloadN X0.here hx (hb hby d9_0) rfl ?_
  refine Goes.step (T' := s₁) (g' := (mkF m 4 #[.val (.int (1 : Int32))] [])) (fun t k => XS.ifNo X0.here hx rfl (hb hby d9_1) rfl ((if0 _ _).trans (feq ((by decide : ¬ ((1 : Int32) = (0 : Int32))) : ¬ ((1 : Int32) = (0 : Int32)))).1) k) ?_
  obtain ⟨T27, X27, e27, st27⟩ := getS2 X0 hx hZ hown (host := "") (Or.inl (own_w hw 125 rfl)) Via.refl e0 (S_bt.ext O0.2) (g := (mkF m 4 #[.val (.int (1 : Int32))] [])) rfl (hb hby d9_4)
  refine Goes.step (T' := T27) (g' := (mkF m 7 #[.val (.int (1 : Int32))] [(.ref bt)])) st27 ?_
  refine P1.goto X27.here hx 13 (hb hby d9_7) (by decide) (by decide) ?_
  refine Goes.retA X27 hx Bd.notSynchronized Bd.returns rfl rfl (hb hby d9_13) (ok rfl) (ok rfl) ?_
  rw [e27]
  exact ⟨rfl, N0, rfl⟩
theorem efBV0 (m : MethodId)  : entryFrame m #[(.int (0 : Int32))] 1 = mkF m 0 #[.val (.int (0 : Int32))] [] := by first | (simp [entryFrame, mkF, argsToLocals, Value.category]; done) | rfl
def QBV0 (Z : State) (zc : Int32) (fm : Value) (bf : Addr) (bt : Addr) (ca : Addr) (cl_ca : Cell) (h0 : Heap) (n0 : Nat) (v : Option Value) (h : Heap) (L : List Loc) : Prop := v = some (.ref bf) ∧ Fr n0 L ∧ h = h0
set_option maxRecDepth 65536 in
set_option maxHeartbeats 40000000 in
theorem rmBV0 (l : Launch) (Z : State) (a0 : Array Value) (hw : ∀ d ∈ tables_1, d.before a0 Z = true) (ws : List Jvm.Cond) (zc : Int32) (fm : Value) (bf : Addr) (bt : Addr) (ca : Addr) (cl_ca : Cell) (h0 : Heap) (n0 : Nat) (Z0 : n0 ≤ h0.size) (O0 : Old Z n0 h0) (S_CS : Sta Z Z.heap "java/lang/String" "COMPACT_STRINGS" "Z" (.int zc)) (hzc : ¬ zc = 0) (S_FM : Sta Z Z.heap "jdk/internal/util/Preconditions" "SIOOBE_FORMATTER" "Ljava/util/function/BiFunction;" fm) (hfm : fm.isRef = true) (S_bf : Sta Z Z.heap "java/lang/Boolean" "FALSE" "Ljava/lang/Boolean;" (.ref bf)) (E_bf : Exa Z Z.heap bf "java/lang/Boolean") (F_bf : Fld Z Z.heap bf "java/lang/Boolean" "value" "Z" (.int (0 : Int32))) (S_bt : Sta Z Z.heap "java/lang/Boolean" "TRUE" "Ljava/lang/Boolean;" (.ref bt)) (E_bt : Exa Z Z.heap bt "java/lang/Boolean") (F_bt : Fld Z Z.heap bt "java/lang/Boolean" "value" "Z" (.int (1 : Int32))) (S_ca : Sta Z Z.heap "java/lang/Long$LongCache" "cache" "[Ljava/lang/Long;" (.ref ca)) (Ar_ca : Arr Z Z.heap ca cl_ca (.object "java/lang/Long")) (le_ca : cl_ca.slots.size = 256) (H_ca : ∀ j : Int32, ¬ j < 0 → j < 256 → ∃ a : Addr, cl_ca.slots[j.toNatClampNeg]? = some (.ref a) ∧ Exa Z Z.heap a "java/lang/Long" ∧ Fld Z Z.heap a "java/lang/Long" "value" "J" (.long (j - 128).toInt64)) :
    MetFree l y2_ (head1 (Jvm.Cond.code y2_ jdk_2055_method_5_code 1 (some (.object "java/lang/Boolean")) :: ws) ({ frames := 0, cells := 0, slots := 0, locals := 0 } : Room)) (fun aa U => aa = #[(.int (0 : Int32))] ∧ Z.Warmed39 U.vm ∧ U.heap = h0) (fun _ _ _ _ _ => True) (fun _ U oo U' => ∃ vv LL, oo = .returned vv ∧ QBV0 Z zc fm bf bt ca cl_ca h0 n0 vv U'.heap LL ∧ FrameEnd U oo U' LL ({ frames := 0, cells := 0, slots := 0, locals := 0 } : Room).cells ({ frames := 0, cells := 0, slots := 0, locals := 0 } : Room).slots) := by
  refine MetFree.of_bodySF (plainFor_of_name pn_java_lang_Boolean) hisR ?_
  intro p e s m args below meth c s₁ Bd hml0 hP hK
  obtain ⟨rfl, hZ, hh⟩ := hP
  have hx := Bd.exec
  have hby := Bd.bytes
  have hml : c.maxLocals = 1 := hml0
  have hown : s.vm.findClass "java/lang/Boolean" = some m.cls := findClass_of_methodNamed Bd.named
  have hnm := (name_of_methodNamed Bd.named Bd.method).1
  have X0 : Stand p l e ({ frames := 0, cells := 0, slots := 0, locals := 0 } : Room) s m #[(.int (0 : Int32))] below meth c s₁ [] 0 0 := Stand.of_body Bd
  have e0 : s₁.heap = h0 := by rw [← hh, Bd.state]; rfl
  have N0 := Fr.nil n0
  refine Goes.give (Q := QBV0 Z zc fm bf bt ca cl_ca h0 n0) ?_
  rw [efBV0 m ]
  have K0 : Keep h0 h0 [] := Keep.refl _ _
  refine P1.iloadN X0.here hx (hb hby d9_0) rfl ?_
  refine Goes.step (T' := s₁) (g' := (mkF m 10 #[.val (.int (0 : Int32))] [])) (fun t k => XS.ifYes X0.here hx rfl (pc0 := 1) (pc' := 10) rfl (hb hby d9_1) rfl ((if0 _ _).trans (teq ((by decide : (0 : Int32) = (0 : Int32)) : (0 : Int32) = (0 : Int32))).1) (by decide) (by decide) k) ?_
  obtain ⟨T28, X28, e28, st28⟩ := getS2 X0 hx hZ hown (host := "") (Or.inl (own_w hw 48 rfl)) Via.refl e0 (S_bf.ext O0.2) (g := (mkF m 10 #[.val (.int (0 : Int32))] [])) rfl (hb hby d9_10)
  refine Goes.step (T' := T28) (g' := (mkF m 13 #[.val (.int (0 : Int32))] [(.ref bf)])) st28 ?_
  refine Goes.retA X28 hx Bd.notSynchronized Bd.returns rfl rfl (hb hby d9_13) (ok rfl) (ok rfl) ?_
  rw [e28]
  exact ⟨rfl, N0, rfl⟩
theorem d10_0 : decode prog_30_method_1_code 0 = .ok (.aload_n 0, 1) := by decide +kernel
theorem d10_1 : decode prog_30_method_1_code 1 = .ok (.invokespecial 1, 3) := by decide +kernel
theorem d10_4 : decode prog_30_method_1_code 4 = .ok (.aload_n 0, 1) := by decide +kernel
theorem d10_5 : decode prog_30_method_1_code 5 = .ok (.aload_n 1, 1) := by decide +kernel
theorem d10_6 : decode prog_30_method_1_code 6 = .ok (.putfield 7, 3) := by decide +kernel
theorem d10_9 : decode prog_30_method_1_code 9 = .ok (.aload_n 0, 1) := by decide +kernel
theorem d10_10 : decode prog_30_method_1_code 10 = .ok (.aload_n 2, 1) := by decide +kernel
theorem d10_11 : decode prog_30_method_1_code 11 = .ok (.putfield 13, 3) := by decide +kernel
theorem d10_14 : decode prog_30_method_1_code 14 = .ok (.aload_n 0, 1) := by decide +kernel
theorem d10_15 : decode prog_30_method_1_code 15 = .ok (.aload_n 3, 1) := by decide +kernel
theorem d10_16 : decode prog_30_method_1_code 16 = .ok (.putfield 17, 3) := by decide +kernel
theorem d10_19 : decode prog_30_method_1_code 19 = .ok (.aload_n 0, 1) := by decide +kernel
theorem d10_20 : decode prog_30_method_1_code 20 = .ok (.aload 4, 2) := by decide +kernel
theorem d10_22 : decode prog_30_method_1_code 22 = .ok (.putfield 20, 3) := by decide +kernel
theorem d10_25 : decode prog_30_method_1_code 25 = .ok (.aload_n 0, 1) := by decide +kernel
theorem d10_26 : decode prog_30_method_1_code 26 = .ok (.aload 5, 2) := by decide +kernel
theorem d10_28 : decode prog_30_method_1_code 28 = .ok (.putfield 24, 3) := by decide +kernel
theorem d10_31 : decode prog_30_method_1_code 31 = .ok (.return_, 1) := by decide +kernel
theorem efSI (m : MethodId) (a : Addr) (pu : Addr) (ix : Addr) (li : Addr) (se : Addr) : entryFrame m #[(.ref a), (.ref pu), (.ref ix), (.ref li), (.ref se), .null] 6 = mkF m 0 #[.val (.ref a), .val (.ref pu), .val (.ref ix), .val (.ref li), .val (.ref se), .val .null] [] := by first | (simp [entryFrame, mkF, argsToLocals, Value.category]; done) | rfl
def QSI (Z : State) (a : Addr) (pu : Addr) (ix : Addr) (li : Addr) (se : Addr) (h0 : Heap) (n0 : Nat) (v : Option Value) (h : Heap) (L : List Loc) : Prop := v = none ∧ Fr n0 L ∧ Keep h0 h [a] ∧ Exa Z h a "org/attestry/status/StatusEntry" ∧ Fld Z h a "org/attestry/status/StatusEntry" "purpose" "Ljava/lang/String;" (.ref pu) ∧ Fld Z h a "org/attestry/status/StatusEntry" "index" "Ljava/lang/Long;" (.ref ix) ∧ Fld Z h a "org/attestry/status/StatusEntry" "list" "Ljava/lang/String;" (.ref li) ∧ Fld Z h a "org/attestry/status/StatusEntry" "set" "Ljava/lang/Boolean;" (.ref se) ∧ Fld Z h a "org/attestry/status/StatusEntry" "error" "Ljava/lang/String;" .null
set_option maxRecDepth 65536 in
set_option maxHeartbeats 40000000 in
theorem rmSI (l : Launch) (Z : State) (a0 : Array Value) (hw : ∀ d ∈ tables_1, d.before a0 Z = true) (ws : List Jvm.Cond) (a : Addr) (pu : Addr) (ix : Addr) (li : Addr) (se : Addr) (h0 : Heap) (n0 : Nat) (Z0 : n0 ≤ h0.size) (O0 : Old Z n0 h0) (ga : n0 ≤ a) (Ea : Exa Z h0 a "org/attestry/status/StatusEntry") (F_purpose : Fld Z h0 a "org/attestry/status/StatusEntry" "purpose" "Ljava/lang/String;" .null) (F_index : Fld Z h0 a "org/attestry/status/StatusEntry" "index" "Ljava/lang/Long;" .null) (F_list : Fld Z h0 a "org/attestry/status/StatusEntry" "list" "Ljava/lang/String;" .null) (F_set : Fld Z h0 a "org/attestry/status/StatusEntry" "set" "Ljava/lang/Boolean;" .null) (F_error : Fld Z h0 a "org/attestry/status/StatusEntry" "error" "Ljava/lang/String;" .null) :
    MetFree l y10_ (head1 (Jvm.Cond.code y10_ prog_30_method_1_code 6 none :: ws) ({ frames := 2, cells := 0, slots := 0, locals := 24 } : Room)) (fun aa U => aa = #[(.ref a), (.ref pu), (.ref ix), (.ref li), (.ref se), .null] ∧ Z.Warmed39 U.vm ∧ U.heap = h0) (fun _ _ _ _ _ => True) (fun _ U oo U' => ∃ vv LL, oo = .returned vv ∧ QSI Z a pu ix li se h0 n0 vv U'.heap LL ∧ FrameEnd U oo U' LL ({ frames := 2, cells := 0, slots := 0, locals := 24 } : Room).cells ({ frames := 2, cells := 0, slots := 0, locals := 24 } : Room).slots) := by
  refine MetFree.of_bodySF (plainFor_of_name pn_org_attestry_status_StatusEntry) hisR ?_
  intro p e s m args below meth c s₁ Bd hml0 hP hK
  obtain ⟨rfl, hZ, hh⟩ := hP
  have hx := Bd.exec
  have hby := Bd.bytes
  have hml : c.maxLocals = 6 := hml0
  have hown : s.vm.findClass "org/attestry/status/StatusEntry" = some m.cls := findClass_of_methodNamed Bd.named
  have hnm := (name_of_methodNamed Bd.named Bd.method).1
  have X0 : Stand p l e ({ frames := 2, cells := 0, slots := 0, locals := 24 } : Room) s m #[(.ref a), (.ref pu), (.ref ix), (.ref li), (.ref se), .null] below meth c s₁ [] 0 0 := Stand.of_body Bd
  have e0 : s₁.heap = h0 := by rw [← hh, Bd.state]; rfl
  have N0 := Fr.nil n0
  refine Goes.give (Q := QSI Z a pu ix li se h0 n0) ?_
  rw [efSI m a pu ix li se]
  have K0 : Keep h0 h0 [] := Keep.refl _ _
  have K0 : Keep h0 h0 [a] := Keep.refl _ _
  refine P1.aloadN X0.here hx (hb hby d10_0) rfl rfl ?_
  refine Goes.callC X0 hx (y := y7_) rfl hown (mvT hZ (own_w hw 52 rfl)) (mvT hZ (own_w hw 53 rfl)) (mvT hZ (own_w hw 56 rfl)) (by decide) (kc' := 0) (ks' := 0) (backOf (W := 0) (rmRec l Z a0 hw [] a h0 n0 Z0 O0 ) hZ (own_w hw 56 rfl) (own_w hw 55 rfl) (ok rfl) (ok rfl)) (g := (mkF m 1 #[.val (.ref a), .val (.ref pu), .val (.ref ix), .val (.ref li), .val (.ref se), .val .null] [(.ref a)])) (a := a) rfl (by rw [hml]; rfl) (argsL := []) (rest := []) (lenOf pd_380 rfl) rfl (by show 2 * 0 + _ ≤ _; exact Nat.le_of_eq rfl) (hb hby d10_1) rfl e0 (ok rfl) (ok rfl) ?_
  intro v29 T29 L29 q29 X29
  obtain ⟨rfl, N29q, hE29⟩ := q29
  have N29 := Fr.app N0 N29q
  show Goes p e below _ T29 (mkF m 4 #[.val (.ref a), .val (.ref pu), .val (.ref ix), .val (.ref li), .val (.ref se), .val .null] [])
  refine P1.aloadN X29.here hx (hb hby d10_4) rfl rfl ?_
  refine P1.aloadN X29.here hx (hb hby d10_5) rfl rfl ?_
  obtain ⟨T30, h30, X30, e30, W30, st30⟩ := putF X29 hx hZ hown (host := "") (Or.inl (own_w hw 58 rfl)) Via.refl hE29 F_purpose Ea (Or.inr ⟨(own_w hw 59 rfl), rfl, hnm⟩) (own_w hw 35 rfl) (ty := (.object "java/lang/String")) (by decide) rfl rfl (g := (mkF m 6 #[.val (.ref a), .val (.ref pu), .val (.ref ix), .val (.ref li), .val (.ref se), .val .null] [(.ref pu), (.ref a)])) rfl rfl (hb hby d10_6)
  have Fw30 : Fld Z h30 a "org/attestry/status/StatusEntry" "purpose" "Ljava/lang/String;" (.ref pu) := F_purpose.same W30
  have N30 := Fr.snoc X30 N29 ga
  refine Goes.step (T' := T30) (g' := (mkF m 9 #[.val (.ref a), .val (.ref pu), .val (.ref ix), .val (.ref li), .val (.ref se), .val .null] [])) st30 ?_
  refine P1.aloadN X30.here hx (hb hby d10_9) rfl rfl ?_
  refine P1.aloadN X30.here hx (hb hby d10_10) rfl rfl ?_
  have F31 : Fld Z h30 a "org/attestry/status/StatusEntry" "index" "Ljava/lang/Long;" .null := F_index.other W30 (Or.inr (slot_ne (Or.inr (own_w hw 61 rfl)) (Or.inr (own_w hw 59 rfl)) (by decide) (t := (.object "java/lang/Long")) (t' := (.object "java/lang/String")) (by decide) (by decide)))
  have E32 : Exa Z h30 a "org/attestry/status/StatusEntry" := Ea.wr W30
  obtain ⟨T33, h33, X33, e33, W33, st33⟩ := putF X30 hx hZ hown (host := "") (Or.inl (own_w hw 60 rfl)) Via.refl e30 F31 E32 (Or.inr ⟨(own_w hw 61 rfl), rfl, hnm⟩) (own_w hw 35 rfl) (ty := (.object "java/lang/Long")) (by decide) rfl rfl (g := (mkF m 11 #[.val (.ref a), .val (.ref pu), .val (.ref ix), .val (.ref li), .val (.ref se), .val .null] [(.ref ix), (.ref a)])) rfl rfl (hb hby d10_11)
  have Fw33 : Fld Z h33 a "org/attestry/status/StatusEntry" "index" "Ljava/lang/Long;" (.ref ix) := F31.same W33
  have N33 := Fr.snoc X33 N30 ga
  refine Goes.step (T' := T33) (g' := (mkF m 14 #[.val (.ref a), .val (.ref pu), .val (.ref ix), .val (.ref li), .val (.ref se), .val .null] [])) st33 ?_
  refine P1.aloadN X33.here hx (hb hby d10_14) rfl rfl ?_
  refine P1.aloadN X33.here hx (hb hby d10_15) rfl rfl ?_
  have F34 : Fld Z h30 a "org/attestry/status/StatusEntry" "list" "Ljava/lang/String;" .null := F_list.other W30 (Or.inr (slot_ne (Or.inr (own_w hw 63 rfl)) (Or.inr (own_w hw 59 rfl)) (by decide) (t := (.object "java/lang/String")) (t' := (.object "java/lang/String")) (by decide) (by decide)))
  have F35 : Fld Z h33 a "org/attestry/status/StatusEntry" "list" "Ljava/lang/String;" .null := F34.other W33 (Or.inr (slot_ne (Or.inr (own_w hw 63 rfl)) (Or.inr (own_w hw 61 rfl)) (by decide) (t := (.object "java/lang/String")) (t' := (.object "java/lang/Long")) (by decide) (by decide)))
  have E36 : Exa Z h33 a "org/attestry/status/StatusEntry" := E32.wr W33
  obtain ⟨T37, h37, X37, e37, W37, st37⟩ := putF X33 hx hZ hown (host := "") (Or.inl (own_w hw 62 rfl)) Via.refl e33 F35 E36 (Or.inr ⟨(own_w hw 63 rfl), rfl, hnm⟩) (own_w hw 35 rfl) (ty := (.object "java/lang/String")) (by decide) rfl rfl (g := (mkF m 16 #[.val (.ref a), .val (.ref pu), .val (.ref ix), .val (.ref li), .val (.ref se), .val .null] [(.ref li), (.ref a)])) rfl rfl (hb hby d10_16)
  have Fw37 : Fld Z h37 a "org/attestry/status/StatusEntry" "list" "Ljava/lang/String;" (.ref li) := F35.same W37
  have N37 := Fr.snoc X37 N33 ga
  refine Goes.step (T' := T37) (g' := (mkF m 19 #[.val (.ref a), .val (.ref pu), .val (.ref ix), .val (.ref li), .val (.ref se), .val .null] [])) st37 ?_
  refine P1.aloadN X37.here hx (hb hby d10_19) rfl rfl ?_
  refine P1.aload X37.here hx (hb hby d10_20) rfl rfl ?_
  have F38 : Fld Z h30 a "org/attestry/status/StatusEntry" "set" "Ljava/lang/Boolean;" .null := F_set.other W30 (Or.inr (slot_ne (Or.inr (own_w hw 65 rfl)) (Or.inr (own_w hw 59 rfl)) (by decide) (t := (.object "java/lang/Boolean")) (t' := (.object "java/lang/String")) (by decide) (by decide)))
  have F39 : Fld Z h33 a "org/attestry/status/StatusEntry" "set" "Ljava/lang/Boolean;" .null := F38.other W33 (Or.inr (slot_ne (Or.inr (own_w hw 65 rfl)) (Or.inr (own_w hw 61 rfl)) (by decide) (t := (.object "java/lang/Boolean")) (t' := (.object "java/lang/Long")) (by decide) (by decide)))
  have F40 : Fld Z h37 a "org/attestry/status/StatusEntry" "set" "Ljava/lang/Boolean;" .null := F39.other W37 (Or.inr (slot_ne (Or.inr (own_w hw 65 rfl)) (Or.inr (own_w hw 63 rfl)) (by decide) (t := (.object "java/lang/Boolean")) (t' := (.object "java/lang/String")) (by decide) (by decide)))
  have E41 : Exa Z h37 a "org/attestry/status/StatusEntry" := E36.wr W37
  obtain ⟨T42, h42, X42, e42, W42, st42⟩ := putF X37 hx hZ hown (host := "") (Or.inl (own_w hw 64 rfl)) Via.refl e37 F40 E41 (Or.inr ⟨(own_w hw 65 rfl), rfl, hnm⟩) (own_w hw 35 rfl) (ty := (.object "java/lang/Boolean")) (by decide) rfl rfl (g := (mkF m 22 #[.val (.ref a), .val (.ref pu), .val (.ref ix), .val (.ref li), .val (.ref se), .val .null] [(.ref se), (.ref a)])) rfl rfl (hb hby d10_22)
  have Fw42 : Fld Z h42 a "org/attestry/status/StatusEntry" "set" "Ljava/lang/Boolean;" (.ref se) := F40.same W42
  have N42 := Fr.snoc X42 N37 ga
  refine Goes.step (T' := T42) (g' := (mkF m 25 #[.val (.ref a), .val (.ref pu), .val (.ref ix), .val (.ref li), .val (.ref se), .val .null] [])) st42 ?_
  refine P1.aloadN X42.here hx (hb hby d10_25) rfl rfl ?_
  refine P1.aload X42.here hx (hb hby d10_26) rfl rfl ?_
  have F43 : Fld Z h30 a "org/attestry/status/StatusEntry" "error" "Ljava/lang/String;" .null := F_error.other W30 (Or.inr (slot_ne (Or.inr (own_w hw 67 rfl)) (Or.inr (own_w hw 59 rfl)) (by decide) (t := (.object "java/lang/String")) (t' := (.object "java/lang/String")) (by decide) (by decide)))
  have F44 : Fld Z h33 a "org/attestry/status/StatusEntry" "error" "Ljava/lang/String;" .null := F43.other W33 (Or.inr (slot_ne (Or.inr (own_w hw 67 rfl)) (Or.inr (own_w hw 61 rfl)) (by decide) (t := (.object "java/lang/String")) (t' := (.object "java/lang/Long")) (by decide) (by decide)))
  have F45 : Fld Z h37 a "org/attestry/status/StatusEntry" "error" "Ljava/lang/String;" .null := F44.other W37 (Or.inr (slot_ne (Or.inr (own_w hw 67 rfl)) (Or.inr (own_w hw 63 rfl)) (by decide) (t := (.object "java/lang/String")) (t' := (.object "java/lang/String")) (by decide) (by decide)))
  have F46 : Fld Z h42 a "org/attestry/status/StatusEntry" "error" "Ljava/lang/String;" .null := F45.other W42 (Or.inr (slot_ne (Or.inr (own_w hw 67 rfl)) (Or.inr (own_w hw 65 rfl)) (by decide) (t := (.object "java/lang/String")) (t' := (.object "java/lang/Boolean")) (by decide) (by decide)))
  have E47 : Exa Z h42 a "org/attestry/status/StatusEntry" := E41.wr W42
  obtain ⟨T48, h48, X48, e48, W48, st48⟩ := putF X42 hx hZ hown (host := "") (Or.inl (own_w hw 66 rfl)) Via.refl e42 F46 E47 (Or.inr ⟨(own_w hw 67 rfl), rfl, hnm⟩) (own_w hw 35 rfl) (ty := (.object "java/lang/String")) (by decide) rfl rfl (g := (mkF m 28 #[.val (.ref a), .val (.ref pu), .val (.ref ix), .val (.ref li), .val (.ref se), .val .null] [.null, (.ref a)])) rfl rfl (hb hby d10_28)
  have Fw48 : Fld Z h48 a "org/attestry/status/StatusEntry" "error" "Ljava/lang/String;" .null := F46.same W48
  have N48 := Fr.snoc X48 N42 ga
  refine Goes.step (T' := T48) (g' := (mkF m 31 #[.val (.ref a), .val (.ref pu), .val (.ref ix), .val (.ref li), .val (.ref se), .val .null] [])) st48 ?_
  refine Goes.retV X48 hx Bd.notSynchronized Bd.returns (hb hby d10_31) (ok rfl) (ok rfl) ?_
  rw [e48]
  have K49 : Keep h0 h30 [a] := K0.wr W30 (Or.inl (by simp))
  have K50 : Keep h0 h33 [a] := K49.wr W33 (Or.inl (by simp))
  have K51 : Keep h0 h37 [a] := K50.wr W37 (Or.inl (by simp))
  have K52 : Keep h0 h42 [a] := K51.wr W42 (Or.inl (by simp))
  have K53 : Keep h0 h48 [a] := K52.wr W48 (Or.inl (by simp))
  have E54 : Exa Z h48 a "org/attestry/status/StatusEntry" := E47.wr W48
  have F55 : Fld Z h33 a "org/attestry/status/StatusEntry" "purpose" "Ljava/lang/String;" (.ref pu) := Fw30.other W33 (Or.inr (slot_ne (Or.inr (own_w hw 59 rfl)) (Or.inr (own_w hw 61 rfl)) (by decide) (t := (.object "java/lang/String")) (t' := (.object "java/lang/Long")) (by decide) (by decide)))
  have F56 : Fld Z h37 a "org/attestry/status/StatusEntry" "purpose" "Ljava/lang/String;" (.ref pu) := F55.other W37 (Or.inr (slot_ne (Or.inr (own_w hw 59 rfl)) (Or.inr (own_w hw 63 rfl)) (by decide) (t := (.object "java/lang/String")) (t' := (.object "java/lang/String")) (by decide) (by decide)))
  have F57 : Fld Z h42 a "org/attestry/status/StatusEntry" "purpose" "Ljava/lang/String;" (.ref pu) := F56.other W42 (Or.inr (slot_ne (Or.inr (own_w hw 59 rfl)) (Or.inr (own_w hw 65 rfl)) (by decide) (t := (.object "java/lang/String")) (t' := (.object "java/lang/Boolean")) (by decide) (by decide)))
  have F58 : Fld Z h48 a "org/attestry/status/StatusEntry" "purpose" "Ljava/lang/String;" (.ref pu) := F57.other W48 (Or.inr (slot_ne (Or.inr (own_w hw 59 rfl)) (Or.inr (own_w hw 67 rfl)) (by decide) (t := (.object "java/lang/String")) (t' := (.object "java/lang/String")) (by decide) (by decide)))
  have F59 : Fld Z h37 a "org/attestry/status/StatusEntry" "index" "Ljava/lang/Long;" (.ref ix) := Fw33.other W37 (Or.inr (slot_ne (Or.inr (own_w hw 61 rfl)) (Or.inr (own_w hw 63 rfl)) (by decide) (t := (.object "java/lang/Long")) (t' := (.object "java/lang/String")) (by decide) (by decide)))
  have F60 : Fld Z h42 a "org/attestry/status/StatusEntry" "index" "Ljava/lang/Long;" (.ref ix) := F59.other W42 (Or.inr (slot_ne (Or.inr (own_w hw 61 rfl)) (Or.inr (own_w hw 65 rfl)) (by decide) (t := (.object "java/lang/Long")) (t' := (.object "java/lang/Boolean")) (by decide) (by decide)))
  have F61 : Fld Z h48 a "org/attestry/status/StatusEntry" "index" "Ljava/lang/Long;" (.ref ix) := F60.other W48 (Or.inr (slot_ne (Or.inr (own_w hw 61 rfl)) (Or.inr (own_w hw 67 rfl)) (by decide) (t := (.object "java/lang/Long")) (t' := (.object "java/lang/String")) (by decide) (by decide)))
  have F62 : Fld Z h42 a "org/attestry/status/StatusEntry" "list" "Ljava/lang/String;" (.ref li) := Fw37.other W42 (Or.inr (slot_ne (Or.inr (own_w hw 63 rfl)) (Or.inr (own_w hw 65 rfl)) (by decide) (t := (.object "java/lang/String")) (t' := (.object "java/lang/Boolean")) (by decide) (by decide)))
  have F63 : Fld Z h48 a "org/attestry/status/StatusEntry" "list" "Ljava/lang/String;" (.ref li) := F62.other W48 (Or.inr (slot_ne (Or.inr (own_w hw 63 rfl)) (Or.inr (own_w hw 67 rfl)) (by decide) (t := (.object "java/lang/String")) (t' := (.object "java/lang/String")) (by decide) (by decide)))
  have F64 : Fld Z h48 a "org/attestry/status/StatusEntry" "set" "Ljava/lang/Boolean;" (.ref se) := Fw42.other W48 (Or.inr (slot_ne (Or.inr (own_w hw 65 rfl)) (Or.inr (own_w hw 67 rfl)) (by decide) (t := (.object "java/lang/Boolean")) (t' := (.object "java/lang/String")) (by decide) (by decide)))
  exact ⟨rfl, N48, K53, E54, F58, F61, F63, F64, Fw48⟩
theorem d7_0 : decode prog_30_method_2_code 0 = .ok (.new 8, 3) := by decide +kernel
theorem d7_3 : decode prog_30_method_2_code 3 = .ok (.dup, 1) := by decide +kernel
theorem d7_4 : decode prog_30_method_2_code 4 = .ok (.aload_n 0, 1) := by decide +kernel
theorem d7_5 : decode prog_30_method_2_code 5 = .ok (.lload_n 1, 1) := by decide +kernel
theorem d7_6 : decode prog_30_method_2_code 6 = .ok (.invokestatic 27, 3) := by decide +kernel
theorem d7_9 : decode prog_30_method_2_code 9 = .ok (.aload_n 3, 1) := by decide +kernel
theorem d7_10 : decode prog_30_method_2_code 10 = .ok (.iload 4, 2) := by decide +kernel
theorem d7_12 : decode prog_30_method_2_code 12 = .ok (.invokestatic 33, 3) := by decide +kernel
theorem d7_15 : decode prog_30_method_2_code 15 = .ok (.aconst_null, 1) := by decide +kernel
theorem d7_16 : decode prog_30_method_2_code 16 = .ok (.invokespecial 38, 3) := by decide +kernel
theorem d7_19 : decode prog_30_method_2_code 19 = .ok (.areturn, 1) := by decide +kernel
theorem pd_16977 : parseMethodDescriptor "(J)Ljava/lang/Long;" = some ⟨[.long], some (.object "java/lang/Long")⟩ := by decide +kernel
theorem pd_23312 : parseMethodDescriptor "(Z)Ljava/lang/Boolean;" = some ⟨[.boolean], some (.object "java/lang/Boolean")⟩ := by decide +kernel
theorem pd_394781 : parseMethodDescriptor "(Ljava/lang/String;Ljava/lang/Long;Ljava/lang/String;Ljava/lang/Boolean;Ljava/lang/String;)V" = some ⟨[(.object "java/lang/String"), (.object "java/lang/Long"), (.object "java/lang/String"), (.object "java/lang/Boolean"), (.object "java/lang/String")], none⟩ := by decide +kernel
theorem efRD1 (m : MethodId) (pu : Addr) (q : Int64) (li : Addr) : entryFrame m #[(.ref pu), (.long q), (.ref li), (.int (1 : Int32))] 5 = mkF m 0 #[.val (.ref pu), .val (.long q), .second, .val (.ref li), .val (.int (1 : Int32))] [] := by first | (simp [entryFrame, mkF, argsToLocals, Value.category]; done) | rfl
def QRD1 (Z : State) (pu : Addr) (q : Int64) (li : Addr) (zc : Int32) (fm : Value) (bf : Addr) (bt : Addr) (ca : Addr) (cl_ca : Cell) (h0 : Heap) (n0 : Nat) (v : Option Value) (h : Heap) (L : List Loc) : Prop := ∃ a ix, v = some (.ref a) ∧ Fr n0 L ∧ Keep h0 h [] ∧ Exa Z h a "org/attestry/status/StatusEntry" ∧ Exa Z h ix "java/lang/Long" ∧ Fld Z h ix "java/lang/Long" "value" "J" (.long q) ∧ Fld Z h a "org/attestry/status/StatusEntry" "purpose" "Ljava/lang/String;" (.ref pu) ∧ Fld Z h a "org/attestry/status/StatusEntry" "index" "Ljava/lang/Long;" (.ref ix) ∧ Fld Z h a "org/attestry/status/StatusEntry" "list" "Ljava/lang/String;" (.ref li) ∧ Fld Z h a "org/attestry/status/StatusEntry" "set" "Ljava/lang/Boolean;" (.ref bt) ∧ Fld Z h a "org/attestry/status/StatusEntry" "error" "Ljava/lang/String;" .null
set_option maxRecDepth 65536 in
set_option maxHeartbeats 40000000 in
theorem rmRD1 (l : Launch) (Z : State) (a0 : Array Value) (hw : ∀ d ∈ tables_1, d.before a0 Z = true) (ws : List Jvm.Cond) (pu : Addr) (q : Int64) (li : Addr) (zc : Int32) (fm : Value) (bf : Addr) (bt : Addr) (ca : Addr) (cl_ca : Cell) (h0 : Heap) (n0 : Nat) (Z0 : n0 ≤ h0.size) (O0 : Old Z n0 h0) (S_CS : Sta Z Z.heap "java/lang/String" "COMPACT_STRINGS" "Z" (.int zc)) (hzc : ¬ zc = 0) (S_FM : Sta Z Z.heap "jdk/internal/util/Preconditions" "SIOOBE_FORMATTER" "Ljava/util/function/BiFunction;" fm) (hfm : fm.isRef = true) (S_bf : Sta Z Z.heap "java/lang/Boolean" "FALSE" "Ljava/lang/Boolean;" (.ref bf)) (E_bf : Exa Z Z.heap bf "java/lang/Boolean") (F_bf : Fld Z Z.heap bf "java/lang/Boolean" "value" "Z" (.int (0 : Int32))) (S_bt : Sta Z Z.heap "java/lang/Boolean" "TRUE" "Ljava/lang/Boolean;" (.ref bt)) (E_bt : Exa Z Z.heap bt "java/lang/Boolean") (F_bt : Fld Z Z.heap bt "java/lang/Boolean" "value" "Z" (.int (1 : Int32))) (S_ca : Sta Z Z.heap "java/lang/Long$LongCache" "cache" "[Ljava/lang/Long;" (.ref ca)) (Ar_ca : Arr Z Z.heap ca cl_ca (.object "java/lang/Long")) (le_ca : cl_ca.slots.size = 256) (H_ca : ∀ j : Int32, ¬ j < 0 → j < 256 → ∃ a : Addr, cl_ca.slots[j.toNatClampNeg]? = some (.ref a) ∧ Exa Z Z.heap a "java/lang/Long" ∧ Fld Z Z.heap a "java/lang/Long" "value" "J" (.long (j - 128).toInt64)) :
    MetFree l y16_ (head1 (Jvm.Cond.code y16_ prog_30_method_2_code 5 (some (.object "org/attestry/status/StatusEntry")) :: ws) ({ frames := 4, cells := 2, slots := 6, locals := 56 } : Room)) (fun aa U => aa = #[(.ref pu), (.long q), (.ref li), (.int (1 : Int32))] ∧ Z.Warmed39 U.vm ∧ U.heap = h0) (fun _ _ _ _ _ => True) (fun _ U oo U' => ∃ vv LL, oo = .returned vv ∧ QRD1 Z pu q li zc fm bf bt ca cl_ca h0 n0 vv U'.heap LL ∧ FrameEnd U oo U' LL ({ frames := 4, cells := 2, slots := 6, locals := 56 } : Room).cells ({ frames := 4, cells := 2, slots := 6, locals := 56 } : Room).slots) := by
  refine MetFree.of_bodySF (plainFor_of_name pn_org_attestry_status_StatusEntry) hisR ?_
  intro p e s m args below meth c s₁ Bd hml0 hP hK
  obtain ⟨rfl, hZ, hh⟩ := hP
  have hx := Bd.exec
  have hby := Bd.bytes
  have hml : c.maxLocals = 5 := hml0
  have hown : s.vm.findClass "org/attestry/status/StatusEntry" = some m.cls := findClass_of_methodNamed Bd.named
  have hnm := (name_of_methodNamed Bd.named Bd.method).1
  have X0 : Stand p l e ({ frames := 4, cells := 2, slots := 6, locals := 56 } : Room) s m #[(.ref pu), (.long q), (.ref li), (.int (1 : Int32))] below meth c s₁ [] 0 0 := Stand.of_body Bd
  have e0 : s₁.heap = h0 := by rw [← hh, Bd.state]; rfl
  have N0 := Fr.nil n0
  refine Goes.give (Q := QRD1 Z pu q li zc fm bf bt ca cl_ca h0 n0) ?_
  rw [efRD1 m pu q li]
  have K0 : Keep h0 h0 [] := Keep.refl _ _
  obtain ⟨T65, h65, X65, e65, E65, A65, D65, -, st65⟩ := newO X0 hx hZ hown (own_w hw 34 rfl) (own_w hw 35 rfl) (own_w hw 32 rfl) e0 (g := (mkF m 0 #[.val (.ref pu), .val (.long q), .second, .val (.ref li), .val (.int (1 : Int32))] [])) rfl (hb hby d7_0) (ok rfl) (ok rfl)
  obtain ⟨b65, g65⟩ : ∃ z, z = h0.size := ⟨_, rfl⟩
  rw [← g65] at A65 D65 st65
  have ge_b65 : n0 ≤ b65 := Nat.le_trans Z0 (Nat.le_of_eq g65.symm)
  have sz_b65 : h0.size ≤ b65 := Nat.le_trans K0.1 (Nat.le_of_eq g65.symm)
  have F65_purpose : Fld Z h65 b65 "org/attestry/status/StatusEntry" "purpose" "Ljava/lang/String;" .null := D65 (Or.inr (own_w hw 59 rfl)) (ty := (.object "java/lang/String")) (by decide)
  have F65_index : Fld Z h65 b65 "org/attestry/status/StatusEntry" "index" "Ljava/lang/Long;" .null := D65 (Or.inr (own_w hw 61 rfl)) (ty := (.object "java/lang/Long")) (by decide)
  have F65_list : Fld Z h65 b65 "org/attestry/status/StatusEntry" "list" "Ljava/lang/String;" .null := D65 (Or.inr (own_w hw 63 rfl)) (ty := (.object "java/lang/String")) (by decide)
  have F65_set : Fld Z h65 b65 "org/attestry/status/StatusEntry" "set" "Ljava/lang/Boolean;" .null := D65 (Or.inr (own_w hw 65 rfl)) (ty := (.object "java/lang/Boolean")) (by decide)
  have F65_error : Fld Z h65 b65 "org/attestry/status/StatusEntry" "error" "Ljava/lang/String;" .null := D65 (Or.inr (own_w hw 67 rfl)) (ty := (.object "java/lang/String")) (by decide)
  refine Goes.step (T' := T65) (g' := (mkF m 3 #[.val (.ref pu), .val (.long q), .second, .val (.ref li), .val (.int (1 : Int32))] [(.ref b65)])) st65 ?_
  refine P1.dup X65.here hx (hb hby d7_3) rfl ?_
  refine P1.aloadN X65.here hx (hb hby d7_4) rfl rfl ?_
  refine P1.lloadN X65.here hx (hb hby d7_5) rfl ?_
  have Z66 : n0 ≤ h65.size := Nat.le_trans Z0 E65.1
  have O67 : Old Z n0 h65 := O0.ext E65
  refine Goes.callS X65 hx (y := y5_) hown (mvT hZ (own_w hw 36 rfl)) (mvT hZ (own_w hw 37 rfl)) (mvT hZ (own_w hw 38 rfl)) (mvT hZ (own_w hw 39 rfl)) (by decide) (kc' := 1) (ks' := 1) (backOf (W := 3) (rmLV l Z a0 hw [] q zc fm bf bt ca cl_ca h65 n0 Z66 O67 S_CS hzc S_FM hfm S_bf E_bf F_bf S_bt E_bt F_bt S_ca Ar_ca le_ca H_ca) hZ (own_w hw 39 rfl) (own_w hw 38 rfl) (ok rfl) (ok rfl)) (g := (mkF m 6 #[.val (.ref pu), .val (.long q), .second, .val (.ref li), .val (.int (1 : Int32))] [(.long q), (.ref pu), (.ref b65), (.ref b65)])) rfl (by rw [hml]; rfl) (argsL := [(.long q)]) (rest := [(.ref pu), (.ref b65), (.ref b65)]) (lenOf pd_16977 rfl) rfl (by show 2 * 0 + _ ≤ _; exact Nat.le_of_eq rfl) (hb hby d7_6) rfl e65 (ok rfl) (ok rfl) ?_
  intro v68 T68 L68 q68 X68
  obtain ⟨lo68, rfl, N68q, K68, g68E, g68F⟩ := q68
  have N68 := Fr.app N0 N68q
  show Goes p e below _ T68 (mkF m 9 #[.val (.ref pu), .val (.long q), .second, .val (.ref li), .val (.int (1 : Int32))] [(.ref lo68), (.ref pu), (.ref b65), (.ref b65)])
  refine P1.aloadN X68.here hx (hb hby d7_9) rfl rfl ?_
  refine P1.iload X68.here hx (hb hby d7_10) rfl ?_
  have Z69 : n0 ≤ T68.heap.size := Nat.le_trans Z66 K68.1
  have O70 : Old Z n0 T68.heap := O67.keep K68 all0
  refine Goes.callS X68 hx (y := y2_) hown (mvT hZ (own_w hw 44 rfl)) (mvT hZ (own_w hw 45 rfl)) (mvT hZ (own_w hw 46 rfl)) (mvT hZ (own_w hw 47 rfl)) (by decide) (kc' := 0) (ks' := 0) (backOf (W := 5) (rmBV1 l Z a0 hw [] zc fm bf bt ca cl_ca T68.heap n0 Z69 O70 S_CS hzc S_FM hfm S_bf E_bf F_bf S_bt E_bt F_bt S_ca Ar_ca le_ca H_ca) hZ (own_w hw 47 rfl) (own_w hw 46 rfl) (ok rfl) (ok rfl)) (g := (mkF m 12 #[.val (.ref pu), .val (.long q), .second, .val (.ref li), .val (.int (1 : Int32))] [(.int (1 : Int32)), (.ref li), (.ref lo68), (.ref pu), (.ref b65), (.ref b65)])) rfl (by rw [hml]; rfl) (argsL := [(.int (1 : Int32))]) (rest := [(.ref li), (.ref lo68), (.ref pu), (.ref b65), (.ref b65)]) (lenOf pd_23312 rfl) rfl (by show 2 * 0 + _ ≤ _; exact Nat.le_of_eq rfl) (hb hby d7_12) rfl rfl (ok rfl) (ok rfl) ?_
  intro v71 T71 L71 q71 X71
  obtain ⟨rfl, N71q, hE71⟩ := q71
  have N71 := Fr.app N68 N71q
  show Goes p e below _ T71 (mkF m 15 #[.val (.ref pu), .val (.long q), .second, .val (.ref li), .val (.int (1 : Int32))] [(.ref bt), (.ref li), (.ref lo68), (.ref pu), (.ref b65), (.ref b65)])
  refine P1.aconstNull X71.here hx (hb hby d7_15) ?_
  have E72 : Exa Z T68.heap b65 "org/attestry/status/StatusEntry" := A65.keep K68
  have F73 : Fld Z T68.heap b65 "org/attestry/status/StatusEntry" "purpose" "Ljava/lang/String;" .null := F65_purpose.keep K68 nin0
  have F74 : Fld Z T68.heap b65 "org/attestry/status/StatusEntry" "index" "Ljava/lang/Long;" .null := F65_index.keep K68 nin0
  have F75 : Fld Z T68.heap b65 "org/attestry/status/StatusEntry" "list" "Ljava/lang/String;" .null := F65_list.keep K68 nin0
  have F76 : Fld Z T68.heap b65 "org/attestry/status/StatusEntry" "set" "Ljava/lang/Boolean;" .null := F65_set.keep K68 nin0
  have F77 : Fld Z T68.heap b65 "org/attestry/status/StatusEntry" "error" "Ljava/lang/String;" .null := F65_error.keep K68 nin0
  refine Goes.callC X71 hx (y := y10_) rfl hown (mvT hZ (own_w hw 49 rfl)) (mvT hZ (own_w hw 50 rfl)) (mvT hZ (own_w hw 51 rfl)) (by decide) (kc' := 0) (ks' := 0) (backOf (W := 1) (rmSI l Z a0 hw [] b65 pu lo68 li bt T68.heap n0 Z69 O70 ge_b65 E72 F73 F74 F75 F76 F77) hZ (own_w hw 51 rfl) (own_w hw 32 rfl) (ok rfl) (ok rfl)) (g := (mkF m 16 #[.val (.ref pu), .val (.long q), .second, .val (.ref li), .val (.int (1 : Int32))] [.null, (.ref bt), (.ref li), (.ref lo68), (.ref pu), (.ref b65), (.ref b65)])) (a := b65) rfl (by rw [hml]; rfl) (argsL := [(.ref pu), (.ref lo68), (.ref li), (.ref bt), .null]) (rest := [(.ref b65)]) (lenOf pd_394781 rfl) rfl (by show 2 * 0 + _ ≤ _; exact Nat.le_of_eq rfl) (hb hby d7_16) rfl hE71 (ok rfl) (ok rfl) ?_
  intro v78 T78 L78 q78 X78
  obtain ⟨rfl, N78q, K78, g78E, g78_purpose, g78_index, g78_list, g78_set, g78_error⟩ := q78
  have N78 := Fr.app N71 N78q
  show Goes p e below _ T78 (mkF m 19 #[.val (.ref pu), .val (.long q), .second, .val (.ref li), .val (.int (1 : Int32))] [(.ref b65)])
  refine Goes.retA X78 hx Bd.notSynchronized Bd.returns rfl rfl (hb hby d7_19) (ok rfl) (ok rfl) ?_
  have K79 : Keep h0 h65 [] := K0.ext E65
  have K80 : Keep h0 T68.heap [] := K79.trans K68 all0
  have K81 : Keep h0 T78.heap [] := K80.trans K78 (allS (Or.inr sz_b65) all0)
  have E82 : Exa Z T78.heap lo68 "java/lang/Long" := g68E.keep K78
  have ne83 : lo68 ≠ b65 := ne_exa E82 g78E (by decide)
  have F84 : Fld Z T78.heap lo68 "java/lang/Long" "value" "J" (.long q) := g68F.keep K78 (ninS ne83 nin0)
  exact ⟨b65, lo68, rfl, N78, K81, g78E, E82, F84, g78_purpose, g78_index, g78_list, g78_set, g78_error⟩
theorem efRD0 (m : MethodId) (pu : Addr) (q : Int64) (li : Addr) : entryFrame m #[(.ref pu), (.long q), (.ref li), (.int (0 : Int32))] 5 = mkF m 0 #[.val (.ref pu), .val (.long q), .second, .val (.ref li), .val (.int (0 : Int32))] [] := by first | (simp [entryFrame, mkF, argsToLocals, Value.category]; done) | rfl
def QRD0 (Z : State) (pu : Addr) (q : Int64) (li : Addr) (zc : Int32) (fm : Value) (bf : Addr) (bt : Addr) (ca : Addr) (cl_ca : Cell) (h0 : Heap) (n0 : Nat) (v : Option Value) (h : Heap) (L : List Loc) : Prop := ∃ a ix, v = some (.ref a) ∧ Fr n0 L ∧ Keep h0 h [] ∧ Exa Z h a "org/attestry/status/StatusEntry" ∧ Exa Z h ix "java/lang/Long" ∧ Fld Z h ix "java/lang/Long" "value" "J" (.long q) ∧ Fld Z h a "org/attestry/status/StatusEntry" "purpose" "Ljava/lang/String;" (.ref pu) ∧ Fld Z h a "org/attestry/status/StatusEntry" "index" "Ljava/lang/Long;" (.ref ix) ∧ Fld Z h a "org/attestry/status/StatusEntry" "list" "Ljava/lang/String;" (.ref li) ∧ Fld Z h a "org/attestry/status/StatusEntry" "set" "Ljava/lang/Boolean;" (.ref bf) ∧ Fld Z h a "org/attestry/status/StatusEntry" "error" "Ljava/lang/String;" .null
set_option maxRecDepth 65536 in
set_option maxHeartbeats 40000000 in
theorem rmRD0 (l : Launch) (Z : State) (a0 : Array Value) (hw : ∀ d ∈ tables_1, d.before a0 Z = true) (ws : List Jvm.Cond) (pu : Addr) (q : Int64) (li : Addr) (zc : Int32) (fm : Value) (bf : Addr) (bt : Addr) (ca : Addr) (cl_ca : Cell) (h0 : Heap) (n0 : Nat) (Z0 : n0 ≤ h0.size) (O0 : Old Z n0 h0) (S_CS : Sta Z Z.heap "java/lang/String" "COMPACT_STRINGS" "Z" (.int zc)) (hzc : ¬ zc = 0) (S_FM : Sta Z Z.heap "jdk/internal/util/Preconditions" "SIOOBE_FORMATTER" "Ljava/util/function/BiFunction;" fm) (hfm : fm.isRef = true) (S_bf : Sta Z Z.heap "java/lang/Boolean" "FALSE" "Ljava/lang/Boolean;" (.ref bf)) (E_bf : Exa Z Z.heap bf "java/lang/Boolean") (F_bf : Fld Z Z.heap bf "java/lang/Boolean" "value" "Z" (.int (0 : Int32))) (S_bt : Sta Z Z.heap "java/lang/Boolean" "TRUE" "Ljava/lang/Boolean;" (.ref bt)) (E_bt : Exa Z Z.heap bt "java/lang/Boolean") (F_bt : Fld Z Z.heap bt "java/lang/Boolean" "value" "Z" (.int (1 : Int32))) (S_ca : Sta Z Z.heap "java/lang/Long$LongCache" "cache" "[Ljava/lang/Long;" (.ref ca)) (Ar_ca : Arr Z Z.heap ca cl_ca (.object "java/lang/Long")) (le_ca : cl_ca.slots.size = 256) (H_ca : ∀ j : Int32, ¬ j < 0 → j < 256 → ∃ a : Addr, cl_ca.slots[j.toNatClampNeg]? = some (.ref a) ∧ Exa Z Z.heap a "java/lang/Long" ∧ Fld Z Z.heap a "java/lang/Long" "value" "J" (.long (j - 128).toInt64)) :
    MetFree l y16_ (head1 (Jvm.Cond.code y16_ prog_30_method_2_code 5 (some (.object "org/attestry/status/StatusEntry")) :: ws) ({ frames := 4, cells := 2, slots := 6, locals := 56 } : Room)) (fun aa U => aa = #[(.ref pu), (.long q), (.ref li), (.int (0 : Int32))] ∧ Z.Warmed39 U.vm ∧ U.heap = h0) (fun _ _ _ _ _ => True) (fun _ U oo U' => ∃ vv LL, oo = .returned vv ∧ QRD0 Z pu q li zc fm bf bt ca cl_ca h0 n0 vv U'.heap LL ∧ FrameEnd U oo U' LL ({ frames := 4, cells := 2, slots := 6, locals := 56 } : Room).cells ({ frames := 4, cells := 2, slots := 6, locals := 56 } : Room).slots) := by
  refine MetFree.of_bodySF (plainFor_of_name pn_org_attestry_status_StatusEntry) hisR ?_
  intro p e s m args below meth c s₁ Bd hml0 hP hK
  obtain ⟨rfl, hZ, hh⟩ := hP
  have hx := Bd.exec
  have hby := Bd.bytes
  have hml : c.maxLocals = 5 := hml0
  have hown : s.vm.findClass "org/attestry/status/StatusEntry" = some m.cls := findClass_of_methodNamed Bd.named
  have hnm := (name_of_methodNamed Bd.named Bd.method).1
  have X0 : Stand p l e ({ frames := 4, cells := 2, slots := 6, locals := 56 } : Room) s m #[(.ref pu), (.long q), (.ref li), (.int (0 : Int32))] below meth c s₁ [] 0 0 := Stand.of_body Bd
  have e0 : s₁.heap = h0 := by rw [← hh, Bd.state]; rfl
  have N0 := Fr.nil n0
  refine Goes.give (Q := QRD0 Z pu q li zc fm bf bt ca cl_ca h0 n0) ?_
  rw [efRD0 m pu q li]
  have K0 : Keep h0 h0 [] := Keep.refl _ _
  obtain ⟨T85, h85, X85, e85, E85, A85, D85, -, st85⟩ := newO X0 hx hZ hown (own_w hw 34 rfl) (own_w hw 35 rfl) (own_w hw 32 rfl) e0 (g := (mkF m 0 #[.val (.ref pu), .val (.long q), .second, .val (.ref li), .val (.int (0 : Int32))] [])) rfl (hb hby d7_0) (ok rfl) (ok rfl)
  obtain ⟨b85, g85⟩ : ∃ z, z = h0.size := ⟨_, rfl⟩
  rw [← g85] at A85 D85 st85
  have ge_b85 : n0 ≤ b85 := Nat.le_trans Z0 (Nat.le_of_eq g85.symm)
  have sz_b85 : h0.size ≤ b85 := Nat.le_trans K0.1 (Nat.le_of_eq g85.symm)
  have F85_purpose : Fld Z h85 b85 "org/attestry/status/StatusEntry" "purpose" "Ljava/lang/String;" .null := D85 (Or.inr (own_w hw 59 rfl)) (ty := (.object "java/lang/String")) (by decide)
  have F85_index : Fld Z h85 b85 "org/attestry/status/StatusEntry" "index" "Ljava/lang/Long;" .null := D85 (Or.inr (own_w hw 61 rfl)) (ty := (.object "java/lang/Long")) (by decide)
  have F85_list : Fld Z h85 b85 "org/attestry/status/StatusEntry" "list" "Ljava/lang/String;" .null := D85 (Or.inr (own_w hw 63 rfl)) (ty := (.object "java/lang/String")) (by decide)
  have F85_set : Fld Z h85 b85 "org/attestry/status/StatusEntry" "set" "Ljava/lang/Boolean;" .null := D85 (Or.inr (own_w hw 65 rfl)) (ty := (.object "java/lang/Boolean")) (by decide)
  have F85_error : Fld Z h85 b85 "org/attestry/status/StatusEntry" "error" "Ljava/lang/String;" .null := D85 (Or.inr (own_w hw 67 rfl)) (ty := (.object "java/lang/String")) (by decide)
  refine Goes.step (T' := T85) (g' := (mkF m 3 #[.val (.ref pu), .val (.long q), .second, .val (.ref li), .val (.int (0 : Int32))] [(.ref b85)])) st85 ?_
  refine P1.dup X85.here hx (hb hby d7_3) rfl ?_
  refine P1.aloadN X85.here hx (hb hby d7_4) rfl rfl ?_
  refine P1.lloadN X85.here hx (hb hby d7_5) rfl ?_
  have Z86 : n0 ≤ h85.size := Nat.le_trans Z0 E85.1
  have O87 : Old Z n0 h85 := O0.ext E85
  refine Goes.callS X85 hx (y := y5_) hown (mvT hZ (own_w hw 36 rfl)) (mvT hZ (own_w hw 37 rfl)) (mvT hZ (own_w hw 38 rfl)) (mvT hZ (own_w hw 39 rfl)) (by decide) (kc' := 1) (ks' := 1) (backOf (W := 3) (rmLV l Z a0 hw [] q zc fm bf bt ca cl_ca h85 n0 Z86 O87 S_CS hzc S_FM hfm S_bf E_bf F_bf S_bt E_bt F_bt S_ca Ar_ca le_ca H_ca) hZ (own_w hw 39 rfl) (own_w hw 38 rfl) (ok rfl) (ok rfl)) (g := (mkF m 6 #[.val (.ref pu), .val (.long q), .second, .val (.ref li), .val (.int (0 : Int32))] [(.long q), (.ref pu), (.ref b85), (.ref b85)])) rfl (by rw [hml]; rfl) (argsL := [(.long q)]) (rest := [(.ref pu), (.ref b85), (.ref b85)]) (lenOf pd_16977 rfl) rfl (by show 2 * 0 + _ ≤ _; exact Nat.le_of_eq rfl) (hb hby d7_6) rfl e85 (ok rfl) (ok rfl) ?_
  intro v88 T88 L88 q88 X88
  obtain ⟨lo88, rfl, N88q, K88, g88E, g88F⟩ := q88
  have N88 := Fr.app N0 N88q
  show Goes p e below _ T88 (mkF m 9 #[.val (.ref pu), .val (.long q), .second, .val (.ref li), .val (.int (0 : Int32))] [(.ref lo88), (.ref pu), (.ref b85), (.ref b85)])
  refine P1.aloadN X88.here hx (hb hby d7_9) rfl rfl ?_
  refine P1.iload X88.here hx (hb hby d7_10) rfl ?_
  have Z89 : n0 ≤ T88.heap.size := Nat.le_trans Z86 K88.1
  have O90 : Old Z n0 T88.heap := O87.keep K88 all0
  refine Goes.callS X88 hx (y := y2_) hown (mvT hZ (own_w hw 44 rfl)) (mvT hZ (own_w hw 45 rfl)) (mvT hZ (own_w hw 46 rfl)) (mvT hZ (own_w hw 47 rfl)) (by decide) (kc' := 0) (ks' := 0) (backOf (W := 5) (rmBV0 l Z a0 hw [] zc fm bf bt ca cl_ca T88.heap n0 Z89 O90 S_CS hzc S_FM hfm S_bf E_bf F_bf S_bt E_bt F_bt S_ca Ar_ca le_ca H_ca) hZ (own_w hw 47 rfl) (own_w hw 46 rfl) (ok rfl) (ok rfl)) (g := (mkF m 12 #[.val (.ref pu), .val (.long q), .second, .val (.ref li), .val (.int (0 : Int32))] [(.int (0 : Int32)), (.ref li), (.ref lo88), (.ref pu), (.ref b85), (.ref b85)])) rfl (by rw [hml]; rfl) (argsL := [(.int (0 : Int32))]) (rest := [(.ref li), (.ref lo88), (.ref pu), (.ref b85), (.ref b85)]) (lenOf pd_23312 rfl) rfl (by show 2 * 0 + _ ≤ _; exact Nat.le_of_eq rfl) (hb hby d7_12) rfl rfl (ok rfl) (ok rfl) ?_
  intro v91 T91 L91 q91 X91
  obtain ⟨rfl, N91q, hE91⟩ := q91
  have N91 := Fr.app N88 N91q
  show Goes p e below _ T91 (mkF m 15 #[.val (.ref pu), .val (.long q), .second, .val (.ref li), .val (.int (0 : Int32))] [(.ref bf), (.ref li), (.ref lo88), (.ref pu), (.ref b85), (.ref b85)])
  refine P1.aconstNull X91.here hx (hb hby d7_15) ?_
  have E92 : Exa Z T88.heap b85 "org/attestry/status/StatusEntry" := A85.keep K88
  have F93 : Fld Z T88.heap b85 "org/attestry/status/StatusEntry" "purpose" "Ljava/lang/String;" .null := F85_purpose.keep K88 nin0
  have F94 : Fld Z T88.heap b85 "org/attestry/status/StatusEntry" "index" "Ljava/lang/Long;" .null := F85_index.keep K88 nin0
  have F95 : Fld Z T88.heap b85 "org/attestry/status/StatusEntry" "list" "Ljava/lang/String;" .null := F85_list.keep K88 nin0
  have F96 : Fld Z T88.heap b85 "org/attestry/status/StatusEntry" "set" "Ljava/lang/Boolean;" .null := F85_set.keep K88 nin0
  have F97 : Fld Z T88.heap b85 "org/attestry/status/StatusEntry" "error" "Ljava/lang/String;" .null := F85_error.keep K88 nin0
  refine Goes.callC X91 hx (y := y10_) rfl hown (mvT hZ (own_w hw 49 rfl)) (mvT hZ (own_w hw 50 rfl)) (mvT hZ (own_w hw 51 rfl)) (by decide) (kc' := 0) (ks' := 0) (backOf (W := 1) (rmSI l Z a0 hw [] b85 pu lo88 li bf T88.heap n0 Z89 O90 ge_b85 E92 F93 F94 F95 F96 F97) hZ (own_w hw 51 rfl) (own_w hw 32 rfl) (ok rfl) (ok rfl)) (g := (mkF m 16 #[.val (.ref pu), .val (.long q), .second, .val (.ref li), .val (.int (0 : Int32))] [.null, (.ref bf), (.ref li), (.ref lo88), (.ref pu), (.ref b85), (.ref b85)])) (a := b85) rfl (by rw [hml]; rfl) (argsL := [(.ref pu), (.ref lo88), (.ref li), (.ref bf), .null]) (rest := [(.ref b85)]) (lenOf pd_394781 rfl) rfl (by show 2 * 0 + _ ≤ _; exact Nat.le_of_eq rfl) (hb hby d7_16) rfl hE91 (ok rfl) (ok rfl) ?_
  intro v98 T98 L98 q98 X98
  obtain ⟨rfl, N98q, K98, g98E, g98_purpose, g98_index, g98_list, g98_set, g98_error⟩ := q98
  have N98 := Fr.app N91 N98q
  show Goes p e below _ T98 (mkF m 19 #[.val (.ref pu), .val (.long q), .second, .val (.ref li), .val (.int (0 : Int32))] [(.ref b85)])
  refine Goes.retA X98 hx Bd.notSynchronized Bd.returns rfl rfl (hb hby d7_19) (ok rfl) (ok rfl) ?_
  have K99 : Keep h0 h85 [] := K0.ext E85
  have K100 : Keep h0 T88.heap [] := K99.trans K88 all0
  have K101 : Keep h0 T98.heap [] := K100.trans K98 (allS (Or.inr sz_b85) all0)
  have E102 : Exa Z T98.heap lo88 "java/lang/Long" := g88E.keep K98
  have ne103 : lo88 ≠ b85 := ne_exa E102 g98E (by decide)
  have F104 : Fld Z T98.heap lo88 "java/lang/Long" "value" "J" (.long q) := g88F.keep K98 (ninS ne103 nin0)
  exact ⟨b85, lo88, rfl, N98, K101, g98E, E102, F104, g98_purpose, g98_index, g98_list, g98_set, g98_error⟩
theorem d20_0 : decode jdk_2055_method_11_code 0 = .ok (.aload_n 1, 1) := by decide +kernel
theorem d20_1 : decode jdk_2055_method_11_code 1 = .ok (.instanceof 8, 3) := by decide +kernel
theorem d20_4 : decode jdk_2055_method_11_code 4 = .ok (.ifCond .eq 23, 3) := by decide +kernel
theorem d20_7 : decode jdk_2055_method_11_code 7 = .ok (.aload_n 0, 1) := by decide +kernel
theorem d20_8 : decode jdk_2055_method_11_code 8 = .ok (.getfield 7, 3) := by decide +kernel
theorem d20_11 : decode jdk_2055_method_11_code 11 = .ok (.aload_n 1, 1) := by decide +kernel
theorem d20_12 : decode jdk_2055_method_11_code 12 = .ok (.checkcast 8, 3) := by decide +kernel
theorem d20_15 : decode jdk_2055_method_11_code 15 = .ok (.invokevirtual 42, 3) := by decide +kernel
theorem d20_18 : decode jdk_2055_method_11_code 18 = .ok (.if_icmp .ne 7, 3) := by decide +kernel
theorem d20_21 : decode jdk_2055_method_11_code 21 = .ok (.iconst 1, 1) := by decide +kernel
theorem d20_22 : decode jdk_2055_method_11_code 22 = .ok (.goto 4, 3) := by decide +kernel
theorem d20_25 : decode jdk_2055_method_11_code 25 = .ok (.iconst 0, 1) := by decide +kernel
theorem d20_26 : decode jdk_2055_method_11_code 26 = .ok (.ireturn, 1) := by decide +kernel
theorem d20_27 : decode jdk_2055_method_11_code 27 = .ok (.iconst 0, 1) := by decide +kernel
theorem d20_28 : decode jdk_2055_method_11_code 28 = .ok (.ireturn, 1) := by decide +kernel
theorem pd_392 : parseMethodDescriptor "()Z" = some ⟨[], some .boolean⟩ := by decide +kernel
theorem efBE1 (m : MethodId) (bt : Addr) (bt : Addr) : entryFrame m #[(.ref bt), (.ref bt)] 2 = mkF m 0 #[.val (.ref bt), .val (.ref bt)] [] := by first | (simp [entryFrame, mkF, argsToLocals, Value.category]; done) | rfl
def QBE1 (Z : State) (zc : Int32) (fm : Value) (bf : Addr) (bt : Addr) (ca : Addr) (cl_ca : Cell) (h0 : Heap) (n0 : Nat) (v : Option Value) (h : Heap) (L : List Loc) : Prop := v = some (.int 1) ∧ Fr n0 L ∧ h = h0
set_option maxRecDepth 65536 in
set_option maxHeartbeats 40000000 in
theorem rmBE1 (l : Launch) (Z : State) (a0 : Array Value) (hw : ∀ d ∈ tables_1, d.before a0 Z = true) (ws : List Jvm.Cond) (zc : Int32) (fm : Value) (bf : Addr) (bt : Addr) (ca : Addr) (cl_ca : Cell) (h0 : Heap) (n0 : Nat) (Z0 : n0 ≤ h0.size) (O0 : Old Z n0 h0) (S_CS : Sta Z Z.heap "java/lang/String" "COMPACT_STRINGS" "Z" (.int zc)) (hzc : ¬ zc = 0) (S_FM : Sta Z Z.heap "jdk/internal/util/Preconditions" "SIOOBE_FORMATTER" "Ljava/util/function/BiFunction;" fm) (hfm : fm.isRef = true) (S_bf : Sta Z Z.heap "java/lang/Boolean" "FALSE" "Ljava/lang/Boolean;" (.ref bf)) (E_bf : Exa Z Z.heap bf "java/lang/Boolean") (F_bf : Fld Z Z.heap bf "java/lang/Boolean" "value" "Z" (.int (0 : Int32))) (S_bt : Sta Z Z.heap "java/lang/Boolean" "TRUE" "Ljava/lang/Boolean;" (.ref bt)) (E_bt : Exa Z Z.heap bt "java/lang/Boolean") (F_bt : Fld Z Z.heap bt "java/lang/Boolean" "value" "Z" (.int (1 : Int32))) (S_ca : Sta Z Z.heap "java/lang/Long$LongCache" "cache" "[Ljava/lang/Long;" (.ref ca)) (Ar_ca : Arr Z Z.heap ca cl_ca (.object "java/lang/Long")) (le_ca : cl_ca.slots.size = 256) (H_ca : ∀ j : Int32, ¬ j < 0 → j < 256 → ∃ a : Addr, cl_ca.slots[j.toNatClampNeg]? = some (.ref a) ∧ Exa Z Z.heap a "java/lang/Long" ∧ Fld Z Z.heap a "java/lang/Long" "value" "J" (.long (j - 128).toInt64)) :
    MetFree l y1_ (head1 (Jvm.Cond.code y1_ jdk_2055_method_11_code 2 (some .boolean) :: ws) ({ frames := 1, cells := 0, slots := 0, locals := 13 } : Room)) (fun aa U => aa = #[(.ref bt), (.ref bt)] ∧ Z.Warmed39 U.vm ∧ U.heap = h0) (fun _ _ _ _ _ => True) (fun _ U oo U' => ∃ vv LL, oo = .returned vv ∧ QBE1 Z zc fm bf bt ca cl_ca h0 n0 vv U'.heap LL ∧ FrameEnd U oo U' LL ({ frames := 1, cells := 0, slots := 0, locals := 13 } : Room).cells ({ frames := 1, cells := 0, slots := 0, locals := 13 } : Room).slots) := by
  refine MetFree.of_bodySF (plainFor_of_name pn_java_lang_Boolean) hisR ?_
  intro p e s m args below meth c s₁ Bd hml0 hP hK
  obtain ⟨rfl, hZ, hh⟩ := hP
  have hx := Bd.exec
  have hby := Bd.bytes
  have hml : c.maxLocals = 2 := hml0
  have hown : s.vm.findClass "java/lang/Boolean" = some m.cls := findClass_of_methodNamed Bd.named
  have hnm := (name_of_methodNamed Bd.named Bd.method).1
  have X0 : Stand p l e ({ frames := 1, cells := 0, slots := 0, locals := 13 } : Room) s m #[(.ref bt), (.ref bt)] below meth c s₁ [] 0 0 := Stand.of_body Bd
  have e0 : s₁.heap = h0 := by rw [← hh, Bd.state]; rfl
  have N0 := Fr.nil n0
  refine Goes.give (Q := QBE1 Z zc fm bf bt ca cl_ca h0 n0) ?_
  rw [efBE1 m bt bt]
  have K0 : Keep h0 h0 [] := Keep.refl _ _
  refine P1.aloadN X0.here hx (hb hby d20_0) rfl rfl ?_
  obtain ⟨T105, X105, e105, st105⟩ := instY X0 hx hZ hown (own_w hw 116 rfl) e0 (Ins.self (E_bt.ext O0.2)) (g := (mkF m 1 #[.val (.ref bt), .val (.ref bt)] [(.ref bt)])) rfl rfl (hb hby d20_1)
  refine Goes.step (T' := T105) (g' := (mkF m 4 #[.val (.ref bt), .val (.ref bt)] [(.int (1 : Int32))])) st105 ?_
  refine Goes.step (T' := T105) (g' := (mkF m 7 #[.val (.ref bt), .val (.ref bt)] [])) (fun t k => XS.ifNo X105.here hx rfl (hb hby d20_4) rfl ((if0 _ _).trans (feq ((by decide : ¬ ((1 : Int32) = (0 : Int32))) : ¬ ((1 : Int32) = (0 : Int32)))).1) k) ?_
  refine P1.aloadN X105.here hx (hb hby d20_7) rfl rfl ?_
  obtain ⟨T106, X106, e106, st106⟩ := getF X105 hx hZ hown (host := "") (Or.inl (own_w hw 118 rfl)) Via.refl e105 (F_bt.ext O0.2) (g := (mkF m 8 #[.val (.ref bt), .val (.ref bt)] [(.ref bt)])) rfl rfl (hb hby d20_8)
  refine Goes.step (T' := T106) (g' := (mkF m 11 #[.val (.ref bt), .val (.ref bt)] [(.int (1 : Int32))])) st106 ?_
  refine P1.aloadN X106.here hx (hb hby d20_11) rfl rfl ?_
  obtain ⟨T107, X107, e107, st107⟩ := castY X106 hx hZ hown (own_w hw 116 rfl) e106 (Ins.self (E_bt.ext O0.2)) (g := (mkF m 12 #[.val (.ref bt), .val (.ref bt)] [(.ref bt), (.int (1 : Int32))])) rfl rfl (hb hby d20_12)
  refine Goes.step (T' := T107) (g' := (mkF m 15 #[.val (.ref bt), .val (.ref bt)] [(.ref bt), (.int (1 : Int32))])) st107 ?_
  refine Goes.callV X107 hx hZ (y := y0_) (z := y0_) hown (mvT hZ (own_w hw 120 rfl)) (mvT hZ (own_w hw 121 rfl)) (notFace_of_selects (args := #[]) (mvT hZ (own_w hw 123 rfl))) (mvT hZ (own_w hw 123 rfl)) (mvT hZ (own_w hw 122 rfl)) (by decide) (kc' := 0) (ks' := 0) (backOf (W := 1) (rmBv l Z a0 hw [] bt (1 : Int32) h0 n0 Z0 O0 (F_bt.ext O0.2)) hZ (own_w hw 124 rfl) (own_w hw 46 rfl) (ok rfl) (ok rfl)) (b := bt) e107 (E_bt.ext O0.2) (g := (mkF m 15 #[.val (.ref bt), .val (.ref bt)] [(.ref bt), (.int (1 : Int32))])) rfl (by rw [hml]; rfl) (argsL := []) (rest := [(.int (1 : Int32))]) (lenOf pd_392 rfl) rfl (by show 2 * 0 + _ ≤ _; exact Nat.le_of_eq rfl) (hb hby d20_15) rfl (ok rfl) (ok rfl) ?_
  intro v108 T108 L108 q108 X108
  obtain ⟨rfl, N108q, hE108⟩ := q108
  have N108 := Fr.app N0 N108q
  show Goes p e below _ T108 (mkF m 18 #[.val (.ref bt), .val (.ref bt)] [(.int (1 : Int32)), (.int (1 : Int32))])
  refine Goes.step (T' := T108) (g' := (mkF m 21 #[.val (.ref bt), .val (.ref bt)] [])) (fun t k => XS.icmpNo X108.here hx rfl (hb hby d20_18) rfl (teq ((by decide : (1 : Int32) = (1 : Int32)) : (1 : Int32) = (1 : Int32))).2 k) ?_
  refine P1.iconst X108.here hx (1 : Int32) (hb hby d20_21) rfl ?_
  refine P1.goto X108.here hx 26 (hb hby d20_22) (by decide) (by decide) ?_
  refine Goes.retN X108 hx Bd.notSynchronized (t := .boolean) Bd.returns (by simp) (hb hby d20_26) (ok rfl) (ok rfl) ?_
  rw [hE108]
  exact ⟨rfl, N108, rfl⟩
theorem efBE0 (m : MethodId) (bt : Addr) (bf : Addr) : entryFrame m #[(.ref bt), (.ref bf)] 2 = mkF m 0 #[.val (.ref bt), .val (.ref bf)] [] := by first | (simp [entryFrame, mkF, argsToLocals, Value.category]; done) | rfl
def QBE0 (Z : State) (zc : Int32) (fm : Value) (bf : Addr) (bt : Addr) (ca : Addr) (cl_ca : Cell) (h0 : Heap) (n0 : Nat) (v : Option Value) (h : Heap) (L : List Loc) : Prop := v = some (.int 0) ∧ Fr n0 L ∧ h = h0
set_option maxRecDepth 65536 in
set_option maxHeartbeats 40000000 in
theorem rmBE0 (l : Launch) (Z : State) (a0 : Array Value) (hw : ∀ d ∈ tables_1, d.before a0 Z = true) (ws : List Jvm.Cond) (zc : Int32) (fm : Value) (bf : Addr) (bt : Addr) (ca : Addr) (cl_ca : Cell) (h0 : Heap) (n0 : Nat) (Z0 : n0 ≤ h0.size) (O0 : Old Z n0 h0) (S_CS : Sta Z Z.heap "java/lang/String" "COMPACT_STRINGS" "Z" (.int zc)) (hzc : ¬ zc = 0) (S_FM : Sta Z Z.heap "jdk/internal/util/Preconditions" "SIOOBE_FORMATTER" "Ljava/util/function/BiFunction;" fm) (hfm : fm.isRef = true) (S_bf : Sta Z Z.heap "java/lang/Boolean" "FALSE" "Ljava/lang/Boolean;" (.ref bf)) (E_bf : Exa Z Z.heap bf "java/lang/Boolean") (F_bf : Fld Z Z.heap bf "java/lang/Boolean" "value" "Z" (.int (0 : Int32))) (S_bt : Sta Z Z.heap "java/lang/Boolean" "TRUE" "Ljava/lang/Boolean;" (.ref bt)) (E_bt : Exa Z Z.heap bt "java/lang/Boolean") (F_bt : Fld Z Z.heap bt "java/lang/Boolean" "value" "Z" (.int (1 : Int32))) (S_ca : Sta Z Z.heap "java/lang/Long$LongCache" "cache" "[Ljava/lang/Long;" (.ref ca)) (Ar_ca : Arr Z Z.heap ca cl_ca (.object "java/lang/Long")) (le_ca : cl_ca.slots.size = 256) (H_ca : ∀ j : Int32, ¬ j < 0 → j < 256 → ∃ a : Addr, cl_ca.slots[j.toNatClampNeg]? = some (.ref a) ∧ Exa Z Z.heap a "java/lang/Long" ∧ Fld Z Z.heap a "java/lang/Long" "value" "J" (.long (j - 128).toInt64)) :
    MetFree l y1_ (head1 (Jvm.Cond.code y1_ jdk_2055_method_11_code 2 (some .boolean) :: ws) ({ frames := 1, cells := 0, slots := 0, locals := 13 } : Room)) (fun aa U => aa = #[(.ref bt), (.ref bf)] ∧ Z.Warmed39 U.vm ∧ U.heap = h0) (fun _ _ _ _ _ => True) (fun _ U oo U' => ∃ vv LL, oo = .returned vv ∧ QBE0 Z zc fm bf bt ca cl_ca h0 n0 vv U'.heap LL ∧ FrameEnd U oo U' LL ({ frames := 1, cells := 0, slots := 0, locals := 13 } : Room).cells ({ frames := 1, cells := 0, slots := 0, locals := 13 } : Room).slots) := by
  refine MetFree.of_bodySF (plainFor_of_name pn_java_lang_Boolean) hisR ?_
  intro p e s m args below meth c s₁ Bd hml0 hP hK
  obtain ⟨rfl, hZ, hh⟩ := hP
  have hx := Bd.exec
  have hby := Bd.bytes
  have hml : c.maxLocals = 2 := hml0
  have hown : s.vm.findClass "java/lang/Boolean" = some m.cls := findClass_of_methodNamed Bd.named
  have hnm := (name_of_methodNamed Bd.named Bd.method).1
  have X0 : Stand p l e ({ frames := 1, cells := 0, slots := 0, locals := 13 } : Room) s m #[(.ref bt), (.ref bf)] below meth c s₁ [] 0 0 := Stand.of_body Bd
  have e0 : s₁.heap = h0 := by rw [← hh, Bd.state]; rfl
  have N0 := Fr.nil n0
  refine Goes.give (Q := QBE0 Z zc fm bf bt ca cl_ca h0 n0) ?_
  rw [efBE0 m bt bf]
  have K0 : Keep h0 h0 [] := Keep.refl _ _
  refine P1.aloadN X0.here hx (hb hby d20_0) rfl rfl ?_
  obtain ⟨T109, X109, e109, st109⟩ := instY X0 hx hZ hown (own_w hw 116 rfl) e0 (Ins.self (E_bf.ext O0.2)) (g := (mkF m 1 #[.val (.ref bt), .val (.ref bf)] [(.ref bf)])) rfl rfl (hb hby d20_1)
  refine Goes.step (T' := T109) (g' := (mkF m 4 #[.val (.ref bt), .val (.ref bf)] [(.int (1 : Int32))])) st109 ?_
  refine Goes.step (T' := T109) (g' := (mkF m 7 #[.val (.ref bt), .val (.ref bf)] [])) (fun t k => XS.ifNo X109.here hx rfl (hb hby d20_4) rfl ((if0 _ _).trans (feq ((by decide : ¬ ((1 : Int32) = (0 : Int32))) : ¬ ((1 : Int32) = (0 : Int32)))).1) k) ?_
  refine P1.aloadN X109.here hx (hb hby d20_7) rfl rfl ?_
  obtain ⟨T110, X110, e110, st110⟩ := getF X109 hx hZ hown (host := "") (Or.inl (own_w hw 118 rfl)) Via.refl e109 (F_bt.ext O0.2) (g := (mkF m 8 #[.val (.ref bt), .val (.ref bf)] [(.ref bt)])) rfl rfl (hb hby d20_8)
  refine Goes.step (T' := T110) (g' := (mkF m 11 #[.val (.ref bt), .val (.ref bf)] [(.int (1 : Int32))])) st110 ?_
  refine P1.aloadN X110.here hx (hb hby d20_11) rfl rfl ?_
  obtain ⟨T111, X111, e111, st111⟩ := castY X110 hx hZ hown (own_w hw 116 rfl) e110 (Ins.self (E_bf.ext O0.2)) (g := (mkF m 12 #[.val (.ref bt), .val (.ref bf)] [(.ref bf), (.int (1 : Int32))])) rfl rfl (hb hby d20_12)
  refine Goes.step (T' := T111) (g' := (mkF m 15 #[.val (.ref bt), .val (.ref bf)] [(.ref bf), (.int (1 : Int32))])) st111 ?_
  refine Goes.callV X111 hx hZ (y := y0_) (z := y0_) hown (mvT hZ (own_w hw 120 rfl)) (mvT hZ (own_w hw 121 rfl)) (notFace_of_selects (args := #[]) (mvT hZ (own_w hw 123 rfl))) (mvT hZ (own_w hw 123 rfl)) (mvT hZ (own_w hw 122 rfl)) (by decide) (kc' := 0) (ks' := 0) (backOf (W := 1) (rmBv l Z a0 hw [] bf (0 : Int32) h0 n0 Z0 O0 (F_bf.ext O0.2)) hZ (own_w hw 124 rfl) (own_w hw 46 rfl) (ok rfl) (ok rfl)) (b := bf) e111 (E_bf.ext O0.2) (g := (mkF m 15 #[.val (.ref bt), .val (.ref bf)] [(.ref bf), (.int (1 : Int32))])) rfl (by rw [hml]; rfl) (argsL := []) (rest := [(.int (1 : Int32))]) (lenOf pd_392 rfl) rfl (by show 2 * 0 + _ ≤ _; exact Nat.le_of_eq rfl) (hb hby d20_15) rfl (ok rfl) (ok rfl) ?_
  intro v112 T112 L112 q112 X112
  obtain ⟨rfl, N112q, hE112⟩ := q112
  have N112 := Fr.app N0 N112q
  show Goes p e below _ T112 (mkF m 18 #[.val (.ref bt), .val (.ref bf)] [(.int (0 : Int32)), (.int (1 : Int32))])
  refine Goes.step (T' := T112) (g' := (mkF m 25 #[.val (.ref bt), .val (.ref bf)] [])) (fun t k => XS.icmpYes X112.here hx rfl (pc0 := 18) (pc' := 25) rfl (hb hby d20_18) rfl (feq ((by decide : ¬ ((1 : Int32) = (0 : Int32))) : ¬ ((1 : Int32) = (0 : Int32)))).2 (by decide) (by decide) k) ?_
  refine P1.iconst X112.here hx (0 : Int32) (hb hby d20_25) rfl ?_
  refine Goes.retN X112 hx Bd.notSynchronized (t := .boolean) Bd.returns (by simp) (hb hby d20_26) (ok rfl) (ok rfl) ?_
  rw [hE112]
  exact ⟨rfl, N112, rfl⟩
theorem d19_0 : decode prog_30_method_4_code 0 = .ok (.getstatic 41, 3) := by decide +kernel
theorem d19_3 : decode prog_30_method_4_code 3 = .ok (.aload_n 0, 1) := by decide +kernel
theorem d19_4 : decode prog_30_method_4_code 4 = .ok (.getfield 20, 3) := by decide +kernel
theorem d19_7 : decode prog_30_method_4_code 7 = .ok (.invokevirtual 44, 3) := by decide +kernel
theorem d19_10 : decode prog_30_method_4_code 10 = .ok (.ifCond .eq 18, 3) := by decide +kernel
theorem d19_13 : decode prog_30_method_4_code 13 = .ok (.aload_n 1, 1) := by decide +kernel
theorem d19_14 : decode prog_30_method_4_code 14 = .ok (.aload_n 0, 1) := by decide +kernel
theorem d19_15 : decode prog_30_method_4_code 15 = .ok (.getfield 7, 3) := by decide +kernel
theorem d19_18 : decode prog_30_method_4_code 18 = .ok (.invokevirtual 48, 3) := by decide +kernel
theorem d19_21 : decode prog_30_method_4_code 21 = .ok (.ifCond .eq 7, 3) := by decide +kernel
theorem d19_24 : decode prog_30_method_4_code 24 = .ok (.iconst 1, 1) := by decide +kernel
theorem d19_25 : decode prog_30_method_4_code 25 = .ok (.goto 4, 3) := by decide +kernel
theorem d19_28 : decode prog_30_method_4_code 28 = .ok (.iconst 0, 1) := by decide +kernel
theorem d19_29 : decode prog_30_method_4_code 29 = .ok (.ireturn, 1) := by decide +kernel
theorem pd_20140 : parseMethodDescriptor "(Ljava/lang/Object;)Z" = some ⟨[(.object "java/lang/Object")], some .boolean⟩ := by decide +kernel
theorem efIS1 (m : MethodId) (en : Addr) (pu : Addr) : entryFrame m #[(.ref en), (.ref pu)] 2 = mkF m 0 #[.val (.ref en), .val (.ref pu)] [] := by first | (simp [entryFrame, mkF, argsToLocals, Value.category]; done) | rfl
def QIS1 (Z : State) (en : Addr) (pu : Addr) (zc : Int32) (fm : Value) (bf : Addr) (bt : Addr) (ca : Addr) (cl_ca : Cell) (h0 : Heap) (n0 : Nat) (v : Option Value) (h : Heap) (L : List Loc) : Prop := v = some (.int 1) ∧ Fr n0 L ∧ h = h0
set_option maxRecDepth 65536 in
set_option maxHeartbeats 40000000 in
theorem rmIS1 (l : Launch) (Z : State) (a0 : Array Value) (hw : ∀ d ∈ tables_1, d.before a0 Z = true) (ws : List Jvm.Cond) (en : Addr) (pu : Addr) (zc : Int32) (fm : Value) (bf : Addr) (bt : Addr) (ca : Addr) (cl_ca : Cell) (h0 : Heap) (n0 : Nat) (Z0 : n0 ≤ h0.size) (O0 : Old Z n0 h0) (S_CS : Sta Z Z.heap "java/lang/String" "COMPACT_STRINGS" "Z" (.int zc)) (hzc : ¬ zc = 0) (S_FM : Sta Z Z.heap "jdk/internal/util/Preconditions" "SIOOBE_FORMATTER" "Ljava/util/function/BiFunction;" fm) (hfm : fm.isRef = true) (S_bf : Sta Z Z.heap "java/lang/Boolean" "FALSE" "Ljava/lang/Boolean;" (.ref bf)) (E_bf : Exa Z Z.heap bf "java/lang/Boolean") (F_bf : Fld Z Z.heap bf "java/lang/Boolean" "value" "Z" (.int (0 : Int32))) (S_bt : Sta Z Z.heap "java/lang/Boolean" "TRUE" "Ljava/lang/Boolean;" (.ref bt)) (E_bt : Exa Z Z.heap bt "java/lang/Boolean") (F_bt : Fld Z Z.heap bt "java/lang/Boolean" "value" "Z" (.int (1 : Int32))) (S_ca : Sta Z Z.heap "java/lang/Long$LongCache" "cache" "[Ljava/lang/Long;" (.ref ca)) (Ar_ca : Arr Z Z.heap ca cl_ca (.object "java/lang/Long")) (le_ca : cl_ca.slots.size = 256) (H_ca : ∀ j : Int32, ¬ j < 0 → j < 256 → ∃ a : Addr, cl_ca.slots[j.toNatClampNeg]? = some (.ref a) ∧ Exa Z Z.heap a "java/lang/Long" ∧ Fld Z Z.heap a "java/lang/Long" "value" "J" (.long (j - 128).toInt64)) (Fs : Fld Z h0 en "org/attestry/status/StatusEntry" "set" "Ljava/lang/Boolean;" (.ref bt)) (Fp : Fld Z h0 en "org/attestry/status/StatusEntry" "purpose" "Ljava/lang/String;" (.ref pu)) (Ep : Exa Z h0 pu "java/lang/String") :
    MetFree l y13_ (head1 (Jvm.Cond.code y13_ prog_30_method_4_code 2 (some .boolean) :: ws) ({ frames := 2, cells := 0, slots := 0, locals := 26 } : Room)) (fun aa U => aa = #[(.ref en), (.ref pu)] ∧ Z.Warmed39 U.vm ∧ U.heap = h0) (fun _ _ _ _ _ => True) (fun _ U oo U' => ∃ vv LL, oo = .returned vv ∧ QIS1 Z en pu zc fm bf bt ca cl_ca h0 n0 vv U'.heap LL ∧ FrameEnd U oo U' LL ({ frames := 2, cells := 0, slots := 0, locals := 26 } : Room).cells ({ frames := 2, cells := 0, slots := 0, locals := 26 } : Room).slots) := by
  refine MetFree.of_bodySF (plainFor_of_name pn_org_attestry_status_StatusEntry) hisR ?_
  intro p e s m args below meth c s₁ Bd hml0 hP hK
  obtain ⟨rfl, hZ, hh⟩ := hP
  have hx := Bd.exec
  have hby := Bd.bytes
  have hml : c.maxLocals = 2 := hml0
  have hown : s.vm.findClass "org/attestry/status/StatusEntry" = some m.cls := findClass_of_methodNamed Bd.named
  have hnm := (name_of_methodNamed Bd.named Bd.method).1
  have X0 : Stand p l e ({ frames := 2, cells := 0, slots := 0, locals := 26 } : Room) s m #[(.ref en), (.ref pu)] below meth c s₁ [] 0 0 := Stand.of_body Bd
  have e0 : s₁.heap = h0 := by rw [← hh, Bd.state]; rfl
  have N0 := Fr.nil n0
  refine Goes.give (Q := QIS1 Z en pu zc fm bf bt ca cl_ca h0 n0) ?_
  rw [efIS1 m en pu]
  have K0 : Keep h0 h0 [] := Keep.refl _ _
  obtain ⟨T113, X113, e113, st113⟩ := getS2 X0 hx hZ hown (host := "") (Or.inl (own_w hw 110 rfl)) Via.refl e0 (S_bt.ext O0.2) (g := (mkF m 0 #[.val (.ref en), .val (.ref pu)] [])) rfl (hb hby d19_0)
  refine Goes.step (T' := T113) (g' := (mkF m 3 #[.val (.ref en), .val (.ref pu)] [(.ref bt)])) st113 ?_
  refine P1.aloadN X113.here hx (hb hby d19_3) rfl rfl ?_
  obtain ⟨T114, X114, e114, st114⟩ := getF X113 hx hZ hown (host := "") (Or.inl (own_w hw 64 rfl)) Via.refl e113 Fs (g := (mkF m 4 #[.val (.ref en), .val (.ref pu)] [(.ref en), (.ref bt)])) rfl rfl (hb hby d19_4)
  refine Goes.step (T' := T114) (g' := (mkF m 7 #[.val (.ref en), .val (.ref pu)] [(.ref bt), (.ref bt)])) st114 ?_
  refine Goes.callV X114 hx hZ (y := y1_) (z := y1_) hown (mvT hZ (own_w hw 111 rfl)) (mvT hZ (own_w hw 112 rfl)) (notFace_of_selects (args := #[]) (mvT hZ (own_w hw 114 rfl))) (mvT hZ (own_w hw 114 rfl)) (mvT hZ (own_w hw 113 rfl)) (by decide) (kc' := 0) (ks' := 0) (backOf (W := 0) (rmBE1 l Z a0 hw [] zc fm bf bt ca cl_ca h0 n0 Z0 O0 S_CS hzc S_FM hfm S_bf E_bf F_bf S_bt E_bt F_bt S_ca Ar_ca le_ca H_ca) hZ (own_w hw 115 rfl) (own_w hw 46 rfl) (ok rfl) (ok rfl)) (b := bt) e114 (E_bt.ext O0.2) (g := (mkF m 7 #[.val (.ref en), .val (.ref pu)] [(.ref bt), (.ref bt)])) rfl (by rw [hml]; rfl) (argsL := [(.ref bt)]) (rest := []) (lenOf pd_20140 rfl) rfl (by show 2 * 0 + _ ≤ _; exact Nat.le_of_eq rfl) (hb hby d19_7) rfl (ok rfl) (ok rfl) ?_
  intro v115 T115 L115 q115 X115
  obtain ⟨rfl, N115q, hE115⟩ := q115
  have N115 := Fr.app N0 N115q
  show Goes p e below _ T115 (mkF m 10 #[.val (.ref en), .val (.ref pu)] [(.int (1 : Int32))])
  refine Goes.step (T' := T115) (g' := (mkF m 13 #[.val (.ref en), .val (.ref pu)] [])) (fun t k => XS.ifNo X115.here hx rfl (hb hby d19_10) rfl ((if0 _ _).trans (feq ((by decide : ¬ ((1 : Int32) = (0 : Int32))) : ¬ ((1 : Int32) = (0 : Int32)))).1) k) ?_
  refine P1.aloadN X115.here hx (hb hby d19_13) rfl rfl ?_
  refine P1.aloadN X115.here hx (hb hby d19_14) rfl rfl ?_
  obtain ⟨T116, X116, e116, st116⟩ := getF X115 hx hZ hown (host := "") (Or.inl (own_w hw 58 rfl)) Via.refl hE115 Fp (g := (mkF m 15 #[.val (.ref en), .val (.ref pu)] [(.ref en), (.ref pu)])) rfl rfl (hb hby d19_15)
  refine Goes.step (T' := T116) (g' := (mkF m 18 #[.val (.ref en), .val (.ref pu)] [(.ref pu), (.ref pu)])) st116 ?_
  refine Goes.callV X116 hx hZ (y := y9_) (z := y9_) hown (mvT hZ (own_w hw 126 rfl)) (mvT hZ (own_w hw 74 rfl)) (notFace_of_selects (args := #[]) (mvT hZ (own_w hw 76 rfl))) (mvT hZ (own_w hw 76 rfl)) (mvT hZ (own_w hw 75 rfl)) (by decide) (kc' := 0) (ks' := 0) (backOf (W := 0) (rmEq l Z a0 hw [] pu h0 n0 Z0 O0 ) hZ (own_w hw 77 rfl) (own_w hw 3 rfl) (ok rfl) (ok rfl)) (b := pu) e116 Ep (g := (mkF m 18 #[.val (.ref en), .val (.ref pu)] [(.ref pu), (.ref pu)])) rfl (by rw [hml]; rfl) (argsL := [(.ref pu)]) (rest := []) (lenOf pd_20140 rfl) rfl (by show 2 * 0 + _ ≤ _; exact Nat.le_of_eq rfl) (hb hby d19_18) rfl (ok rfl) (ok rfl) ?_
  intro v117 T117 L117 q117 X117
  obtain ⟨rfl, N117q, hE117⟩ := q117
  have N117 := Fr.app N115 N117q
  show Goes p e below _ T117 (mkF m 21 #[.val (.ref en), .val (.ref pu)] [(.int (1 : Int32))])
  refine Goes.step (T' := T117) (g' := (mkF m 24 #[.val (.ref en), .val (.ref pu)] [])) (fun t k => XS.ifNo X117.here hx rfl (hb hby d19_21) rfl ((if0 _ _).trans (feq ((by decide : ¬ ((1 : Int32) = (0 : Int32))) : ¬ ((1 : Int32) = (0 : Int32)))).1) k) ?_
  refine P1.iconst X117.here hx (1 : Int32) (hb hby d19_24) rfl ?_
  refine P1.goto X117.here hx 29 (hb hby d19_25) (by decide) (by decide) ?_
  refine Goes.retN X117 hx Bd.notSynchronized (t := .boolean) Bd.returns (by simp) (hb hby d19_29) (ok rfl) (ok rfl) ?_
  rw [hE117]
  exact ⟨rfl, N117, rfl⟩
theorem efIS0 (m : MethodId) (en : Addr) (pu : Addr) : entryFrame m #[(.ref en), (.ref pu)] 2 = mkF m 0 #[.val (.ref en), .val (.ref pu)] [] := by first | (simp [entryFrame, mkF, argsToLocals, Value.category]; done) | rfl
def QIS0 (Z : State) (en : Addr) (pu : Addr) (zc : Int32) (fm : Value) (bf : Addr) (bt : Addr) (ca : Addr) (cl_ca : Cell) (h0 : Heap) (n0 : Nat) (v : Option Value) (h : Heap) (L : List Loc) : Prop := v = some (.int 0) ∧ Fr n0 L ∧ h = h0
set_option maxRecDepth 65536 in
set_option maxHeartbeats 40000000 in
theorem rmIS0 (l : Launch) (Z : State) (a0 : Array Value) (hw : ∀ d ∈ tables_1, d.before a0 Z = true) (ws : List Jvm.Cond) (en : Addr) (pu : Addr) (zc : Int32) (fm : Value) (bf : Addr) (bt : Addr) (ca : Addr) (cl_ca : Cell) (h0 : Heap) (n0 : Nat) (Z0 : n0 ≤ h0.size) (O0 : Old Z n0 h0) (S_CS : Sta Z Z.heap "java/lang/String" "COMPACT_STRINGS" "Z" (.int zc)) (hzc : ¬ zc = 0) (S_FM : Sta Z Z.heap "jdk/internal/util/Preconditions" "SIOOBE_FORMATTER" "Ljava/util/function/BiFunction;" fm) (hfm : fm.isRef = true) (S_bf : Sta Z Z.heap "java/lang/Boolean" "FALSE" "Ljava/lang/Boolean;" (.ref bf)) (E_bf : Exa Z Z.heap bf "java/lang/Boolean") (F_bf : Fld Z Z.heap bf "java/lang/Boolean" "value" "Z" (.int (0 : Int32))) (S_bt : Sta Z Z.heap "java/lang/Boolean" "TRUE" "Ljava/lang/Boolean;" (.ref bt)) (E_bt : Exa Z Z.heap bt "java/lang/Boolean") (F_bt : Fld Z Z.heap bt "java/lang/Boolean" "value" "Z" (.int (1 : Int32))) (S_ca : Sta Z Z.heap "java/lang/Long$LongCache" "cache" "[Ljava/lang/Long;" (.ref ca)) (Ar_ca : Arr Z Z.heap ca cl_ca (.object "java/lang/Long")) (le_ca : cl_ca.slots.size = 256) (H_ca : ∀ j : Int32, ¬ j < 0 → j < 256 → ∃ a : Addr, cl_ca.slots[j.toNatClampNeg]? = some (.ref a) ∧ Exa Z Z.heap a "java/lang/Long" ∧ Fld Z Z.heap a "java/lang/Long" "value" "J" (.long (j - 128).toInt64)) (Fs : Fld Z h0 en "org/attestry/status/StatusEntry" "set" "Ljava/lang/Boolean;" (.ref bf)) (Fp : Fld Z h0 en "org/attestry/status/StatusEntry" "purpose" "Ljava/lang/String;" (.ref pu)) (Ep : Exa Z h0 pu "java/lang/String") :
    MetFree l y13_ (head1 (Jvm.Cond.code y13_ prog_30_method_4_code 2 (some .boolean) :: ws) ({ frames := 2, cells := 0, slots := 0, locals := 26 } : Room)) (fun aa U => aa = #[(.ref en), (.ref pu)] ∧ Z.Warmed39 U.vm ∧ U.heap = h0) (fun _ _ _ _ _ => True) (fun _ U oo U' => ∃ vv LL, oo = .returned vv ∧ QIS0 Z en pu zc fm bf bt ca cl_ca h0 n0 vv U'.heap LL ∧ FrameEnd U oo U' LL ({ frames := 2, cells := 0, slots := 0, locals := 26 } : Room).cells ({ frames := 2, cells := 0, slots := 0, locals := 26 } : Room).slots) := by
  refine MetFree.of_bodySF (plainFor_of_name pn_org_attestry_status_StatusEntry) hisR ?_
  intro p e s m args below meth c s₁ Bd hml0 hP hK
  obtain ⟨rfl, hZ, hh⟩ := hP
  have hx := Bd.exec
  have hby := Bd.bytes
  have hml : c.maxLocals = 2 := hml0
  have hown : s.vm.findClass "org/attestry/status/StatusEntry" = some m.cls := findClass_of_methodNamed Bd.named
  have hnm := (name_of_methodNamed Bd.named Bd.method).1
  have X0 : Stand p l e ({ frames := 2, cells := 0, slots := 0, locals := 26 } : Room) s m #[(.ref en), (.ref pu)] below meth c s₁ [] 0 0 := Stand.of_body Bd
  have e0 : s₁.heap = h0 := by rw [← hh, Bd.state]; rfl
  have N0 := Fr.nil n0
  refine Goes.give (Q := QIS0 Z en pu zc fm bf bt ca cl_ca h0 n0) ?_
  rw [efIS0 m en pu]
  have K0 : Keep h0 h0 [] := Keep.refl _ _
  obtain ⟨T118, X118, e118, st118⟩ := getS2 X0 hx hZ hown (host := "") (Or.inl (own_w hw 110 rfl)) Via.refl e0 (S_bt.ext O0.2) (g := (mkF m 0 #[.val (.ref en), .val (.ref pu)] [])) rfl (hb hby d19_0)
  refine Goes.step (T' := T118) (g' := (mkF m 3 #[.val (.ref en), .val (.ref pu)] [(.ref bt)])) st118 ?_
  refine P1.aloadN X118.here hx (hb hby d19_3) rfl rfl ?_
  obtain ⟨T119, X119, e119, st119⟩ := getF X118 hx hZ hown (host := "") (Or.inl (own_w hw 64 rfl)) Via.refl e118 Fs (g := (mkF m 4 #[.val (.ref en), .val (.ref pu)] [(.ref en), (.ref bt)])) rfl rfl (hb hby d19_4)
  refine Goes.step (T' := T119) (g' := (mkF m 7 #[.val (.ref en), .val (.ref pu)] [(.ref bf), (.ref bt)])) st119 ?_
  refine Goes.callV X119 hx hZ (y := y1_) (z := y1_) hown (mvT hZ (own_w hw 111 rfl)) (mvT hZ (own_w hw 112 rfl)) (notFace_of_selects (args := #[]) (mvT hZ (own_w hw 114 rfl))) (mvT hZ (own_w hw 114 rfl)) (mvT hZ (own_w hw 113 rfl)) (by decide) (kc' := 0) (ks' := 0) (backOf (W := 0) (rmBE0 l Z a0 hw [] zc fm bf bt ca cl_ca h0 n0 Z0 O0 S_CS hzc S_FM hfm S_bf E_bf F_bf S_bt E_bt F_bt S_ca Ar_ca le_ca H_ca) hZ (own_w hw 115 rfl) (own_w hw 46 rfl) (ok rfl) (ok rfl)) (b := bt) e119 (E_bt.ext O0.2) (g := (mkF m 7 #[.val (.ref en), .val (.ref pu)] [(.ref bf), (.ref bt)])) rfl (by rw [hml]; rfl) (argsL := [(.ref bf)]) (rest := []) (lenOf pd_20140 rfl) rfl (by show 2 * 0 + _ ≤ _; exact Nat.le_of_eq rfl) (hb hby d19_7) rfl (ok rfl) (ok rfl) ?_
  intro v120 T120 L120 q120 X120
  obtain ⟨rfl, N120q, hE120⟩ := q120
  have N120 := Fr.app N0 N120q
  show Goes p e below _ T120 (mkF m 10 #[.val (.ref en), .val (.ref pu)] [(.int (0 : Int32))])
  refine Goes.step (T' := T120) (g' := (mkF m 28 #[.val (.ref en), .val (.ref pu)] [])) (fun t k => XS.ifYes X120.here hx rfl (pc0 := 10) (pc' := 28) rfl (hb hby d19_10) rfl ((if0 _ _).trans (teq ((by decide : (0 : Int32) = (0 : Int32)) : (0 : Int32) = (0 : Int32))).1) (by decide) (by decide) k) ?_
  refine P1.iconst X120.here hx (0 : Int32) (hb hby d19_28) rfl ?_
  refine Goes.retN X120 hx Bd.notSynchronized (t := .boolean) Bd.returns (by simp) (hb hby d19_29) (ok rfl) (ok rfl) ?_
  rw [hE120]
  exact ⟨rfl, N120, rfl⟩
theorem pn_org_attestry_status_StatusEntryReadPinLaw : plainName "org/attestry/status/StatusEntryReadPinLaw" = true := by first | (simp [plainName, overriddenIn]; done) | decide +kernel
theorem in_words : ∀ d ∈ StrChars.Road.words, d ∈ tables_1 := by decide +kernel
theorem pd_1017 : parseMethodDescriptor "([C)V" = some ⟨[(.array .char)], none⟩ := by decide +kernel
theorem pd_265751 : parseMethodDescriptor "(Ljava/lang/String;JLjava/lang/String;Z)Lorg/attestry/status/StatusEntry;" = some ⟨[(.object "java/lang/String"), .long, (.object "java/lang/String"), .boolean], some (.object "org/attestry/status/StatusEntry")⟩ := by decide +kernel
theorem pd_19649 : parseMethodDescriptor "()Ljava/lang/String;" = some ⟨[], some (.object "java/lang/String")⟩ := by decide +kernel
theorem pd_15323 : parseMethodDescriptor "()Ljava/lang/Long;" = some ⟨[], some (.object "java/lang/Long")⟩ := by decide +kernel
theorem pd_344 : parseMethodDescriptor "()J" = some ⟨[], some .long⟩ := by decide +kernel
theorem pd_21322 : parseMethodDescriptor "()Ljava/lang/Boolean;" = some ⟨[], some (.object "java/lang/Boolean")⟩ := by decide +kernel
theorem pd_20581 : parseMethodDescriptor "(Ljava/lang/String;)Z" = some ⟨[(.object "java/lang/String")], some .boolean⟩ := by decide +kernel
theorem ef0 (m : MethodId) (p0 : Int32) (p1 : Int32) (q2 : Int64) (p3 : Int32) : entryFrame m #[(.int p0), (.int p1), (.long q2), (.int p3)] maxLocals = mkF m 0 #[.val (.int p0), .val (.int p1), .val (.long q2), .second, .val (.int p3), .unset, .unset, .unset, .unset, .unset, .unset, .unset] [] := by first | (simp [entryFrame, mkF, argsToLocals, Value.category, maxLocals]; done) | rfl
def Q0 (Z : State) (p0 : Int32) (p1 : Int32) (q2 : Int64) (p3 : Int32) (zc : Int32) (fm : Value) (bf : Addr) (bt : Addr) (ca : Addr) (cl_ca : Cell) (h0 : Heap) (n0 : Nat) (v : Option Value) (h : Heap) (L : List Loc) : Prop := v = some (.int 1) ∧ Fr n0 L
set_option maxRecDepth 65536 in
set_option maxHeartbeats 40000000 in
theorem rm0 (l : Launch) (Z : State) (a0 : Array Value) (hw : ∀ d ∈ tables_1, d.before a0 Z = true) (ws : List Jvm.Cond) (p0 : Int32) (p1 : Int32) (q2 : Int64) (p3 : Int32) (zc : Int32) (fm : Value) (bf : Addr) (bt : Addr) (ca : Addr) (cl_ca : Cell) (h0 : Heap) (n0 : Nat) (Z0 : n0 ≤ h0.size) (O0 : Old Z n0 h0) (S_CS : Sta Z Z.heap "java/lang/String" "COMPACT_STRINGS" "Z" (.int zc)) (hzc : ¬ zc = 0) (S_FM : Sta Z Z.heap "jdk/internal/util/Preconditions" "SIOOBE_FORMATTER" "Ljava/util/function/BiFunction;" fm) (hfm : fm.isRef = true) (S_bf : Sta Z Z.heap "java/lang/Boolean" "FALSE" "Ljava/lang/Boolean;" (.ref bf)) (E_bf : Exa Z Z.heap bf "java/lang/Boolean") (F_bf : Fld Z Z.heap bf "java/lang/Boolean" "value" "Z" (.int (0 : Int32))) (S_bt : Sta Z Z.heap "java/lang/Boolean" "TRUE" "Ljava/lang/Boolean;" (.ref bt)) (E_bt : Exa Z Z.heap bt "java/lang/Boolean") (F_bt : Fld Z Z.heap bt "java/lang/Boolean" "value" "Z" (.int (1 : Int32))) (S_ca : Sta Z Z.heap "java/lang/Long$LongCache" "cache" "[Ljava/lang/Long;" (.ref ca)) (Ar_ca : Arr Z Z.heap ca cl_ca (.object "java/lang/Long")) (le_ca : cl_ca.slots.size = 256) (H_ca : ∀ j : Int32, ¬ j < 0 → j < 256 → ∃ a : Addr, cl_ca.slots[j.toNatClampNeg]? = some (.ref a) ∧ Exa Z Z.heap a "java/lang/Long" ∧ Fld Z Z.heap a "java/lang/Long" "value" "J" (.long (j - 128).toInt64)) :
    MetFree l x (head1 (Jvm.Cond.code x code maxLocals ret :: ws) room_1) (fun aa U => aa = #[(.int p0), (.int p1), (.long q2), (.int p3)] ∧ Z.Warmed39 U.vm ∧ U.heap = h0) (fun _ _ _ _ _ => True) (fun _ U oo U' => ∃ vv LL, oo = .returned vv ∧ Q0 Z p0 p1 q2 p3 zc fm bf bt ca cl_ca h0 n0 vv U'.heap LL ∧ FrameEnd U oo U' LL room_1.cells room_1.slots) := by
  refine MetFree.of_bodySF (plainFor_of_name pn_org_attestry_status_StatusEntryReadPinLaw) hisR ?_
  intro p e s m args below meth c s₁ Bd hml0 hP hK
  obtain ⟨rfl, hZ, hh⟩ := hP
  have hx := Bd.exec
  have hby := Bd.bytes
  have hml : c.maxLocals = 12 := hml0
  have hown : s.vm.findClass "org/attestry/status/StatusEntryReadPinLaw" = some m.cls := findClass_of_methodNamed Bd.named
  have hnm := (name_of_methodNamed Bd.named Bd.method).1
  have X0 : Stand p l e room_1 s m #[(.int p0), (.int p1), (.long q2), (.int p3)] below meth c s₁ [] 0 0 := Stand.of_body Bd
  have e0 : s₁.heap = h0 := by rw [← hh, Bd.state]; rfl
  have N0 := Fr.nil n0
  refine Goes.give (Q := Q0 Z p0 p1 q2 p3 zc fm bf bt ca cl_ca h0 n0) ?_
  rw [ef0 m p0 p1 q2 p3]
  have K0 : Keep h0 h0 [] := Keep.refl _ _
  refine P1.iconst X0.here hx (2 : Int32) (hb hby at_0) rfl ?_
  obtain ⟨T121, h121, k121, X121, e121, E121, A121, st121⟩ := newP X0 hx hZ (own_w hw 0 rfl) e0 (g := (mkF m 1 #[.val (.int p0), .val (.int p1), .val (.long q2), .second, .val (.int p3), .unset, .unset, .unset, .unset, .unset, .unset, .unset] [(.int (2 : Int32))])) rfl (hb hby at_1) rfl (by decide) (cap := 2) (ok rfl) (ok rfl) (ok rfl) (ok rfl)
  obtain ⟨b121, g121⟩ : ∃ z, z = h0.size := ⟨_, rfl⟩
  rw [← g121] at A121 st121
  have ge_b121 : n0 ≤ b121 := Nat.le_trans Z0 (Nat.le_of_eq g121.symm)
  have sz_b121 : h0.size ≤ b121 := Nat.le_trans K0.1 (Nat.le_of_eq g121.symm)
  have V121 : Arv Z h121 b121 k121 .char (2 : Int32) [(.int (0 : Int32)), (.int (0 : Int32))] (.int (0 : Int32)) := (Arv.new A121 (by decide)).pad (pad_rep [] (.int (0 : Int32)) 2)
  refine Goes.step (T' := T121) (g' := (mkF m 3 #[.val (.int p0), .val (.int p1), .val (.long q2), .second, .val (.int p3), .unset, .unset, .unset, .unset, .unset, .unset, .unset] [(.ref b121)])) st121 ?_
  refine P1.astore X121.here hx #[.val (.int p0), .val (.int p1), .val (.long q2), .second, .val (.int p3), .val (.ref b121), .unset, .unset, .unset, .unset, .unset, .unset] (hb hby at_3) rfl rfl ?_
  refine P1.aload X121.here hx (hb hby at_5) rfl rfl ?_
  refine P1.iconst X121.here hx (0 : Int32) (hb hby at_7) rfl ?_
  refine P1.iloadN X121.here hx (hb hby at_8) rfl ?_
  refine P1.sipush X121.here hx (255 : Int32) (hb hby at_9) rfl ?_
  refine P1.iand X121.here hx (hb hby at_12) ?_
  obtain ⟨c1, hc1⟩ : ∃ z, z = (p0 &&& (255 : Int32)) := ⟨_, rfl⟩
  show Goes p e below _ T121 _
  rw [← hc1]
  have bd_c1 : ¬ c1 < 0 ∧ ¬ (255 : Int32) < c1 := by rw [hc1]; exact own_and255 _
  refine Goes.step (T' := T121) (g' := (mkF m 14 #[.val (.int p0), .val (.int p1), .val (.long q2), .second, .val (.int p3), .val (.ref b121), .unset, .unset, .unset, .unset, .unset, .unset] [(.int (c1.toUInt32.toUInt16.toUInt32.toInt32)), (.int (0 : Int32)), (.ref b121)])) (fun t k => XS.i2c X121.here hx rfl (hb hby at_13) rfl k) ?_
  have rw122 : (c1.toUInt32.toUInt16.toUInt32.toInt32) = c1 := own_i2c bd_c1
  rw [rw122]
  obtain ⟨cl123, Ar123, qk123, sl123, nz123, ha123, fi123⟩ := id V121
  obtain ⟨T124, h124, X124, e124, W124, st124⟩ := stC X121 hx hZ e121 Ar123 (j := (0 : Int32)) (inb_of sl123 ⟨by decide, by decide⟩) (g := (mkF m 14 #[.val (.int p0), .val (.int p1), .val (.long q2), .second, .val (.int p3), .val (.ref b121), .unset, .unset, .unset, .unset, .unset, .unset] [(.int c1), (.int (0 : Int32)), (.ref b121)])) rfl rfl (hb hby at_14)
  rw [(own_nar bd_c1)] at W124
  have V124 : Arv Z h124 b121 k121 .char (2 : Int32) [(.int c1), (.int (0 : Int32))] (.int (0 : Int32)) := Arv.set Ar123 qk123 sl123 nz123 ha123 fi123 ((own_nar bd_c1) ▸ fits_nar_char c1) W124 0 rfl (ok rfl)
  have N124 := Fr.snoc X124 N0 ge_b121
  refine Goes.step (T' := T124) (g' := (mkF m 15 #[.val (.int p0), .val (.int p1), .val (.long q2), .second, .val (.int p3), .val (.ref b121), .unset, .unset, .unset, .unset, .unset, .unset] [])) st124 ?_
  refine P1.aload X124.here hx (hb hby at_15) rfl rfl ?_
  refine P1.iconst X124.here hx (1 : Int32) (hb hby at_17) rfl ?_
  refine P1.iloadN X124.here hx (hb hby at_18) rfl ?_
  refine P1.bipush X124.here hx (8 : Int32) (hb hby at_19) rfl ?_
  refine Goes.step (T' := T124) (g' := (mkF m 22 #[.val (.int p0), .val (.int p1), .val (.long q2), .second, .val (.int p3), .val (.ref b121), .unset, .unset, .unset, .unset, .unset, .unset] [(.int ((p0.toUInt32 >>> ((8 : Int32) &&& 31).toUInt32).toInt32)), (.int (1 : Int32)), (.ref b121)])) (fun t k => XS.iushr X124.here hx rfl (hb hby at_21) rfl k) ?_
  refine P1.sipush X124.here hx (255 : Int32) (hb hby at_22) rfl ?_
  refine P1.iand X124.here hx (hb hby at_25) ?_
  obtain ⟨c2, hc2⟩ : ∃ z, z = (((p0.toUInt32 >>> ((8 : Int32) &&& 31).toUInt32).toInt32) &&& (255 : Int32)) := ⟨_, rfl⟩
  show Goes p e below _ T124 _
  rw [← hc2]
  have bd_c2 : ¬ c2 < 0 ∧ ¬ (255 : Int32) < c2 := by rw [hc2]; exact own_and255 _
  refine Goes.step (T' := T124) (g' := (mkF m 27 #[.val (.int p0), .val (.int p1), .val (.long q2), .second, .val (.int p3), .val (.ref b121), .unset, .unset, .unset, .unset, .unset, .unset] [(.int (c2.toUInt32.toUInt16.toUInt32.toInt32)), (.int (1 : Int32)), (.ref b121)])) (fun t k => XS.i2c X124.here hx rfl (hb hby at_26) rfl k) ?_
  have rw125 : (c2.toUInt32.toUInt16.toUInt32.toInt32) = c2 := own_i2c bd_c2
  rw [rw125]
  obtain ⟨cl126, Ar126, qk126, sl126, nz126, ha126, fi126⟩ := id V124
  obtain ⟨T127, h127, X127, e127, W127, st127⟩ := stC X124 hx hZ e124 Ar126 (j := (1 : Int32)) (inb_of sl126 ⟨by decide, by decide⟩) (g := (mkF m 27 #[.val (.int p0), .val (.int p1), .val (.long q2), .second, .val (.int p3), .val (.ref b121), .unset, .unset, .unset, .unset, .unset, .unset] [(.int c2), (.int (1 : Int32)), (.ref b121)])) rfl rfl (hb hby at_27)
  rw [(own_nar bd_c2)] at W127
  have V127 : Arv Z h127 b121 k121 .char (2 : Int32) [(.int c1), (.int c2)] (.int (0 : Int32)) := Arv.set Ar126 qk126 sl126 nz126 ha126 fi126 ((own_nar bd_c2) ▸ fits_nar_char c2) W127 1 rfl (ok rfl)
  have N127 := Fr.snoc X127 N124 ge_b121
  refine Goes.step (T' := T127) (g' := (mkF m 28 #[.val (.int p0), .val (.int p1), .val (.long q2), .second, .val (.int p3), .val (.ref b121), .unset, .unset, .unset, .unset, .unset, .unset] [])) st127 ?_
  refine P1.iconst X127.here hx (2 : Int32) (hb hby at_28) rfl ?_
  obtain ⟨T128, h128, k128, X128, e128, E128, A128, st128⟩ := newP X127 hx hZ (own_w hw 0 rfl) e127 (g := (mkF m 29 #[.val (.int p0), .val (.int p1), .val (.long q2), .second, .val (.int p3), .val (.ref b121), .unset, .unset, .unset, .unset, .unset, .unset] [(.int (2 : Int32))])) rfl (hb hby at_29) rfl (by decide) (cap := 2) (ok rfl) (ok rfl) (ok rfl) (ok rfl)
  have Z129 : n0 ≤ h121.size := Nat.le_trans Z0 E121.1
  have Z130 : n0 ≤ h124.size := Nat.le_trans Z129 (Keep.of_wr W124).1
  have Z131 : n0 ≤ h127.size := Nat.le_trans Z130 (Keep.of_wr W127).1
  have K132 : Keep h0 h121 [] := K0.ext E121
  have K133 : Keep h0 h124 [] := K132.wr W124 (Or.inr sz_b121)
  have K134 : Keep h0 h127 [] := K133.wr W127 (Or.inr sz_b121)
  obtain ⟨b128, g128⟩ : ∃ z, z = h127.size := ⟨_, rfl⟩
  rw [← g128] at A128 st128
  have ge_b128 : n0 ≤ b128 := Nat.le_trans Z131 (Nat.le_of_eq g128.symm)
  have sz_b128 : h0.size ≤ b128 := Nat.le_trans K134.1 (Nat.le_of_eq g128.symm)
  have V128 : Arv Z h128 b128 k128 .char (2 : Int32) [(.int (0 : Int32)), (.int (0 : Int32))] (.int (0 : Int32)) := (Arv.new A128 (by decide)).pad (pad_rep [] (.int (0 : Int32)) 2)
  refine Goes.step (T' := T128) (g' := (mkF m 31 #[.val (.int p0), .val (.int p1), .val (.long q2), .second, .val (.int p3), .val (.ref b121), .unset, .unset, .unset, .unset, .unset, .unset] [(.ref b128)])) st128 ?_
  refine P1.astore X128.here hx #[.val (.int p0), .val (.int p1), .val (.long q2), .second, .val (.int p3), .val (.ref b121), .val (.ref b128), .unset, .unset, .unset, .unset, .unset] (hb hby at_31) rfl rfl ?_
  refine P1.aload X128.here hx (hb hby at_33) rfl rfl ?_
  refine P1.iconst X128.here hx (0 : Int32) (hb hby at_35) rfl ?_
  refine P1.iloadN X128.here hx (hb hby at_36) rfl ?_
  refine P1.sipush X128.here hx (255 : Int32) (hb hby at_37) rfl ?_
  refine P1.iand X128.here hx (hb hby at_40) ?_
  obtain ⟨c3, hc3⟩ : ∃ z, z = (p1 &&& (255 : Int32)) := ⟨_, rfl⟩
  show Goes p e below _ T128 _
  rw [← hc3]
  have bd_c3 : ¬ c3 < 0 ∧ ¬ (255 : Int32) < c3 := by rw [hc3]; exact own_and255 _
  refine Goes.step (T' := T128) (g' := (mkF m 42 #[.val (.int p0), .val (.int p1), .val (.long q2), .second, .val (.int p3), .val (.ref b121), .val (.ref b128), .unset, .unset, .unset, .unset, .unset] [(.int (c3.toUInt32.toUInt16.toUInt32.toInt32)), (.int (0 : Int32)), (.ref b128)])) (fun t k => XS.i2c X128.here hx rfl (hb hby at_41) rfl k) ?_
  have rw135 : (c3.toUInt32.toUInt16.toUInt32.toInt32) = c3 := own_i2c bd_c3
  rw [rw135]
  obtain ⟨cl136, Ar136, qk136, sl136, nz136, ha136, fi136⟩ := id V128
  obtain ⟨T137, h137, X137, e137, W137, st137⟩ := stC X128 hx hZ e128 Ar136 (j := (0 : Int32)) (inb_of sl136 ⟨by decide, by decide⟩) (g := (mkF m 42 #[.val (.int p0), .val (.int p1), .val (.long q2), .second, .val (.int p3), .val (.ref b121), .val (.ref b128), .unset, .unset, .unset, .unset, .unset] [(.int c3), (.int (0 : Int32)), (.ref b128)])) rfl rfl (hb hby at_42)
  rw [(own_nar bd_c3)] at W137
  have V137 : Arv Z h137 b128 k128 .char (2 : Int32) [(.int c3), (.int (0 : Int32))] (.int (0 : Int32)) := Arv.set Ar136 qk136 sl136 nz136 ha136 fi136 ((own_nar bd_c3) ▸ fits_nar_char c3) W137 0 rfl (ok rfl)
  have N137 := Fr.snoc X137 N127 ge_b128
  refine Goes.step (T' := T137) (g' := (mkF m 43 #[.val (.int p0), .val (.int p1), .val (.long q2), .second, .val (.int p3), .val (.ref b121), .val (.ref b128), .unset, .unset, .unset, .unset, .unset] [])) st137 ?_
  refine P1.aload X137.here hx (hb hby at_43) rfl rfl ?_
  refine P1.iconst X137.here hx (1 : Int32) (hb hby at_45) rfl ?_
  refine P1.iloadN X137.here hx (hb hby at_46) rfl ?_
  refine P1.bipush X137.here hx (8 : Int32) (hb hby at_47) rfl ?_
  refine Goes.step (T' := T137) (g' := (mkF m 50 #[.val (.int p0), .val (.int p1), .val (.long q2), .second, .val (.int p3), .val (.ref b121), .val (.ref b128), .unset, .unset, .unset, .unset, .unset] [(.int ((p1.toUInt32 >>> ((8 : Int32) &&& 31).toUInt32).toInt32)), (.int (1 : Int32)), (.ref b128)])) (fun t k => XS.iushr X137.here hx rfl (hb hby at_49) rfl k) ?_
  refine P1.sipush X137.here hx (255 : Int32) (hb hby at_50) rfl ?_
  refine P1.iand X137.here hx (hb hby at_53) ?_
  obtain ⟨c4, hc4⟩ : ∃ z, z = (((p1.toUInt32 >>> ((8 : Int32) &&& 31).toUInt32).toInt32) &&& (255 : Int32)) := ⟨_, rfl⟩
  show Goes p e below _ T137 _
  rw [← hc4]
  have bd_c4 : ¬ c4 < 0 ∧ ¬ (255 : Int32) < c4 := by rw [hc4]; exact own_and255 _
  refine Goes.step (T' := T137) (g' := (mkF m 55 #[.val (.int p0), .val (.int p1), .val (.long q2), .second, .val (.int p3), .val (.ref b121), .val (.ref b128), .unset, .unset, .unset, .unset, .unset] [(.int (c4.toUInt32.toUInt16.toUInt32.toInt32)), (.int (1 : Int32)), (.ref b128)])) (fun t k => XS.i2c X137.here hx rfl (hb hby at_54) rfl k) ?_
  have rw138 : (c4.toUInt32.toUInt16.toUInt32.toInt32) = c4 := own_i2c bd_c4
  rw [rw138]
  obtain ⟨cl139, Ar139, qk139, sl139, nz139, ha139, fi139⟩ := id V137
  obtain ⟨T140, h140, X140, e140, W140, st140⟩ := stC X137 hx hZ e137 Ar139 (j := (1 : Int32)) (inb_of sl139 ⟨by decide, by decide⟩) (g := (mkF m 55 #[.val (.int p0), .val (.int p1), .val (.long q2), .second, .val (.int p3), .val (.ref b121), .val (.ref b128), .unset, .unset, .unset, .unset, .unset] [(.int c4), (.int (1 : Int32)), (.ref b128)])) rfl rfl (hb hby at_55)
  rw [(own_nar bd_c4)] at W140
  have V140 : Arv Z h140 b128 k128 .char (2 : Int32) [(.int c3), (.int c4)] (.int (0 : Int32)) := Arv.set Ar139 qk139 sl139 nz139 ha139 fi139 ((own_nar bd_c4) ▸ fits_nar_char c4) W140 1 rfl (ok rfl)
  have N140 := Fr.snoc X140 N137 ge_b128
  refine Goes.step (T' := T140) (g' := (mkF m 56 #[.val (.int p0), .val (.int p1), .val (.long q2), .second, .val (.int p3), .val (.ref b121), .val (.ref b128), .unset, .unset, .unset, .unset, .unset] [])) st140 ?_
  obtain ⟨T141, h141, X141, e141, E141, A141, D141, -, st141⟩ := newO X140 hx hZ hown (own_w hw 1 rfl) (own_w hw 2 rfl) (own_w hw 3 rfl) e140 (g := (mkF m 56 #[.val (.int p0), .val (.int p1), .val (.long q2), .second, .val (.int p3), .val (.ref b121), .val (.ref b128), .unset, .unset, .unset, .unset, .unset] [])) rfl (hb hby at_56) (ok rfl) (ok rfl)
  have Z142 : n0 ≤ h128.size := Nat.le_trans Z131 E128.1
  have Z143 : n0 ≤ h137.size := Nat.le_trans Z142 (Keep.of_wr W137).1
  have Z144 : n0 ≤ h140.size := Nat.le_trans Z143 (Keep.of_wr W140).1
  have K145 : Keep h0 h128 [] := K134.ext E128
  have K146 : Keep h0 h137 [] := K145.wr W137 (Or.inr sz_b128)
  have K147 : Keep h0 h140 [] := K146.wr W140 (Or.inr sz_b128)
  obtain ⟨b141, g141⟩ : ∃ z, z = h140.size := ⟨_, rfl⟩
  rw [← g141] at A141 D141 st141
  have ge_b141 : n0 ≤ b141 := Nat.le_trans Z144 (Nat.le_of_eq g141.symm)
  have sz_b141 : h0.size ≤ b141 := Nat.le_trans K147.1 (Nat.le_of_eq g141.symm)
  have F141_coder : Fld Z h141 b141 "java/lang/String" "coder" "B" (.int (0 : Int32)) := D141 (Or.inr (own_w hw 27 rfl)) (ty := .byte) (by decide)
  have F141_value : Fld Z h141 b141 "java/lang/String" "value" "[B" .null := D141 (Or.inr (own_w hw 29 rfl)) (ty := (.array .byte)) (by decide)
  refine Goes.step (T' := T141) (g' := (mkF m 59 #[.val (.int p0), .val (.int p1), .val (.long q2), .second, .val (.int p3), .val (.ref b121), .val (.ref b128), .unset, .unset, .unset, .unset, .unset] [(.ref b141)])) st141 ?_
  refine P1.dup X141.here hx (hb hby at_59) rfl ?_
  refine P1.aload X141.here hx (hb hby at_60) rfl rfl ?_
  have V148 : Arv Z h128 b121 k121 .char (2 : Int32) [(.int c1), (.int c2)] (.int (0 : Int32)) := V127.ext E128
  have ne149 : b121 ≠ b128 := Nat.ne_of_lt (Nat.lt_of_lt_of_le V127.lt (Nat.le_of_eq g128.symm))
  have V150 : Arv Z h137 b121 k121 .char (2 : Int32) [(.int c1), (.int c2)] (.int (0 : Int32)) := V148.other W137 ne149
  have V151 : Arv Z h140 b121 k121 .char (2 : Int32) [(.int c1), (.int c2)] (.int (0 : Int32)) := V150.other W140 ne149
  have V152 : Arv Z h141 b121 k121 .char (2 : Int32) [(.int c1), (.int c2)] (.int (0 : Int32)) := V151.ext E141
  have Z153 : n0 ≤ h141.size := Nat.le_trans Z144 E141.1
  have hq154 : ∀ c ∈ ([c1, c2] : List Int32), ¬ c < 0 ∧ ¬ (255 : Int32) < c := by
    intro c hc
    simp only [List.mem_cons, List.not_mem_nil, or_false] at hc
    rcases hc with rfl | rfl
    · exact bd_c1
    · exact bd_c2
  have hp155 : ∀ c ∈ ([c1, c2] : List Int32), ¬ c < 0 ∧ ¬ (255 : Int32) < c := hq154
  have O156 : Old Z n0 h121 := O0.ext E121
  have O157 : Old Z n0 h124 := O156.wr W124 ge_b121
  have O158 : Old Z n0 h127 := O157.wr W127 ge_b121
  have O159 : Old Z n0 h128 := O158.ext E128
  have O160 : Old Z n0 h137 := O159.wr W137 ge_b128
  have O161 : Old Z n0 h140 := O160.wr W140 ge_b128
  have O162 : Old Z n0 h141 := O161.ext E141
  refine Goes.callC X141 hx (y := (⟨"java/lang/String", "<init>", "([C)V"⟩ : MethodName)) rfl hown (mvT hZ (own_w hw 4 rfl)) (mvT hZ (own_w hw 5 rfl)) (mvT hZ (own_w hw 6 rfl)) (by decide) (kc' := 1) (ks' := 2) (StrChars.Road.backV (W := 1) hZ (fun d hd => hw d (in_words d hd)) (kI := 4) (own_w hw 2 rfl) (cs := ([c1, c2] : List Int32)) (bs := ([c1, c2] : List Int32).map (fun c => c.toInt8.toInt32)) (n := 2) ge_b141 Z153 A141 F141_value F141_coder V152 (S_CS.ext O162.2) hzc rfl rfl (by decide) (by decide) hp155 rfl (ok rfl) (ok rfl)) (g := (mkF m 62 #[.val (.int p0), .val (.int p1), .val (.long q2), .second, .val (.int p3), .val (.ref b121), .val (.ref b128), .unset, .unset, .unset, .unset, .unset] [(.ref b121), (.ref b141), (.ref b141)])) (a := b141) rfl (by rw [hml]; rfl) (argsL := [(.ref b121)]) (rest := [(.ref b141)]) (lenOf pd_1017 rfl) rfl (by show 2 * 0 + _ ≤ _; exact Nat.le_of_eq rfl) (hb hby at_62) rfl e141 (ok rfl) (ok rfl) ?_
  intro v163 T163 L163 q163 X163
  obtain ⟨rfl, N163q, K163, g163E, g163C, t163, kb163, ge_t163, szt163, net163, g163V, g163K⟩ := q163
  have K164 : Keep h0 h141 [] := K147.ext E141
  have N163 := Fr.app N140 N163q
  have sz_t163 : h0.size ≤ t163 := Nat.le_trans K164.1 szt163
  show Goes p e below _ T163 (mkF m 65 #[.val (.int p0), .val (.int p1), .val (.long q2), .second, .val (.int p3), .val (.ref b121), .val (.ref b128), .unset, .unset, .unset, .unset, .unset] [(.ref b141)])
  refine P1.astore X163.here hx #[.val (.int p0), .val (.int p1), .val (.long q2), .second, .val (.int p3), .val (.ref b121), .val (.ref b128), .val (.ref b141), .unset, .unset, .unset, .unset] (hb hby at_65) rfl rfl ?_
  obtain ⟨T165, h165, X165, e165, E165, A165, D165, -, st165⟩ := newO X163 hx hZ hown (own_w hw 1 rfl) (own_w hw 2 rfl) (own_w hw 3 rfl) rfl (g := (mkF m 67 #[.val (.int p0), .val (.int p1), .val (.long q2), .second, .val (.int p3), .val (.ref b121), .val (.ref b128), .val (.ref b141), .unset, .unset, .unset, .unset] [])) rfl (hb hby at_67) (ok rfl) (ok rfl)
  have Z166 : n0 ≤ T163.heap.size := Nat.le_trans Z153 K163.1
  have K167 : Keep h0 T163.heap [] := K164.trans K163 (allS (Or.inr sz_b141) all0)
  obtain ⟨b165, g165⟩ : ∃ z, z = T163.heap.size := ⟨_, rfl⟩
  rw [← g165] at A165 D165 st165
  have ge_b165 : n0 ≤ b165 := Nat.le_trans Z166 (Nat.le_of_eq g165.symm)
  have sz_b165 : h0.size ≤ b165 := Nat.le_trans K167.1 (Nat.le_of_eq g165.symm)
  have F165_coder : Fld Z h165 b165 "java/lang/String" "coder" "B" (.int (0 : Int32)) := D165 (Or.inr (own_w hw 27 rfl)) (ty := .byte) (by decide)
  have F165_value : Fld Z h165 b165 "java/lang/String" "value" "[B" .null := D165 (Or.inr (own_w hw 29 rfl)) (ty := (.array .byte)) (by decide)
  refine Goes.step (T' := T165) (g' := (mkF m 70 #[.val (.int p0), .val (.int p1), .val (.long q2), .second, .val (.int p3), .val (.ref b121), .val (.ref b128), .val (.ref b141), .unset, .unset, .unset, .unset] [(.ref b165)])) st165 ?_
  refine P1.dup X165.here hx (hb hby at_70) rfl ?_
  refine P1.aload X165.here hx (hb hby at_71) rfl rfl ?_
  have V168 : Arv Z h141 b128 k128 .char (2 : Int32) [(.int c3), (.int c4)] (.int (0 : Int32)) := V140.ext E141
  have ne169 : b128 ≠ b141 := Nat.ne_of_lt (Nat.lt_of_lt_of_le V140.lt (Nat.le_of_eq g141.symm))
  have V170 : Arv Z T163.heap b128 k128 .char (2 : Int32) [(.int c3), (.int c4)] (.int (0 : Int32)) := V168.keep K163 (ninS ne169 nin0)
  have V171 : Arv Z h165 b128 k128 .char (2 : Int32) [(.int c3), (.int c4)] (.int (0 : Int32)) := V170.ext E165
  have Z172 : n0 ≤ h165.size := Nat.le_trans Z166 E165.1
  have hq173 : ∀ c ∈ ([c3, c4] : List Int32), ¬ c < 0 ∧ ¬ (255 : Int32) < c := by
    intro c hc
    simp only [List.mem_cons, List.not_mem_nil, or_false] at hc
    rcases hc with rfl | rfl
    · exact bd_c3
    · exact bd_c4
  have hp174 : ∀ c ∈ ([c3, c4] : List Int32), ¬ c < 0 ∧ ¬ (255 : Int32) < c := hq173
  have O175 : Old Z n0 T163.heap := O162.keep K163 (allS ge_b141 all0)
  have O176 : Old Z n0 h165 := O175.ext E165
  refine Goes.callC X165 hx (y := (⟨"java/lang/String", "<init>", "([C)V"⟩ : MethodName)) rfl hown (mvT hZ (own_w hw 4 rfl)) (mvT hZ (own_w hw 5 rfl)) (mvT hZ (own_w hw 6 rfl)) (by decide) (kc' := 1) (ks' := 2) (StrChars.Road.backV (W := 1) hZ (fun d hd => hw d (in_words d hd)) (kI := 4) (own_w hw 2 rfl) (cs := ([c3, c4] : List Int32)) (bs := ([c3, c4] : List Int32).map (fun c => c.toInt8.toInt32)) (n := 2) ge_b165 Z172 A165 F165_value F165_coder V171 (S_CS.ext O176.2) hzc rfl rfl (by decide) (by decide) hp174 rfl (ok rfl) (ok rfl)) (g := (mkF m 73 #[.val (.int p0), .val (.int p1), .val (.long q2), .second, .val (.int p3), .val (.ref b121), .val (.ref b128), .val (.ref b141), .unset, .unset, .unset, .unset] [(.ref b128), (.ref b165), (.ref b165)])) (a := b165) rfl (by rw [hml]; rfl) (argsL := [(.ref b128)]) (rest := [(.ref b165)]) (lenOf pd_1017 rfl) rfl (by show 2 * 0 + _ ≤ _; exact Nat.le_of_eq rfl) (hb hby at_73) rfl e165 (ok rfl) (ok rfl) ?_
  intro v177 T177 L177 q177 X177
  obtain ⟨rfl, N177q, K177, g177E, g177C, t177, kb177, ge_t177, szt177, net177, g177V, g177K⟩ := q177
  have K178 : Keep h0 h165 [] := K167.ext E165
  have N177 := Fr.app N163 N177q
  have sz_t177 : h0.size ≤ t177 := Nat.le_trans K178.1 szt177
  show Goes p e below _ T177 (mkF m 76 #[.val (.int p0), .val (.int p1), .val (.long q2), .second, .val (.int p3), .val (.ref b121), .val (.ref b128), .val (.ref b141), .unset, .unset, .unset, .unset] [(.ref b165)])
  refine P1.astore X177.here hx #[.val (.int p0), .val (.int p1), .val (.long q2), .second, .val (.int p3), .val (.ref b121), .val (.ref b128), .val (.ref b141), .val (.ref b165), .unset, .unset, .unset] (hb hby at_76) rfl rfl ?_
  refine P1.iload X177.here hx (hb hby at_78) rfl ?_
  refine P1.iconst X177.here hx (1 : Int32) (hb hby at_80) rfl ?_
  refine P1.iand X177.here hx (hb hby at_81) ?_
  by_cases hbr : (p3 &&& (1 : Int32)) = (0 : Int32)
  ·
    refine Goes.step (T' := T177) (g' := (mkF m 89 #[.val (.int p0), .val (.int p1), .val (.long q2), .second, .val (.int p3), .val (.ref b121), .val (.ref b128), .val (.ref b141), .val (.ref b165), .unset, .unset, .unset] [])) (fun t k => XS.ifYes X177.here hx rfl (pc0 := 82) (pc' := 89) rfl (hb hby at_82) rfl ((if0 _ _).trans (teq (hbr : (p3 &&& (1 : Int32)) = (0 : Int32))).1) (by decide) (by decide) k) ?_
    refine P1.iconst X177.here hx (0 : Int32) (hb hby at_89) rfl ?_
    refine P1.istore X177.here hx #[.val (.int p0), .val (.int p1), .val (.long q2), .second, .val (.int p3), .val (.ref b121), .val (.ref b128), .val (.ref b141), .val (.ref b165), .val (.int (0 : Int32)), .unset, .unset] (hb hby at_90) rfl ?_
    refine P1.aload X177.here hx (hb hby at_92) rfl rfl ?_
    refine P1.lloadN X177.here hx (hb hby at_94) rfl ?_
    refine P1.aload X177.here hx (hb hby at_95) rfl rfl ?_
    refine P1.iload X177.here hx (hb hby at_97) rfl ?_
    have Z179 : n0 ≤ T177.heap.size := Nat.le_trans Z172 K177.1
    have O180 : Old Z n0 T177.heap := O176.keep K177 (allS ge_b165 all0)
    refine Goes.callS X177 hx (y := y16_) hown (mvT hZ (own_w hw 30 rfl)) (mvT hZ (own_w hw 31 rfl)) (mvT hZ (own_w hw 32 rfl)) (mvT hZ (own_w hw 33 rfl)) (by decide) (kc' := 2) (ks' := 6) (backOf (W := 0) (rmRD0 l Z a0 hw [] b141 q2 b165 zc fm bf bt ca cl_ca T177.heap n0 Z179 O180 S_CS hzc S_FM hfm S_bf E_bf F_bf S_bt E_bt F_bt S_ca Ar_ca le_ca H_ca) hZ (own_w hw 33 rfl) (own_w hw 32 rfl) (ok rfl) (ok rfl)) (g := (mkF m 99 #[.val (.int p0), .val (.int p1), .val (.long q2), .second, .val (.int p3), .val (.ref b121), .val (.ref b128), .val (.ref b141), .val (.ref b165), .val (.int (0 : Int32)), .unset, .unset] [(.int (0 : Int32)), (.ref b165), (.long q2), (.ref b141)])) rfl (by rw [hml]; rfl) (argsL := [(.ref b141), (.long q2), (.ref b165), (.int (0 : Int32))]) (rest := []) (lenOf pd_265751 rfl) rfl (by show 2 * 0 + _ ≤ _; exact Nat.le_of_eq rfl) (hb hby at_99) rfl rfl (ok rfl) (ok rfl) ?_
    intro v181 T181 L181 q181 X181
    obtain ⟨en181, ix181, rfl, N181q, K181, g181E, g181I, g181J, g181_purpose, g181_index, g181_list, g181_set, g181_error⟩ := q181
    have N181 := Fr.app N177 N181q
    show Goes p e below _ T181 (mkF m 102 #[.val (.int p0), .val (.int p1), .val (.long q2), .second, .val (.int p3), .val (.ref b121), .val (.ref b128), .val (.ref b141), .val (.ref b165), .val (.int (0 : Int32)), .unset, .unset] [(.ref en181)])
    refine P1.astore X181.here hx #[.val (.int p0), .val (.int p1), .val (.long q2), .second, .val (.int p3), .val (.ref b121), .val (.ref b128), .val (.ref b141), .val (.ref b165), .val (.int (0 : Int32)), .val (.ref en181), .unset] (hb hby at_102) rfl rfl ?_
    refine P1.aload X181.here hx (hb hby at_104) rfl rfl ?_
    refine Goes.step (T' := T181) (g' := (mkF m 111 #[.val (.int p0), .val (.int p1), .val (.long q2), .second, .val (.int p3), .val (.ref b121), .val (.ref b128), .val (.ref b141), .val (.ref b165), .val (.int (0 : Int32)), .val (.ref en181), .unset] [])) (fun t k => XS.ifnonnullYes X181.here hx rfl (pc0 := 106) (pc' := 111) rfl (hb hby at_106) rfl (by decide) (by decide) k) ?_
    refine P1.aload X181.here hx (hb hby at_111) rfl rfl ?_
    refine P1.aload X181.here hx (hb hby at_113) rfl rfl ?_
    have Z182 : n0 ≤ T181.heap.size := Nat.le_trans Z179 K181.1
    have O183 : Old Z n0 T181.heap := O180.keep K181 all0
    refine Goes.callV X181 hx hZ (y := y15_) (z := y15_) hown (mvT hZ (own_w hw 68 rfl)) (mvT hZ (own_w hw 69 rfl)) (notFace_of_selects (args := #[]) (mvT hZ (own_w hw 71 rfl))) (mvT hZ (own_w hw 71 rfl)) (mvT hZ (own_w hw 70 rfl)) (by decide) (kc' := 0) (ks' := 0) (backOf (W := 1) (rmPu l Z a0 hw [] en181 b141 T181.heap n0 Z182 O183 g181_purpose) hZ (own_w hw 72 rfl) (own_w hw 32 rfl) (ok rfl) (ok rfl)) (b := en181) rfl g181E (g := (mkF m 115 #[.val (.int p0), .val (.int p1), .val (.long q2), .second, .val (.int p3), .val (.ref b121), .val (.ref b128), .val (.ref b141), .val (.ref b165), .val (.int (0 : Int32)), .val (.ref en181), .unset] [(.ref en181), (.ref b141)])) rfl (by rw [hml]; rfl) (argsL := []) (rest := [(.ref b141)]) (lenOf pd_19649 rfl) rfl (by show 2 * 0 + _ ≤ _; exact Nat.le_of_eq rfl) (hb hby at_115) rfl (ok rfl) (ok rfl) ?_
    intro v184 T184 L184 q184 X184
    obtain ⟨rfl, N184q, hE184⟩ := q184
    have N184 := Fr.app N181 N184q
    show Goes p e below _ T184 (mkF m 118 #[.val (.int p0), .val (.int p1), .val (.long q2), .second, .val (.int p3), .val (.ref b121), .val (.ref b128), .val (.ref b141), .val (.ref b165), .val (.int (0 : Int32)), .val (.ref en181), .unset] [(.ref b141), (.ref b141)])
    have E186 : Exa Z h165 b141 "java/lang/String" := g163E.ext E165
    have E187 : Exa Z T177.heap b141 "java/lang/String" := E186.keep K177
    have E188 : Exa Z T181.heap b141 "java/lang/String" := E187.keep K181
    refine Goes.callV X184 hx hZ (y := y9_) (z := y9_) hown (mvT hZ (own_w hw 73 rfl)) (mvT hZ (own_w hw 74 rfl)) (notFace_of_selects (args := #[]) (mvT hZ (own_w hw 76 rfl))) (mvT hZ (own_w hw 76 rfl)) (mvT hZ (own_w hw 75 rfl)) (by decide) (kc' := 0) (ks' := 0) (backOf (W := 0) (rmEq l Z a0 hw [] b141 T181.heap n0 Z182 O183 ) hZ (own_w hw 77 rfl) (own_w hw 3 rfl) (ok rfl) (ok rfl)) (b := b141) hE184 E188 (g := (mkF m 118 #[.val (.int p0), .val (.int p1), .val (.long q2), .second, .val (.int p3), .val (.ref b121), .val (.ref b128), .val (.ref b141), .val (.ref b165), .val (.int (0 : Int32)), .val (.ref en181), .unset] [(.ref b141), (.ref b141)])) rfl (by rw [hml]; rfl) (argsL := [(.ref b141)]) (rest := []) (lenOf pd_20140 rfl) rfl (by show 2 * 0 + _ ≤ _; exact Nat.le_of_eq rfl) (hb hby at_118) rfl (ok rfl) (ok rfl) ?_
    intro v185 T185 L185 q185 X185
    obtain ⟨rfl, N185q, hE185⟩ := q185
    have N185 := Fr.app N184 N185q
    show Goes p e below _ T185 (mkF m 121 #[.val (.int p0), .val (.int p1), .val (.long q2), .second, .val (.int p3), .val (.ref b121), .val (.ref b128), .val (.ref b141), .val (.ref b165), .val (.int (0 : Int32)), .val (.ref en181), .unset] [(.int (1 : Int32))])
    refine Goes.step (T' := T185) (g' := (mkF m 126 #[.val (.int p0), .val (.int p1), .val (.long q2), .second, .val (.int p3), .val (.ref b121), .val (.ref b128), .val (.ref b141), .val (.ref b165), .val (.int (0 : Int32)), .val (.ref en181), .unset] [])) (fun t k => XS.ifYes X185.here hx rfl (pc0 := 121) (pc' := 126) rfl (hb hby at_121) rfl ((if0 _ _).trans (feq ((by decide : ¬ ((1 : Int32) = (0 : Int32))) : ¬ ((1 : Int32) = (0 : Int32)))).2) (by decide) (by decide) k) ?_
    refine P1.aload X185.here hx (hb hby at_126) rfl rfl ?_
    refine Goes.callV X185 hx hZ (y := y12_) (z := y12_) hown (mvT hZ (own_w hw 78 rfl)) (mvT hZ (own_w hw 79 rfl)) (notFace_of_selects (args := #[]) (mvT hZ (own_w hw 81 rfl))) (mvT hZ (own_w hw 81 rfl)) (mvT hZ (own_w hw 80 rfl)) (by decide) (kc' := 0) (ks' := 0) (backOf (W := 0) (rmIx l Z a0 hw [] en181 ix181 T181.heap n0 Z182 O183 g181_index) hZ (own_w hw 82 rfl) (own_w hw 32 rfl) (ok rfl) (ok rfl)) (b := en181) hE185 g181E (g := (mkF m 128 #[.val (.int p0), .val (.int p1), .val (.long q2), .second, .val (.int p3), .val (.ref b121), .val (.ref b128), .val (.ref b141), .val (.ref b165), .val (.int (0 : Int32)), .val (.ref en181), .unset] [(.ref en181)])) rfl (by rw [hml]; rfl) (argsL := []) (rest := []) (lenOf pd_15323 rfl) rfl (by show 2 * 0 + _ ≤ _; exact Nat.le_of_eq rfl) (hb hby at_128) rfl (ok rfl) (ok rfl) ?_
    intro v189 T189 L189 q189 X189
    obtain ⟨rfl, N189q, hE189⟩ := q189
    have N189 := Fr.app N185 N189q
    show Goes p e below _ T189 (mkF m 131 #[.val (.int p0), .val (.int p1), .val (.long q2), .second, .val (.int p3), .val (.ref b121), .val (.ref b128), .val (.ref b141), .val (.ref b165), .val (.int (0 : Int32)), .val (.ref en181), .unset] [(.ref ix181)])
    refine P1.astore X189.here hx #[.val (.int p0), .val (.int p1), .val (.long q2), .second, .val (.int p3), .val (.ref b121), .val (.ref b128), .val (.ref b141), .val (.ref b165), .val (.int (0 : Int32)), .val (.ref en181), .val (.ref ix181)] (hb hby at_131) rfl rfl ?_
    refine P1.aload X189.here hx (hb hby at_133) rfl rfl ?_
    refine Goes.step (T' := T189) (g' := (mkF m 138 #[.val (.int p0), .val (.int p1), .val (.long q2), .second, .val (.int p3), .val (.ref b121), .val (.ref b128), .val (.ref b141), .val (.ref b165), .val (.int (0 : Int32)), .val (.ref en181), .val (.ref ix181)] [])) (fun t k => XS.ifnullNo X189.here hx rfl (hb hby at_135) rfl k) ?_
    refine P1.aload X189.here hx (hb hby at_138) rfl rfl ?_
    refine Goes.callV X189 hx hZ (y := y4_) (z := y4_) hown (mvT hZ (own_w hw 83 rfl)) (mvT hZ (own_w hw 84 rfl)) (notFace_of_selects (args := #[]) (mvT hZ (own_w hw 86 rfl))) (mvT hZ (own_w hw 86 rfl)) (mvT hZ (own_w hw 85 rfl)) (by decide) (kc' := 0) (ks' := 0) (backOf (W := 0) (rmLv l Z a0 hw [] ix181 q2 T181.heap n0 Z182 O183 g181J) hZ (own_w hw 87 rfl) (own_w hw 38 rfl) (ok rfl) (ok rfl)) (b := ix181) hE189 g181I (g := (mkF m 140 #[.val (.int p0), .val (.int p1), .val (.long q2), .second, .val (.int p3), .val (.ref b121), .val (.ref b128), .val (.ref b141), .val (.ref b165), .val (.int (0 : Int32)), .val (.ref en181), .val (.ref ix181)] [(.ref ix181)])) rfl (by rw [hml]; rfl) (argsL := []) (rest := []) (lenOf pd_344 rfl) rfl (by show 2 * 0 + _ ≤ _; exact Nat.le_of_eq rfl) (hb hby at_140) rfl (ok rfl) (ok rfl) ?_
    intro v190 T190 L190 q190 X190
    obtain ⟨rfl, N190q, hE190⟩ := q190
    have N190 := Fr.app N189 N190q
    show Goes p e below _ T190 (mkF m 143 #[.val (.int p0), .val (.int p1), .val (.long q2), .second, .val (.int p3), .val (.ref b121), .val (.ref b128), .val (.ref b141), .val (.ref b165), .val (.int (0 : Int32)), .val (.ref en181), .val (.ref ix181)] [(.long q2)])
    refine P1.lloadN X190.here hx (hb hby at_143) rfl ?_
    refine Goes.step (T' := T190) (g' := (mkF m 145 #[.val (.int p0), .val (.int p1), .val (.long q2), .second, .val (.int p3), .val (.ref b121), .val (.ref b128), .val (.ref b141), .val (.ref b165), .val (.int (0 : Int32)), .val (.ref en181), .val (.ref ix181)] [(.int (lcmpW q2 q2))])) (fun t k => XS.lcmp X190.here hx rfl (hb hby at_144) rfl k) ?_
    refine Goes.step (T' := T190) (g' := (mkF m 150 #[.val (.int p0), .val (.int p1), .val (.long q2), .second, .val (.int p3), .val (.ref b121), .val (.ref b128), .val (.ref b141), .val (.ref b165), .val (.int (0 : Int32)), .val (.ref en181), .val (.ref ix181)] [])) (fun t k => XS.ifYes X190.here hx rfl (pc0 := 145) (pc' := 150) rfl (hb hby at_145) rfl ((if0 _ _).trans (teq (own_lcmp_self q2 : (lcmpW q2 q2) = (0 : Int32))).1) (by decide) (by decide) k) ?_
    refine P1.aload X190.here hx (hb hby at_150) rfl rfl ?_
    refine P1.aload X190.here hx (hb hby at_152) rfl rfl ?_
    refine Goes.callV X190 hx hZ (y := y14_) (z := y14_) hown (mvT hZ (own_w hw 90 rfl)) (mvT hZ (own_w hw 91 rfl)) (notFace_of_selects (args := #[]) (mvT hZ (own_w hw 93 rfl))) (mvT hZ (own_w hw 93 rfl)) (mvT hZ (own_w hw 92 rfl)) (by decide) (kc' := 0) (ks' := 0) (backOf (W := 1) (rmLi l Z a0 hw [] en181 b165 T181.heap n0 Z182 O183 g181_list) hZ (own_w hw 94 rfl) (own_w hw 32 rfl) (ok rfl) (ok rfl)) (b := en181) hE190 g181E (g := (mkF m 154 #[.val (.int p0), .val (.int p1), .val (.long q2), .second, .val (.int p3), .val (.ref b121), .val (.ref b128), .val (.ref b141), .val (.ref b165), .val (.int (0 : Int32)), .val (.ref en181), .val (.ref ix181)] [(.ref en181), (.ref b165)])) rfl (by rw [hml]; rfl) (argsL := []) (rest := [(.ref b165)]) (lenOf pd_19649 rfl) rfl (by show 2 * 0 + _ ≤ _; exact Nat.le_of_eq rfl) (hb hby at_154) rfl (ok rfl) (ok rfl) ?_
    intro v191 T191 L191 q191 X191
    obtain ⟨rfl, N191q, hE191⟩ := q191
    have N191 := Fr.app N190 N191q
    show Goes p e below _ T191 (mkF m 157 #[.val (.int p0), .val (.int p1), .val (.long q2), .second, .val (.int p3), .val (.ref b121), .val (.ref b128), .val (.ref b141), .val (.ref b165), .val (.int (0 : Int32)), .val (.ref en181), .val (.ref ix181)] [(.ref b165), (.ref b165)])
    have E193 : Exa Z T181.heap b165 "java/lang/String" := g177E.keep K181
    refine Goes.callV X191 hx hZ (y := y9_) (z := y9_) hown (mvT hZ (own_w hw 73 rfl)) (mvT hZ (own_w hw 74 rfl)) (notFace_of_selects (args := #[]) (mvT hZ (own_w hw 76 rfl))) (mvT hZ (own_w hw 76 rfl)) (mvT hZ (own_w hw 75 rfl)) (by decide) (kc' := 0) (ks' := 0) (backOf (W := 0) (rmEq l Z a0 hw [] b165 T181.heap n0 Z182 O183 ) hZ (own_w hw 77 rfl) (own_w hw 3 rfl) (ok rfl) (ok rfl)) (b := b165) hE191 E193 (g := (mkF m 157 #[.val (.int p0), .val (.int p1), .val (.long q2), .second, .val (.int p3), .val (.ref b121), .val (.ref b128), .val (.ref b141), .val (.ref b165), .val (.int (0 : Int32)), .val (.ref en181), .val (.ref ix181)] [(.ref b165), (.ref b165)])) rfl (by rw [hml]; rfl) (argsL := [(.ref b165)]) (rest := []) (lenOf pd_20140 rfl) rfl (by show 2 * 0 + _ ≤ _; exact Nat.le_of_eq rfl) (hb hby at_157) rfl (ok rfl) (ok rfl) ?_
    intro v192 T192 L192 q192 X192
    obtain ⟨rfl, N192q, hE192⟩ := q192
    have N192 := Fr.app N191 N192q
    show Goes p e below _ T192 (mkF m 160 #[.val (.int p0), .val (.int p1), .val (.long q2), .second, .val (.int p3), .val (.ref b121), .val (.ref b128), .val (.ref b141), .val (.ref b165), .val (.int (0 : Int32)), .val (.ref en181), .val (.ref ix181)] [(.int (1 : Int32))])
    refine Goes.step (T' := T192) (g' := (mkF m 165 #[.val (.int p0), .val (.int p1), .val (.long q2), .second, .val (.int p3), .val (.ref b121), .val (.ref b128), .val (.ref b141), .val (.ref b165), .val (.int (0 : Int32)), .val (.ref en181), .val (.ref ix181)] [])) (fun t k => XS.ifYes X192.here hx rfl (pc0 := 160) (pc' := 165) rfl (hb hby at_160) rfl ((if0 _ _).trans (feq ((by decide : ¬ ((1 : Int32) = (0 : Int32))) : ¬ ((1 : Int32) = (0 : Int32)))).2) (by decide) (by decide) k) ?_
    refine P1.aload X192.here hx (hb hby at_165) rfl rfl ?_
    refine Goes.callV X192 hx hZ (y := y17_) (z := y17_) hown (mvT hZ (own_w hw 95 rfl)) (mvT hZ (own_w hw 96 rfl)) (notFace_of_selects (args := #[]) (mvT hZ (own_w hw 98 rfl))) (mvT hZ (own_w hw 98 rfl)) (mvT hZ (own_w hw 97 rfl)) (by decide) (kc' := 0) (ks' := 0) (backOf (W := 0) (rmSe l Z a0 hw [] en181 bf T181.heap n0 Z182 O183 g181_set) hZ (own_w hw 99 rfl) (own_w hw 32 rfl) (ok rfl) (ok rfl)) (b := en181) hE192 g181E (g := (mkF m 167 #[.val (.int p0), .val (.int p1), .val (.long q2), .second, .val (.int p3), .val (.ref b121), .val (.ref b128), .val (.ref b141), .val (.ref b165), .val (.int (0 : Int32)), .val (.ref en181), .val (.ref ix181)] [(.ref en181)])) rfl (by rw [hml]; rfl) (argsL := []) (rest := []) (lenOf pd_21322 rfl) rfl (by show 2 * 0 + _ ≤ _; exact Nat.le_of_eq rfl) (hb hby at_167) rfl (ok rfl) (ok rfl) ?_
    intro v194 T194 L194 q194 X194
    obtain ⟨rfl, N194q, hE194⟩ := q194
    have N194 := Fr.app N192 N194q
    show Goes p e below _ T194 (mkF m 170 #[.val (.int p0), .val (.int p1), .val (.long q2), .second, .val (.int p3), .val (.ref b121), .val (.ref b128), .val (.ref b141), .val (.ref b165), .val (.int (0 : Int32)), .val (.ref en181), .val (.ref ix181)] [(.ref bf)])
    refine Goes.step (T' := T194) (g' := (mkF m 175 #[.val (.int p0), .val (.int p1), .val (.long q2), .second, .val (.int p3), .val (.ref b121), .val (.ref b128), .val (.ref b141), .val (.ref b165), .val (.int (0 : Int32)), .val (.ref en181), .val (.ref ix181)] [])) (fun t k => XS.ifnonnullYes X194.here hx rfl (pc0 := 170) (pc' := 175) rfl (hb hby at_170) rfl (by decide) (by decide) k) ?_
    refine P1.aload X194.here hx (hb hby at_175) rfl rfl ?_
    refine Goes.callV X194 hx hZ (y := y11_) (z := y11_) hown (mvT hZ (own_w hw 100 rfl)) (mvT hZ (own_w hw 101 rfl)) (notFace_of_selects (args := #[]) (mvT hZ (own_w hw 103 rfl))) (mvT hZ (own_w hw 103 rfl)) (mvT hZ (own_w hw 102 rfl)) (by decide) (kc' := 0) (ks' := 0) (backOf (W := 0) (rmEr l Z a0 hw [] en181 T181.heap n0 Z182 O183 g181_error) hZ (own_w hw 104 rfl) (own_w hw 32 rfl) (ok rfl) (ok rfl)) (b := en181) hE194 g181E (g := (mkF m 177 #[.val (.int p0), .val (.int p1), .val (.long q2), .second, .val (.int p3), .val (.ref b121), .val (.ref b128), .val (.ref b141), .val (.ref b165), .val (.int (0 : Int32)), .val (.ref en181), .val (.ref ix181)] [(.ref en181)])) rfl (by rw [hml]; rfl) (argsL := []) (rest := []) (lenOf pd_19649 rfl) rfl (by show 2 * 0 + _ ≤ _; exact Nat.le_of_eq rfl) (hb hby at_177) rfl (ok rfl) (ok rfl) ?_
    intro v195 T195 L195 q195 X195
    obtain ⟨rfl, N195q, hE195⟩ := q195
    have N195 := Fr.app N194 N195q
    show Goes p e below _ T195 (mkF m 180 #[.val (.int p0), .val (.int p1), .val (.long q2), .second, .val (.int p3), .val (.ref b121), .val (.ref b128), .val (.ref b141), .val (.ref b165), .val (.int (0 : Int32)), .val (.ref en181), .val (.ref ix181)] [.null])
    refine Goes.step (T' := T195) (g' := (mkF m 185 #[.val (.int p0), .val (.int p1), .val (.long q2), .second, .val (.int p3), .val (.ref b121), .val (.ref b128), .val (.ref b141), .val (.ref b165), .val (.int (0 : Int32)), .val (.ref en181), .val (.ref ix181)] [])) (fun t k => XS.ifnullYes X195.here hx rfl (pc0 := 180) (pc' := 185) rfl (hb hby at_180) rfl (by decide) (by decide) k) ?_
    refine P1.aload X195.here hx (hb hby at_185) rfl rfl ?_
    refine P1.aload X195.here hx (hb hby at_187) rfl rfl ?_
    refine Goes.callV X195 hx hZ (y := y13_) (z := y13_) hown (mvT hZ (own_w hw 105 rfl)) (mvT hZ (own_w hw 106 rfl)) (notFace_of_selects (args := #[]) (mvT hZ (own_w hw 108 rfl))) (mvT hZ (own_w hw 108 rfl)) (mvT hZ (own_w hw 107 rfl)) (by decide) (kc' := 0) (ks' := 0) (backOf (W := 0) (rmIS0 l Z a0 hw [] en181 b141 zc fm bf bt ca cl_ca T181.heap n0 Z182 O183 S_CS hzc S_FM hfm S_bf E_bf F_bf S_bt E_bt F_bt S_ca Ar_ca le_ca H_ca g181_set g181_purpose E188) hZ (own_w hw 109 rfl) (own_w hw 32 rfl) (ok rfl) (ok rfl)) (b := en181) hE195 g181E (g := (mkF m 189 #[.val (.int p0), .val (.int p1), .val (.long q2), .second, .val (.int p3), .val (.ref b121), .val (.ref b128), .val (.ref b141), .val (.ref b165), .val (.int (0 : Int32)), .val (.ref en181), .val (.ref ix181)] [(.ref b141), (.ref en181)])) rfl (by rw [hml]; rfl) (argsL := [(.ref b141)]) (rest := []) (lenOf pd_20581 rfl) rfl (by show 2 * 0 + _ ≤ _; exact Nat.le_of_eq rfl) (hb hby at_189) rfl (ok rfl) (ok rfl) ?_
    intro v196 T196 L196 q196 X196
    obtain ⟨rfl, N196q, hE196⟩ := q196
    have N196 := Fr.app N195 N196q
    show Goes p e below _ T196 (mkF m 192 #[.val (.int p0), .val (.int p1), .val (.long q2), .second, .val (.int p3), .val (.ref b121), .val (.ref b128), .val (.ref b141), .val (.ref b165), .val (.int (0 : Int32)), .val (.ref en181), .val (.ref ix181)] [(.int (0 : Int32))])
    refine P1.iload X196.here hx (hb hby at_192) rfl ?_
    refine Goes.step (T' := T196) (g' := (mkF m 197 #[.val (.int p0), .val (.int p1), .val (.long q2), .second, .val (.int p3), .val (.ref b121), .val (.ref b128), .val (.ref b141), .val (.ref b165), .val (.int (0 : Int32)), .val (.ref en181), .val (.ref ix181)] [])) (fun t k => XS.icmpNo X196.here hx rfl (hb hby at_194) rfl (teq ((by decide : (0 : Int32) = (0 : Int32)) : (0 : Int32) = (0 : Int32))).2 k) ?_
    refine P1.iconst X196.here hx (1 : Int32) (hb hby at_197) rfl ?_
    refine P1.goto X196.here hx 202 (hb hby at_198) (by decide) (by decide) ?_
    refine Goes.retN X196 hx Bd.notSynchronized (t := .boolean) Bd.returns (by simp) (hb hby at_202) (ok rfl) (ok rfl) ?_
    rw [hE196]
    exact ⟨rfl, N196⟩
  ·
    refine Goes.step (T' := T177) (g' := (mkF m 85 #[.val (.int p0), .val (.int p1), .val (.long q2), .second, .val (.int p3), .val (.ref b121), .val (.ref b128), .val (.ref b141), .val (.ref b165), .unset, .unset, .unset] [])) (fun t k => XS.ifNo X177.here hx rfl (hb hby at_82) rfl ((if0 _ _).trans (feq (hbr : ¬ ((p3 &&& (1 : Int32)) = (0 : Int32)))).1) k) ?_
    refine P1.iconst X177.here hx (1 : Int32) (hb hby at_85) rfl ?_
    refine P1.goto X177.here hx 90 (hb hby at_86) (by decide) (by decide) ?_
    refine P1.istore X177.here hx #[.val (.int p0), .val (.int p1), .val (.long q2), .second, .val (.int p3), .val (.ref b121), .val (.ref b128), .val (.ref b141), .val (.ref b165), .val (.int (1 : Int32)), .unset, .unset] (hb hby at_90) rfl ?_
    refine P1.aload X177.here hx (hb hby at_92) rfl rfl ?_
    refine P1.lloadN X177.here hx (hb hby at_94) rfl ?_
    refine P1.aload X177.here hx (hb hby at_95) rfl rfl ?_
    refine P1.iload X177.here hx (hb hby at_97) rfl ?_
    have Z197 : n0 ≤ T177.heap.size := Nat.le_trans Z172 K177.1
    have O198 : Old Z n0 T177.heap := O176.keep K177 (allS ge_b165 all0)
    refine Goes.callS X177 hx (y := y16_) hown (mvT hZ (own_w hw 30 rfl)) (mvT hZ (own_w hw 31 rfl)) (mvT hZ (own_w hw 32 rfl)) (mvT hZ (own_w hw 33 rfl)) (by decide) (kc' := 2) (ks' := 6) (backOf (W := 0) (rmRD1 l Z a0 hw [] b141 q2 b165 zc fm bf bt ca cl_ca T177.heap n0 Z197 O198 S_CS hzc S_FM hfm S_bf E_bf F_bf S_bt E_bt F_bt S_ca Ar_ca le_ca H_ca) hZ (own_w hw 33 rfl) (own_w hw 32 rfl) (ok rfl) (ok rfl)) (g := (mkF m 99 #[.val (.int p0), .val (.int p1), .val (.long q2), .second, .val (.int p3), .val (.ref b121), .val (.ref b128), .val (.ref b141), .val (.ref b165), .val (.int (1 : Int32)), .unset, .unset] [(.int (1 : Int32)), (.ref b165), (.long q2), (.ref b141)])) rfl (by rw [hml]; rfl) (argsL := [(.ref b141), (.long q2), (.ref b165), (.int (1 : Int32))]) (rest := []) (lenOf pd_265751 rfl) rfl (by show 2 * 0 + _ ≤ _; exact Nat.le_of_eq rfl) (hb hby at_99) rfl rfl (ok rfl) (ok rfl) ?_
    intro v199 T199 L199 q199 X199
    obtain ⟨en199, ix199, rfl, N199q, K199, g199E, g199I, g199J, g199_purpose, g199_index, g199_list, g199_set, g199_error⟩ := q199
    have N199 := Fr.app N177 N199q
    show Goes p e below _ T199 (mkF m 102 #[.val (.int p0), .val (.int p1), .val (.long q2), .second, .val (.int p3), .val (.ref b121), .val (.ref b128), .val (.ref b141), .val (.ref b165), .val (.int (1 : Int32)), .unset, .unset] [(.ref en199)])
    refine P1.astore X199.here hx #[.val (.int p0), .val (.int p1), .val (.long q2), .second, .val (.int p3), .val (.ref b121), .val (.ref b128), .val (.ref b141), .val (.ref b165), .val (.int (1 : Int32)), .val (.ref en199), .unset] (hb hby at_102) rfl rfl ?_
    refine P1.aload X199.here hx (hb hby at_104) rfl rfl ?_
    refine Goes.step (T' := T199) (g' := (mkF m 111 #[.val (.int p0), .val (.int p1), .val (.long q2), .second, .val (.int p3), .val (.ref b121), .val (.ref b128), .val (.ref b141), .val (.ref b165), .val (.int (1 : Int32)), .val (.ref en199), .unset] [])) (fun t k => XS.ifnonnullYes X199.here hx rfl (pc0 := 106) (pc' := 111) rfl (hb hby at_106) rfl (by decide) (by decide) k) ?_
    refine P1.aload X199.here hx (hb hby at_111) rfl rfl ?_
    refine P1.aload X199.here hx (hb hby at_113) rfl rfl ?_
    have Z200 : n0 ≤ T199.heap.size := Nat.le_trans Z197 K199.1
    have O201 : Old Z n0 T199.heap := O198.keep K199 all0
    refine Goes.callV X199 hx hZ (y := y15_) (z := y15_) hown (mvT hZ (own_w hw 68 rfl)) (mvT hZ (own_w hw 69 rfl)) (notFace_of_selects (args := #[]) (mvT hZ (own_w hw 71 rfl))) (mvT hZ (own_w hw 71 rfl)) (mvT hZ (own_w hw 70 rfl)) (by decide) (kc' := 0) (ks' := 0) (backOf (W := 1) (rmPu l Z a0 hw [] en199 b141 T199.heap n0 Z200 O201 g199_purpose) hZ (own_w hw 72 rfl) (own_w hw 32 rfl) (ok rfl) (ok rfl)) (b := en199) rfl g199E (g := (mkF m 115 #[.val (.int p0), .val (.int p1), .val (.long q2), .second, .val (.int p3), .val (.ref b121), .val (.ref b128), .val (.ref b141), .val (.ref b165), .val (.int (1 : Int32)), .val (.ref en199), .unset] [(.ref en199), (.ref b141)])) rfl (by rw [hml]; rfl) (argsL := []) (rest := [(.ref b141)]) (lenOf pd_19649 rfl) rfl (by show 2 * 0 + _ ≤ _; exact Nat.le_of_eq rfl) (hb hby at_115) rfl (ok rfl) (ok rfl) ?_
    intro v202 T202 L202 q202 X202
    obtain ⟨rfl, N202q, hE202⟩ := q202
    have N202 := Fr.app N199 N202q
    show Goes p e below _ T202 (mkF m 118 #[.val (.int p0), .val (.int p1), .val (.long q2), .second, .val (.int p3), .val (.ref b121), .val (.ref b128), .val (.ref b141), .val (.ref b165), .val (.int (1 : Int32)), .val (.ref en199), .unset] [(.ref b141), (.ref b141)])
    have E204 : Exa Z h165 b141 "java/lang/String" := g163E.ext E165
    have E205 : Exa Z T177.heap b141 "java/lang/String" := E204.keep K177
    have E206 : Exa Z T199.heap b141 "java/lang/String" := E205.keep K199
    refine Goes.callV X202 hx hZ (y := y9_) (z := y9_) hown (mvT hZ (own_w hw 73 rfl)) (mvT hZ (own_w hw 74 rfl)) (notFace_of_selects (args := #[]) (mvT hZ (own_w hw 76 rfl))) (mvT hZ (own_w hw 76 rfl)) (mvT hZ (own_w hw 75 rfl)) (by decide) (kc' := 0) (ks' := 0) (backOf (W := 0) (rmEq l Z a0 hw [] b141 T199.heap n0 Z200 O201 ) hZ (own_w hw 77 rfl) (own_w hw 3 rfl) (ok rfl) (ok rfl)) (b := b141) hE202 E206 (g := (mkF m 118 #[.val (.int p0), .val (.int p1), .val (.long q2), .second, .val (.int p3), .val (.ref b121), .val (.ref b128), .val (.ref b141), .val (.ref b165), .val (.int (1 : Int32)), .val (.ref en199), .unset] [(.ref b141), (.ref b141)])) rfl (by rw [hml]; rfl) (argsL := [(.ref b141)]) (rest := []) (lenOf pd_20140 rfl) rfl (by show 2 * 0 + _ ≤ _; exact Nat.le_of_eq rfl) (hb hby at_118) rfl (ok rfl) (ok rfl) ?_
    intro v203 T203 L203 q203 X203
    obtain ⟨rfl, N203q, hE203⟩ := q203
    have N203 := Fr.app N202 N203q
    show Goes p e below _ T203 (mkF m 121 #[.val (.int p0), .val (.int p1), .val (.long q2), .second, .val (.int p3), .val (.ref b121), .val (.ref b128), .val (.ref b141), .val (.ref b165), .val (.int (1 : Int32)), .val (.ref en199), .unset] [(.int (1 : Int32))])
    refine Goes.step (T' := T203) (g' := (mkF m 126 #[.val (.int p0), .val (.int p1), .val (.long q2), .second, .val (.int p3), .val (.ref b121), .val (.ref b128), .val (.ref b141), .val (.ref b165), .val (.int (1 : Int32)), .val (.ref en199), .unset] [])) (fun t k => XS.ifYes X203.here hx rfl (pc0 := 121) (pc' := 126) rfl (hb hby at_121) rfl ((if0 _ _).trans (feq ((by decide : ¬ ((1 : Int32) = (0 : Int32))) : ¬ ((1 : Int32) = (0 : Int32)))).2) (by decide) (by decide) k) ?_
    refine P1.aload X203.here hx (hb hby at_126) rfl rfl ?_
    refine Goes.callV X203 hx hZ (y := y12_) (z := y12_) hown (mvT hZ (own_w hw 78 rfl)) (mvT hZ (own_w hw 79 rfl)) (notFace_of_selects (args := #[]) (mvT hZ (own_w hw 81 rfl))) (mvT hZ (own_w hw 81 rfl)) (mvT hZ (own_w hw 80 rfl)) (by decide) (kc' := 0) (ks' := 0) (backOf (W := 0) (rmIx l Z a0 hw [] en199 ix199 T199.heap n0 Z200 O201 g199_index) hZ (own_w hw 82 rfl) (own_w hw 32 rfl) (ok rfl) (ok rfl)) (b := en199) hE203 g199E (g := (mkF m 128 #[.val (.int p0), .val (.int p1), .val (.long q2), .second, .val (.int p3), .val (.ref b121), .val (.ref b128), .val (.ref b141), .val (.ref b165), .val (.int (1 : Int32)), .val (.ref en199), .unset] [(.ref en199)])) rfl (by rw [hml]; rfl) (argsL := []) (rest := []) (lenOf pd_15323 rfl) rfl (by show 2 * 0 + _ ≤ _; exact Nat.le_of_eq rfl) (hb hby at_128) rfl (ok rfl) (ok rfl) ?_
    intro v207 T207 L207 q207 X207
    obtain ⟨rfl, N207q, hE207⟩ := q207
    have N207 := Fr.app N203 N207q
    show Goes p e below _ T207 (mkF m 131 #[.val (.int p0), .val (.int p1), .val (.long q2), .second, .val (.int p3), .val (.ref b121), .val (.ref b128), .val (.ref b141), .val (.ref b165), .val (.int (1 : Int32)), .val (.ref en199), .unset] [(.ref ix199)])
    refine P1.astore X207.here hx #[.val (.int p0), .val (.int p1), .val (.long q2), .second, .val (.int p3), .val (.ref b121), .val (.ref b128), .val (.ref b141), .val (.ref b165), .val (.int (1 : Int32)), .val (.ref en199), .val (.ref ix199)] (hb hby at_131) rfl rfl ?_
    refine P1.aload X207.here hx (hb hby at_133) rfl rfl ?_
    refine Goes.step (T' := T207) (g' := (mkF m 138 #[.val (.int p0), .val (.int p1), .val (.long q2), .second, .val (.int p3), .val (.ref b121), .val (.ref b128), .val (.ref b141), .val (.ref b165), .val (.int (1 : Int32)), .val (.ref en199), .val (.ref ix199)] [])) (fun t k => XS.ifnullNo X207.here hx rfl (hb hby at_135) rfl k) ?_
    refine P1.aload X207.here hx (hb hby at_138) rfl rfl ?_
    refine Goes.callV X207 hx hZ (y := y4_) (z := y4_) hown (mvT hZ (own_w hw 83 rfl)) (mvT hZ (own_w hw 84 rfl)) (notFace_of_selects (args := #[]) (mvT hZ (own_w hw 86 rfl))) (mvT hZ (own_w hw 86 rfl)) (mvT hZ (own_w hw 85 rfl)) (by decide) (kc' := 0) (ks' := 0) (backOf (W := 0) (rmLv l Z a0 hw [] ix199 q2 T199.heap n0 Z200 O201 g199J) hZ (own_w hw 87 rfl) (own_w hw 38 rfl) (ok rfl) (ok rfl)) (b := ix199) hE207 g199I (g := (mkF m 140 #[.val (.int p0), .val (.int p1), .val (.long q2), .second, .val (.int p3), .val (.ref b121), .val (.ref b128), .val (.ref b141), .val (.ref b165), .val (.int (1 : Int32)), .val (.ref en199), .val (.ref ix199)] [(.ref ix199)])) rfl (by rw [hml]; rfl) (argsL := []) (rest := []) (lenOf pd_344 rfl) rfl (by show 2 * 0 + _ ≤ _; exact Nat.le_of_eq rfl) (hb hby at_140) rfl (ok rfl) (ok rfl) ?_
    intro v208 T208 L208 q208 X208
    obtain ⟨rfl, N208q, hE208⟩ := q208
    have N208 := Fr.app N207 N208q
    show Goes p e below _ T208 (mkF m 143 #[.val (.int p0), .val (.int p1), .val (.long q2), .second, .val (.int p3), .val (.ref b121), .val (.ref b128), .val (.ref b141), .val (.ref b165), .val (.int (1 : Int32)), .val (.ref en199), .val (.ref ix199)] [(.long q2)])
    refine P1.lloadN X208.here hx (hb hby at_143) rfl ?_
    refine Goes.step (T' := T208) (g' := (mkF m 145 #[.val (.int p0), .val (.int p1), .val (.long q2), .second, .val (.int p3), .val (.ref b121), .val (.ref b128), .val (.ref b141), .val (.ref b165), .val (.int (1 : Int32)), .val (.ref en199), .val (.ref ix199)] [(.int (lcmpW q2 q2))])) (fun t k => XS.lcmp X208.here hx rfl (hb hby at_144) rfl k) ?_
    refine Goes.step (T' := T208) (g' := (mkF m 150 #[.val (.int p0), .val (.int p1), .val (.long q2), .second, .val (.int p3), .val (.ref b121), .val (.ref b128), .val (.ref b141), .val (.ref b165), .val (.int (1 : Int32)), .val (.ref en199), .val (.ref ix199)] [])) (fun t k => XS.ifYes X208.here hx rfl (pc0 := 145) (pc' := 150) rfl (hb hby at_145) rfl ((if0 _ _).trans (teq (own_lcmp_self q2 : (lcmpW q2 q2) = (0 : Int32))).1) (by decide) (by decide) k) ?_
    refine P1.aload X208.here hx (hb hby at_150) rfl rfl ?_
    refine P1.aload X208.here hx (hb hby at_152) rfl rfl ?_
    refine Goes.callV X208 hx hZ (y := y14_) (z := y14_) hown (mvT hZ (own_w hw 90 rfl)) (mvT hZ (own_w hw 91 rfl)) (notFace_of_selects (args := #[]) (mvT hZ (own_w hw 93 rfl))) (mvT hZ (own_w hw 93 rfl)) (mvT hZ (own_w hw 92 rfl)) (by decide) (kc' := 0) (ks' := 0) (backOf (W := 1) (rmLi l Z a0 hw [] en199 b165 T199.heap n0 Z200 O201 g199_list) hZ (own_w hw 94 rfl) (own_w hw 32 rfl) (ok rfl) (ok rfl)) (b := en199) hE208 g199E (g := (mkF m 154 #[.val (.int p0), .val (.int p1), .val (.long q2), .second, .val (.int p3), .val (.ref b121), .val (.ref b128), .val (.ref b141), .val (.ref b165), .val (.int (1 : Int32)), .val (.ref en199), .val (.ref ix199)] [(.ref en199), (.ref b165)])) rfl (by rw [hml]; rfl) (argsL := []) (rest := [(.ref b165)]) (lenOf pd_19649 rfl) rfl (by show 2 * 0 + _ ≤ _; exact Nat.le_of_eq rfl) (hb hby at_154) rfl (ok rfl) (ok rfl) ?_
    intro v209 T209 L209 q209 X209
    obtain ⟨rfl, N209q, hE209⟩ := q209
    have N209 := Fr.app N208 N209q
    show Goes p e below _ T209 (mkF m 157 #[.val (.int p0), .val (.int p1), .val (.long q2), .second, .val (.int p3), .val (.ref b121), .val (.ref b128), .val (.ref b141), .val (.ref b165), .val (.int (1 : Int32)), .val (.ref en199), .val (.ref ix199)] [(.ref b165), (.ref b165)])
    have E211 : Exa Z T199.heap b165 "java/lang/String" := g177E.keep K199
    refine Goes.callV X209 hx hZ (y := y9_) (z := y9_) hown (mvT hZ (own_w hw 73 rfl)) (mvT hZ (own_w hw 74 rfl)) (notFace_of_selects (args := #[]) (mvT hZ (own_w hw 76 rfl))) (mvT hZ (own_w hw 76 rfl)) (mvT hZ (own_w hw 75 rfl)) (by decide) (kc' := 0) (ks' := 0) (backOf (W := 0) (rmEq l Z a0 hw [] b165 T199.heap n0 Z200 O201 ) hZ (own_w hw 77 rfl) (own_w hw 3 rfl) (ok rfl) (ok rfl)) (b := b165) hE209 E211 (g := (mkF m 157 #[.val (.int p0), .val (.int p1), .val (.long q2), .second, .val (.int p3), .val (.ref b121), .val (.ref b128), .val (.ref b141), .val (.ref b165), .val (.int (1 : Int32)), .val (.ref en199), .val (.ref ix199)] [(.ref b165), (.ref b165)])) rfl (by rw [hml]; rfl) (argsL := [(.ref b165)]) (rest := []) (lenOf pd_20140 rfl) rfl (by show 2 * 0 + _ ≤ _; exact Nat.le_of_eq rfl) (hb hby at_157) rfl (ok rfl) (ok rfl) ?_
    intro v210 T210 L210 q210 X210
    obtain ⟨rfl, N210q, hE210⟩ := q210
    have N210 := Fr.app N209 N210q
    show Goes p e below _ T210 (mkF m 160 #[.val (.int p0), .val (.int p1), .val (.long q2), .second, .val (.int p3), .val (.ref b121), .val (.ref b128), .val (.ref b141), .val (.ref b165), .val (.int (1 : Int32)), .val (.ref en199), .val (.ref ix199)] [(.int (1 : Int32))])
    refine Goes.step (T' := T210) (g' := (mkF m 165 #[.val (.int p0), .val (.int p1), .val (.long q2), .second, .val (.int p3), .val (.ref b121), .val (.ref b128), .val (.ref b141), .val (.ref b165), .val (.int (1 : Int32)), .val (.ref en199), .val (.ref ix199)] [])) (fun t k => XS.ifYes X210.here hx rfl (pc0 := 160) (pc' := 165) rfl (hb hby at_160) rfl ((if0 _ _).trans (feq ((by decide : ¬ ((1 : Int32) = (0 : Int32))) : ¬ ((1 : Int32) = (0 : Int32)))).2) (by decide) (by decide) k) ?_
    refine P1.aload X210.here hx (hb hby at_165) rfl rfl ?_
    refine Goes.callV X210 hx hZ (y := y17_) (z := y17_) hown (mvT hZ (own_w hw 95 rfl)) (mvT hZ (own_w hw 96 rfl)) (notFace_of_selects (args := #[]) (mvT hZ (own_w hw 98 rfl))) (mvT hZ (own_w hw 98 rfl)) (mvT hZ (own_w hw 97 rfl)) (by decide) (kc' := 0) (ks' := 0) (backOf (W := 0) (rmSe l Z a0 hw [] en199 bt T199.heap n0 Z200 O201 g199_set) hZ (own_w hw 99 rfl) (own_w hw 32 rfl) (ok rfl) (ok rfl)) (b := en199) hE210 g199E (g := (mkF m 167 #[.val (.int p0), .val (.int p1), .val (.long q2), .second, .val (.int p3), .val (.ref b121), .val (.ref b128), .val (.ref b141), .val (.ref b165), .val (.int (1 : Int32)), .val (.ref en199), .val (.ref ix199)] [(.ref en199)])) rfl (by rw [hml]; rfl) (argsL := []) (rest := []) (lenOf pd_21322 rfl) rfl (by show 2 * 0 + _ ≤ _; exact Nat.le_of_eq rfl) (hb hby at_167) rfl (ok rfl) (ok rfl) ?_
    intro v212 T212 L212 q212 X212
    obtain ⟨rfl, N212q, hE212⟩ := q212
    have N212 := Fr.app N210 N212q
    show Goes p e below _ T212 (mkF m 170 #[.val (.int p0), .val (.int p1), .val (.long q2), .second, .val (.int p3), .val (.ref b121), .val (.ref b128), .val (.ref b141), .val (.ref b165), .val (.int (1 : Int32)), .val (.ref en199), .val (.ref ix199)] [(.ref bt)])
    refine Goes.step (T' := T212) (g' := (mkF m 175 #[.val (.int p0), .val (.int p1), .val (.long q2), .second, .val (.int p3), .val (.ref b121), .val (.ref b128), .val (.ref b141), .val (.ref b165), .val (.int (1 : Int32)), .val (.ref en199), .val (.ref ix199)] [])) (fun t k => XS.ifnonnullYes X212.here hx rfl (pc0 := 170) (pc' := 175) rfl (hb hby at_170) rfl (by decide) (by decide) k) ?_
    refine P1.aload X212.here hx (hb hby at_175) rfl rfl ?_
    refine Goes.callV X212 hx hZ (y := y11_) (z := y11_) hown (mvT hZ (own_w hw 100 rfl)) (mvT hZ (own_w hw 101 rfl)) (notFace_of_selects (args := #[]) (mvT hZ (own_w hw 103 rfl))) (mvT hZ (own_w hw 103 rfl)) (mvT hZ (own_w hw 102 rfl)) (by decide) (kc' := 0) (ks' := 0) (backOf (W := 0) (rmEr l Z a0 hw [] en199 T199.heap n0 Z200 O201 g199_error) hZ (own_w hw 104 rfl) (own_w hw 32 rfl) (ok rfl) (ok rfl)) (b := en199) hE212 g199E (g := (mkF m 177 #[.val (.int p0), .val (.int p1), .val (.long q2), .second, .val (.int p3), .val (.ref b121), .val (.ref b128), .val (.ref b141), .val (.ref b165), .val (.int (1 : Int32)), .val (.ref en199), .val (.ref ix199)] [(.ref en199)])) rfl (by rw [hml]; rfl) (argsL := []) (rest := []) (lenOf pd_19649 rfl) rfl (by show 2 * 0 + _ ≤ _; exact Nat.le_of_eq rfl) (hb hby at_177) rfl (ok rfl) (ok rfl) ?_
    intro v213 T213 L213 q213 X213
    obtain ⟨rfl, N213q, hE213⟩ := q213
    have N213 := Fr.app N212 N213q
    show Goes p e below _ T213 (mkF m 180 #[.val (.int p0), .val (.int p1), .val (.long q2), .second, .val (.int p3), .val (.ref b121), .val (.ref b128), .val (.ref b141), .val (.ref b165), .val (.int (1 : Int32)), .val (.ref en199), .val (.ref ix199)] [.null])
    refine Goes.step (T' := T213) (g' := (mkF m 185 #[.val (.int p0), .val (.int p1), .val (.long q2), .second, .val (.int p3), .val (.ref b121), .val (.ref b128), .val (.ref b141), .val (.ref b165), .val (.int (1 : Int32)), .val (.ref en199), .val (.ref ix199)] [])) (fun t k => XS.ifnullYes X213.here hx rfl (pc0 := 180) (pc' := 185) rfl (hb hby at_180) rfl (by decide) (by decide) k) ?_
    refine P1.aload X213.here hx (hb hby at_185) rfl rfl ?_
    refine P1.aload X213.here hx (hb hby at_187) rfl rfl ?_
    refine Goes.callV X213 hx hZ (y := y13_) (z := y13_) hown (mvT hZ (own_w hw 105 rfl)) (mvT hZ (own_w hw 106 rfl)) (notFace_of_selects (args := #[]) (mvT hZ (own_w hw 108 rfl))) (mvT hZ (own_w hw 108 rfl)) (mvT hZ (own_w hw 107 rfl)) (by decide) (kc' := 0) (ks' := 0) (backOf (W := 0) (rmIS1 l Z a0 hw [] en199 b141 zc fm bf bt ca cl_ca T199.heap n0 Z200 O201 S_CS hzc S_FM hfm S_bf E_bf F_bf S_bt E_bt F_bt S_ca Ar_ca le_ca H_ca g199_set g199_purpose E206) hZ (own_w hw 109 rfl) (own_w hw 32 rfl) (ok rfl) (ok rfl)) (b := en199) hE213 g199E (g := (mkF m 189 #[.val (.int p0), .val (.int p1), .val (.long q2), .second, .val (.int p3), .val (.ref b121), .val (.ref b128), .val (.ref b141), .val (.ref b165), .val (.int (1 : Int32)), .val (.ref en199), .val (.ref ix199)] [(.ref b141), (.ref en199)])) rfl (by rw [hml]; rfl) (argsL := [(.ref b141)]) (rest := []) (lenOf pd_20581 rfl) rfl (by show 2 * 0 + _ ≤ _; exact Nat.le_of_eq rfl) (hb hby at_189) rfl (ok rfl) (ok rfl) ?_
    intro v214 T214 L214 q214 X214
    obtain ⟨rfl, N214q, hE214⟩ := q214
    have N214 := Fr.app N213 N214q
    show Goes p e below _ T214 (mkF m 192 #[.val (.int p0), .val (.int p1), .val (.long q2), .second, .val (.int p3), .val (.ref b121), .val (.ref b128), .val (.ref b141), .val (.ref b165), .val (.int (1 : Int32)), .val (.ref en199), .val (.ref ix199)] [(.int (1 : Int32))])
    refine P1.iload X214.here hx (hb hby at_192) rfl ?_
    refine Goes.step (T' := T214) (g' := (mkF m 197 #[.val (.int p0), .val (.int p1), .val (.long q2), .second, .val (.int p3), .val (.ref b121), .val (.ref b128), .val (.ref b141), .val (.ref b165), .val (.int (1 : Int32)), .val (.ref en199), .val (.ref ix199)] [])) (fun t k => XS.icmpNo X214.here hx rfl (hb hby at_194) rfl (teq ((by decide : (1 : Int32) = (1 : Int32)) : (1 : Int32) = (1 : Int32))).2 k) ?_
    refine P1.iconst X214.here hx (1 : Int32) (hb hby at_197) rfl ?_
    refine P1.goto X214.here hx 202 (hb hby at_198) (by decide) (by decide) ?_
    refine Goes.retN X214 hx Bd.notSynchronized (t := .boolean) Bd.returns (by simp) (hb hby at_202) (ok rfl) (ok rfl) ?_
    rw [hE214]
    exact ⟨rfl, N214⟩
set_option maxRecDepth 65536 in
set_option maxHeartbeats 40000000 in
theorem comes_1 {Post : Tables → Env → Array Value → State → Outcome → State → Prop} (hpost : ∀ tb e args s v u, (limb_1_1.after args s (.returned v) u = true ∧ limb_1_2.after args s (.returned v) u = true ∧ True) → FrameEnd s (.returned v) u (Jvm.fieldLocs frame_1_writes args s ++ Jvm.arrayLocs frame_1_arrays args s ++ Jvm.staticLocs frame_1_statics s) 24 128 → Post tb e args s (.returned v) u) :
    ArmFor flags0 classFile x code maxLocals ret World_1 tables_1 room_1 Calls_1 rest_1 Pre_1 Post := by
  intro l hfl _ _ p e ha hc hk s m args below hf hA hF happ hP
  obtain ⟨hcalls, hrest, hpre⟩ := hP
  obtain ⟨-, -, -, hnamed, -, -, -, hat⟩ := (Spec.applies_iff hf).mp happ
  obtain ⟨hg, hn⟩ := and_e (Cond.before_iff.mp (show (Jvm.Cond.and given_1 narrow_1).before args s = true from hpre))
  obtain ⟨hg0, hg1⟩ := and_e hg
  obtain ⟨ha0, hgr0⟩ := and_e hg1
  obtain ⟨ha1, hgr1⟩ := and_e hgr0
  obtain ⟨ha2, hgr2⟩ := and_e hgr1
  obtain ⟨w0, w1, w2, w3, rfl⟩ : ∃ w0 w1 w2 w3 : Value, args = #[w0, w1, w2, w3] := by
    have hs : args.size = 4 := by simpa [Cond.value, given_1] using hg0
    obtain ⟨L⟩ := args
    match L, hs with
    | [w0, w1, w2, w3], _ => exact ⟨w0, w1, w2, w3, rfl⟩
  have hw := fun d (hd : d ∈ tables_1) => atoms_spec (ws := Jvm.Cond.code x code maxLocals ret :: tables_1) hat d (List.mem_cons_of_mem _ hd)
  have hfit : Fit s := fun {y c} hc i hi => by
    obtain ⟨ha, rfl⟩ := Array.getElem?_eq_some_iff.mp hc
    have q := List.all_eq_true.mp ((Array.all_eq_true_iff_forall_mem.mp hF) _ (Array.getElem_mem ha)) i (List.mem_range.mpr hi)
    simpa [Array.getElem?_eq_getElem hi] using q
  obtain ⟨hsets, hown0⟩ := atoms_of _ (rest_1_c_eq ▸ (show rest_1_c.before _ s = true from hrest))
  obtain ⟨i0, ei0⟩ := is_v ha0
  obtain rfl : w0 = (.int i0) := Option.some.inj ei0
  obtain ⟨i1, ei1⟩ := is_v ha1
  obtain rfl : w1 = (.int i1) := Option.some.inj ei1
  obtain ⟨i2, ei2⟩ := isL_v ha2
  obtain rfl : w2 = (.long i2) := Option.some.inj ei2
  obtain ⟨i3, ei3⟩ := is_v hgr2
  obtain rfl : w3 = (.int i3) := Option.some.inj ei3
  obtain ⟨zc, ev_zc⟩ := is_v (Cond.before_iff.mp (hsets _ (List.mem_of_getElem? (i := 1) rfl)))
  have S_CS : Sta s s.heap "java/lang/String" "COMPACT_STRINGS" "Z" (.int zc) := Sta.start ev_zc (Or.inl (hsets _ (List.mem_of_getElem? (i := 0) rfl)))
  have hzc : ¬ zc = 0 := gotF (Cond.eq_ints ev_zc (Term.int_eval (0))) (not_v (Cond.before_iff.mp (hsets _ (List.mem_of_getElem? (i := 2) rfl))))
  obtain ⟨fm, ev_fm, hfm⟩ := isR_v (Cond.before_iff.mp (hsets _ (List.mem_of_getElem? (i := 8) rfl)))
  have S_FM : Sta s s.heap "jdk/internal/util/Preconditions" "SIOOBE_FORMATTER" "Ljava/util/function/BiFunction;" fm := Sta.start ev_fm (Or.inl (hsets _ (List.mem_of_getElem? (i := 7) rfl)))
  have hb_bf := Cond.before_iff.mp (hsets _ (List.mem_of_getElem? (i := 17) rfl))
  obtain ⟨bf, ev_bf⟩ := exa_v hb_bf
  have S_bf : Sta s s.heap "java/lang/Boolean" "FALSE" "Ljava/lang/Boolean;" (.ref bf) := Sta.start ev_bf (Or.inl (hsets _ (List.mem_of_getElem? (i := 16) rfl)))
  have E_bf : Exa s s.heap bf "java/lang/Boolean" := Exa.start ev_bf hb_bf
  have F_bf : Fld s s.heap bf "java/lang/Boolean" "value" "Z" (.int (0 : Int32)) := own_fld ev_bf (own_eqV (Cond.before_iff.mp (hsets _ (List.mem_of_getElem? (i := 18) rfl))) (Term.int_eval _) (Or.inl ⟨_, rfl⟩))
  have hb_bt := Cond.before_iff.mp (hsets _ (List.mem_of_getElem? (i := 21) rfl))
  obtain ⟨bt, ev_bt⟩ := exa_v hb_bt
  have S_bt : Sta s s.heap "java/lang/Boolean" "TRUE" "Ljava/lang/Boolean;" (.ref bt) := Sta.start ev_bt (Or.inl (hsets _ (List.mem_of_getElem? (i := 20) rfl)))
  have E_bt : Exa s s.heap bt "java/lang/Boolean" := Exa.start ev_bt hb_bt
  have F_bt : Fld s s.heap bt "java/lang/Boolean" "value" "Z" (.int (1 : Int32)) := own_fld ev_bt (own_eqV (Cond.before_iff.mp (hsets _ (List.mem_of_getElem? (i := 22) rfl))) (Term.int_eval _) (Or.inl ⟨_, rfl⟩))
  have hb_ca := Cond.before_iff.mp (hsets _ (List.mem_of_getElem? (i := 11) rfl))
  obtain ⟨ca, ev_ca⟩ := arr_v hb_ca
  have S_ca : Sta s s.heap "java/lang/Long$LongCache" "cache" "[Ljava/lang/Long;" (.ref ca) := Sta.start ev_ca (Or.inl (hsets _ (List.mem_of_getElem? (i := 10) rfl)))
  obtain ⟨cl_ca, Ar_ca⟩ := Arr.start ev_ca hb_ca
  obtain ⟨lt_ca, le_ca⟩ := own_len Ar_ca ev_ca (Cond.before_iff.mp (hsets _ (List.mem_of_getElem? (i := 13) rfl)))
  obtain ⟨le_ca, H_ca⟩ := own_cache Ar_ca ev_ca lt_ca le_ca (Cond.before_iff.mp (hsets _ (List.mem_of_getElem? (i := 14) rfl)))
  obtain ⟨n, o, h1, h2, h3, _, L, rfl, ⟨rfl, N⟩, hq⟩ := rm0 l s _ hw tables_1 i0 i1 i2 i3 zc fm bf bt ca cl_ca s.heap s.heap.size (Nat.le_refl _) (Old.start s) S_CS hzc S_FM hfm S_bf E_bf F_bf S_bt E_bt F_bt S_ca Ar_ca le_ca H_ca p e ha hc hk s m _ below hf ((Spec.applies_iff_loose hf).mp happ).1 ⟨rfl, State.Warmed39.refl s, rfl⟩ trivial
  refine ⟨n, _, h1, h2, h3, hpost _ _ _ _ _ _ ⟨Cond.after_iff.mpr rfl, Cond.after_iff.mpr (eq_i res_at (Term.int_eval (1)) rfl), trivial⟩ ⟨hq.1, hq.2.1, (hq.2.2.sift fun y hy => Or.inr (N y hy)).mono (ok rfl) (ok rfl)⟩⟩
theorem main_1_1 : Claimed_1_1 := comes_1 fun _ _ _ _ _ _ h hF => ⟨h.1, hF⟩
theorem main_1_2 : Claimed_1_2 := comes_1 fun _ _ _ _ _ _ h hF => ⟨h.2.1, hF⟩
end Jvm.Pilot.@@N@@
namespace Jvm.Pilot.@@N@@
open Jvm Jvm.ClassFile Sem Op Lib Jvm.Free Jvm.Stand Jvm.Pilot.@@N@@.Jvm.D
/-! MADE BY PROGRAM (witnessworld.py) out of the Statement's table words and the real class files: 26 classes; the members and pool entries that the words name. The judged class is class 1, her method 1. -/
namespace start1
open Jvm.ClassFile
def u (s : String) : CpInfo := .utf8 (stringToUtf16 s)
/-- a pool by its gaps: so many unusable entries, then the entry; so many at the end -/
def gap : Nat → List CpInfo → List CpInfo
  | 0, r => r
  | n + 1, r => .unusable :: gap n r
def poolList (es : List (Nat × CpInfo)) (last : Nat) : List CpInfo := es.foldr (fun e r => gap e.1 (e.2 :: r)) (gap last [])
def pool (es : List (Nat × CpInfo)) (last : Nat) : Array CpInfo := ⟨poolList es last⟩
def fileOf (pool : Array CpInfo) (this : Nat) (attrs : Array Attribute := #[]) (ms : Array MethodInfo := #[]) (fl : Nat := 33) (sup : Nat := 0) (ifs : Array Nat := #[]) (fds : Array FieldInfo := #[]) : ClassFile where
  minorVersion := 0
  majorVersion := 65
  constantPool := pool
  accessFlags := fl
  thisClass := this
  superClass := sup
  interfaces := ifs
  fields := fds
  methods := ms
  attributes := attrs
def plain (name : String) (sup : Option ClassId) : Class where
  name := name
  kind := .ordinary
  loader := none
  accessFlags := 33
  super := sup
  interfaces := #[]
  cf := none
  fields := #[]
  methods := #[]
  instanceTypes := #[]
  staticTypes := #[]
  resolved := #[]
  callSites := []
  init := .initialized
  statics := none
  mirror := none

def pool0 : Array CpInfo := pool [(5, u "<init>"), (0, u "()V"), (1, .class_ 10), (1, u "java/lang/Object")] 113

def k0c0 : Code := { maxStack := 0, maxLocals := 1, code := object_method_1_code, exceptionTable := #[], attributes := #[] }
def k0m0 : Method := { name := "<init>", desc := "()V", sig := { parameters := [], returnType := none }, accessFlags := 1, code := some k0c0 }
/-- java/lang/Object -/
def k0 : Class := { plain "java/lang/Object" none with
  accessFlags := 33
  interfaces := #[]
  cf := some (fileOf pool0 8 #[] #[{ accessFlags := 1, nameIndex := 5, descriptorIndex := 6, attributes := #[] }] 33 0 #[] #[])
  fields := #[]
  methods := #[k0m0]
  instanceTypes := #[]
  staticTypes := #[]
  resolved := Array.replicate 124 none
  statics := none }

def pool1 : Array CpInfo := pool [(2, .class_ 4), (1, u "java/lang/Object"), (0, u "<init>"), (0, u "()V"), (0, .class_ 8), (0, u "java/lang/String"), (0, .methodref 7 10), (0, .nameAndType 5 11), (0, u "([C)V"), (0, .methodref 13 14), (0, .class_ 15), (0, .nameAndType 16 17), (0, u "org/attestry/status/StatusEntry"), (0, u "read"), (0, u "(Ljava/lang/String;JLjava/lang/String;Z)Lorg/attestry/status/StatusEntry;"), (0, .methodref 13 19), (0, .nameAndType 20 21), (0, u "purpose"), (0, u "()Ljava/lang/String;"), (0, .methodref 7 23), (0, .nameAndType 24 25), (0, u "equals"), (0, u "(Ljava/lang/Object;)Z"), (0, .methodref 13 27), (0, .nameAndType 28 29), (0, u "index"), (0, u "()Ljava/lang/Long;"), (0, .methodref 31 32), (0, .class_ 33), (0, .nameAndType 34 35), (0, u "java/lang/Long"), (0, u "longValue"), (0, u "()J"), (0, .methodref 13 37), (0, .nameAndType 38 21), (0, u "list"), (0, .methodref 13 40), (0, .nameAndType 41 42), (0, u "set"), (0, u "()Ljava/lang/Boolean;"), (0, .methodref 13 44), (0, .nameAndType 45 21), (0, u "error"), (0, .methodref 13 47), (0, .nameAndType 48 49), (0, u "isSetFor"), (0, u "(Ljava/lang/String;)Z"), (0, .class_ 51), (0, u "org/attestry/status/StatusEntryReadPinLaw"), (2, u "law"), (0, u "(IIJI)Z")] 5

def k1m0 : Method := { name := "<init>", desc := "()V", sig := { parameters := [], returnType := none }, accessFlags := 1, code := none }
def k1c1 : Code := { maxStack := 5, maxLocals := 12, code := code, exceptionTable := #[], attributes := #[] }
def k1m1 : Method := { name := "law", desc := "(IIJI)Z", sig := { parameters := [.int, .int, .long, .int], returnType := some .boolean }, accessFlags := 9, code := some k1c1 }
/-- org/attestry/status/StatusEntryReadPinLaw -/
def k1 : Class := { plain "org/attestry/status/StatusEntryReadPinLaw" (some 0) with
  accessFlags := 49
  interfaces := #[]
  cf := some (fileOf pool1 50 #[] #[{ accessFlags := 1, nameIndex := 5, descriptorIndex := 6, attributes := #[] }, { accessFlags := 9, nameIndex := 54, descriptorIndex := 55, attributes := #[] }] 49 2 #[] #[])
  fields := #[]
  methods := #[k1m0, k1m1]
  instanceTypes := #[]
  staticTypes := #[]
  resolved := Array.replicate 61 none
  statics := none }

def pool2 : Array CpInfo := pool [(1, .class_ 2), (0, u "java/io/Serializable"), (0, .class_ 4), (0, u "java/lang/Object")] 2

/-- java/io/Serializable -/
def k2 : Class := { plain "java/io/Serializable" (some 0) with
  accessFlags := 1537
  interfaces := #[]
  cf := some (fileOf pool2 1 #[] #[] 1537 3 #[] #[])
  fields := #[]
  methods := #[]
  instanceTypes := #[]
  staticTypes := #[]
  resolved := Array.replicate 7 none
  statics := none }

def pool3 : Array CpInfo := pool [(1, .class_ 2), (0, u "java/lang/Comparable"), (0, .class_ 4), (0, u "java/lang/Object")] 7

/-- java/lang/Comparable -/
def k3 : Class := { plain "java/lang/Comparable" (some 0) with
  accessFlags := 1537
  interfaces := #[]
  cf := some (fileOf pool3 1 #[] #[] 1537 3 #[] #[])
  fields := #[]
  methods := #[]
  instanceTypes := #[]
  staticTypes := #[]
  resolved := Array.replicate 12 none
  statics := none }

def pool4 : Array CpInfo := pool [(2, .class_ 4), (1, u "java/lang/CharSequence"), (42, .class_ 48), (0, u "java/lang/CharSequence$1CodePointIterator"), (10, .class_ 60), (0, u "java/lang/CharSequence$1CharIterator"), (5, .class_ 67), (0, u "java/lang/Object")] 63

/-- java/lang/CharSequence -/
def k4 : Class := { plain "java/lang/CharSequence" (some 0) with
  accessFlags := 1537
  interfaces := #[]
  cf := some (fileOf pool4 2 #[.nestMembers #[47, 59]] #[] 1537 66 #[] #[])
  fields := #[]
  methods := #[]
  instanceTypes := #[]
  staticTypes := #[]
  resolved := Array.replicate 131 none
  statics := none }

def pool5 : Array CpInfo := pool [(1, .class_ 2), (0, u "java/lang/constant/Constable"), (0, .class_ 4), (0, u "java/lang/Object")] 6

/-- java/lang/constant/Constable -/
def k5 : Class := { plain "java/lang/constant/Constable" (some 0) with
  accessFlags := 1537
  interfaces := #[]
  cf := some (fileOf pool5 1 #[] #[] 1537 3 #[] #[])
  fields := #[]
  methods := #[]
  instanceTypes := #[]
  staticTypes := #[]
  resolved := Array.replicate 11 none
  statics := none }

def pool6 : Array CpInfo := pool [(1, .class_ 2), (0, u "java/lang/constant/ConstantDesc"), (0, .class_ 4), (0, u "java/lang/Object")] 32

/-- java/lang/constant/ConstantDesc -/
def k6 : Class := { plain "java/lang/constant/ConstantDesc" (some 0) with
  accessFlags := 1537
  interfaces := #[]
  cf := some (fileOf pool6 1 #[] #[] 1537 3 #[] #[])
  fields := #[]
  methods := #[]
  instanceTypes := #[]
  staticTypes := #[]
  resolved := Array.replicate 37 none
  statics := none }

def pool7 : Array CpInfo := pool [(1, .methodref 2 3), (0, .class_ 4), (0, .nameAndType 5 6), (0, u "java/lang/Object"), (0, u "<init>"), (0, u "()V"), (2, .fieldref 10 11), (0, .class_ 12), (0, .nameAndType 13 14), (0, u "java/lang/String"), (0, u "value"), (0, u "[B"), (0, .fieldref 10 16), (0, .nameAndType 17 18), (0, u "coder"), (0, u "B"), (2, u "hash"), (0, u "I"), (2, u "hashIsZero"), (0, u "Z"), (0, .methodref 10 28), (0, .nameAndType 5 29), (0, u "([CIILjava/lang/Void;)V"), (8, .fieldref 10 39), (0, .nameAndType 40 26), (0, u "COMPACT_STRINGS"), (1, .class_ 44), (1, u "java/lang/StringUTF16"), (0, u "compress"), (1, .methodref 42 48), (0, .nameAndType 49 50), (0, u "coderFromArrayLen"), (0, u "([BI)B"), (126, .methodref 42 178), (0, .nameAndType 45 179), (0, u "([CII)[B"), (363, u "equals"), (29, u "(Ljava/lang/Object;)Z"), (1, .class_ 576), (0, u "java/lang/CharSequence"), (22, u "CASE_INSENSITIVE_ORDER"), (0, u "Ljava/util/Comparator;"), (409, u "([C)V"), (90, u "serialPersistentFields"), (0, u "[Ljava/io/ObjectStreamField;"), (0, .class_ 1104), (0, u "java/lang/String$CaseInsensitiveComparator"), (1, .class_ 1107), (0, u "java/io/Serializable"), (0, .class_ 1109), (0, u "java/lang/Comparable"), (0, .class_ 1111), (0, u "java/lang/constant/Constable"), (0, .class_ 1113), (0, u "java/lang/constant/ConstantDesc"), (2, u "serialVersionUID"), (0, u "J"), (3, u "REPL"), (0, u "C"), (2, u "LATIN1"), (1, u "UTF16")] 323

def k7m0 : Method := { name := "<init>", desc := "()V", sig := { parameters := [], returnType := none }, accessFlags := 1, code := none }
def k7c1 : Code := { maxStack := 5, maxLocals := 2, code := jdk_42_method_3_code, exceptionTable := #[], attributes := #[] }
def k7m1 : Method := { name := "<init>", desc := "([C)V", sig := { parameters := [(.array .char)], returnType := none }, accessFlags := 1, code := some k7c1 }
def k7c2 : Code := { maxStack := 2, maxLocals := 3, code := jdk_42_method_66_code, exceptionTable := #[], attributes := #[] }
def k7m2 : Method := { name := "equals", desc := "(Ljava/lang/Object;)Z", sig := { parameters := [(.object "java/lang/Object")], returnType := some .boolean }, accessFlags := 1, code := some k7c2 }
def k7c3 : Code := { maxStack := 4, maxLocals := 6, code := jdk_42_method_149_code, exceptionTable := #[], attributes := #[] }
def k7m3 : Method := { name := "<init>", desc := "([CIILjava/lang/Void;)V", sig := { parameters := [(.array .char), .int, .int, (.object "java/lang/Void")], returnType := none }, accessFlags := 2, code := some k7c3 }
/-- java/lang/String -/
def k7 : Class := { plain "java/lang/String" (some 0) with
  accessFlags := 49
  interfaces := #[2, 3, 4, 5, 6]
  cf := some (fileOf pool7 10 #[.nestMembers #[1103]] #[{ accessFlags := 1, nameIndex := 5, descriptorIndex := 6, attributes := #[] }, { accessFlags := 1, nameIndex := 5, descriptorIndex := 1010, attributes := #[] }, { accessFlags := 1, nameIndex := 543, descriptorIndex := 573, attributes := #[] }, { accessFlags := 2, nameIndex := 5, descriptorIndex := 29, attributes := #[] }] 49 2 #[1106, 1108, 575, 1110, 1112] #[{ accessFlags := 18, nameIndex := 13, descriptorIndex := 14, attributes := #[] }, { accessFlags := 18, nameIndex := 17, descriptorIndex := 18, attributes := #[] }, { accessFlags := 2, nameIndex := 21, descriptorIndex := 22, attributes := #[] }, { accessFlags := 2, nameIndex := 25, descriptorIndex := 26, attributes := #[] }, { accessFlags := 26, nameIndex := 1116, descriptorIndex := 1117, attributes := #[] }, { accessFlags := 24, nameIndex := 40, descriptorIndex := 26, attributes := #[] }, { accessFlags := 26, nameIndex := 1101, descriptorIndex := 1102, attributes := #[] }, { accessFlags := 26, nameIndex := 1121, descriptorIndex := 1122, attributes := #[] }, { accessFlags := 25, nameIndex := 599, descriptorIndex := 600, attributes := #[] }, { accessFlags := 24, nameIndex := 1125, descriptorIndex := 18, attributes := #[] }, { accessFlags := 24, nameIndex := 1127, descriptorIndex := 18, attributes := #[] }])
  fields := #[{ name := "value", type := (.array .byte), accessFlags := 18, slot := 0, constantValue := 0 }, { name := "coder", type := .byte, accessFlags := 18, slot := 1, constantValue := 0 }, { name := "hash", type := .int, accessFlags := 2, slot := 2, constantValue := 0 }, { name := "hashIsZero", type := .boolean, accessFlags := 2, slot := 3, constantValue := 0 }, { name := "serialVersionUID", type := .long, accessFlags := 26, slot := 0, constantValue := 0 }, { name := "COMPACT_STRINGS", type := .boolean, accessFlags := 24, slot := 1, constantValue := 0 }, { name := "serialPersistentFields", type := (.array (.object "java/io/ObjectStreamField")), accessFlags := 26, slot := 2, constantValue := 0 }, { name := "REPL", type := .char, accessFlags := 26, slot := 3, constantValue := 0 }, { name := "CASE_INSENSITIVE_ORDER", type := (.object "java/util/Comparator"), accessFlags := 25, slot := 4, constantValue := 0 }, { name := "LATIN1", type := .byte, accessFlags := 24, slot := 5, constantValue := 0 }, { name := "UTF16", type := .byte, accessFlags := 24, slot := 6, constantValue := 0 }]
  methods := #[k7m0, k7m1, k7m2, k7m3]
  instanceTypes := #[(.array .byte), .byte, .int, .boolean]
  staticTypes := #[.long, .boolean, (.array (.object "java/io/ObjectStreamField")), .char, (.object "java/util/Comparator"), .byte, .byte]
  resolved := Array.replicate 1451 none
  statics := some 0 }

def pool8 : Array CpInfo := pool [(6, .class_ 8), (1, u "java/lang/Object"), (0, u "<init>"), (0, u "()V"), (1, .class_ 14), (1, u "java/lang/StringUTF16"), (31, u "$assertionsDisabled"), (0, u "Z"), (13, u "HI_BYTE_SHIFT"), (0, u "I"), (2, u "LO_BYTE_SHIFT"), (49, .methodref 12 116), (0, .nameAndType 117 118), (0, u "compress"), (0, u "([CI[BII)I"), (3, u "([CII)[B"), (138, u "coderFromArrayLen"), (0, u "([BI)B"), (106, .class_ 371), (1, u "java/lang/StringUTF16$LinesSpliterator"), (58, u "MAX_LENGTH"), (196, .class_ 628), (0, u "java/lang/StringUTF16$CodePointsSpliterator"), (0, .class_ 630), (0, u "java/lang/StringUTF16$CharsSpliterator")] 4

def k8m0 : Method := { name := "<init>", desc := "()V", sig := { parameters := [], returnType := none }, accessFlags := 0, code := none }
def k8c1 : Code := { maxStack := 2, maxLocals := 2, code := jdk_52_method_15_code, exceptionTable := #[], attributes := #[] }
def k8m1 : Method := { name := "coderFromArrayLen", desc := "([BI)B", sig := { parameters := [(.array .byte), .int], returnType := some .byte }, accessFlags := 8, code := some k8c1 }
def k8c2 : Code := { maxStack := 5, maxLocals := 6, code := jdk_52_method_16_code, exceptionTable := #[], attributes := #[] }
def k8m2 : Method := { name := "compress", desc := "([CII)[B", sig := { parameters := [(.array .char), .int, .int], returnType := some (.array .byte) }, accessFlags := 9, code := some k8c2 }
def k8c3 : Code := { maxStack := 3, maxLocals := 7, code := jdk_52_method_21_code, exceptionTable := #[], attributes := #[] }
def k8m3 : Method := { name := "compress", desc := "([CI[BII)I", sig := { parameters := [(.array .char), .int, (.array .byte), .int, .int], returnType := some .int }, accessFlags := 9, code := some k8c3 }
/-- java/lang/StringUTF16 -/
def k8 : Class := { plain "java/lang/StringUTF16" (some 0) with
  accessFlags := 48
  interfaces := #[]
  cf := some (fileOf pool8 12 #[.nestMembers #[627, 629, 369]] #[{ accessFlags := 0, nameIndex := 9, descriptorIndex := 10, attributes := #[] }, { accessFlags := 8, nameIndex := 261, descriptorIndex := 262, attributes := #[] }, { accessFlags := 9, nameIndex := 117, descriptorIndex := 122, attributes := #[] }, { accessFlags := 9, nameIndex := 117, descriptorIndex := 118, attributes := #[] }] 48 6 #[] #[{ accessFlags := 26, nameIndex := 61, descriptorIndex := 62, attributes := #[] }, { accessFlags := 26, nameIndex := 65, descriptorIndex := 62, attributes := #[] }, { accessFlags := 24, nameIndex := 430, descriptorIndex := 62, attributes := #[] }, { accessFlags := 4120, nameIndex := 46, descriptorIndex := 47, attributes := #[] }])
  fields := #[{ name := "HI_BYTE_SHIFT", type := .int, accessFlags := 26, slot := 0, constantValue := 0 }, { name := "LO_BYTE_SHIFT", type := .int, accessFlags := 26, slot := 1, constantValue := 0 }, { name := "MAX_LENGTH", type := .int, accessFlags := 24, slot := 2, constantValue := 0 }, { name := "$assertionsDisabled", type := .boolean, accessFlags := 4120, slot := 3, constantValue := 0 }]
  methods := #[k8m0, k8m1, k8m2, k8m3]
  instanceTypes := #[]
  staticTypes := #[.int, .int, .int, .boolean]
  resolved := Array.replicate 635 none
  statics := none }

def pool9 : Array CpInfo := pool [(1, .methodref 2 3), (0, .class_ 4), (0, .nameAndType 5 6), (0, u "java/lang/Object"), (0, u "<init>"), (0, u "()V"), (0, .class_ 8), (0, u "java/lang/Record")] 13

def k9c0 : Code := { maxStack := 1, maxLocals := 1, code := jdk_30_method_1_code, exceptionTable := #[], attributes := #[] }
def k9m0 : Method := { name := "<init>", desc := "()V", sig := { parameters := [], returnType := none }, accessFlags := 4, code := some k9c0 }
/-- java/lang/Record -/
def k9 : Class := { plain "java/lang/Record" (some 0) with
  accessFlags := 1057
  interfaces := #[]
  cf := some (fileOf pool9 7 #[] #[{ accessFlags := 4, nameIndex := 5, descriptorIndex := 6, attributes := #[] }] 1057 2 #[] #[])
  fields := #[]
  methods := #[k9m0]
  instanceTypes := #[]
  staticTypes := #[]
  resolved := Array.replicate 22 none
  statics := none }

def pool10 : Array CpInfo := pool [(1, .methodref 2 3), (0, .class_ 4), (0, .nameAndType 5 6), (0, u "java/lang/Record"), (0, u "<init>"), (0, u "()V"), (0, .fieldref 8 9), (0, .class_ 10), (0, .nameAndType 11 12), (0, u "org/attestry/status/StatusEntry"), (0, u "purpose"), (0, u "Ljava/lang/String;"), (0, .fieldref 8 14), (0, .nameAndType 15 16), (0, u "index"), (0, u "Ljava/lang/Long;"), (0, .fieldref 8 18), (0, .nameAndType 19 12), (0, u "list"), (0, .fieldref 8 21), (0, .nameAndType 22 23), (0, u "set"), (0, u "Ljava/lang/Boolean;"), (0, .fieldref 8 25), (0, .nameAndType 26 12), (0, u "error"), (0, .methodref 28 29), (0, .class_ 30), (0, .nameAndType 31 32), (0, u "java/lang/Long"), (0, u "valueOf"), (0, u "(J)Ljava/lang/Long;"), (0, .methodref 34 35), (0, .class_ 36), (0, .nameAndType 31 37), (0, u "java/lang/Boolean"), (0, u "(Z)Ljava/lang/Boolean;"), (0, .methodref 8 39), (0, .nameAndType 5 40), (0, u "(Ljava/lang/String;Ljava/lang/Long;Ljava/lang/String;Ljava/lang/Boolean;Ljava/lang/String;)V"), (0, .fieldref 34 42), (0, .nameAndType 43 23), (0, u "TRUE"), (0, .methodref 34 45), (0, .nameAndType 46 47), (0, u "equals"), (0, u "(Ljava/lang/Object;)Z"), (0, .methodref 49 45), (0, .class_ 50), (0, u "java/lang/String"), (14, u "read"), (0, u "(Ljava/lang/String;JLjava/lang/String;Z)Lorg/attestry/status/StatusEntry;"), (2, u "isSetFor"), (0, u "(Ljava/lang/String;)Z"), (1, u "()Ljava/lang/String;"), (1, u "()Ljava/lang/Long;"), (0, u "()Ljava/lang/Boolean;")] 24

def k10c0 : Code := { maxStack := 2, maxLocals := 6, code := prog_30_method_1_code, exceptionTable := #[], attributes := #[] }
def k10m0 : Method := { name := "<init>", desc := "(Ljava/lang/String;Ljava/lang/Long;Ljava/lang/String;Ljava/lang/Boolean;Ljava/lang/String;)V", sig := { parameters := [(.object "java/lang/String"), (.object "java/lang/Long"), (.object "java/lang/String"), (.object "java/lang/Boolean"), (.object "java/lang/String")], returnType := none }, accessFlags := 1, code := some k10c0 }
def k10c1 : Code := { maxStack := 7, maxLocals := 5, code := prog_30_method_2_code, exceptionTable := #[], attributes := #[] }
def k10m1 : Method := { name := "read", desc := "(Ljava/lang/String;JLjava/lang/String;Z)Lorg/attestry/status/StatusEntry;", sig := { parameters := [(.object "java/lang/String"), .long, (.object "java/lang/String"), .boolean], returnType := some (.object "org/attestry/status/StatusEntry") }, accessFlags := 8, code := some k10c1 }
def k10c2 : Code := { maxStack := 2, maxLocals := 2, code := prog_30_method_4_code, exceptionTable := #[], attributes := #[] }
def k10m2 : Method := { name := "isSetFor", desc := "(Ljava/lang/String;)Z", sig := { parameters := [(.object "java/lang/String")], returnType := some .boolean }, accessFlags := 1, code := some k10c2 }
def k10c3 : Code := { maxStack := 1, maxLocals := 1, code := prog_30_method_8_code, exceptionTable := #[], attributes := #[] }
def k10m3 : Method := { name := "purpose", desc := "()Ljava/lang/String;", sig := { parameters := [], returnType := some (.object "java/lang/String") }, accessFlags := 1, code := some k10c3 }
def k10c4 : Code := { maxStack := 1, maxLocals := 1, code := prog_30_method_9_code, exceptionTable := #[], attributes := #[] }
def k10m4 : Method := { name := "index", desc := "()Ljava/lang/Long;", sig := { parameters := [], returnType := some (.object "java/lang/Long") }, accessFlags := 1, code := some k10c4 }
def k10c5 : Code := { maxStack := 1, maxLocals := 1, code := prog_30_method_10_code, exceptionTable := #[], attributes := #[] }
def k10m5 : Method := { name := "list", desc := "()Ljava/lang/String;", sig := { parameters := [], returnType := some (.object "java/lang/String") }, accessFlags := 1, code := some k10c5 }
def k10c6 : Code := { maxStack := 1, maxLocals := 1, code := prog_30_method_11_code, exceptionTable := #[], attributes := #[] }
def k10m6 : Method := { name := "set", desc := "()Ljava/lang/Boolean;", sig := { parameters := [], returnType := some (.object "java/lang/Boolean") }, accessFlags := 1, code := some k10c6 }
def k10c7 : Code := { maxStack := 1, maxLocals := 1, code := prog_30_method_12_code, exceptionTable := #[], attributes := #[] }
def k10m7 : Method := { name := "error", desc := "()Ljava/lang/String;", sig := { parameters := [], returnType := some (.object "java/lang/String") }, accessFlags := 1, code := some k10c7 }
/-- org/attestry/status/StatusEntry -/
def k10 : Class := { plain "org/attestry/status/StatusEntry" (some 9) with
  accessFlags := 49
  interfaces := #[]
  cf := some (fileOf pool10 8 #[] #[{ accessFlags := 1, nameIndex := 5, descriptorIndex := 40, attributes := #[] }, { accessFlags := 8, nameIndex := 65, descriptorIndex := 66, attributes := #[] }, { accessFlags := 1, nameIndex := 69, descriptorIndex := 70, attributes := #[] }, { accessFlags := 1, nameIndex := 11, descriptorIndex := 72, attributes := #[] }, { accessFlags := 1, nameIndex := 15, descriptorIndex := 74, attributes := #[] }, { accessFlags := 1, nameIndex := 19, descriptorIndex := 72, attributes := #[] }, { accessFlags := 1, nameIndex := 22, descriptorIndex := 75, attributes := #[] }, { accessFlags := 1, nameIndex := 26, descriptorIndex := 72, attributes := #[] }] 49 2 #[] #[{ accessFlags := 18, nameIndex := 11, descriptorIndex := 12, attributes := #[] }, { accessFlags := 18, nameIndex := 15, descriptorIndex := 16, attributes := #[] }, { accessFlags := 18, nameIndex := 19, descriptorIndex := 12, attributes := #[] }, { accessFlags := 18, nameIndex := 22, descriptorIndex := 23, attributes := #[] }, { accessFlags := 18, nameIndex := 26, descriptorIndex := 12, attributes := #[] }])
  fields := #[{ name := "purpose", type := (.object "java/lang/String"), accessFlags := 18, slot := 0, constantValue := 0 }, { name := "index", type := (.object "java/lang/Long"), accessFlags := 18, slot := 1, constantValue := 0 }, { name := "list", type := (.object "java/lang/String"), accessFlags := 18, slot := 2, constantValue := 0 }, { name := "set", type := (.object "java/lang/Boolean"), accessFlags := 18, slot := 3, constantValue := 0 }, { name := "error", type := (.object "java/lang/String"), accessFlags := 18, slot := 4, constantValue := 0 }]
  methods := #[k10m0, k10m1, k10m2, k10m3, k10m4, k10m5, k10m6, k10m7]
  instanceTypes := #[(.object "java/lang/String"), (.object "java/lang/Long"), (.object "java/lang/String"), (.object "java/lang/Boolean"), (.object "java/lang/String")]
  staticTypes := #[]
  resolved := Array.replicate 100 none
  statics := none }

def pool11 : Array CpInfo := pool [(1, .methodref 2 3), (0, .class_ 4), (0, .nameAndType 5 6), (0, u "java/lang/Object"), (0, u "<init>"), (0, u "()V"), (1, .class_ 10), (1, u "java/lang/Number"), (2, .class_ 14), (0, u "java/io/Serializable"), (0, u "serialVersionUID"), (0, u "J")] 20

def k11c0 : Code := { maxStack := 1, maxLocals := 1, code := jdk_18_method_1_code, exceptionTable := #[], attributes := #[] }
def k11m0 : Method := { name := "<init>", desc := "()V", sig := { parameters := [], returnType := none }, accessFlags := 1, code := some k11c0 }
/-- java/lang/Number -/
def k11 : Class := { plain "java/lang/Number" (some 0) with
  accessFlags := 1057
  interfaces := #[2]
  cf := some (fileOf pool11 8 #[] #[{ accessFlags := 1, nameIndex := 5, descriptorIndex := 6, attributes := #[] }] 1057 2 #[13] #[{ accessFlags := 26, nameIndex := 15, descriptorIndex := 16, attributes := #[] }])
  fields := #[{ name := "serialVersionUID", type := .long, accessFlags := 26, slot := 0, constantValue := 0 }]
  methods := #[k11m0]
  instanceTypes := #[]
  staticTypes := #[.long]
  resolved := Array.replicate 37 none
  statics := none }

def pool12 : Array CpInfo := pool [(1, .class_ 2), (0, u "java/lang/Long"), (55, .nameAndType 59 60), (0, u "<init>"), (0, u "()V"), (24, u "valueOf"), (143, u "(J)Ljava/lang/Long;"), (0, .long 18446744073709551488), (1, .long 127), (1, .fieldref 235 236), (0, .class_ 237), (0, .nameAndType 238 239), (0, u "java/lang/Long$LongCache"), (0, u "cache"), (0, u "[Ljava/lang/Long;"), (0, .methodref 1 241), (0, .nameAndType 59 242), (0, u "(J)V"), (27, .methodref 271 58), (0, .class_ 272), (0, u "java/lang/Number"), (0, .fieldref 1 274), (0, .nameAndType 275 276), (0, u "value"), (0, u "J"), (5, u "longValue"), (0, u "()J"), (77, u "TYPE"), (0, u "Ljava/lang/Class;"), (0, .class_ 364), (0, u "java/lang/Comparable"), (0, .class_ 366), (0, u "java/lang/constant/Constable"), (0, .class_ 368), (0, u "java/lang/constant/ConstantDesc"), (0, u "MIN_VALUE"), (1, u "MAX_VALUE"), (4, u "SIZE"), (0, u "I"), (1, u "BYTES"), (1, u "serialVersionUID")] 142

def k12c0 : Code := { maxStack := 4, maxLocals := 3, code := jdk_35_method_24_code, exceptionTable := #[], attributes := #[] }
def k12m0 : Method := { name := "valueOf", desc := "(J)Ljava/lang/Long;", sig := { parameters := [.long], returnType := some (.object "java/lang/Long") }, accessFlags := 9, code := some k12c0 }
def k12c1 : Code := { maxStack := 3, maxLocals := 3, code := jdk_35_method_26_code, exceptionTable := #[], attributes := #[] }
def k12m1 : Method := { name := "<init>", desc := "(J)V", sig := { parameters := [.long], returnType := none }, accessFlags := 1, code := some k12c1 }
def k12c2 : Code := { maxStack := 2, maxLocals := 1, code := jdk_35_method_31_code, exceptionTable := #[], attributes := #[] }
def k12m2 : Method := { name := "longValue", desc := "()J", sig := { parameters := [], returnType := some .long }, accessFlags := 1, code := some k12c2 }
/-- java/lang/Long -/
def k12 : Class := { plain "java/lang/Long" (some 11) with
  accessFlags := 49
  interfaces := #[3, 5, 6]
  cf := some (fileOf pool12 1 #[.nestMembers #[235]] #[{ accessFlags := 9, nameIndex := 85, descriptorIndex := 229, attributes := #[] }, { accessFlags := 1, nameIndex := 59, descriptorIndex := 242, attributes := #[] }, { accessFlags := 1, nameIndex := 282, descriptorIndex := 283, attributes := #[] }] 49 271 #[363, 365, 367] #[{ accessFlags := 25, nameIndex := 369, descriptorIndex := 276, attributes := #[] }, { accessFlags := 25, nameIndex := 371, descriptorIndex := 276, attributes := #[] }, { accessFlags := 25, nameIndex := 361, descriptorIndex := 362, attributes := #[] }, { accessFlags := 18, nameIndex := 275, descriptorIndex := 276, attributes := #[] }, { accessFlags := 25, nameIndex := 376, descriptorIndex := 377, attributes := #[] }, { accessFlags := 25, nameIndex := 379, descriptorIndex := 377, attributes := #[] }, { accessFlags := 26, nameIndex := 381, descriptorIndex := 276, attributes := #[] }])
  fields := #[{ name := "MIN_VALUE", type := .long, accessFlags := 25, slot := 0, constantValue := 0 }, { name := "MAX_VALUE", type := .long, accessFlags := 25, slot := 1, constantValue := 0 }, { name := "TYPE", type := (.object "java/lang/Class"), accessFlags := 25, slot := 2, constantValue := 0 }, { name := "value", type := .long, accessFlags := 18, slot := 0, constantValue := 0 }, { name := "SIZE", type := .int, accessFlags := 25, slot := 3, constantValue := 0 }, { name := "BYTES", type := .int, accessFlags := 25, slot := 4, constantValue := 0 }, { name := "serialVersionUID", type := .long, accessFlags := 26, slot := 5, constantValue := 0 }]
  methods := #[k12m0, k12m1, k12m2]
  instanceTypes := #[.long]
  staticTypes := #[.long, .long, (.object "java/lang/Class"), .int, .int, .long]
  resolved := Array.replicate 524 none
  statics := none }

def pool13 : Array CpInfo := pool [(2, .class_ 4), (1, u "java/lang/Object"), (0, u "<init>"), (0, u "()V"), (0, .class_ 8), (0, u "java/lang/Long"), (7, .class_ 18), (1, u "java/lang/Long$LongCache"), (0, u "$assertionsDisabled"), (0, u "Z"), (8, u "archivedCache"), (0, u "[Ljava/lang/Long;"), (7, u "cache")] 24

def k13m0 : Method := { name := "<init>", desc := "()V", sig := { parameters := [], returnType := none }, accessFlags := 2, code := none }
/-- java/lang/Long$LongCache -/
def k13 : Class := { plain "java/lang/Long$LongCache" (some 0) with
  accessFlags := 48
  interfaces := #[]
  cf := some (fileOf pool13 16 #[.nestHost 7] #[{ accessFlags := 2, nameIndex := 5, descriptorIndex := 6, attributes := #[] }] 48 2 #[] #[{ accessFlags := 24, nameIndex := 38, descriptorIndex := 30, attributes := #[] }, { accessFlags := 8, nameIndex := 29, descriptorIndex := 30, attributes := #[] }, { accessFlags := 4120, nameIndex := 19, descriptorIndex := 20, attributes := #[] }])
  fields := #[{ name := "cache", type := (.array (.object "java/lang/Long")), accessFlags := 24, slot := 0, constantValue := 0 }, { name := "archivedCache", type := (.array (.object "java/lang/Long")), accessFlags := 8, slot := 1, constantValue := 0 }, { name := "$assertionsDisabled", type := .boolean, accessFlags := 4120, slot := 2, constantValue := 0 }]
  methods := #[k13m0]
  instanceTypes := #[]
  staticTypes := #[(.array (.object "java/lang/Long")), (.array (.object "java/lang/Long")), .boolean]
  resolved := Array.replicate 63 none
  statics := some 1 }

def pool14 : Array CpInfo := pool [(2, .class_ 4), (1, u "java/lang/Object"), (2, .fieldref 8 9), (0, .class_ 10), (0, .nameAndType 11 12), (0, u "java/lang/Boolean"), (0, u "value"), (0, u "Z"), (14, .fieldref 8 28), (0, .nameAndType 29 30), (0, u "TRUE"), (0, u "Ljava/lang/Boolean;"), (0, .fieldref 8 32), (0, .nameAndType 33 30), (0, u "FALSE"), (2, u "valueOf"), (5, .methodref 8 43), (0, .nameAndType 44 45), (0, u "booleanValue"), (0, u "()Z"), (41, u "TYPE"), (0, u "Ljava/lang/Class;"), (0, .class_ 90), (0, u "java/io/Serializable"), (0, .class_ 92), (0, u "java/lang/Comparable"), (0, .class_ 94), (0, u "java/lang/constant/Constable"), (2, u "serialVersionUID"), (0, u "J"), (18, u "(Z)Ljava/lang/Boolean;"), (6, u "equals"), (0, u "(Ljava/lang/Object;)Z")] 26

def k14c0 : Code := { maxStack := 1, maxLocals := 1, code := jdk_2055_method_4_code, exceptionTable := #[], attributes := #[] }
def k14m0 : Method := { name := "booleanValue", desc := "()Z", sig := { parameters := [], returnType := some .boolean }, accessFlags := 1, code := some k14c0 }
def k14c1 : Code := { maxStack := 1, maxLocals := 1, code := jdk_2055_method_5_code, exceptionTable := #[], attributes := #[] }
def k14m1 : Method := { name := "valueOf", desc := "(Z)Ljava/lang/Boolean;", sig := { parameters := [.boolean], returnType := some (.object "java/lang/Boolean") }, accessFlags := 9, code := some k14c1 }
def k14c2 : Code := { maxStack := 2, maxLocals := 2, code := jdk_2055_method_11_code, exceptionTable := #[], attributes := #[] }
def k14m2 : Method := { name := "equals", desc := "(Ljava/lang/Object;)Z", sig := { parameters := [(.object "java/lang/Object")], returnType := some .boolean }, accessFlags := 1, code := some k14c2 }
/-- java/lang/Boolean -/
def k14 : Class := { plain "java/lang/Boolean" (some 0) with
  accessFlags := 49
  interfaces := #[2, 3, 5]
  cf := some (fileOf pool14 8 #[] #[{ accessFlags := 1, nameIndex := 44, descriptorIndex := 45, attributes := #[] }, { accessFlags := 9, nameIndex := 36, descriptorIndex := 117, attributes := #[] }, { accessFlags := 1, nameIndex := 124, descriptorIndex := 125, attributes := #[] }] 49 2 #[89, 91, 93] #[{ accessFlags := 25, nameIndex := 29, descriptorIndex := 30, attributes := #[] }, { accessFlags := 25, nameIndex := 33, descriptorIndex := 30, attributes := #[] }, { accessFlags := 25, nameIndex := 87, descriptorIndex := 88, attributes := #[] }, { accessFlags := 18, nameIndex := 11, descriptorIndex := 12, attributes := #[] }, { accessFlags := 26, nameIndex := 97, descriptorIndex := 98, attributes := #[] }])
  fields := #[{ name := "TRUE", type := (.object "java/lang/Boolean"), accessFlags := 25, slot := 0, constantValue := 0 }, { name := "FALSE", type := (.object "java/lang/Boolean"), accessFlags := 25, slot := 1, constantValue := 0 }, { name := "TYPE", type := (.object "java/lang/Class"), accessFlags := 25, slot := 2, constantValue := 0 }, { name := "value", type := .boolean, accessFlags := 18, slot := 0, constantValue := 0 }, { name := "serialVersionUID", type := .long, accessFlags := 26, slot := 3, constantValue := 0 }]
  methods := #[k14m0, k14m1, k14m2]
  instanceTypes := #[.boolean]
  staticTypes := #[(.object "java/lang/Boolean"), (.object "java/lang/Boolean"), (.object "java/lang/Class"), .long]
  resolved := Array.replicate 152 none
  statics := some 2 }

def pool15 : Array CpInfo := pool [(4, .class_ 6), (1, u "java/lang/Object"), (0, u "<init>"), (0, u "()V"), (5, .class_ 16), (1, u "java/lang/StringLatin1"), (104, u "$assertionsDisabled"), (0, u "Z"), (98, .class_ 223), (1, u "java/lang/StringLatin1$LinesSpliterator"), (166, .class_ 391), (0, u "java/lang/StringLatin1$CharsSpliterator")] 3

def k15m0 : Method := { name := "<init>", desc := "()V", sig := { parameters := [], returnType := none }, accessFlags := 0, code := none }
/-- java/lang/StringLatin1 -/
def k15 : Class := { plain "java/lang/StringLatin1" (some 0) with
  accessFlags := 48
  interfaces := #[]
  cf := some (fileOf pool15 14 #[.nestMembers #[390, 221]] #[{ accessFlags := 0, nameIndex := 7, descriptorIndex := 8, attributes := #[] }] 48 4 #[] #[{ accessFlags := 4120, nameIndex := 121, descriptorIndex := 122, attributes := #[] }])
  fields := #[{ name := "$assertionsDisabled", type := .boolean, accessFlags := 4120, slot := 0, constantValue := 0 }]
  methods := #[k15m0]
  instanceTypes := #[]
  staticTypes := #[.boolean]
  resolved := Array.replicate 395 none
  statics := none }

def pool16 : Array CpInfo := pool [(2, .class_ 4), (1, u "java/lang/Object"), (0, u "<init>"), (0, u "()V"), (17, .class_ 26), (1, u "jdk/internal/util/Preconditions"), (28, .class_ 56), (0, u "jdk/internal/util/Preconditions$4"), (57, .class_ 115), (0, u "jdk/internal/util/Preconditions$1"), (7, u "SIOOBE_FORMATTER"), (0, u "Ljava/util/function/BiFunction;"), (0, .class_ 126), (0, u "jdk/internal/util/Preconditions$2"), (3, u "AIOOBE_FORMATTER"), (0, .class_ 132), (0, u "jdk/internal/util/Preconditions$3"), (3, u "IOOBE_FORMATTER")] 57

def k16m0 : Method := { name := "<init>", desc := "()V", sig := { parameters := [], returnType := none }, accessFlags := 1, code := none }
/-- jdk/internal/util/Preconditions -/
def k16 : Class := { plain "jdk/internal/util/Preconditions" (some 0) with
  accessFlags := 33
  interfaces := #[]
  cf := some (fileOf pool16 24 #[.nestMembers #[55, 131, 125, 114]] #[{ accessFlags := 1, nameIndex := 5, descriptorIndex := 6, attributes := #[] }] 33 2 #[] #[{ accessFlags := 25, nameIndex := 123, descriptorIndex := 124, attributes := #[] }, { accessFlags := 25, nameIndex := 130, descriptorIndex := 124, attributes := #[] }, { accessFlags := 25, nameIndex := 136, descriptorIndex := 124, attributes := #[] }])
  fields := #[{ name := "SIOOBE_FORMATTER", type := (.object "java/util/function/BiFunction"), accessFlags := 25, slot := 0, constantValue := 0 }, { name := "AIOOBE_FORMATTER", type := (.object "java/util/function/BiFunction"), accessFlags := 25, slot := 1, constantValue := 0 }, { name := "IOOBE_FORMATTER", type := (.object "java/util/function/BiFunction"), accessFlags := 25, slot := 2, constantValue := 0 }]
  methods := #[k16m0]
  instanceTypes := #[]
  staticTypes := #[(.object "java/util/function/BiFunction"), (.object "java/util/function/BiFunction"), (.object "java/util/function/BiFunction")]
  resolved := Array.replicate 194 none
  statics := some 3 }

def pool17 : Array CpInfo := pool [(9, u "<init>"), (6, .class_ 18), (1, u "java/lang/Object"), (0, u "()V"), (1, .class_ 23), (1, u "jdk/internal/util/ArraysSupport"), (0, u "LOG2_ARRAY_LONG_INDEX_SCALE"), (0, u "I"), (2, u "U"), (0, u "Ljdk/internal/misc/Unsafe;"), (8, u "BIG_ENDIAN"), (0, u "Z"), (8, u "LOG2_BYTE_BIT_SIZE"), (4, u "LOG2_ARRAY_INT_INDEX_SCALE"), (54, u "JLA"), (0, u "Ljdk/internal/access/JavaLangAccess;"), (11, u "LOG2_ARRAY_BOOLEAN_INDEX_SCALE"), (9, u "LOG2_ARRAY_BYTE_INDEX_SCALE"), (5, u "LOG2_ARRAY_CHAR_INDEX_SCALE"), (5, u "LOG2_ARRAY_SHORT_INDEX_SCALE"), (18, u "LOG2_ARRAY_FLOAT_INDEX_SCALE"), (24, u "LOG2_ARRAY_DOUBLE_INDEX_SCALE"), (89, u "T_BOOLEAN"), (2, u "T_CHAR"), (1, u "T_FLOAT"), (1, u "T_DOUBLE"), (1, u "T_BYTE"), (1, u "T_SHORT"), (1, u "T_INT"), (1, u "T_LONG"), (1, u "SOFT_MAX_ARRAY_LENGTH")] 83

def k17m0 : Method := { name := "<init>", desc := "()V", sig := { parameters := [], returnType := none }, accessFlags := 2, code := none }
/-- jdk/internal/util/ArraysSupport -/
def k17 : Class := { plain "jdk/internal/util/ArraysSupport" (some 0) with
  accessFlags := 33
  interfaces := #[]
  cf := some (fileOf pool17 21 #[] #[{ accessFlags := 2, nameIndex := 9, descriptorIndex := 19, attributes := #[] }] 33 16 #[] #[{ accessFlags := 24, nameIndex := 28, descriptorIndex := 29, attributes := #[] }, { accessFlags := 26, nameIndex := 38, descriptorIndex := 39, attributes := #[] }, { accessFlags := 25, nameIndex := 121, descriptorIndex := 25, attributes := #[] }, { accessFlags := 25, nameIndex := 131, descriptorIndex := 25, attributes := #[] }, { accessFlags := 25, nameIndex := 137, descriptorIndex := 25, attributes := #[] }, { accessFlags := 25, nameIndex := 143, descriptorIndex := 25, attributes := #[] }, { accessFlags := 25, nameIndex := 53, descriptorIndex := 25, attributes := #[] }, { accessFlags := 25, nameIndex := 24, descriptorIndex := 25, attributes := #[] }, { accessFlags := 25, nameIndex := 162, descriptorIndex := 25, attributes := #[] }, { accessFlags := 25, nameIndex := 187, descriptorIndex := 25, attributes := #[] }, { accessFlags := 26, nameIndex := 48, descriptorIndex := 25, attributes := #[] }, { accessFlags := 25, nameIndex := 277, descriptorIndex := 25, attributes := #[] }, { accessFlags := 25, nameIndex := 280, descriptorIndex := 25, attributes := #[] }, { accessFlags := 25, nameIndex := 282, descriptorIndex := 25, attributes := #[] }, { accessFlags := 25, nameIndex := 284, descriptorIndex := 25, attributes := #[] }, { accessFlags := 25, nameIndex := 286, descriptorIndex := 25, attributes := #[] }, { accessFlags := 25, nameIndex := 288, descriptorIndex := 25, attributes := #[] }, { accessFlags := 25, nameIndex := 290, descriptorIndex := 25, attributes := #[] }, { accessFlags := 25, nameIndex := 292, descriptorIndex := 25, attributes := #[] }, { accessFlags := 26, nameIndex := 108, descriptorIndex := 109, attributes := #[] }, { accessFlags := 25, nameIndex := 294, descriptorIndex := 25, attributes := #[] }])
  fields := #[{ name := "U", type := (.object "jdk/internal/misc/Unsafe"), accessFlags := 24, slot := 0, constantValue := 0 }, { name := "BIG_ENDIAN", type := .boolean, accessFlags := 26, slot := 1, constantValue := 0 }, { name := "LOG2_ARRAY_BOOLEAN_INDEX_SCALE", type := .int, accessFlags := 25, slot := 2, constantValue := 0 }, { name := "LOG2_ARRAY_BYTE_INDEX_SCALE", type := .int, accessFlags := 25, slot := 3, constantValue := 0 }, { name := "LOG2_ARRAY_CHAR_INDEX_SCALE", type := .int, accessFlags := 25, slot := 4, constantValue := 0 }, { name := "LOG2_ARRAY_SHORT_INDEX_SCALE", type := .int, accessFlags := 25, slot := 5, constantValue := 0 }, { name := "LOG2_ARRAY_INT_INDEX_SCALE", type := .int, accessFlags := 25, slot := 6, constantValue := 0 }, { name := "LOG2_ARRAY_LONG_INDEX_SCALE", type := .int, accessFlags := 25, slot := 7, constantValue := 0 }, { name := "LOG2_ARRAY_FLOAT_INDEX_SCALE", type := .int, accessFlags := 25, slot := 8, constantValue := 0 }, { name := "LOG2_ARRAY_DOUBLE_INDEX_SCALE", type := .int, accessFlags := 25, slot := 9, constantValue := 0 }, { name := "LOG2_BYTE_BIT_SIZE", type := .int, accessFlags := 26, slot := 10, constantValue := 0 }, { name := "T_BOOLEAN", type := .int, accessFlags := 25, slot := 11, constantValue := 0 }, { name := "T_CHAR", type := .int, accessFlags := 25, slot := 12, constantValue := 0 }, { name := "T_FLOAT", type := .int, accessFlags := 25, slot := 13, constantValue := 0 }, { name := "T_DOUBLE", type := .int, accessFlags := 25, slot := 14, constantValue := 0 }, { name := "T_BYTE", type := .int, accessFlags := 25, slot := 15, constantValue := 0 }, { name := "T_SHORT", type := .int, accessFlags := 25, slot := 16, constantValue := 0 }, { name := "T_INT", type := .int, accessFlags := 25, slot := 17, constantValue := 0 }, { name := "T_LONG", type := .int, accessFlags := 25, slot := 18, constantValue := 0 }, { name := "JLA", type := (.object "jdk/internal/access/JavaLangAccess"), accessFlags := 26, slot := 19, constantValue := 0 }, { name := "SOFT_MAX_ARRAY_LENGTH", type := .int, accessFlags := 25, slot := 20, constantValue := 0 }]
  methods := #[k17m0]
  instanceTypes := #[]
  staticTypes := #[(.object "jdk/internal/misc/Unsafe"), .boolean, .int, .int, .int, .int, .int, .int, .int, .int, .int, .int, .int, .int, .int, .int, .int, .int, .int, (.object "jdk/internal/access/JavaLangAccess"), .int]
  resolved := Array.replicate 378 none
  statics := none }

def pool18 : Array CpInfo := pool [(1, u "java/lang/Cloneable"), (0, .class_ 1), (0, u "java/lang/Object"), (0, .class_ 3)] 3

/-- java/lang/Cloneable -/
def k18 : Class := { plain "java/lang/Cloneable" (some 0) with
  accessFlags := 1537
  interfaces := #[]
  cf := some (fileOf pool18 2 #[] #[] 1537 4 #[] #[])
  fields := #[]
  methods := #[]
  instanceTypes := #[]
  staticTypes := #[]
  resolved := Array.replicate 8 none
  statics := none }

/-- the primitive byte -/
def k19 : Class := { plain "byte" none with kind := .primitive 'B', accessFlags := 0x411 }
/-- [B -/
def k20 : Class := { plain "[B" (some 0) with kind := .array 19 .byte, interfaces := #[18, 2], accessFlags := 1041 }

/-- the primitive char -/
def k21 : Class := { plain "char" none with kind := .primitive 'C', accessFlags := 0x411 }
/-- [C -/
def k22 : Class := { plain "[C" (some 0) with kind := .array 21 .char, interfaces := #[18, 2], accessFlags := 1041 }

/-- the primitive int -/
def k23 : Class := { plain "int" none with kind := .primitive 'I', accessFlags := 0x411 }
/-- [I -/
def k24 : Class := { plain "[I" (some 0) with kind := .array 23 .int, interfaces := #[18, 2], accessFlags := 1041 }

/-- [Ljava/lang/Long; -/
def k25 : Class := { plain "[Ljava/lang/Long;" (some 0) with kind := .array 12 (.object "java/lang/Long"), interfaces := #[18, 2], accessFlags := 1041 }

def heap : Heap := #[{ cls := 7, slots := #[.long 0, .int 1, .null, .int 0, .null, .int 0, .int 0], vm := .statics 7 },
  { cls := 13, slots := #[.ref 4, .null, .int 0], vm := .statics 13 },
  { cls := 14, slots := #[.ref 262, .ref 261, .null, .long 0], vm := .statics 14 },
  { cls := 16, slots := #[.null, .null, .null], vm := .statics 16 },
  { cls := 25, slots := #[.ref 5, .ref 6, .ref 7, .ref 8, .ref 9, .ref 10, .ref 11, .ref 12, .ref 13, .ref 14, .ref 15, .ref 16, .ref 17, .ref 18, .ref 19, .ref 20, .ref 21, .ref 22, .ref 23, .ref 24, .ref 25, .ref 26, .ref 27, .ref 28, .ref 29, .ref 30, .ref 31, .ref 32, .ref 33, .ref 34, .ref 35, .ref 36, .ref 37, .ref 38, .ref 39, .ref 40, .ref 41, .ref 42, .ref 43, .ref 44, .ref 45, .ref 46, .ref 47, .ref 48, .ref 49, .ref 50, .ref 51, .ref 52, .ref 53, .ref 54, .ref 55, .ref 56, .ref 57, .ref 58, .ref 59, .ref 60, .ref 61, .ref 62, .ref 63, .ref 64, .ref 65, .ref 66, .ref 67, .ref 68, .ref 69, .ref 70, .ref 71, .ref 72, .ref 73, .ref 74, .ref 75, .ref 76, .ref 77, .ref 78, .ref 79, .ref 80, .ref 81, .ref 82, .ref 83, .ref 84, .ref 85, .ref 86, .ref 87, .ref 88, .ref 89, .ref 90, .ref 91, .ref 92, .ref 93, .ref 94, .ref 95, .ref 96, .ref 97, .ref 98, .ref 99, .ref 100, .ref 101, .ref 102, .ref 103, .ref 104, .ref 105, .ref 106, .ref 107, .ref 108, .ref 109, .ref 110, .ref 111, .ref 112, .ref 113, .ref 114, .ref 115, .ref 116, .ref 117, .ref 118, .ref 119, .ref 120, .ref 121, .ref 122, .ref 123, .ref 124, .ref 125, .ref 126, .ref 127, .ref 128, .ref 129, .ref 130, .ref 131, .ref 132, .ref 133, .ref 134, .ref 135, .ref 136, .ref 137, .ref 138, .ref 139, .ref 140, .ref 141, .ref 142, .ref 143, .ref 144, .ref 145, .ref 146, .ref 147, .ref 148, .ref 149, .ref 150, .ref 151, .ref 152, .ref 153, .ref 154, .ref 155, .ref 156, .ref 157, .ref 158, .ref 159, .ref 160, .ref 161, .ref 162, .ref 163, .ref 164, .ref 165, .ref 166, .ref 167, .ref 168, .ref 169, .ref 170, .ref 171, .ref 172, .ref 173, .ref 174, .ref 175, .ref 176, .ref 177, .ref 178, .ref 179, .ref 180, .ref 181, .ref 182, .ref 183, .ref 184, .ref 185, .ref 186, .ref 187, .ref 188, .ref 189, .ref 190, .ref 191, .ref 192, .ref 193, .ref 194, .ref 195, .ref 196, .ref 197, .ref 198, .ref 199, .ref 200, .ref 201, .ref 202, .ref 203, .ref 204, .ref 205, .ref 206, .ref 207, .ref 208, .ref 209, .ref 210, .ref 211, .ref 212, .ref 213, .ref 214, .ref 215, .ref 216, .ref 217, .ref 218, .ref 219, .ref 220, .ref 221, .ref 222, .ref 223, .ref 224, .ref 225, .ref 226, .ref 227, .ref 228, .ref 229, .ref 230, .ref 231, .ref 232, .ref 233, .ref 234, .ref 235, .ref 236, .ref 237, .ref 238, .ref 239, .ref 240, .ref 241, .ref 242, .ref 243, .ref 244, .ref 245, .ref 246, .ref 247, .ref 248, .ref 249, .ref 250, .ref 251, .ref 252, .ref 253, .ref 254, .ref 255, .ref 256, .ref 257, .ref 258, .ref 259, .ref 260], vm := .none },
  { cls := 12, slots := #[.long (-128)], vm := .none },
  { cls := 12, slots := #[.long (-127)], vm := .none },
  { cls := 12, slots := #[.long (-126)], vm := .none },
  { cls := 12, slots := #[.long (-125)], vm := .none },
  { cls := 12, slots := #[.long (-124)], vm := .none },
  { cls := 12, slots := #[.long (-123)], vm := .none },
  { cls := 12, slots := #[.long (-122)], vm := .none },
  { cls := 12, slots := #[.long (-121)], vm := .none },
  { cls := 12, slots := #[.long (-120)], vm := .none },
  { cls := 12, slots := #[.long (-119)], vm := .none },
  { cls := 12, slots := #[.long (-118)], vm := .none },
  { cls := 12, slots := #[.long (-117)], vm := .none },
  { cls := 12, slots := #[.long (-116)], vm := .none },
  { cls := 12, slots := #[.long (-115)], vm := .none },
  { cls := 12, slots := #[.long (-114)], vm := .none },
  { cls := 12, slots := #[.long (-113)], vm := .none },
  { cls := 12, slots := #[.long (-112)], vm := .none },
  { cls := 12, slots := #[.long (-111)], vm := .none },
  { cls := 12, slots := #[.long (-110)], vm := .none },
  { cls := 12, slots := #[.long (-109)], vm := .none },
  { cls := 12, slots := #[.long (-108)], vm := .none },
  { cls := 12, slots := #[.long (-107)], vm := .none },
  { cls := 12, slots := #[.long (-106)], vm := .none },
  { cls := 12, slots := #[.long (-105)], vm := .none },
  { cls := 12, slots := #[.long (-104)], vm := .none },
  { cls := 12, slots := #[.long (-103)], vm := .none },
  { cls := 12, slots := #[.long (-102)], vm := .none },
  { cls := 12, slots := #[.long (-101)], vm := .none },
  { cls := 12, slots := #[.long (-100)], vm := .none },
  { cls := 12, slots := #[.long (-99)], vm := .none },
  { cls := 12, slots := #[.long (-98)], vm := .none },
  { cls := 12, slots := #[.long (-97)], vm := .none },
  { cls := 12, slots := #[.long (-96)], vm := .none },
  { cls := 12, slots := #[.long (-95)], vm := .none },
  { cls := 12, slots := #[.long (-94)], vm := .none },
  { cls := 12, slots := #[.long (-93)], vm := .none },
  { cls := 12, slots := #[.long (-92)], vm := .none },
  { cls := 12, slots := #[.long (-91)], vm := .none },
  { cls := 12, slots := #[.long (-90)], vm := .none },
  { cls := 12, slots := #[.long (-89)], vm := .none },
  { cls := 12, slots := #[.long (-88)], vm := .none },
  { cls := 12, slots := #[.long (-87)], vm := .none },
  { cls := 12, slots := #[.long (-86)], vm := .none },
  { cls := 12, slots := #[.long (-85)], vm := .none },
  { cls := 12, slots := #[.long (-84)], vm := .none },
  { cls := 12, slots := #[.long (-83)], vm := .none },
  { cls := 12, slots := #[.long (-82)], vm := .none },
  { cls := 12, slots := #[.long (-81)], vm := .none },
  { cls := 12, slots := #[.long (-80)], vm := .none },
  { cls := 12, slots := #[.long (-79)], vm := .none },
  { cls := 12, slots := #[.long (-78)], vm := .none },
  { cls := 12, slots := #[.long (-77)], vm := .none },
  { cls := 12, slots := #[.long (-76)], vm := .none },
  { cls := 12, slots := #[.long (-75)], vm := .none },
  { cls := 12, slots := #[.long (-74)], vm := .none },
  { cls := 12, slots := #[.long (-73)], vm := .none },
  { cls := 12, slots := #[.long (-72)], vm := .none },
  { cls := 12, slots := #[.long (-71)], vm := .none },
  { cls := 12, slots := #[.long (-70)], vm := .none },
  { cls := 12, slots := #[.long (-69)], vm := .none },
  { cls := 12, slots := #[.long (-68)], vm := .none },
  { cls := 12, slots := #[.long (-67)], vm := .none },
  { cls := 12, slots := #[.long (-66)], vm := .none },
  { cls := 12, slots := #[.long (-65)], vm := .none },
  { cls := 12, slots := #[.long (-64)], vm := .none },
  { cls := 12, slots := #[.long (-63)], vm := .none },
  { cls := 12, slots := #[.long (-62)], vm := .none },
  { cls := 12, slots := #[.long (-61)], vm := .none },
  { cls := 12, slots := #[.long (-60)], vm := .none },
  { cls := 12, slots := #[.long (-59)], vm := .none },
  { cls := 12, slots := #[.long (-58)], vm := .none },
  { cls := 12, slots := #[.long (-57)], vm := .none },
  { cls := 12, slots := #[.long (-56)], vm := .none },
  { cls := 12, slots := #[.long (-55)], vm := .none },
  { cls := 12, slots := #[.long (-54)], vm := .none },
  { cls := 12, slots := #[.long (-53)], vm := .none },
  { cls := 12, slots := #[.long (-52)], vm := .none },
  { cls := 12, slots := #[.long (-51)], vm := .none },
  { cls := 12, slots := #[.long (-50)], vm := .none },
  { cls := 12, slots := #[.long (-49)], vm := .none },
  { cls := 12, slots := #[.long (-48)], vm := .none },
  { cls := 12, slots := #[.long (-47)], vm := .none },
  { cls := 12, slots := #[.long (-46)], vm := .none },
  { cls := 12, slots := #[.long (-45)], vm := .none },
  { cls := 12, slots := #[.long (-44)], vm := .none },
  { cls := 12, slots := #[.long (-43)], vm := .none },
  { cls := 12, slots := #[.long (-42)], vm := .none },
  { cls := 12, slots := #[.long (-41)], vm := .none },
  { cls := 12, slots := #[.long (-40)], vm := .none },
  { cls := 12, slots := #[.long (-39)], vm := .none },
  { cls := 12, slots := #[.long (-38)], vm := .none },
  { cls := 12, slots := #[.long (-37)], vm := .none },
  { cls := 12, slots := #[.long (-36)], vm := .none },
  { cls := 12, slots := #[.long (-35)], vm := .none },
  { cls := 12, slots := #[.long (-34)], vm := .none },
  { cls := 12, slots := #[.long (-33)], vm := .none },
  { cls := 12, slots := #[.long (-32)], vm := .none },
  { cls := 12, slots := #[.long (-31)], vm := .none },
  { cls := 12, slots := #[.long (-30)], vm := .none },
  { cls := 12, slots := #[.long (-29)], vm := .none },
  { cls := 12, slots := #[.long (-28)], vm := .none },
  { cls := 12, slots := #[.long (-27)], vm := .none },
  { cls := 12, slots := #[.long (-26)], vm := .none },
  { cls := 12, slots := #[.long (-25)], vm := .none },
  { cls := 12, slots := #[.long (-24)], vm := .none },
  { cls := 12, slots := #[.long (-23)], vm := .none },
  { cls := 12, slots := #[.long (-22)], vm := .none },
  { cls := 12, slots := #[.long (-21)], vm := .none },
  { cls := 12, slots := #[.long (-20)], vm := .none },
  { cls := 12, slots := #[.long (-19)], vm := .none },
  { cls := 12, slots := #[.long (-18)], vm := .none },
  { cls := 12, slots := #[.long (-17)], vm := .none },
  { cls := 12, slots := #[.long (-16)], vm := .none },
  { cls := 12, slots := #[.long (-15)], vm := .none },
  { cls := 12, slots := #[.long (-14)], vm := .none },
  { cls := 12, slots := #[.long (-13)], vm := .none },
  { cls := 12, slots := #[.long (-12)], vm := .none },
  { cls := 12, slots := #[.long (-11)], vm := .none },
  { cls := 12, slots := #[.long (-10)], vm := .none },
  { cls := 12, slots := #[.long (-9)], vm := .none },
  { cls := 12, slots := #[.long (-8)], vm := .none },
  { cls := 12, slots := #[.long (-7)], vm := .none },
  { cls := 12, slots := #[.long (-6)], vm := .none },
  { cls := 12, slots := #[.long (-5)], vm := .none },
  { cls := 12, slots := #[.long (-4)], vm := .none },
  { cls := 12, slots := #[.long (-3)], vm := .none },
  { cls := 12, slots := #[.long (-2)], vm := .none },
  { cls := 12, slots := #[.long (-1)], vm := .none },
  { cls := 12, slots := #[.long 0], vm := .none },
  { cls := 12, slots := #[.long 1], vm := .none },
  { cls := 12, slots := #[.long 2], vm := .none },
  { cls := 12, slots := #[.long 3], vm := .none },
  { cls := 12, slots := #[.long 4], vm := .none },
  { cls := 12, slots := #[.long 5], vm := .none },
  { cls := 12, slots := #[.long 6], vm := .none },
  { cls := 12, slots := #[.long 7], vm := .none },
  { cls := 12, slots := #[.long 8], vm := .none },
  { cls := 12, slots := #[.long 9], vm := .none },
  { cls := 12, slots := #[.long 10], vm := .none },
  { cls := 12, slots := #[.long 11], vm := .none },
  { cls := 12, slots := #[.long 12], vm := .none },
  { cls := 12, slots := #[.long 13], vm := .none },
  { cls := 12, slots := #[.long 14], vm := .none },
  { cls := 12, slots := #[.long 15], vm := .none },
  { cls := 12, slots := #[.long 16], vm := .none },
  { cls := 12, slots := #[.long 17], vm := .none },
  { cls := 12, slots := #[.long 18], vm := .none },
  { cls := 12, slots := #[.long 19], vm := .none },
  { cls := 12, slots := #[.long 20], vm := .none },
  { cls := 12, slots := #[.long 21], vm := .none },
  { cls := 12, slots := #[.long 22], vm := .none },
  { cls := 12, slots := #[.long 23], vm := .none },
  { cls := 12, slots := #[.long 24], vm := .none },
  { cls := 12, slots := #[.long 25], vm := .none },
  { cls := 12, slots := #[.long 26], vm := .none },
  { cls := 12, slots := #[.long 27], vm := .none },
  { cls := 12, slots := #[.long 28], vm := .none },
  { cls := 12, slots := #[.long 29], vm := .none },
  { cls := 12, slots := #[.long 30], vm := .none },
  { cls := 12, slots := #[.long 31], vm := .none },
  { cls := 12, slots := #[.long 32], vm := .none },
  { cls := 12, slots := #[.long 33], vm := .none },
  { cls := 12, slots := #[.long 34], vm := .none },
  { cls := 12, slots := #[.long 35], vm := .none },
  { cls := 12, slots := #[.long 36], vm := .none },
  { cls := 12, slots := #[.long 37], vm := .none },
  { cls := 12, slots := #[.long 38], vm := .none },
  { cls := 12, slots := #[.long 39], vm := .none },
  { cls := 12, slots := #[.long 40], vm := .none },
  { cls := 12, slots := #[.long 41], vm := .none },
  { cls := 12, slots := #[.long 42], vm := .none },
  { cls := 12, slots := #[.long 43], vm := .none },
  { cls := 12, slots := #[.long 44], vm := .none },
  { cls := 12, slots := #[.long 45], vm := .none },
  { cls := 12, slots := #[.long 46], vm := .none },
  { cls := 12, slots := #[.long 47], vm := .none },
  { cls := 12, slots := #[.long 48], vm := .none },
  { cls := 12, slots := #[.long 49], vm := .none },
  { cls := 12, slots := #[.long 50], vm := .none },
  { cls := 12, slots := #[.long 51], vm := .none },
  { cls := 12, slots := #[.long 52], vm := .none },
  { cls := 12, slots := #[.long 53], vm := .none },
  { cls := 12, slots := #[.long 54], vm := .none },
  { cls := 12, slots := #[.long 55], vm := .none },
  { cls := 12, slots := #[.long 56], vm := .none },
  { cls := 12, slots := #[.long 57], vm := .none },
  { cls := 12, slots := #[.long 58], vm := .none },
  { cls := 12, slots := #[.long 59], vm := .none },
  { cls := 12, slots := #[.long 60], vm := .none },
  { cls := 12, slots := #[.long 61], vm := .none },
  { cls := 12, slots := #[.long 62], vm := .none },
  { cls := 12, slots := #[.long 63], vm := .none },
  { cls := 12, slots := #[.long 64], vm := .none },
  { cls := 12, slots := #[.long 65], vm := .none },
  { cls := 12, slots := #[.long 66], vm := .none },
  { cls := 12, slots := #[.long 67], vm := .none },
  { cls := 12, slots := #[.long 68], vm := .none },
  { cls := 12, slots := #[.long 69], vm := .none },
  { cls := 12, slots := #[.long 70], vm := .none },
  { cls := 12, slots := #[.long 71], vm := .none },
  { cls := 12, slots := #[.long 72], vm := .none },
  { cls := 12, slots := #[.long 73], vm := .none },
  { cls := 12, slots := #[.long 74], vm := .none },
  { cls := 12, slots := #[.long 75], vm := .none },
  { cls := 12, slots := #[.long 76], vm := .none },
  { cls := 12, slots := #[.long 77], vm := .none },
  { cls := 12, slots := #[.long 78], vm := .none },
  { cls := 12, slots := #[.long 79], vm := .none },
  { cls := 12, slots := #[.long 80], vm := .none },
  { cls := 12, slots := #[.long 81], vm := .none },
  { cls := 12, slots := #[.long 82], vm := .none },
  { cls := 12, slots := #[.long 83], vm := .none },
  { cls := 12, slots := #[.long 84], vm := .none },
  { cls := 12, slots := #[.long 85], vm := .none },
  { cls := 12, slots := #[.long 86], vm := .none },
  { cls := 12, slots := #[.long 87], vm := .none },
  { cls := 12, slots := #[.long 88], vm := .none },
  { cls := 12, slots := #[.long 89], vm := .none },
  { cls := 12, slots := #[.long 90], vm := .none },
  { cls := 12, slots := #[.long 91], vm := .none },
  { cls := 12, slots := #[.long 92], vm := .none },
  { cls := 12, slots := #[.long 93], vm := .none },
  { cls := 12, slots := #[.long 94], vm := .none },
  { cls := 12, slots := #[.long 95], vm := .none },
  { cls := 12, slots := #[.long 96], vm := .none },
  { cls := 12, slots := #[.long 97], vm := .none },
  { cls := 12, slots := #[.long 98], vm := .none },
  { cls := 12, slots := #[.long 99], vm := .none },
  { cls := 12, slots := #[.long 100], vm := .none },
  { cls := 12, slots := #[.long 101], vm := .none },
  { cls := 12, slots := #[.long 102], vm := .none },
  { cls := 12, slots := #[.long 103], vm := .none },
  { cls := 12, slots := #[.long 104], vm := .none },
  { cls := 12, slots := #[.long 105], vm := .none },
  { cls := 12, slots := #[.long 106], vm := .none },
  { cls := 12, slots := #[.long 107], vm := .none },
  { cls := 12, slots := #[.long 108], vm := .none },
  { cls := 12, slots := #[.long 109], vm := .none },
  { cls := 12, slots := #[.long 110], vm := .none },
  { cls := 12, slots := #[.long 111], vm := .none },
  { cls := 12, slots := #[.long 112], vm := .none },
  { cls := 12, slots := #[.long 113], vm := .none },
  { cls := 12, slots := #[.long 114], vm := .none },
  { cls := 12, slots := #[.long 115], vm := .none },
  { cls := 12, slots := #[.long 116], vm := .none },
  { cls := 12, slots := #[.long 117], vm := .none },
  { cls := 12, slots := #[.long 118], vm := .none },
  { cls := 12, slots := #[.long 119], vm := .none },
  { cls := 12, slots := #[.long 120], vm := .none },
  { cls := 12, slots := #[.long 121], vm := .none },
  { cls := 12, slots := #[.long 122], vm := .none },
  { cls := 12, slots := #[.long 123], vm := .none },
  { cls := 12, slots := #[.long 124], vm := .none },
  { cls := 12, slots := #[.long 125], vm := .none },
  { cls := 12, slots := #[.long 126], vm := .none },
  { cls := 12, slots := #[.long 127], vm := .none },
  { cls := 14, slots := #[.int 0], vm := .none },
  { cls := 14, slots := #[.int 1], vm := .none }]
def classes : Array Class := #[k0, k1, k2, k3, k4, k5, k6, k7, k8, k9, k10, k11, k12, k13, k14, k15, k16, k17, k18, k19, k20, k21, k22, k23, k24, k25]
def interned : List (Array UInt16 × Addr) := []
def slotsUsed : Nat := 531
def theMethod : MethodId := ⟨1, 1⟩
def args0 : Array Value := #[.int 5, .int 7, .long 3, .int 1]
def aboutOver (below : List Frame) : State where
  vm := { classes := classes, interned := interned.toArray }
  heap := heap
  slotsUsed := slotsUsed
  threads := #[{ frames := .invoking theMethod args0 :: below }]
def below0 : List Frame := [.native { method := ⟨0, 0⟩, args := #[] }]
def about1 : State := aboutOver below0
def p0 : Program := .bare "" "" ""
def e0 : Env := launch0.env 0 0 0
theorem w_frames : about1.frames = Frame.invoking theMethod args0 :: below0 := rfl
set_option maxRecDepth 65536 in
theorem w_args : argsFit about1.vm theMethod args0 = true := by decide +kernel
set_option maxRecDepth 65536 in
theorem w_heap : heapFits about1 = true := by decide +kernel
set_option maxRecDepth 65536 in
theorem w_runnable : about1.curStatus? = some .runnable := by decide +kernel
set_option maxRecDepth 65536 in
theorem w_alone : about1.alone = true := by decide +kernel
set_option maxRecDepth 65536 in
theorem w_named : about1.methodNamed? x = some theMethod := by decide +kernel
set_option maxRecDepth 65536 in
theorem w_hears : about1.hears theMethod below0 = true := by decide +kernel
set_option maxRecDepth 65536 in
theorem w_ripe : about1.ripe theMethod args0 below0 = true := by decide +kernel
theorem w_running : about1.status = .running := rfl
set_option maxRecDepth 65536 in
theorem w_room : about1.hasRoom e0.platform room_1 = true :=
  launch0.hasRoom_least _ room_1 (by decide +kernel) (by decide +kernel) (by decide +kernel) (by decide +kernel) (by decide +kernel) (by decide +kernel)
theorem allAtoms_all (ts : List Jvm.Cond) (a : Array Jvm.Value) (st : Jvm.State) : (allAtoms ts).before a st = ts.all (fun c => c.before a st) := by
  induction ts with
  | nil => rfl
  | cons c t ih =>
    show (Jvm.Cond.and c (allAtoms t)).before a st = _
    rw [Jvm.Cond.before_and, ih, List.all_cons]
def words1 : List Jvm.Cond := Jvm.Cond.code x code maxLocals ret :: tables_1
/-- a 'code' word, met by the world's own term for the bytes: nothing is compared byte by byte -/
theorem code_word {y : MethodName} {bytes : ByteArray} {mx : Nat} {rt : Option FieldType} {a : Array Value} {s : State} {m : MethodId} {meth : Method} {c : Code} (h1 : s.methodNamed? y = some m) (h2 : s.vm.method? m = some meth) (h3 : meth.code = some c) (h4 : c.code = bytes)
    (h5 : (c.maxLocals == mx && c.exceptionTable.isEmpty && decide (c.maxStack ≤ mostOperands) && decide (meth.sig.returnType = rt) && !meth.locks && decide (parseMethodDescriptor y.desc = some meth.sig)) = true) : (Jvm.Cond.code y bytes mx rt).before a s = true := by
  simp only [Bool.and_eq_true, beq_iff_eq, Bool.not_eq_true', decide_eq_true_eq] at h5
  obtain ⟨⟨⟨⟨⟨g1, g2⟩, g3⟩, g4⟩, g5⟩, g6⟩ := h5
  simp [Cond.before, Cond.holds, Cond.value, h1, h2, h3, h4, g1, g2, g3, g4, g5, g6]
def isCode : Jvm.Cond → Bool
  | .code _ _ _ _ => true
  | _ => false
theorem all_split {L : List Jvm.Cond} {P : Jvm.Cond → Bool} (h1 : L.all (fun c => isCode c || P c) = true) (h2 : ∀ c ∈ L.filter isCode, P c = true) : L.all P = true := by
  refine List.all_eq_true.mpr fun c hc => ?_
  have h := List.all_eq_true.mp h1 c hc
  rcases Bool.eq_false_or_eq_true (isCode c) with hi | hi
  · exact h2 c (List.mem_filter.mpr ⟨hc, hi⟩)
  · simpa [hi] using h
set_option maxRecDepth 65536 in
theorem w_c0 : (Jvm.Cond.code x code maxLocals ret).before args0 about1 = true := code_word (m := ⟨1, 1⟩) (meth := k1m1) (c := k1c1) (by decide +kernel) rfl rfl rfl (by decide +kernel)
set_option maxRecDepth 65536 in
theorem w_c1 : (Jvm.Cond.code ({ cls := "java/lang/String", name := "<init>", desc := "([C)V" } : Jvm.MethodName) jdk_42_method_3_code (2 : Nat) (Option.none : Option Jvm.ClassFile.FieldType)).before args0 about1 = true := code_word (m := ⟨7, 1⟩) (meth := k7m1) (c := k7c1) (by decide +kernel) rfl rfl rfl (by decide +kernel)
set_option maxRecDepth 65536 in
theorem w_c2 : (Jvm.Cond.code ({ cls := "java/lang/String", name := "<init>", desc := "([CIILjava/lang/Void;)V" } : Jvm.MethodName) jdk_42_method_149_code (6 : Nat) (Option.none : Option Jvm.ClassFile.FieldType)).before args0 about1 = true := code_word (m := ⟨7, 3⟩) (meth := k7m3) (c := k7c3) (by decide +kernel) rfl rfl rfl (by decide +kernel)
set_option maxRecDepth 65536 in
theorem w_c3 : (Jvm.Cond.code ({ cls := "java/lang/Object", name := "<init>", desc := "()V" } : Jvm.MethodName) object_method_1_code (1 : Nat) (Option.none : Option Jvm.ClassFile.FieldType)).before args0 about1 = true := code_word (m := ⟨0, 0⟩) (meth := k0m0) (c := k0c0) (by decide +kernel) rfl rfl rfl (by decide +kernel)
set_option maxRecDepth 65536 in
theorem w_c4 : (Jvm.Cond.code ({ cls := "java/lang/StringUTF16", name := "compress", desc := "([CII)[B" } : Jvm.MethodName) jdk_52_method_16_code (6 : Nat) (Option.some (Jvm.ClassFile.FieldType.array Jvm.ClassFile.FieldType.byte))).before args0 about1 = true := code_word (m := ⟨8, 2⟩) (meth := k8m2) (c := k8c2) (by decide +kernel) rfl rfl rfl (by decide +kernel)
set_option maxRecDepth 65536 in
theorem w_c5 : (Jvm.Cond.code ({ cls := "java/lang/StringUTF16", name := "compress", desc := "([CI[BII)I" } : Jvm.MethodName) jdk_52_method_21_code (7 : Nat) (Option.some Jvm.ClassFile.FieldType.int)).before args0 about1 = true := code_word (m := ⟨8, 3⟩) (meth := k8m3) (c := k8c3) (by decide +kernel) rfl rfl rfl (by decide +kernel)
set_option maxRecDepth 65536 in
theorem w_c6 : (Jvm.Cond.code ({ cls := "java/lang/StringUTF16", name := "coderFromArrayLen", desc := "([BI)B" } : Jvm.MethodName) jdk_52_method_15_code (2 : Nat) (Option.some Jvm.ClassFile.FieldType.byte)).before args0 about1 = true := code_word (m := ⟨8, 1⟩) (meth := k8m1) (c := k8c1) (by decide +kernel) rfl rfl rfl (by decide +kernel)
set_option maxRecDepth 65536 in
theorem w_c7 : (Jvm.Cond.code ({ cls := "org/attestry/status/StatusEntry", name := "read", desc := "(Ljava/lang/String;JLjava/lang/String;Z)Lorg/attestry/status/StatusEntry;" } : Jvm.MethodName) prog_30_method_2_code (5 : Nat) (Option.some (Jvm.ClassFile.FieldType.object "org/attestry/status/StatusEntry"))).before args0 about1 = true := code_word (m := ⟨10, 1⟩) (meth := k10m1) (c := k10c1) (by decide +kernel) rfl rfl rfl (by decide +kernel)
set_option maxRecDepth 65536 in
theorem w_c8 : (Jvm.Cond.code ({ cls := "java/lang/Long", name := "valueOf", desc := "(J)Ljava/lang/Long;" } : Jvm.MethodName) jdk_35_method_24_code (3 : Nat) (Option.some (Jvm.ClassFile.FieldType.object "java/lang/Long"))).before args0 about1 = true := code_word (m := ⟨12, 0⟩) (meth := k12m0) (c := k12c0) (by decide +kernel) rfl rfl rfl (by decide +kernel)
set_option maxRecDepth 65536 in
theorem w_c9 : (Jvm.Cond.code ({ cls := "java/lang/Boolean", name := "valueOf", desc := "(Z)Ljava/lang/Boolean;" } : Jvm.MethodName) jdk_2055_method_5_code (1 : Nat) (Option.some (Jvm.ClassFile.FieldType.object "java/lang/Boolean"))).before args0 about1 = true := code_word (m := ⟨14, 1⟩) (meth := k14m1) (c := k14c1) (by decide +kernel) rfl rfl rfl (by decide +kernel)
set_option maxRecDepth 65536 in
theorem w_c10 : (Jvm.Cond.code ({ cls := "org/attestry/status/StatusEntry", name := "<init>", desc := "(Ljava/lang/String;Ljava/lang/Long;Ljava/lang/String;Ljava/lang/Boolean;Ljava/lang/String;)V" } : Jvm.MethodName) prog_30_method_1_code (6 : Nat) (Option.none : Option Jvm.ClassFile.FieldType)).before args0 about1 = true := code_word (m := ⟨10, 0⟩) (meth := k10m0) (c := k10c0) (by decide +kernel) rfl rfl rfl (by decide +kernel)
set_option maxRecDepth 65536 in
theorem w_c11 : (Jvm.Cond.code ({ cls := "java/lang/Record", name := "<init>", desc := "()V" } : Jvm.MethodName) jdk_30_method_1_code (1 : Nat) (Option.none : Option Jvm.ClassFile.FieldType)).before args0 about1 = true := code_word (m := ⟨9, 0⟩) (meth := k9m0) (c := k9c0) (by decide +kernel) rfl rfl rfl (by decide +kernel)
set_option maxRecDepth 65536 in
theorem w_c12 : (Jvm.Cond.code ({ cls := "org/attestry/status/StatusEntry", name := "purpose", desc := "()Ljava/lang/String;" } : Jvm.MethodName) prog_30_method_8_code (1 : Nat) (Option.some (Jvm.ClassFile.FieldType.object "java/lang/String"))).before args0 about1 = true := code_word (m := ⟨10, 3⟩) (meth := k10m3) (c := k10c3) (by decide +kernel) rfl rfl rfl (by decide +kernel)
set_option maxRecDepth 65536 in
theorem w_c13 : (Jvm.Cond.code ({ cls := "java/lang/String", name := "equals", desc := "(Ljava/lang/Object;)Z" } : Jvm.MethodName) jdk_42_method_66_code (3 : Nat) (Option.some Jvm.ClassFile.FieldType.boolean)).before args0 about1 = true := code_word (m := ⟨7, 2⟩) (meth := k7m2) (c := k7c2) (by decide +kernel) rfl rfl rfl (by decide +kernel)
set_option maxRecDepth 65536 in
theorem w_c14 : (Jvm.Cond.code ({ cls := "org/attestry/status/StatusEntry", name := "index", desc := "()Ljava/lang/Long;" } : Jvm.MethodName) prog_30_method_9_code (1 : Nat) (Option.some (Jvm.ClassFile.FieldType.object "java/lang/Long"))).before args0 about1 = true := code_word (m := ⟨10, 4⟩) (meth := k10m4) (c := k10c4) (by decide +kernel) rfl rfl rfl (by decide +kernel)
set_option maxRecDepth 65536 in
theorem w_c15 : (Jvm.Cond.code ({ cls := "java/lang/Long", name := "longValue", desc := "()J" } : Jvm.MethodName) jdk_35_method_31_code (1 : Nat) (Option.some Jvm.ClassFile.FieldType.long)).before args0 about1 = true := code_word (m := ⟨12, 2⟩) (meth := k12m2) (c := k12c2) (by decide +kernel) rfl rfl rfl (by decide +kernel)
set_option maxRecDepth 65536 in
theorem w_c16 : (Jvm.Cond.code ({ cls := "org/attestry/status/StatusEntry", name := "list", desc := "()Ljava/lang/String;" } : Jvm.MethodName) prog_30_method_10_code (1 : Nat) (Option.some (Jvm.ClassFile.FieldType.object "java/lang/String"))).before args0 about1 = true := code_word (m := ⟨10, 5⟩) (meth := k10m5) (c := k10c5) (by decide +kernel) rfl rfl rfl (by decide +kernel)
set_option maxRecDepth 65536 in
theorem w_c17 : (Jvm.Cond.code ({ cls := "org/attestry/status/StatusEntry", name := "set", desc := "()Ljava/lang/Boolean;" } : Jvm.MethodName) prog_30_method_11_code (1 : Nat) (Option.some (Jvm.ClassFile.FieldType.object "java/lang/Boolean"))).before args0 about1 = true := code_word (m := ⟨10, 6⟩) (meth := k10m6) (c := k10c6) (by decide +kernel) rfl rfl rfl (by decide +kernel)
set_option maxRecDepth 65536 in
theorem w_c18 : (Jvm.Cond.code ({ cls := "org/attestry/status/StatusEntry", name := "error", desc := "()Ljava/lang/String;" } : Jvm.MethodName) prog_30_method_12_code (1 : Nat) (Option.some (Jvm.ClassFile.FieldType.object "java/lang/String"))).before args0 about1 = true := code_word (m := ⟨10, 7⟩) (meth := k10m7) (c := k10c7) (by decide +kernel) rfl rfl rfl (by decide +kernel)
set_option maxRecDepth 65536 in
theorem w_c19 : (Jvm.Cond.code ({ cls := "org/attestry/status/StatusEntry", name := "isSetFor", desc := "(Ljava/lang/String;)Z" } : Jvm.MethodName) prog_30_method_4_code (2 : Nat) (Option.some Jvm.ClassFile.FieldType.boolean)).before args0 about1 = true := code_word (m := ⟨10, 2⟩) (meth := k10m2) (c := k10c2) (by decide +kernel) rfl rfl rfl (by decide +kernel)
set_option maxRecDepth 65536 in
theorem w_c20 : (Jvm.Cond.code ({ cls := "java/lang/Boolean", name := "equals", desc := "(Ljava/lang/Object;)Z" } : Jvm.MethodName) jdk_2055_method_11_code (2 : Nat) (Option.some Jvm.ClassFile.FieldType.boolean)).before args0 about1 = true := code_word (m := ⟨14, 2⟩) (meth := k14m2) (c := k14c2) (by decide +kernel) rfl rfl rfl (by decide +kernel)
set_option maxRecDepth 65536 in
theorem w_c21 : (Jvm.Cond.code ({ cls := "java/lang/Boolean", name := "booleanValue", desc := "()Z" } : Jvm.MethodName) jdk_2055_method_4_code (1 : Nat) (Option.some Jvm.ClassFile.FieldType.boolean)).before args0 about1 = true := code_word (m := ⟨14, 0⟩) (meth := k14m0) (c := k14c0) (by decide +kernel) rfl rfl rfl (by decide +kernel)
set_option maxRecDepth 65536 in
theorem w_c22 : (Jvm.Cond.code ({ cls := "java/lang/Long", name := "<init>", desc := "(J)V" } : Jvm.MethodName) jdk_35_method_26_code (3 : Nat) (Option.none : Option Jvm.ClassFile.FieldType)).before args0 about1 = true := code_word (m := ⟨12, 1⟩) (meth := k12m1) (c := k12c1) (by decide +kernel) rfl rfl rfl (by decide +kernel)
set_option maxRecDepth 65536 in
theorem w_c23 : (Jvm.Cond.code ({ cls := "java/lang/Number", name := "<init>", desc := "()V" } : Jvm.MethodName) jdk_18_method_1_code (1 : Nat) (Option.none : Option Jvm.ClassFile.FieldType)).before args0 about1 = true := code_word (m := ⟨11, 0⟩) (meth := k11m0) (c := k11c0) (by decide +kernel) rfl rfl rfl (by decide +kernel)
def codes1 : List Jvm.Cond := [Jvm.Cond.code x code maxLocals ret, Jvm.Cond.code ({ cls := "java/lang/String", name := "<init>", desc := "([C)V" } : Jvm.MethodName) jdk_42_method_3_code (2 : Nat) (Option.none : Option Jvm.ClassFile.FieldType), Jvm.Cond.code ({ cls := "java/lang/String", name := "<init>", desc := "([CIILjava/lang/Void;)V" } : Jvm.MethodName) jdk_42_method_149_code (6 : Nat) (Option.none : Option Jvm.ClassFile.FieldType), Jvm.Cond.code ({ cls := "java/lang/Object", name := "<init>", desc := "()V" } : Jvm.MethodName) object_method_1_code (1 : Nat) (Option.none : Option Jvm.ClassFile.FieldType), Jvm.Cond.code ({ cls := "java/lang/StringUTF16", name := "compress", desc := "([CII)[B" } : Jvm.MethodName) jdk_52_method_16_code (6 : Nat) (Option.some (Jvm.ClassFile.FieldType.array Jvm.ClassFile.FieldType.byte)), Jvm.Cond.code ({ cls := "java/lang/StringUTF16", name := "compress", desc := "([CI[BII)I" } : Jvm.MethodName) jdk_52_method_21_code (7 : Nat) (Option.some Jvm.ClassFile.FieldType.int), Jvm.Cond.code ({ cls := "java/lang/StringUTF16", name := "coderFromArrayLen", desc := "([BI)B" } : Jvm.MethodName) jdk_52_method_15_code (2 : Nat) (Option.some Jvm.ClassFile.FieldType.byte), Jvm.Cond.code ({ cls := "org/attestry/status/StatusEntry", name := "read", desc := "(Ljava/lang/String;JLjava/lang/String;Z)Lorg/attestry/status/StatusEntry;" } : Jvm.MethodName) prog_30_method_2_code (5 : Nat) (Option.some (Jvm.ClassFile.FieldType.object "org/attestry/status/StatusEntry")), Jvm.Cond.code ({ cls := "java/lang/Long", name := "valueOf", desc := "(J)Ljava/lang/Long;" } : Jvm.MethodName) jdk_35_method_24_code (3 : Nat) (Option.some (Jvm.ClassFile.FieldType.object "java/lang/Long")), Jvm.Cond.code ({ cls := "java/lang/Boolean", name := "valueOf", desc := "(Z)Ljava/lang/Boolean;" } : Jvm.MethodName) jdk_2055_method_5_code (1 : Nat) (Option.some (Jvm.ClassFile.FieldType.object "java/lang/Boolean")), Jvm.Cond.code ({ cls := "org/attestry/status/StatusEntry", name := "<init>", desc := "(Ljava/lang/String;Ljava/lang/Long;Ljava/lang/String;Ljava/lang/Boolean;Ljava/lang/String;)V" } : Jvm.MethodName) prog_30_method_1_code (6 : Nat) (Option.none : Option Jvm.ClassFile.FieldType), Jvm.Cond.code ({ cls := "java/lang/Record", name := "<init>", desc := "()V" } : Jvm.MethodName) jdk_30_method_1_code (1 : Nat) (Option.none : Option Jvm.ClassFile.FieldType), Jvm.Cond.code ({ cls := "org/attestry/status/StatusEntry", name := "purpose", desc := "()Ljava/lang/String;" } : Jvm.MethodName) prog_30_method_8_code (1 : Nat) (Option.some (Jvm.ClassFile.FieldType.object "java/lang/String")), Jvm.Cond.code ({ cls := "java/lang/String", name := "equals", desc := "(Ljava/lang/Object;)Z" } : Jvm.MethodName) jdk_42_method_66_code (3 : Nat) (Option.some Jvm.ClassFile.FieldType.boolean), Jvm.Cond.code ({ cls := "org/attestry/status/StatusEntry", name := "index", desc := "()Ljava/lang/Long;" } : Jvm.MethodName) prog_30_method_9_code (1 : Nat) (Option.some (Jvm.ClassFile.FieldType.object "java/lang/Long")), Jvm.Cond.code ({ cls := "java/lang/Long", name := "longValue", desc := "()J" } : Jvm.MethodName) jdk_35_method_31_code (1 : Nat) (Option.some Jvm.ClassFile.FieldType.long), Jvm.Cond.code ({ cls := "org/attestry/status/StatusEntry", name := "list", desc := "()Ljava/lang/String;" } : Jvm.MethodName) prog_30_method_10_code (1 : Nat) (Option.some (Jvm.ClassFile.FieldType.object "java/lang/String")), Jvm.Cond.code ({ cls := "org/attestry/status/StatusEntry", name := "set", desc := "()Ljava/lang/Boolean;" } : Jvm.MethodName) prog_30_method_11_code (1 : Nat) (Option.some (Jvm.ClassFile.FieldType.object "java/lang/Boolean")), Jvm.Cond.code ({ cls := "org/attestry/status/StatusEntry", name := "error", desc := "()Ljava/lang/String;" } : Jvm.MethodName) prog_30_method_12_code (1 : Nat) (Option.some (Jvm.ClassFile.FieldType.object "java/lang/String")), Jvm.Cond.code ({ cls := "org/attestry/status/StatusEntry", name := "isSetFor", desc := "(Ljava/lang/String;)Z" } : Jvm.MethodName) prog_30_method_4_code (2 : Nat) (Option.some Jvm.ClassFile.FieldType.boolean), Jvm.Cond.code ({ cls := "java/lang/Boolean", name := "equals", desc := "(Ljava/lang/Object;)Z" } : Jvm.MethodName) jdk_2055_method_11_code (2 : Nat) (Option.some Jvm.ClassFile.FieldType.boolean), Jvm.Cond.code ({ cls := "java/lang/Boolean", name := "booleanValue", desc := "()Z" } : Jvm.MethodName) jdk_2055_method_4_code (1 : Nat) (Option.some Jvm.ClassFile.FieldType.boolean), Jvm.Cond.code ({ cls := "java/lang/Long", name := "<init>", desc := "(J)V" } : Jvm.MethodName) jdk_35_method_26_code (3 : Nat) (Option.none : Option Jvm.ClassFile.FieldType), Jvm.Cond.code ({ cls := "java/lang/Number", name := "<init>", desc := "()V" } : Jvm.MethodName) jdk_18_method_1_code (1 : Nat) (Option.none : Option Jvm.ClassFile.FieldType)]
set_option maxRecDepth 65536 in
theorem codes_eq : words1.filter isCode = codes1 := rfl
theorem w_codes : ∀ c ∈ words1.filter isCode, c.before args0 about1 = true := by
  rw [codes_eq]
  intro c hc
  simp only [codes1, List.mem_cons, List.not_mem_nil, or_false] at hc
  rcases hc with rfl | rfl | rfl | rfl | rfl | rfl | rfl | rfl | rfl | rfl | rfl | rfl | rfl | rfl | rfl | rfl | rfl | rfl | rfl | rfl | rfl | rfl | rfl | rfl
  · exact w_c0
  · exact w_c1
  · exact w_c2
  · exact w_c3
  · exact w_c4
  · exact w_c5
  · exact w_c6
  · exact w_c7
  · exact w_c8
  · exact w_c9
  · exact w_c10
  · exact w_c11
  · exact w_c12
  · exact w_c13
  · exact w_c14
  · exact w_c15
  · exact w_c16
  · exact w_c17
  · exact w_c18
  · exact w_c19
  · exact w_c20
  · exact w_c21
  · exact w_c22
  · exact w_c23
set_option maxRecDepth 65536 in
theorem w_t1 : (words1.take 24).all (fun c => isCode c || c.before args0 about1) = true := by decide +kernel
set_option maxRecDepth 65536 in
theorem w_t2 : ((words1.drop 24).take 24).all (fun c => isCode c || c.before args0 about1) = true := by decide +kernel
set_option maxRecDepth 65536 in
theorem w_t3 : (((words1.drop 24).drop 24).take 24).all (fun c => isCode c || c.before args0 about1) = true := by decide +kernel
set_option maxRecDepth 65536 in
theorem w_t4 : ((((words1.drop 24).drop 24).drop 24).take 24).all (fun c => isCode c || c.before args0 about1) = true := by decide +kernel
set_option maxRecDepth 65536 in
theorem w_t5 : (((((words1.drop 24).drop 24).drop 24).drop 24).take 24).all (fun c => isCode c || c.before args0 about1) = true := by decide +kernel
set_option maxRecDepth 65536 in
theorem w_t6 : (((((words1.drop 24).drop 24).drop 24).drop 24).drop 24).all (fun c => isCode c || c.before args0 about1) = true := by decide +kernel
theorem w_tables : (allAtoms (Jvm.Cond.code x code maxLocals ret :: tables_1)).before args0 about1 = true := by
  rw [allAtoms_all]
  show words1.all (fun c => c.before args0 about1) = true
  refine all_split ?_ w_codes
  rw [← List.take_append_drop 24 words1, List.all_append, w_t1, ← List.take_append_drop 24 (words1.drop 24), List.all_append, w_t2, ← List.take_append_drop 24 ((words1.drop 24).drop 24), List.all_append, w_t3, ← List.take_append_drop 24 (((words1.drop 24).drop 24).drop 24), List.all_append, w_t4, ← List.take_append_drop 24 ((((words1.drop 24).drop 24).drop 24).drop 24), List.all_append, w_t5, w_t6]
  rfl
set_option maxRecDepth 65536 in
theorem w_rest : rest_1_c.before args0 about1 = true := by decide +kernel
set_option maxRecDepth 65536 in
theorem w_case : (Jvm.Cond.and given_1 narrow_1).before args0 about1 = true := by decide +kernel
theorem w_applies : (headSpec (Jvm.Cond.code x code maxLocals ret :: tables_1) room_1).applies x e0.platform about1 = true :=
  (Spec.applies_iff w_frames).mpr ⟨w_running, w_runnable, w_alone, w_named, w_hears, w_ripe, w_room, w_tables⟩
theorem atStart : AtStart classFile x code maxLocals ret World_1 tables_1 room_1 Calls_1 rest_1 Pre_1 launch0 p0 e0 about1 theMethod args0 below0 :=
  ⟨lists_1, trivial, launch0.admits_env _ _ _, launch0.least_env, fairChoices_fair.cas, fairChoices_fair.clock, w_frames, w_args, w_heap, w_applies, trivial, w_rest, w_case⟩
end start1
theorem witness_1 : WitnessClaimed_1 := ⟨start1.p0, start1.e0, start1.about1, start1.theMethod, start1.args0, start1.below0, start1.atStart⟩
end Jvm.Pilot.@@N@@
