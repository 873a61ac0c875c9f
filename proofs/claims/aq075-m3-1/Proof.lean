import JvmDerived
import JvmDerived.Pilot.@@N@@Statement
import JvmDerived.Pilot.@@N@@Code
set_option linter.unusedVariables false
set_option linter.unusedSimpArgs false
namespace Jvm.Pilot.@@N@@
open Jvm Jvm.ClassFile Sem Op Lib Jvm.Free Jvm.Stand Jvm.LawKit Jvm.RoadKit Bundle Jvm.Pilot.@@N@@.Jvm.D
section Own
variable {p : Program} {l : Launch} {e : Env} {R : Room} {s : State} {m : MethodId} {args : Array Value} {below : List Frame} {meth : Method} {c : Code} {T : State} {locs : List Loc} {cells slots : Nat}
theorem own_retI (X : Stand p l e R s m args below meth c T locs cells slots) (hx : p.tables.exec = Jvm.exec) {pc : Nat} {Ls : Array Slot} {z : Int32} {rest : List Value} (hret : meth.sig.returnType = some .int) (hd : decode c.code pc = .ok (.ireturn, 1)) {fs : List Frame}
    (hl : ∀ (f : JFrame) (acts : List Action), f.method = m → f.locked = none → f.entered = [] → (doReturn e (T.setTop f) acts (some (.int z))).1 = T.setFrames fs) : Steps p.tables e below (T.setTop (mkF m pc Ls (.int z :: rest))) (T.setFrames fs) := by
  have hm' : T.vm.method? m = some meth := X.method'
  have hn : narrow .int (.int z) = .int z := rfl
  show Steps p.tables e below (T.setTop { method := m, pc := pc, locals := Ls, stack := _ :: rest, locked := none }) _
  jvm_step X.here [X.here.top, hx, hd, hm', hret, hn]
  first | (intro acts; rw [hl _ acts rfl rfl rfl]) | rw [hl _ _ rfl rfl rfl]
  exact Steps.refl _
/-- from the state S the invocation comes to an end at which Post holds -/
def own_Go (p : Program) (e : Env) (below : List Frame) (Post : Outcome → State → Prop) (S : State) : Prop := ∃ s₂ o, Steps p.tables e below S s₂ ∧ s₂.status = .running ∧ Ended s₂ below o ∧ Post o s₂
theorem own_Go.of {Post : Outcome → State → Prop} {S S' : State} (k : ∀ target, Steps p.tables e below S' target → Steps p.tables e below S target) (h : own_Go p e below Post S') : own_Go p e below Post S := by
  obtain ⟨s₂, o, h1, h2⟩ := h
  exact ⟨s₂, o, k _ h1, h2⟩
theorem own_Go.tr {Post : Outcome → State → Prop} {S S' : State} (k : Steps p.tables e below S S') (h : own_Go p e below Post S') : own_Go p e below Post S := by
  obtain ⟨s₂, o, h1, h2⟩ := h
  exact ⟨s₂, o, k.trans h1, h2⟩
theorem own_retP (X : Stand p l e R s m args below meth c T locs cells slots) {v : Option Value} {Q : Option Value → Heap → List Loc → Prop} {C S : Nat} {g : JFrame} (hv : meth.sig.returnType = none → v = none) (hlk : meth.locks = false)
    (st : ∀ fs, (∀ (f : JFrame) (acts : List Action), f.method = m → f.locked = none → f.entered = [] → (doReturn e (T.setTop f) acts v).1 = T.setFrames fs) → Steps p.tables e below (T.setTop g) (T.setFrames fs)) (hc : cells ≤ C) (hs : slots ≤ S) (hQ : Q v T.heap locs) :
    own_Go p e below (fun o U' => ∃ v L, o = .returned v ∧ Q v U'.heap L ∧ FrameEnd s o U' L C S) (T.setTop g) := by
  obtain ⟨fs, hr, hrun, hended, hW, hsame⟩ := X.leave (v := v) hv hlk
  exact ⟨_, _, st fs hr, hrun, hended, _, _, rfl, hQ, ⟨_, rfl⟩, hW, hsame.mono hc hs⟩
theorem own_cP {pc : Nat} {Ls : Array Slot} {S rest : List Value} {Post : Outcome → State → Prop} {Q : Option Value → Heap → List Loc → Prop} {j n : Nat} (X : Stand p l e R s m args below meth c T locs cells slots)
    (H : ∃ (v : Option Value) (vm₁ : Vm) (B : Pt), s.WarmedH vm₁ ∧ Stand p l e R s m args below meth c B.U B.locs B.cells B.slots ∧ (∃ L, Q v B.U.heap L ∧ B.locs = locs ++ L ∧ B.cells = cells + j ∧ B.slots = slots + n) ∧ Steps p.tables e below (T.setTop (mkF m pc Ls S)) (B.U.setTop (mkF m (pc + 3) Ls (v.toList ++ rest))))
    (k : ∀ v T' L, Stand p l e R s m args below meth c T' (locs ++ L) (cells + j) (slots + n) → Q v T'.heap L → own_Go p e below Post (T'.setTop (mkF m (pc + 3) Ls (v.toList ++ rest)))) : own_Go p e below Post (T.setTop (mkF m pc Ls S)) := by
  obtain ⟨v, vm₁, ⟨T', L', c', n'⟩, -, X', ⟨L, hQ, e1, e2, e3⟩, st⟩ := H
  dsimp only [Pt.U, Pt.locs, Pt.cells, Pt.slots] at X' e1 e2 e3 st hQ
  subst e1 e2 e3
  exact own_Go.tr st (k v T' L X' hQ)
theorem own_cF {pc : Nat} {Ls : Array Slot} {S rest : List Value} {Post : Outcome → State → Prop} {Q : Option Value → Heap → List Loc → Prop} {j n : Nat} (X : Stand p l e R s m args below meth c T locs cells slots)
    (H : ∃ (v : Option Value) (vm₁ : Vm) (B : Pt), s.WarmedH vm₁ ∧ Stand p l e R s m args below meth c B.U B.locs B.cells B.slots ∧ (∃ L, Q v B.U.heap L ∧ B.locs = locs ++ L ∧ B.cells = cells + j ∧ B.slots = slots + n) ∧ ∀ target, Steps p.tables e below (B.U.setTop (mkF m (pc + 3) Ls (v.toList ++ rest))) target → Steps p.tables e below (T.setTop (mkF m pc Ls S)) target)
    (k : ∀ v T' L, Stand p l e R s m args below meth c T' (locs ++ L) (cells + j) (slots + n) → Q v T'.heap L → own_Go p e below Post (T'.setTop (mkF m (pc + 3) Ls (v.toList ++ rest)))) : own_Go p e below Post (T.setTop (mkF m pc Ls S)) := by
  obtain ⟨v, vm₁, ⟨T', L', c', n'⟩, -, X', ⟨L, hQ, e1, e2, e3⟩, st⟩ := H
  dsimp only [Pt.U, Pt.locs, Pt.cells, Pt.slots] at X' e1 e2 e3 st hQ
  subst e1 e2 e3
  exact own_Go.of st (k v T' L X' hQ)
abbrev own_MP (l : Launch) (y : MethodName) (b : ByteArray) (ml : Nat) (rt : Option FieldType) (ws : List Jvm.Cond) (R : Room) (Z : State) (h0 : Heap) (as : Array Value) (K : Program → Env → List Frame → State → Array Value → Prop) (Q : Option Value → Heap → List Loc → Prop) : Prop :=
  MetFree l y (head1 (Jvm.Cond.code y b ml rt :: ws) R) (fun a U => a = as ∧ Z.Warmed39 U.vm ∧ U.heap = h0) K (fun _ U o U' => ∃ v L, o = .returned v ∧ Q v U'.heap L ∧ FrameEnd U o U' L R.cells R.slots)
theorem own_startP {l : Launch} {y : MethodName} {b : ByteArray} {ml : Nat} {rt : Option FieldType} {ws : List Jvm.Cond} {R : Room} {Z : State} {h0 : Heap} {as : Array Value} {K : Program → Env → List Frame → State → Array Value → Prop} {Q : Option Value → Heap → List Loc → Prop} (hpn : plainFor y = true)
    (h : ∀ (p : Program) (e : Env) (s : State) (m : MethodId) (below : List Frame) (meth : Method) (c : Code) (s₁ : State), BodyLoose p l y (head1 (Jvm.Cond.code y b ml rt :: ws) R) b ml rt e s m as below meth c s₁ → p.tables.exec = Jvm.exec → c.code = b → c.maxLocals = ml → s.vm.findClass y.cls = some m.cls → Stand p l e R s m as below meth c s₁ [] 0 0 → s₁.heap = h0 → s.heap = h0 → Z.Warmed39 s.vm → K p e below s as →
      ∀ Pst : Outcome → State → Prop, Pst = (fun o U' => ∃ v L, o = .returned v ∧ Q v U'.heap L ∧ FrameEnd s o U' L R.cells R.slots) → own_Go p e below Pst (s₁.setTop (entryFrame m as ml))) : own_MP l y b ml rt ws R Z h0 as K Q := by
  refine MetFree.of_bodySF hpn hisR ?_
  intro p e s m args below meth c s₁ Bd hml0 hP hK
  obtain ⟨rfl, hZ, hh0⟩ := hP
  exact h p e s m below meth c s₁ Bd Bd.exec Bd.bytes hml0 (findClass_of_methodNamed Bd.named) (Stand.of_body Bd) (by rw [← hh0, Bd.state]; rfl) hh0 hZ hK _ rfl
end Own
section OwnX
variable {p : Program} {e : Env} {m : MethodId} {below : List Frame} {c : Code} {T : State}
theorem own_x_aload {pc : Nat} {Ls : Array Slot} {S : List Value} {Post : Outcome → State → Prop} (h : At T m c below) (hx : p.tables.exec = Jvm.exec) {k : Nat} {v : Value} (hd : decode c.code pc = .ok (.aload k, 2)) (hl : Ls[k]? = some (.val v)) (hv : v.isRef = true) (hr : own_Go p e below Post (T.setTop (mkF m (pc + 2) (Ls) (v :: S)))) : own_Go p e below Post (T.setTop (mkF m pc Ls S)) := own_Go.of (fun t k => XS.aload h hx rfl hd hl hv k) hr
theorem own_x_aloadN {pc : Nat} {Ls : Array Slot} {S : List Value} {Post : Outcome → State → Prop} (h : At T m c below) (hx : p.tables.exec = Jvm.exec) {k : Fin 4} {v : Value} (hd : decode c.code pc = .ok (.aload_n k, 1)) (hl : Ls[k.val]? = some (.val v)) (hv : v.isRef = true) (hr : own_Go p e below Post (T.setTop (mkF m (pc + 1) (Ls) (v :: S)))) : own_Go p e below Post (T.setTop (mkF m pc Ls S)) := own_Go.of (fun t k => XS.aloadN h hx rfl hd hl hv k) hr
theorem own_x_astore {pc : Nat} {Ls : Array Slot} {S : List Value} {Post : Outcome → State → Prop} (h : At T m c below) (hx : p.tables.exec = Jvm.exec) {k : Nat} {x : Value} {rest : List Value} {l' : Array Slot} (hd : decode c.code pc = .ok (.astore k, 2)) (hs : S = x :: rest) (hv : x.isRef = true) (hl : storeLocals Ls k x = some l') (hr : own_Go p e below Post (T.setTop (mkF m (pc + 2) (l') (rest)))) : own_Go p e below Post (T.setTop (mkF m pc Ls S)) := own_Go.of (fun t k => XS.astore h hx rfl hd hs hv hl k) hr
theorem own_x_bipush {pc : Nat} {Ls : Array Slot} {S : List Value} {Post : Outcome → State → Prop} (h : At T m c below) (hx : p.tables.exec = Jvm.exec) {i : Int} (hd : decode c.code pc = .ok (.bipush i, 2)) {z : Int32} (hz : (Int8.ofInt i).toInt32 = z) (hr : own_Go p e below Post (T.setTop (mkF m (pc + 2) (Ls) (.int z :: S)))) : own_Go p e below Post (T.setTop (mkF m pc Ls S)) := by subst hz; exact own_Go.of (fun t k => XS.bipush h hx rfl hd k) hr
theorem own_x_dcmpS {pc : Nat} {Ls : Array Slot} {S : List Value} {Post : Outcome → State → Prop} (h : At T m c below) (hx : p.tables.exec = Jvm.exec) {o : CmpOp} {x y : UInt64} {v : Int32} {rest : List Value} (hd : decode c.code pc = .ok (.dcmp o, 1)) (hs : S = .double y :: .double x :: rest) (hv : cmpValue (FP.dcmp x y) o = v) (hr : own_Go p e below Post (T.setTop (mkF m (pc + 1) (Ls) (.int v :: rest)))) : own_Go p e below Post (T.setTop (mkF m pc Ls S)) := own_Go.of (fun t k => XS.dcmpS h hx rfl hd hs hv k) hr
theorem own_x_dconst0 {pc : Nat} {Ls : Array Slot} {S : List Value} {Post : Outcome → State → Prop} (h : At T m c below) (hx : p.tables.exec = Jvm.exec) {v : UInt64} (hd : decode c.code pc = .ok (.dconst 0, 1)) (hv : FP.dconst0 = v) (hr : own_Go p e below Post (T.setTop (mkF m (pc + 1) (Ls) (.double v :: S)))) : own_Go p e below Post (T.setTop (mkF m pc Ls S)) := own_Go.of (fun t k => XS.dconst0 h hx rfl hd hv k) hr
theorem own_x_dconst1 {pc : Nat} {Ls : Array Slot} {S : List Value} {Post : Outcome → State → Prop} (h : At T m c below) (hx : p.tables.exec = Jvm.exec) {v : UInt64} (hd : decode c.code pc = .ok (.dconst 1, 1)) (hv : FP.dconst1 = v) (hr : own_Go p e below Post (T.setTop (mkF m (pc + 1) (Ls) (.double v :: S)))) : own_Go p e below Post (T.setTop (mkF m pc Ls S)) := own_Go.of (fun t k => XS.dconst1 h hx rfl hd hv k) hr
theorem own_x_ddivS {pc : Nat} {Ls : Array Slot} {S : List Value} {Post : Outcome → State → Prop} (h : At T m c below) (hx : p.tables.exec = Jvm.exec) {x y v : UInt64} {rest : List Value} (hd : decode c.code pc = .ok (.ddiv, 1)) (hs : S = .double y :: .double x :: rest) (hn : Jvm.Free.Fl.NoNaN64 (FP.ddiv x y)) (hv : FP.ddiv x y = v) (hr : own_Go p e below Post (T.setTop (mkF m (pc + 1) (Ls) (.double v :: rest)))) : own_Go p e below Post (T.setTop (mkF m pc Ls S)) := own_Go.of (fun t k => XS.ddivS h hx rfl hd hs hn hv k) hr
theorem own_x_dload {pc : Nat} {Ls : Array Slot} {S : List Value} {Post : Outcome → State → Prop} (h : At T m c below) (hx : p.tables.exec = Jvm.exec) {k : Nat} {v : UInt64} (hd : decode c.code pc = .ok (.dload k, 2)) (hl : Ls[k]? = some (.val (.double v))) (hr : own_Go p e below Post (T.setTop (mkF m (pc + 2) (Ls) (.double v :: S)))) : own_Go p e below Post (T.setTop (mkF m pc Ls S)) := own_Go.of (fun t k => XS.dload h hx rfl hd hl k) hr
theorem own_x_dloadN {pc : Nat} {Ls : Array Slot} {S : List Value} {Post : Outcome → State → Prop} (h : At T m c below) (hx : p.tables.exec = Jvm.exec) {k : Fin 4} {v : UInt64} (hd : decode c.code pc = .ok (.dload_n k, 1)) (hl : Ls[k.val]? = some (.val (.double v))) (hr : own_Go p e below Post (T.setTop (mkF m (pc + 1) (Ls) (.double v :: S)))) : own_Go p e below Post (T.setTop (mkF m pc Ls S)) := own_Go.of (fun t k => XS.dloadN h hx rfl hd hl k) hr
theorem own_x_dstore {pc : Nat} {Ls : Array Slot} {S : List Value} {Post : Outcome → State → Prop} (h : At T m c below) (hx : p.tables.exec = Jvm.exec) {k : Nat} {x : UInt64} {rest : List Value} {l' : Array Slot} (hd : decode c.code pc = .ok (.dstore k, 2)) (hs : S = .double x :: rest) (hl : storeLocals Ls k (.double x) = some l') (hr : own_Go p e below Post (T.setTop (mkF m (pc + 2) (l') (rest)))) : own_Go p e below Post (T.setTop (mkF m pc Ls S)) := own_Go.of (fun t k => XS.dstore h hx rfl hd hs hl k) hr
theorem own_x_dup {pc : Nat} {Ls : Array Slot} {S : List Value} {Post : Outcome → State → Prop} (h : At T m c below) (hx : p.tables.exec = Jvm.exec) {x : Value} {rest : List Value} (hd : decode c.code pc = .ok (.dup, 1)) (hs : S = x :: rest) (hc : x.category = 1) (hr : own_Go p e below Post (T.setTop (mkF m (pc + 1) (Ls) (x :: x :: rest)))) : own_Go p e below Post (T.setTop (mkF m pc Ls S)) := own_Go.of (fun t k => XS.dup h hx rfl hd hs hc k) hr
theorem own_x_goto {pc : Nat} {Ls : Array Slot} {S : List Value} {Post : Outcome → State → Prop} (h : At T m c below) (hx : p.tables.exec = Jvm.exec) {o : Int} {pc0 pc' : Nat} (hpc : pc = pc0) (hd : decode c.code pc = .ok (.goto o, 3)) (ho : 0 ≤ (pc0 : Int) + o) (hp : ((pc0 : Int) + o).toNat = pc') (hr : own_Go p e below Post (T.setTop (mkF m (pc') (Ls) (S)))) : own_Go p e below Post (T.setTop (mkF m pc Ls S)) := own_Go.of (fun t k => XS.goto h hx rfl hpc hd ho hp k) hr
theorem own_x_i2dS {pc : Nat} {Ls : Array Slot} {S : List Value} {Post : Outcome → State → Prop} (h : At T m c below) (hx : p.tables.exec = Jvm.exec) {x : Int32} {v : UInt64} {rest : List Value} (hd : decode c.code pc = .ok (.i2d, 1)) (hs : S = .int x :: rest) (hv : FP.i2d x = v) (hr : own_Go p e below Post (T.setTop (mkF m (pc + 1) (Ls) (.double v :: rest)))) : own_Go p e below Post (T.setTop (mkF m pc Ls S)) := own_Go.of (fun t k => XS.i2dS h hx rfl hd hs hv k) hr
theorem own_x_iadd {pc : Nat} {Ls : Array Slot} {S : List Value} {Post : Outcome → State → Prop} (h : At T m c below) (hx : p.tables.exec = Jvm.exec) {x y : Int32} {rest : List Value} (hd : decode c.code pc = .ok (.iadd, 1)) (hs : S = .int y :: .int x :: rest) (hr : own_Go p e below Post (T.setTop (mkF m (pc + 1) (Ls) (.int (x + y) :: rest)))) : own_Go p e below Post (T.setTop (mkF m pc Ls S)) := own_Go.of (fun t k => XS.iadd h hx rfl hd hs k) hr
theorem own_x_iand {pc : Nat} {Ls : Array Slot} {S : List Value} {Post : Outcome → State → Prop} (h : At T m c below) (hx : p.tables.exec = Jvm.exec) {x y : Int32} {rest : List Value} (hd : decode c.code pc = .ok (.iand, 1)) (hs : S = .int y :: .int x :: rest) (hr : own_Go p e below Post (T.setTop (mkF m (pc + 1) (Ls) (.int (x &&& y) :: rest)))) : own_Go p e below Post (T.setTop (mkF m pc Ls S)) := own_Go.of (fun t k => XS.iand h hx rfl hd hs k) hr
theorem own_x_icmpNo {pc : Nat} {Ls : Array Slot} {S : List Value} {Post : Outcome → State → Prop} (h : At T m c below) (hx : p.tables.exec = Jvm.exec) {cd : ClassFile.Cond} {o : Int} {x y : Int32} {rest : List Value} (hd : decode c.code pc = .ok (.if_icmp cd o, 3)) (hs : S = .int y :: .int x :: rest) (hc : if_icmp.holds cd x y = false) (hr : own_Go p e below Post (T.setTop (mkF m (pc + 3) (Ls) (rest)))) : own_Go p e below Post (T.setTop (mkF m pc Ls S)) := own_Go.of (fun t k => XS.icmpNo h hx rfl hd hs hc k) hr
theorem own_x_icmpYes {pc : Nat} {Ls : Array Slot} {S : List Value} {Post : Outcome → State → Prop} (h : At T m c below) (hx : p.tables.exec = Jvm.exec) {cd : ClassFile.Cond} {x y : Int32} {rest : List Value} {o : Int} {pc0 pc' : Nat} (hpc : pc = pc0) (hd : decode c.code pc = .ok (.if_icmp cd o, 3)) (hs : S = .int y :: .int x :: rest) (hc : if_icmp.holds cd x y = true) (ho : 0 ≤ (pc0 : Int) + o) (hp : ((pc0 : Int) + o).toNat = pc') (hr : own_Go p e below Post (T.setTop (mkF m (pc') (Ls) (rest)))) : own_Go p e below Post (T.setTop (mkF m pc Ls S)) := own_Go.of (fun t k => XS.icmpYes h hx rfl hpc hd hs hc ho hp k) hr
theorem own_x_iconst {pc : Nat} {Ls : Array Slot} {S : List Value} {Post : Outcome → State → Prop} (h : At T m c below) (hx : p.tables.exec = Jvm.exec) {i : Int} (hd : decode c.code pc = .ok (.iconst i, 1)) {z : Int32} (hz : (Int32.ofInt i) = z) (hr : own_Go p e below Post (T.setTop (mkF m (pc + 1) (Ls) (.int z :: S)))) : own_Go p e below Post (T.setTop (mkF m pc Ls S)) := by subst hz; exact own_Go.of (fun t k => XS.iconst h hx rfl hd k) hr
theorem own_x_ifNo {pc : Nat} {Ls : Array Slot} {S : List Value} {Post : Outcome → State → Prop} (h : At T m c below) (hx : p.tables.exec = Jvm.exec) {cd : ClassFile.Cond} {o : Int} {x : Int32} {rest : List Value} (hd : decode c.code pc = .ok (.ifCond cd o, 3)) (hs : S = .int x :: rest) (hc : ifCond.holds cd x = false) (hr : own_Go p e below Post (T.setTop (mkF m (pc + 3) (Ls) (rest)))) : own_Go p e below Post (T.setTop (mkF m pc Ls S)) := own_Go.of (fun t k => XS.ifNo h hx rfl hd hs hc k) hr
theorem own_x_ifYes {pc : Nat} {Ls : Array Slot} {S : List Value} {Post : Outcome → State → Prop} (h : At T m c below) (hx : p.tables.exec = Jvm.exec) {cd : ClassFile.Cond} {x : Int32} {rest : List Value} {o : Int} {pc0 pc' : Nat} (hpc : pc = pc0) (hd : decode c.code pc = .ok (.ifCond cd o, 3)) (hs : S = .int x :: rest) (hc : ifCond.holds cd x = true) (ho : 0 ≤ (pc0 : Int) + o) (hp : ((pc0 : Int) + o).toNat = pc') (hr : own_Go p e below Post (T.setTop (mkF m (pc') (Ls) (rest)))) : own_Go p e below Post (T.setTop (mkF m pc Ls S)) := own_Go.of (fun t k => XS.ifYes h hx rfl hpc hd hs hc ho hp k) hr
theorem own_x_iload {pc : Nat} {Ls : Array Slot} {S : List Value} {Post : Outcome → State → Prop} (h : At T m c below) (hx : p.tables.exec = Jvm.exec) {k : Nat} {v : Int32} (hd : decode c.code pc = .ok (.iload k, 2)) (hl : Ls[k]? = some (.val (.int v))) (hr : own_Go p e below Post (T.setTop (mkF m (pc + 2) (Ls) (.int v :: S)))) : own_Go p e below Post (T.setTop (mkF m pc Ls S)) := own_Go.of (fun t k => XS.iload h hx rfl hd hl k) hr
theorem own_x_iloadN {pc : Nat} {Ls : Array Slot} {S : List Value} {Post : Outcome → State → Prop} (h : At T m c below) (hx : p.tables.exec = Jvm.exec) {k : Fin 4} {v : Int32} (hd : decode c.code pc = .ok (.iload_n k, 1)) (hl : Ls[k.val]? = some (.val (.int v))) (hr : own_Go p e below Post (T.setTop (mkF m (pc + 1) (Ls) (.int v :: S)))) : own_Go p e below Post (T.setTop (mkF m pc Ls S)) := own_Go.of (fun t k => XS.iloadN h hx rfl hd hl k) hr
theorem own_x_imul {pc : Nat} {Ls : Array Slot} {S : List Value} {Post : Outcome → State → Prop} (h : At T m c below) (hx : p.tables.exec = Jvm.exec) {x y : Int32} {rest : List Value} (hd : decode c.code pc = .ok (.imul, 1)) (hs : S = .int y :: .int x :: rest) (hr : own_Go p e below Post (T.setTop (mkF m (pc + 1) (Ls) (.int (x * y) :: rest)))) : own_Go p e below Post (T.setTop (mkF m pc Ls S)) := own_Go.of (fun t k => XS.imul h hx rfl hd hs k) hr
theorem own_x_istore {pc : Nat} {Ls : Array Slot} {S : List Value} {Post : Outcome → State → Prop} (h : At T m c below) (hx : p.tables.exec = Jvm.exec) {k : Nat} {x : Int32} {rest : List Value} {l' : Array Slot} (hd : decode c.code pc = .ok (.istore k, 2)) (hs : S = .int x :: rest) (hl : storeLocals Ls k (.int x) = some l') (hr : own_Go p e below Post (T.setTop (mkF m (pc + 2) (l') (rest)))) : own_Go p e below Post (T.setTop (mkF m pc Ls S)) := own_Go.of (fun t k => XS.istore h hx rfl hd hs hl k) hr
theorem own_x_istoreN {pc : Nat} {Ls : Array Slot} {S : List Value} {Post : Outcome → State → Prop} (h : At T m c below) (hx : p.tables.exec = Jvm.exec) {k : Fin 4} {x : Int32} {rest : List Value} {l' : Array Slot} (hd : decode c.code pc = .ok (.istore_n k, 1)) (hs : S = .int x :: rest) (hl : storeLocals Ls k.val (.int x) = some l') (hr : own_Go p e below Post (T.setTop (mkF m (pc + 1) (l') (rest)))) : own_Go p e below Post (T.setTop (mkF m pc Ls S)) := own_Go.of (fun t k => XS.istoreN h hx rfl hd hs hl k) hr
theorem own_x_isub {pc : Nat} {Ls : Array Slot} {S : List Value} {Post : Outcome → State → Prop} (h : At T m c below) (hx : p.tables.exec = Jvm.exec) {x y : Int32} {rest : List Value} (hd : decode c.code pc = .ok (.isub, 1)) (hs : S = .int y :: .int x :: rest) (hr : own_Go p e below Post (T.setTop (mkF m (pc + 1) (Ls) (.int (x - y) :: rest)))) : own_Go p e below Post (T.setTop (mkF m pc Ls S)) := own_Go.of (fun t k => XS.isub h hx rfl hd hs k) hr
end OwnX
section OwnH
variable {p : Program} {l : Launch} {e : Env} {R : Room} {s : State} {m : MethodId} {args : Array Value} {below : List Frame} {meth : Method} {c : Code} {T : State} {locs : List Loc} {cells slots : Nat} {Z : State} {a0 : Array Value} {h : Heap} {Post : Outcome → State → Prop} {pc : Nat} {Ls : Array Slot} {S : List Value}
theorem own_h_getF (X : Stand p l e R s m args below meth c T locs cells slots) (hx : p.tables.exec = Jvm.exec) (hZ : Z.Warmed39 s.vm) {own R0 O n d host : String} {index : Nat} (hown : s.vm.findClass own = some m.cls) (w : (Cond.fieldLink own index R0 n d).before a0 Z = true ∨ (Cond.fieldLinkNest own index R0 n d host).before a0 Z = true) (via : Via Z R0 O n d) (eT : T.heap = h) {a : Addr} {v : Value} (F : Fld Z h a O n d v) {rest : List Value} (hs : S = .ref a :: rest) (hd : decode c.code pc = .ok (.getfield index, 3)) (k : ∀ T', Stand p l e R s m args below meth c T' locs cells slots → T'.heap = h → own_Go p e below Post (T'.setTop (mkF m (pc + 3) (Ls) (v :: rest)))) : own_Go p e below Post (T.setTop (mkF m pc Ls S)) := by
  obtain ⟨T', q0, q1, st⟩ := getF X hx hZ hown w via eT F (g := mkF m pc Ls S) rfl hs hd
  exact own_Go.of st (k T' @q0 @q1)
theorem own_h_initO (X : Stand p l e R s m args below meth c T locs cells slots) (hx : p.tables.exec = Jvm.exec) (hZ : Z.Warmed39 s.vm) {own : String} {idx : Nat} (hown : s.vm.findClass own = some m.cls) (w1 : (Cond.methodLink own idx Lib.objectInit).before a0 Z = true) (w2 : (Cond.instanceMethod Lib.objectInit).before a0 Z = true) (w3 : (Cond.code Lib.objectInit ⟨#[0xb1]⟩ 1 none).before a0 Z = true) (eT : T.heap = h) (hsize : Ls.size = c.maxLocals) {a : Addr} {rest : List Value} (hs : S = .ref a :: rest) (hd : decode c.code pc = .ok (.invokespecial idx, 3)) (hf : 1 ≤ R.frames) {W : Nat} (hW : 2 * (mkF m pc Ls S).monitorRoom + (rest.map fun v => v.category).sum ≤ W) (hl : W + 12 ≤ R.locals) (k : ∀ T', Stand p l e R s m args below meth c T' locs cells slots → T'.heap = h → own_Go p e below Post (T'.setTop (mkF m (pc + 3) (Ls) (rest)))) : own_Go p e below Post (T.setTop (mkF m pc Ls S)) := by
  obtain ⟨T', q0, q1, st⟩ := initO X hx hZ hown w1 w2 w3 eT (g := mkF m pc Ls S) rfl hsize hs hd hf hW hl
  exact own_Go.of st (k T' @q0 @q1)
theorem own_h_newO (X : Stand p l e R s m args below meth c T locs cells slots) (hx : p.tables.exec = Jvm.exec) (hZ : Z.Warmed39 s.vm) {own C : String} {index n : Nat} (hown : s.vm.findClass own = some m.cls) (w : (Cond.classLink own index C).before a0 Z = true) (wi : (Cond.instantiable C n).before a0 Z = true) (wz : (Cond.initialized C).before a0 Z = true) (eT : T.heap = h) (hd : decode c.code pc = .ok (.new index, 3)) (hc : cells + 1 ≤ R.cells) (hl : slots + n ≤ R.slots) (k : ∀ T' h' (x : Addr), x = h.size → Stand p l e R s m args below meth c T' locs (cells + 1) (slots + n) → T'.heap = h' → Ext h h' → Exa Z h' x C → (∀ {O nm d : String} {ty : FieldType}, Laid Z a0 C O nm d → parseFieldDescriptor d = some ty → Fld Z h' x O nm d (defaultValue ty)) → (∃ cell : Cell, h'[x]? = some cell ∧ cell.vm = .none ∧ cell.monitor = {}) → own_Go p e below Post (T'.setTop (mkF m (pc + 3) (Ls) (.ref x :: S)))) : own_Go p e below Post (T.setTop (mkF m pc Ls S)) := by
  obtain ⟨T', h', q0, q1, q2, q3, q4, q5, st⟩ := newO X hx hZ hown w wi wz eT (g := mkF m pc Ls S) rfl hd hc hl
  exact own_Go.of st (k T' h' _ rfl @q0 @q1 @q2 @q3 @q4 @q5)
theorem own_h_putF (X : Stand p l e R s m args below meth c T locs cells slots) (hx : p.tables.exec = Jvm.exec) (hZ : Z.Warmed39 s.vm) {own R0 O n d host C : String} {index kk : Nat} {ty : FieldType} (hown : s.vm.findClass own = some m.cls) (w : (Cond.fieldLink own index R0 n d).before a0 Z = true ∨ (Cond.fieldLinkNest own index R0 n d host).before a0 Z = true) (via : Via Z R0 O n d) (eT : T.heap = h) {a : Addr} {v old : Value} (F : Fld Z h a O n d old) (E : Exa Z h a C) (L : (Cond.lays C O n d).before a0 Z = true ∨ ((Cond.laysFinal C O n d).before a0 Z = true ∧ own = O ∧ meth.name = "<init>")) (wi : (Cond.instantiable C kk).before a0 Z = true) (hty : parseFieldDescriptor d = some ty) (hn : narrow ty v = v) (hf : fits ty v = true) {rest : List Value} (hs : S = v :: .ref a :: rest) (hd : decode c.code pc = .ok (.putfield index, 3)) (k : ∀ T' h', Stand p l e R s m args below meth c T' (locs ++ [⟨a, Jvm.RoadKit.slotOf Z O n d⟩]) cells slots → T'.heap = h' → Wr h h' a (Jvm.RoadKit.slotOf Z O n d) v → own_Go p e below Post (T'.setTop (mkF m (pc + 3) (Ls) (rest)))) : own_Go p e below Post (T.setTop (mkF m pc Ls S)) := by
  obtain ⟨T', h', q0, q1, q2, st⟩ := putF X hx hZ hown w via eT F E L wi hty hn hf (g := mkF m pc Ls S) rfl hs hd
  exact own_Go.of st (k T' h' @q0 @q1 @q2)
end OwnH
abbrev own_H (a0 : Array Value) (Z : State) : Prop := ∀ d ∈ tables_1, d.before a0 Z = true
theorem own_mem (i : Nat) {d : Jvm.Cond} (h : tables_1[i]? = some d) : d ∈ tables_1 := List.mem_of_getElem? h
theorem own_g {a0 : Array Value} {Z : State} (hw : own_H a0 Z) (i : Nat) {d : Jvm.Cond} (h : tables_1[i]? = some d) : d.before a0 Z = true := hw _ (List.mem_of_getElem? h)
section OwnW
variable {a0 : Array Value} {Z : State}
theorem own_w0 (hw : own_H a0 Z) : (Jvm.Cond.constant "com/example/resemblance/resemblance/NidfWindowIsAbovePinLaw" (7 : Nat) (2147483647 : Int32)).before a0 Z = true := hw _ (own_mem 0 rfl)
theorem own_w1 (hw : own_H a0 Z) : (Jvm.Cond.constantDouble "com/example/resemblance/resemblance/NidfWindowIsAbovePinLaw" (8 : Nat) (4625196817309499392 : UInt64)).before a0 Z = true := hw _ (own_mem 1 rfl)
theorem own_w2 (hw : own_H a0 Z) : (Jvm.Cond.constantDouble "com/example/resemblance/resemblance/NidfWindowIsAbovePinLaw" (10 : Nat) (4634204016564240384 : UInt64)).before a0 Z = true := hw _ (own_mem 2 rfl)
theorem own_w3 (hw : own_H a0 Z) : (Jvm.Cond.classLink "com/example/resemblance/resemblance/NidfWindowIsAbovePinLaw" (12 : Nat) "com/example/resemblance/resemblance/NidfWindow").before a0 Z = true := hw _ (own_mem 3 rfl)
theorem own_w4 (hw : own_H a0 Z) : (Jvm.Cond.instantiable "com/example/resemblance/resemblance/NidfWindow" (2 : Nat)).before a0 Z = true := hw _ (own_mem 4 rfl)
theorem own_w5 (hw : own_H a0 Z) : (Jvm.Cond.initialized "com/example/resemblance/resemblance/NidfWindow").before a0 Z = true := hw _ (own_mem 5 rfl)
theorem own_w6 (hw : own_H a0 Z) : (Jvm.Cond.methodLink "com/example/resemblance/resemblance/NidfWindowIsAbovePinLaw" (14 : Nat) ({ cls := "com/example/resemblance/resemblance/NidfWindow", name := "<init>", desc := "(DD)V" } : Jvm.MethodName)).before a0 Z = true := hw _ (own_mem 6 rfl)
theorem own_w7 (hw : own_H a0 Z) : (Jvm.Cond.instanceMethod ({ cls := "com/example/resemblance/resemblance/NidfWindow", name := "<init>", desc := "(DD)V" } : Jvm.MethodName)).before a0 Z = true := hw _ (own_mem 7 rfl)
theorem own_w8 (hw : own_H a0 Z) : (Jvm.Cond.code ({ cls := "com/example/resemblance/resemblance/NidfWindow", name := "<init>", desc := "(DD)V" } : Jvm.MethodName) prog_18_method_1_code (5 : Nat) (Option.none : Option Jvm.ClassFile.FieldType)).before a0 Z = true := hw _ (own_mem 8 rfl)
theorem own_w9 (hw : own_H a0 Z) : (Jvm.Cond.methodLink "com/example/resemblance/resemblance/NidfWindow" (1 : Nat) ({ cls := "java/lang/Object", name := "<init>", desc := "()V" } : Jvm.MethodName)).before a0 Z = true := hw _ (own_mem 9 rfl)
theorem own_w10 (hw : own_H a0 Z) : (Jvm.Cond.instanceMethod ({ cls := "java/lang/Object", name := "<init>", desc := "()V" } : Jvm.MethodName)).before a0 Z = true := hw _ (own_mem 10 rfl)
theorem own_w11 (hw : own_H a0 Z) : (Jvm.Cond.code ({ cls := "java/lang/Object", name := "<init>", desc := "()V" } : Jvm.MethodName) object_method_1_code (1 : Nat) (Option.none : Option Jvm.ClassFile.FieldType)).before a0 Z = true := hw _ (own_mem 11 rfl)
theorem own_w12 (hw : own_H a0 Z) : (Jvm.Cond.fieldLink "com/example/resemblance/resemblance/NidfWindow" (16 : Nat) "com/example/resemblance/resemblance/NidfWindow" "low" "D").before a0 Z = true := hw _ (own_mem 12 rfl)
theorem own_w13 (hw : own_H a0 Z) : (Jvm.Cond.laysFinal "com/example/resemblance/resemblance/NidfWindow" "com/example/resemblance/resemblance/NidfWindow" "low" "D").before a0 Z = true := hw _ (own_mem 13 rfl)
theorem own_w14 (hw : own_H a0 Z) : (Jvm.Cond.fieldLink "com/example/resemblance/resemblance/NidfWindow" (22 : Nat) "com/example/resemblance/resemblance/NidfWindow" "high" "D").before a0 Z = true := hw _ (own_mem 14 rfl)
theorem own_w15 (hw : own_H a0 Z) : (Jvm.Cond.laysFinal "com/example/resemblance/resemblance/NidfWindow" "com/example/resemblance/resemblance/NidfWindow" "high" "D").before a0 Z = true := hw _ (own_mem 15 rfl)
theorem own_w16 (hw : own_H a0 Z) : (Jvm.Cond.methodLink "com/example/resemblance/resemblance/NidfWindowIsAbovePinLaw" (17 : Nat) ({ cls := "com/example/resemblance/resemblance/NidfWindow", name := "isAbove", desc := "(D)Z" } : Jvm.MethodName)).before a0 Z = true := hw _ (own_mem 16 rfl)
theorem own_w17 (hw : own_H a0 Z) : (Jvm.Cond.declares ({ cls := "com/example/resemblance/resemblance/NidfWindow", name := "isAbove", desc := "(D)Z" } : Jvm.MethodName)).before a0 Z = true := hw _ (own_mem 17 rfl)
theorem own_w18 (hw : own_H a0 Z) : (Jvm.Cond.instanceMethod ({ cls := "com/example/resemblance/resemblance/NidfWindow", name := "isAbove", desc := "(D)Z" } : Jvm.MethodName)).before a0 Z = true := hw _ (own_mem 18 rfl)
theorem own_w19 (hw : own_H a0 Z) : (Jvm.Cond.selects "com/example/resemblance/resemblance/NidfWindow" ({ cls := "com/example/resemblance/resemblance/NidfWindow", name := "isAbove", desc := "(D)Z" } : Jvm.MethodName) ({ cls := "com/example/resemblance/resemblance/NidfWindow", name := "isAbove", desc := "(D)Z" } : Jvm.MethodName)).before a0 Z = true := hw _ (own_mem 19 rfl)
theorem own_w20 (hw : own_H a0 Z) : (Jvm.Cond.code ({ cls := "com/example/resemblance/resemblance/NidfWindow", name := "isAbove", desc := "(D)Z" } : Jvm.MethodName) prog_18_method_3_code (3 : Nat) (Option.some Jvm.ClassFile.FieldType.boolean)).before a0 Z = true := hw _ (own_mem 20 rfl)
end OwnW
open Jvm.Free.Fl
def own_q16 : UInt64 := 4625196817309499392
def own_q64 : UInt64 := 4634204016564240384
theorem own_q16_fin : Fin64 own_q16 := by unfold Fin64 own_q16; decide
theorem own_q16_nz : Nz64 own_q16 := by unfold Nz64 own_q16; decide
theorem own_q64_fin : Fin64 own_q64 := by unfold Fin64 own_q64; decide
theorem own_q64_nz : Nz64 own_q64 := by unfold Nz64 own_q64; decide
theorem own_nn16 (n : Int32) : NoNaN64 (FP.ddiv (FP.i2d n) (4625196817309499392 : UInt64)) := ddiv_out (i2d_fin n).noNaN own_q16_fin own_q16_nz
theorem own_nn64 (n : Int32) : NoNaN64 (FP.ddiv (FP.i2d n) (4634204016564240384 : UInt64)) := ddiv_out (i2d_fin n).noNaN own_q64_fin own_q64_nz
/-- the finite grid, reckoned -/
def own_b (b : Bool) : Int32 := if b then 0 else 1
def own_lo (i : Nat) : UInt64 := FP.ddiv (FP.i2d (Int32.ofNat i)) 4625196817309499392
def own_nd (k : Nat) : UInt64 := FP.ddiv (FP.i2d (Int32.ofInt ((k : Int) - 100))) 4634204016564240384
set_option maxRecDepth 65536 in
theorem own_g1 : ∀ i : Fin 17, ifCond.holds .gt (cmpValue (FP.dcmp FP.dconst0 (own_lo i.1)) .g) = false := by decide +kernel
set_option maxRecDepth 65536 in
theorem own_g2 : ∀ i j : Fin 17, i.1 ≤ j.1 → ifCond.holds .gt (cmpValue (FP.dcmp (own_lo i.1) (own_lo j.1)) .g) = false := by decide +kernel
set_option maxRecDepth 65536 in
theorem own_g3 : ∀ i : Fin 17, ifCond.holds .le (cmpValue (FP.dcmp (own_lo i.1) FP.dconst1) .g) = true := by decide +kernel
set_option maxRecDepth 65536 in
theorem own_g4 : ∀ (k : Fin 201) (j : Fin 17), ifCond.holds .le (cmpValue (FP.dcmp (own_nd k.1) (own_lo j.1)) .l) = if_icmp.holds .le (Int32.ofInt ((k.1 : Int) - 100)) ((4 : Int32) * Int32.ofNat j.1) := by decide +kernel
theorem own_ofInt {x : Int32} {z : Int} (h : x.toInt = z) : x = Int32.ofInt z := by rw [← h, Int32.ofInt_toInt]
theorem own_l (a : Int32) : ∃ i : Fin 17, (a &&& (2147483647 : Int32)) % (17 : Int32) = Int32.ofNat i.1 := by
  have h1 := c_and a (2147483647 : Int32) (by decide)
  have h2 := (c_irem (a &&& (2147483647 : Int32)) (17 : Int32) 17 (by decide)).1 h1.1
  refine ⟨⟨((a &&& (2147483647 : Int32)).toInt % 17).toNat, by omega⟩, ?_⟩
  rw [own_ofInt h2]
  show _ = Int32.ofInt ((((a &&& (2147483647 : Int32)).toInt % 17).toNat : Nat) : Int)
  congr 1; omega
theorem own_h (b : Int32) (i : Fin 17) : ∃ j : Fin 17, i.1 ≤ j.1 ∧ Int32.ofNat i.1 + (b &&& (2147483647 : Int32)) % ((17 : Int32) - Int32.ofNat i.1) = Int32.ofNat j.1 := by
  have h1 := c_and b (2147483647 : Int32) (by decide)
  have hi := i.2
  have ei : (Int32.ofNat i.1).toInt = i.1 := Int32.toInt_ofNat_of_lt (by omega)
  have e17 : ((17 : Int32) - Int32.ofNat i.1).toInt = 17 - (i.1 : Int) := by
    have q := c_isub (17 : Int32) (Int32.ofNat i.1); have r := rng32 ((17 : Int32) - Int32.ofNat i.1)
    rw [ei] at q; have : ((17 : Int32)).toInt = 17 := by decide
    omega
  have h2 := ((c_iremV (b &&& (2147483647 : Int32)) ((17 : Int32) - Int32.ofNat i.1)).1 h1.1 (by omega))
  have q := c_iadd (Int32.ofNat i.1) ((b &&& (2147483647 : Int32)) % ((17 : Int32) - Int32.ofNat i.1))
  have r := rng32 (Int32.ofNat i.1 + (b &&& (2147483647 : Int32)) % ((17 : Int32) - Int32.ofNat i.1))
  generalize hm : ((b &&& (2147483647 : Int32)) % ((17 : Int32) - Int32.ofNat i.1)).toInt = m at *
  have e : (Int32.ofNat i.1 + (b &&& (2147483647 : Int32)) % ((17 : Int32) - Int32.ofNat i.1)).toInt = ((i.1 + m.toNat : Nat) : Int) := by omega
  refine ⟨⟨i.1 + m.toNat, by omega⟩, by show i.1 ≤ i.1 + m.toNat; omega, ?_⟩
  rw [own_ofInt e]; rfl
theorem own_n (c : Int32) : ∃ k : Fin 201, c % (101 : Int32) = Int32.ofInt ((k.1 : Int) - 100) := by
  have h := c_irem c (101 : Int32) 101 (by decide)
  have e : -100 ≤ (c % (101 : Int32)).toInt ∧ (c % (101 : Int32)).toInt ≤ 100 := by
    rcases Int.lt_or_le c.toInt 0 with q | q
    · have := h.2 q; omega
    · have := h.1 q; omega
  refine ⟨⟨((c % (101 : Int32)).toInt + 100).toNat, by omega⟩, ?_⟩
  refine own_ofInt ?_
  show (c % (101 : Int32)).toInt = ((((c % (101 : Int32)).toInt + 100).toNat : Nat) : Int) - 100
  omega
theorem own_nz (i : Fin 17) : (17 : Int32) - Int32.ofNat i.1 ≠ 0 := by revert i; decide +kernel
theorem own_d3_0 : decode prog_18_method_3_code 0 = .ok (.dload_n 1, 1) := by decide +kernel
theorem own_d3_1 : decode prog_18_method_3_code 1 = .ok (.aload_n 0, 1) := by decide +kernel
theorem own_d3_2 : decode prog_18_method_3_code 2 = .ok (.getfield 22, 3) := by decide +kernel
theorem own_d3_5 : decode prog_18_method_3_code 5 = .ok (.dcmp .l, 1) := by decide +kernel
theorem own_d3_6 : decode prog_18_method_3_code 6 = .ok (.ifCond .le 7, 3) := by decide +kernel
theorem own_d3_9 : decode prog_18_method_3_code 9 = .ok (.iconst 1, 1) := by decide +kernel
theorem own_d3_10 : decode prog_18_method_3_code 10 = .ok (.goto 4, 3) := by decide +kernel
theorem own_d3_14 : decode prog_18_method_3_code 14 = .ok (.ireturn, 1) := by decide +kernel
theorem own_d3_13 : decode prog_18_method_3_code 13 = .ok (.iconst 0, 1) := by decide +kernel
theorem own_pn_com_example_resemblance_resemblance_NidfWindow : plainName "com/example/resemblance/resemblance/NidfWindow" = true := by first | (simp [plainName, overriddenIn]; done) | decide +kernel
theorem own_ef_RD_3 (m : MethodId) (x0 : Addr) (x1 : UInt64) : entryFrame m #[(.ref x0), (.double x1)] 3 = mkF m 0 #[.val (.ref x0), .val (.double x1), .second] [] := by first | (simp [entryFrame, mkF, argsToLocals, Value.category]; done) | rfl
def Q3 (Z : State) (a1 : Addr) (d : UInt64) (hi : UInt64) (b : Bool) (h0 : Heap) (n0 : Nat) (v : Option Value) (h : Heap) (L : List Loc) : Prop := v = some (.int (own_b b)) ∧ Fr n0 L ∧ h = h0
set_option maxRecDepth 65536 in
set_option maxHeartbeats 40000000 in
theorem rm3 (l : Launch) (Z : State) (a0 : Array Value) (hw : own_H a0 Z) (ws : List Jvm.Cond) (a1 : Addr) (d : UInt64) (hi : UInt64) (b : Bool) (h0 : Heap) (n0 : Nat) (Z0 : n0 ≤ h0.size) (F1 : Fld Z h0 a1 "com/example/resemblance/resemblance/NidfWindow" "high" "D" (.double hi)) (hc : ifCond.holds .le (cmpValue (FP.dcmp d hi) .l) = b) : own_MP l (⟨"com/example/resemblance/resemblance/NidfWindow", "isAbove", "(D)Z"⟩ : MethodName) prog_18_method_3_code 3 (some .boolean) ws ({ frames := 0, cells := 0, slots := 0, locals := 0 } : Room) Z h0 #[(.ref a1), (.double d)] (fun _ _ _ _ _ => True) (Q3 Z a1 d hi b h0 n0) := by
  refine own_startP (plainFor_of_name own_pn_com_example_resemblance_resemblance_NidfWindow) fun p e s m below meth c s₁ Bd hx hby hml hown0 X0 e0 hh0 hZ hK Pst hPst => ?_
  have hown : s.vm.findClass "com/example/resemblance/resemblance/NidfWindow" = some m.cls := hown0
  have hnm := (name_of_methodNamed Bd.named Bd.method).1
  have N0 := Fr.nil n0
  rw [own_ef_RD_3 m a1 d]
  refine own_x_dloadN X0.here hx (hb hby own_d3_0) rfl ?_
  refine own_x_aloadN X0.here hx (hb hby own_d3_1) rfl rfl ?_
  refine own_h_getF X0 hx hZ hown (host := "") (Or.inl (own_w14 hw)) Via.refl e0 F1 rfl (hb hby own_d3_2) fun T101 X101 e101 => ?_
  refine own_x_dcmpS X101.here hx (hb hby own_d3_5) rfl rfl ?_
  cases b
  · refine own_x_ifNo X101.here hx (hb hby own_d3_6) rfl hc ?_
    refine own_x_iconst X101.here hx (hb hby own_d3_9) (z := (1 : Int32)) rfl ?_
    refine own_x_goto X101.here hx (pc0 := 10) (pc' := 14) rfl (hb hby own_d3_10) (by decide) (by decide) ?_
    rw [hPst]
    exact own_retP X101 (v := (some (.int (nar .boolean (1 : Int32))))) (Q := Q3 Z a1 d hi false h0 n0) (fun h => by rw [Bd.returns] at h; cases h) Bd.notSynchronized (fun fs hr => retN X101 hx (t := .boolean) Bd.returns (by simp) (hb hby own_d3_14) hr) (by decide) (by decide) (by rw [e101]; exact ⟨rfl, N0, rfl⟩)
  · refine own_x_ifYes X101.here hx (pc0 := 6) (pc' := 13) rfl (hb hby own_d3_6) rfl hc (by decide) (by decide) ?_
    refine own_x_iconst X101.here hx (hb hby own_d3_13) (z := (0 : Int32)) rfl ?_
    rw [hPst]
    exact own_retP X101 (v := (some (.int (nar .boolean (0 : Int32))))) (Q := Q3 Z a1 d hi true h0 n0) (fun h => by rw [Bd.returns] at h; cases h) Bd.notSynchronized (fun fs hr => retN X101 hx (t := .boolean) Bd.returns (by simp) (hb hby own_d3_14) hr) (by decide) (by decide) (by rw [e101]; exact ⟨rfl, N0, rfl⟩)
theorem own_d1_0 : decode prog_18_method_1_code 0 = .ok (.aload_n 0, 1) := by decide +kernel
theorem own_d1_1 : decode prog_18_method_1_code 1 = .ok (.invokespecial 1, 3) := by decide +kernel
theorem own_d1_4 : decode prog_18_method_1_code 4 = .ok (.dconst 0, 1) := by decide +kernel
theorem own_d1_5 : decode prog_18_method_1_code 5 = .ok (.dload_n 1, 1) := by decide +kernel
theorem own_d1_6 : decode prog_18_method_1_code 6 = .ok (.dcmp .g, 1) := by decide +kernel
theorem own_d1_7 : decode prog_18_method_1_code 7 = .ok (.ifCond .gt 15, 3) := by decide +kernel
theorem own_d1_10 : decode prog_18_method_1_code 10 = .ok (.dload_n 1, 1) := by decide +kernel
theorem own_d1_11 : decode prog_18_method_1_code 11 = .ok (.dload_n 3, 1) := by decide +kernel
theorem own_d1_12 : decode prog_18_method_1_code 12 = .ok (.dcmp .g, 1) := by decide +kernel
theorem own_d1_13 : decode prog_18_method_1_code 13 = .ok (.ifCond .gt 9, 3) := by decide +kernel
theorem own_d1_16 : decode prog_18_method_1_code 16 = .ok (.dload_n 3, 1) := by decide +kernel
theorem own_d1_17 : decode prog_18_method_1_code 17 = .ok (.dconst 1, 1) := by decide +kernel
theorem own_d1_18 : decode prog_18_method_1_code 18 = .ok (.dcmp .g, 1) := by decide +kernel
theorem own_d1_19 : decode prog_18_method_1_code 19 = .ok (.ifCond .le 18, 3) := by decide +kernel
theorem own_d1_37 : decode prog_18_method_1_code 37 = .ok (.aload_n 0, 1) := by decide +kernel
theorem own_d1_38 : decode prog_18_method_1_code 38 = .ok (.dload_n 1, 1) := by decide +kernel
theorem own_d1_39 : decode prog_18_method_1_code 39 = .ok (.putfield 16, 3) := by decide +kernel
theorem own_d1_42 : decode prog_18_method_1_code 42 = .ok (.aload_n 0, 1) := by decide +kernel
theorem own_d1_43 : decode prog_18_method_1_code 43 = .ok (.dload_n 3, 1) := by decide +kernel
theorem own_d1_44 : decode prog_18_method_1_code 44 = .ok (.putfield 22, 3) := by decide +kernel
theorem own_d1_47 : decode prog_18_method_1_code 47 = .ok (.return_, 1) := by decide +kernel
theorem own_ef_RDD_5 (m : MethodId) (x0 : Addr) (x1 : UInt64) (x2 : UInt64) : entryFrame m #[(.ref x0), (.double x1), (.double x2)] 5 = mkF m 0 #[.val (.ref x0), .val (.double x1), .second, .val (.double x2), .second] [] := by first | (simp [entryFrame, mkF, argsToLocals, Value.category]; done) | rfl
def Q1 (Z : State) (a1 : Addr) (lo : UInt64) (hi : UInt64) (u1 u2 : Value) (h0 : Heap) (n0 : Nat) (v : Option Value) (h : Heap) (L : List Loc) : Prop := v = none ∧ Fr n0 L ∧ Keep h0 h [a1] ∧ Fld Z h a1 "com/example/resemblance/resemblance/NidfWindow" "high" "D" (.double hi)
set_option maxRecDepth 65536 in
set_option maxHeartbeats 40000000 in
theorem rm1 (l : Launch) (Z : State) (a0 : Array Value) (hw : own_H a0 Z) (ws : List Jvm.Cond) (a1 : Addr) (lo : UInt64) (hi : UInt64) (u1 u2 : Value) (h0 : Heap) (n0 : Nat) (Z0 : n0 ≤ h0.size) (E1 : Exa Z h0 a1 "com/example/resemblance/resemblance/NidfWindow") (F1 : Fld Z h0 a1 "com/example/resemblance/resemblance/NidfWindow" "low" "D" u1) (F2 : Fld Z h0 a1 "com/example/resemblance/resemblance/NidfWindow" "high" "D" u2) (g1 : n0 ≤ a1) (c1 : ifCond.holds .gt (cmpValue (FP.dcmp FP.dconst0 lo) .g) = false) (c2 : ifCond.holds .gt (cmpValue (FP.dcmp lo hi) .g) = false) (c3 : ifCond.holds .le (cmpValue (FP.dcmp hi FP.dconst1) .g) = true) : own_MP l (⟨"com/example/resemblance/resemblance/NidfWindow", "<init>", "(DD)V"⟩ : MethodName) prog_18_method_1_code 5 none ws ({ frames := 1, cells := 0, slots := 0, locals := 12 } : Room) Z h0 #[(.ref a1), (.double lo), (.double hi)] (fun _ _ _ _ _ => True) (Q1 Z a1 lo hi u1 u2 h0 n0) := by
  refine own_startP (plainFor_of_name own_pn_com_example_resemblance_resemblance_NidfWindow) fun p e s m below meth c s₁ Bd hx hby hml hown0 X0 e0 hh0 hZ hK Pst hPst => ?_
  have hown : s.vm.findClass "com/example/resemblance/resemblance/NidfWindow" = some m.cls := hown0
  have hnm := (name_of_methodNamed Bd.named Bd.method).1
  have N0 := Fr.nil n0
  rw [own_ef_RDD_5 m a1 lo hi]
  refine own_x_aloadN X0.here hx (hb hby own_d1_0) rfl rfl ?_
  refine own_h_initO X0 hx hZ hown (own_w9 hw) (own_w10 hw) (own_w11 hw) e0 (by rw [hml]; rfl) rfl (hb hby own_d1_1) (by decide) (W := 0) (by show 2 * 0 + _ ≤ _; exact Nat.le_of_eq rfl) (by decide) fun T101 X101 e101 => ?_
  refine own_x_dconst0 X101.here hx (hb hby own_d1_4) rfl ?_
  refine own_x_dloadN X101.here hx (hb hby own_d1_5) rfl ?_
  refine own_x_dcmpS X101.here hx (hb hby own_d1_6) rfl rfl ?_
  refine own_x_ifNo X101.here hx (hb hby own_d1_7) rfl c1 ?_
  refine own_x_dloadN X101.here hx (hb hby own_d1_10) rfl ?_
  refine own_x_dloadN X101.here hx (hb hby own_d1_11) rfl ?_
  refine own_x_dcmpS X101.here hx (hb hby own_d1_12) rfl rfl ?_
  refine own_x_ifNo X101.here hx (hb hby own_d1_13) rfl c2 ?_
  refine own_x_dloadN X101.here hx (hb hby own_d1_16) rfl ?_
  refine own_x_dconst1 X101.here hx (hb hby own_d1_17) rfl ?_
  refine own_x_dcmpS X101.here hx (hb hby own_d1_18) rfl rfl ?_
  refine own_x_ifYes X101.here hx (pc0 := 19) (pc' := 37) rfl (hb hby own_d1_19) rfl c3 (by decide) (by decide) ?_
  refine own_x_aloadN X101.here hx (hb hby own_d1_37) rfl rfl ?_
  refine own_x_dloadN X101.here hx (hb hby own_d1_38) rfl ?_
  refine own_h_putF X101 hx hZ hown (host := "") (Or.inl (own_w12 hw)) Via.refl e101 F1 E1 (Or.inr ⟨(own_w13 hw), rfl, hnm⟩) (own_w4 hw) (ty := .double) (by decide) rfl rfl rfl (hb hby own_d1_39) fun T102 h102 X102 e102 W102 => ?_
  have Fw102 := Fld.same W102 F1
  have N102 := Fr.snoc X102 N0 g1
  refine own_x_aloadN X102.here hx (hb hby own_d1_42) rfl rfl ?_
  refine own_x_dloadN X102.here hx (hb hby own_d1_43) rfl ?_
  have c103 := (E1.wr W102)
  have c104 := (F2.other W102 (Or.inr (slot_ne (Or.inr (own_w15 hw)) (Or.inr (own_w13 hw)) (by decide) (t := .double) (t' := .double) (by decide) (by decide))))
  refine own_h_putF X102 hx hZ hown (host := "") (Or.inl (own_w14 hw)) Via.refl e102 c104 c103 (Or.inr ⟨(own_w15 hw), rfl, hnm⟩) (own_w4 hw) (ty := .double) (by decide) rfl rfl rfl (hb hby own_d1_44) fun T105 h105 X105 e105 W105 => ?_
  have Fw105 := Fld.same W105 c104
  have N105 := Fr.snoc X105 N102 g1
  have c106 := (((Keep.refl h0 [a1]).wr W102 (Or.inl (List.mem_of_getElem? (i := 0) rfl))).wr W105 (Or.inl (List.mem_of_getElem? (i := 0) rfl)))
  rw [hPst]
  exact own_retP X105 (v := none) (Q := Q1 Z a1 lo hi u1 u2 h0 n0) (fun _ => rfl) Bd.notSynchronized (fun fs hr => X105.returnOut hx Bd.returns (hb hby own_d1_47) hr) (by decide) (by decide) (by rw [e105]; exact ⟨rfl, N105, c106, Fw105⟩)
theorem own_pd0 : parseMethodDescriptor "(DD)V" = some ⟨[.double, .double], none⟩ := by decide +kernel
theorem own_pd1 : parseMethodDescriptor "(D)Z" = some ⟨[.double], some .boolean⟩ := by decide +kernel
theorem own_pn_com_example_resemblance_resemblance_NidfWindowIsAbovePinLaw : plainName "com/example/resemblance/resemblance/NidfWindowIsAbovePinLaw" = true := by first | (simp [plainName, overriddenIn]; done) | decide +kernel
theorem own_ef_III_maxLocals (m : MethodId) (x0 : Int32) (x1 : Int32) (x2 : Int32) : entryFrame m #[(.int x0), (.int x1), (.int x2)] maxLocals = mkF m 0 #[.val (.int x0), .val (.int x1), .val (.int x2), .unset, .unset, .unset, .unset, .unset, .unset, .unset, .unset, .unset, .unset, .unset] [] := by first | (simp [entryFrame, mkF, argsToLocals, Value.category, maxLocals]; done) | rfl
def Q0 (Z : State) (p1 p2 p3 : Int32) (i j : Fin 17) (k : Fin 201) (h0 : Heap) (n0 : Nat) (v : Option Value) (h : Heap) (L : List Loc) : Prop := v = some (.int 1) ∧ Fr n0 L
set_option maxRecDepth 65536 in
set_option maxHeartbeats 40000000 in
theorem rm0 (l : Launch) (Z : State) (a0 : Array Value) (hw : own_H a0 Z) (ws : List Jvm.Cond) (p1 p2 p3 : Int32) (i j : Fin 17) (k : Fin 201) (h0 : Heap) (n0 : Nat) (Z0 : n0 ≤ h0.size) (hl : (p1 &&& (2147483647 : Int32)) % (17 : Int32) = Int32.ofNat i.1) (hh : Int32.ofNat i.1 + (p2 &&& (2147483647 : Int32)) % ((17 : Int32) - Int32.ofNat i.1) = Int32.ofNat j.1) (hn : p3 % (101 : Int32) = Int32.ofInt ((k.1 : Int) - 100)) (hij : i.1 ≤ j.1) :
    MetFree l x (head1 (Jvm.Cond.code x code maxLocals ret :: ws) room_1) (fun a U => a = #[(.int p1), (.int p2), (.int p3)] ∧ Z.Warmed39 U.vm ∧ U.heap = h0) (fun _ _ _ _ _ => True) (fun _ U o U' => ∃ v L, o = .returned v ∧ Q0 Z p1 p2 p3 i j k h0 n0 v U'.heap L ∧ FrameEnd U o U' L 16 128) := by
  refine MetFree.of_bodySF (plainFor_of_name own_pn_com_example_resemblance_resemblance_NidfWindowIsAbovePinLaw) hisR ?_
  intro p e s m args below meth c s₁ Bd hml0 hP hK
  obtain ⟨rfl, hZ, hh0⟩ := hP
  have hx := Bd.exec
  have hby := Bd.bytes
  have hml : c.maxLocals = 14 := hml0
  have hown : s.vm.findClass "com/example/resemblance/resemblance/NidfWindowIsAbovePinLaw" = some m.cls := findClass_of_methodNamed Bd.named
  have hnm := (name_of_methodNamed Bd.named Bd.method).1
  have X0 : Stand p l e room_1 s m #[(.int p1), (.int p2), (.int p3)] below meth c s₁ [] 0 0 := Stand.of_body Bd
  have e0 : s₁.heap = h0 := by rw [← hh0, Bd.state]; rfl
  have N0 := Fr.nil n0
  obtain ⟨Pst, hPst⟩ : ∃ P : Outcome → State → Prop, P = (fun o U' => ∃ v L, o = .returned v ∧ Q0 Z p1 p2 p3 i j k h0 n0 v U'.heap L ∧ FrameEnd s o U' L 16 128) := ⟨_, rfl⟩
  suffices hgo : own_Go p e below Pst (s₁.setTop (entryFrame m #[(.int p1), (.int p2), (.int p3)] maxLocals)) by rw [hPst] at hgo; exact hgo
  rw [own_ef_III_maxLocals m p1 p2 p3]
  refine own_x_iloadN X0.here hx (hb hby at_0) rfl ?_
  refine own_Go.of (S' := s₁.setTop (mkF m 3 #[.val (.int p1), .val (.int p2), .val (.int p3), .unset, .unset, .unset, .unset, .unset, .unset, .unset, .unset, .unset, .unset, .unset] [(.int (2147483647 : Int32)), (.int p1)])) (fun tgt kst => X0.ldcInt hx hown (mvT hZ (own_w0 hw)) (g := (mkF m 1 #[.val (.int p1), .val (.int p2), .val (.int p3), .unset, .unset, .unset, .unset, .unset, .unset, .unset, .unset, .unset, .unset, .unset] [(.int p1)])) rfl (hb hby at_1) _ kst) ?_
  refine own_x_iand X0.here hx (hb hby at_3) rfl ?_
  refine own_x_bipush X0.here hx (hb hby at_4) (z := (17 : Int32)) rfl ?_
  refine own_Go.of (S' := s₁.setTop (mkF m 7 #[.val (.int p1), .val (.int p2), .val (.int p3), .unset, .unset, .unset, .unset, .unset, .unset, .unset, .unset, .unset, .unset, .unset] [(.int ((p1 &&& (2147483647 : Int32)) % (17 : Int32)))])) (fun tgt kst => iremM X0 hx rfl (hb hby at_6) rfl (by decide) kst) ?_
  rw [hl]
  show own_Go p e below Pst (s₁.setTop (mkF m 7 #[.val (.int p1), .val (.int p2), .val (.int p3), .unset, .unset, .unset, .unset, .unset, .unset, .unset, .unset, .unset, .unset, .unset] [(.int (Int32.ofNat i.1))]))
  refine own_x_istoreN X0.here hx (hb hby at_7) rfl (l' := #[.val (.int p1), .val (.int p2), .val (.int p3), .val (.int (Int32.ofNat i.1)), .unset, .unset, .unset, .unset, .unset, .unset, .unset, .unset, .unset, .unset]) rfl ?_
  refine own_x_iloadN X0.here hx (hb hby at_8) rfl ?_
  refine own_x_iloadN X0.here hx (hb hby at_9) rfl ?_
  refine own_Go.of (S' := s₁.setTop (mkF m 12 #[.val (.int p1), .val (.int p2), .val (.int p3), .val (.int (Int32.ofNat i.1)), .unset, .unset, .unset, .unset, .unset, .unset, .unset, .unset, .unset, .unset] [(.int (2147483647 : Int32)), (.int p2), (.int (Int32.ofNat i.1))])) (fun tgt kst => X0.ldcInt hx hown (mvT hZ (own_w0 hw)) (g := (mkF m 10 #[.val (.int p1), .val (.int p2), .val (.int p3), .val (.int (Int32.ofNat i.1)), .unset, .unset, .unset, .unset, .unset, .unset, .unset, .unset, .unset, .unset] [(.int p2), (.int (Int32.ofNat i.1))])) rfl (hb hby at_10) _ kst) ?_
  refine own_x_iand X0.here hx (hb hby at_12) rfl ?_
  refine own_x_bipush X0.here hx (hb hby at_13) (z := (17 : Int32)) rfl ?_
  refine own_x_iloadN X0.here hx (hb hby at_15) rfl ?_
  refine own_x_isub X0.here hx (hb hby at_16) rfl ?_
  refine own_Go.of (S' := s₁.setTop (mkF m 18 #[.val (.int p1), .val (.int p2), .val (.int p3), .val (.int (Int32.ofNat i.1)), .unset, .unset, .unset, .unset, .unset, .unset, .unset, .unset, .unset, .unset] [(.int ((p2 &&& (2147483647 : Int32)) % ((17 : Int32) - (Int32.ofNat i.1)))), (.int (Int32.ofNat i.1))])) (fun tgt kst => iremM X0 hx rfl (hb hby at_17) rfl (own_nz i) kst) ?_
  refine own_x_iadd X0.here hx (hb hby at_18) rfl ?_
  rw [hh]
  show own_Go p e below Pst (s₁.setTop (mkF m 19 #[.val (.int p1), .val (.int p2), .val (.int p3), .val (.int (Int32.ofNat i.1)), .unset, .unset, .unset, .unset, .unset, .unset, .unset, .unset, .unset, .unset] [(.int (Int32.ofNat j.1))]))
  refine own_x_istore X0.here hx (hb hby at_19) rfl (l' := #[.val (.int p1), .val (.int p2), .val (.int p3), .val (.int (Int32.ofNat i.1)), .val (.int (Int32.ofNat j.1)), .unset, .unset, .unset, .unset, .unset, .unset, .unset, .unset, .unset]) rfl ?_
  refine own_x_iloadN X0.here hx (hb hby at_21) rfl ?_
  refine own_x_bipush X0.here hx (hb hby at_22) (z := (101 : Int32)) rfl ?_
  refine own_Go.of (S' := s₁.setTop (mkF m 25 #[.val (.int p1), .val (.int p2), .val (.int p3), .val (.int (Int32.ofNat i.1)), .val (.int (Int32.ofNat j.1)), .unset, .unset, .unset, .unset, .unset, .unset, .unset, .unset, .unset] [(.int (p3 % (101 : Int32)))])) (fun tgt kst => iremM X0 hx rfl (hb hby at_24) rfl (by decide) kst) ?_
  rw [hn]
  show own_Go p e below Pst (s₁.setTop (mkF m 25 #[.val (.int p1), .val (.int p2), .val (.int p3), .val (.int (Int32.ofNat i.1)), .val (.int (Int32.ofNat j.1)), .unset, .unset, .unset, .unset, .unset, .unset, .unset, .unset, .unset] [(.int (Int32.ofInt ((k.1 : Int) - 100)))]))
  refine own_x_istore X0.here hx (hb hby at_25) rfl (l' := #[.val (.int p1), .val (.int p2), .val (.int p3), .val (.int (Int32.ofNat i.1)), .val (.int (Int32.ofNat j.1)), .val (.int (Int32.ofInt ((k.1 : Int) - 100))), .unset, .unset, .unset, .unset, .unset, .unset, .unset, .unset]) rfl ?_
  refine own_x_iloadN X0.here hx (hb hby at_27) rfl ?_
  refine own_x_i2dS X0.here hx (hb hby at_28) rfl rfl ?_
  refine own_Go.of (S' := s₁.setTop (mkF m 32 #[.val (.int p1), .val (.int p2), .val (.int p3), .val (.int (Int32.ofNat i.1)), .val (.int (Int32.ofNat j.1)), .val (.int (Int32.ofInt ((k.1 : Int) - 100))), .unset, .unset, .unset, .unset, .unset, .unset, .unset, .unset] [(.double (4625196817309499392 : UInt64)), (.double (FP.i2d (Int32.ofNat i.1)))])) (fun tgt kst => X0.ldc2DoubleC hx hown (mvT hZ (own_w1 hw)) (g := (mkF m 29 #[.val (.int p1), .val (.int p2), .val (.int p3), .val (.int (Int32.ofNat i.1)), .val (.int (Int32.ofNat j.1)), .val (.int (Int32.ofInt ((k.1 : Int) - 100))), .unset, .unset, .unset, .unset, .unset, .unset, .unset, .unset] [(.double (FP.i2d (Int32.ofNat i.1)))])) rfl (hb hby at_29) _ kst) ?_
  refine own_x_ddivS X0.here hx (hb hby at_32) rfl (own_nn16 _) (v := (own_lo i.1)) rfl ?_
  refine own_x_dstore X0.here hx (hb hby at_33) rfl (l' := #[.val (.int p1), .val (.int p2), .val (.int p3), .val (.int (Int32.ofNat i.1)), .val (.int (Int32.ofNat j.1)), .val (.int (Int32.ofInt ((k.1 : Int) - 100))), .val (.double (own_lo i.1)), .second, .unset, .unset, .unset, .unset, .unset, .unset]) rfl ?_
  refine own_x_iload X0.here hx (hb hby at_35) rfl ?_
  refine own_x_i2dS X0.here hx (hb hby at_37) rfl rfl ?_
  refine own_Go.of (S' := s₁.setTop (mkF m 41 #[.val (.int p1), .val (.int p2), .val (.int p3), .val (.int (Int32.ofNat i.1)), .val (.int (Int32.ofNat j.1)), .val (.int (Int32.ofInt ((k.1 : Int) - 100))), .val (.double (own_lo i.1)), .second, .unset, .unset, .unset, .unset, .unset, .unset] [(.double (4625196817309499392 : UInt64)), (.double (FP.i2d (Int32.ofNat j.1)))])) (fun tgt kst => X0.ldc2DoubleC hx hown (mvT hZ (own_w1 hw)) (g := (mkF m 38 #[.val (.int p1), .val (.int p2), .val (.int p3), .val (.int (Int32.ofNat i.1)), .val (.int (Int32.ofNat j.1)), .val (.int (Int32.ofInt ((k.1 : Int) - 100))), .val (.double (own_lo i.1)), .second, .unset, .unset, .unset, .unset, .unset, .unset] [(.double (FP.i2d (Int32.ofNat j.1)))])) rfl (hb hby at_38) _ kst) ?_
  refine own_x_ddivS X0.here hx (hb hby at_41) rfl (own_nn16 _) (v := (own_lo j.1)) rfl ?_
  refine own_x_dstore X0.here hx (hb hby at_42) rfl (l' := #[.val (.int p1), .val (.int p2), .val (.int p3), .val (.int (Int32.ofNat i.1)), .val (.int (Int32.ofNat j.1)), .val (.int (Int32.ofInt ((k.1 : Int) - 100))), .val (.double (own_lo i.1)), .second, .val (.double (own_lo j.1)), .second, .unset, .unset, .unset, .unset]) rfl ?_
  refine own_x_iload X0.here hx (hb hby at_44) rfl ?_
  refine own_x_i2dS X0.here hx (hb hby at_46) rfl rfl ?_
  refine own_Go.of (S' := s₁.setTop (mkF m 50 #[.val (.int p1), .val (.int p2), .val (.int p3), .val (.int (Int32.ofNat i.1)), .val (.int (Int32.ofNat j.1)), .val (.int (Int32.ofInt ((k.1 : Int) - 100))), .val (.double (own_lo i.1)), .second, .val (.double (own_lo j.1)), .second, .unset, .unset, .unset, .unset] [(.double (4634204016564240384 : UInt64)), (.double (FP.i2d (Int32.ofInt ((k.1 : Int) - 100))))])) (fun tgt kst => X0.ldc2DoubleC hx hown (mvT hZ (own_w2 hw)) (g := (mkF m 47 #[.val (.int p1), .val (.int p2), .val (.int p3), .val (.int (Int32.ofNat i.1)), .val (.int (Int32.ofNat j.1)), .val (.int (Int32.ofInt ((k.1 : Int) - 100))), .val (.double (own_lo i.1)), .second, .val (.double (own_lo j.1)), .second, .unset, .unset, .unset, .unset] [(.double (FP.i2d (Int32.ofInt ((k.1 : Int) - 100))))])) rfl (hb hby at_47) _ kst) ?_
  refine own_x_ddivS X0.here hx (hb hby at_50) rfl (own_nn64 _) (v := (own_nd k.1)) rfl ?_
  refine own_x_dstore X0.here hx (hb hby at_51) rfl (l' := #[.val (.int p1), .val (.int p2), .val (.int p3), .val (.int (Int32.ofNat i.1)), .val (.int (Int32.ofNat j.1)), .val (.int (Int32.ofInt ((k.1 : Int) - 100))), .val (.double (own_lo i.1)), .second, .val (.double (own_lo j.1)), .second, .val (.double (own_nd k.1)), .second, .unset, .unset]) rfl ?_
  refine own_h_newO X0 hx hZ hown (own_w3 hw) (own_w4 hw) (own_w5 hw) e0 (hb hby at_53) (by decide) (by decide) fun T101 h101 b101 g101 X101 e101 E101 A101 D101 U101 => ?_
  have gn_b101 : n0 ≤ b101 := Nat.le_trans Z0 (Nat.le_of_eq g101.symm)
  have sz_b101 : h0.size ≤ b101 := Nat.le_trans (Keep.refl h0 []).1 (Nat.le_of_eq g101.symm)
  have f101_low : Fld Z h101 b101 "com/example/resemblance/resemblance/NidfWindow" "low" "D" (.double (0 : UInt64)) := D101 (Or.inr (own_w13 hw)) (ty := .double) (by decide)
  have f101_high : Fld Z h101 b101 "com/example/resemblance/resemblance/NidfWindow" "high" "D" (.double (0 : UInt64)) := D101 (Or.inr (own_w15 hw)) (ty := .double) (by decide)
  refine own_x_dup X101.here hx (hb hby at_56) rfl rfl ?_
  refine own_x_dload X101.here hx (hb hby at_57) rfl ?_
  refine own_x_dload X101.here hx (hb hby at_59) rfl ?_
  have c103 := (Nat.le_trans Z0 E101.1)
  refine own_cP X101 (X101.specialBack hx (y := (⟨"com/example/resemblance/resemblance/NidfWindow", "<init>", "(DD)V"⟩ : MethodName)) rfl hown (mvT hZ (own_w6 hw)) (mvT hZ (own_w7 hw)) (mvT hZ (own_w8 hw)) (by decide) (backOf (W := 1) (rm1 l Z a0 hw [] b101 (own_lo i.1) (own_lo j.1) (.double 0) (.double 0) h101 n0 c103 A101 f101_low f101_high gn_b101 (own_g1 i) (own_g2 i j hij) (own_g3 j)) hZ (own_w8 hw) (own_w5 hw) (by decide) (by decide)) (g := (mkF m 61 #[.val (.int p1), .val (.int p2), .val (.int p3), .val (.int (Int32.ofNat i.1)), .val (.int (Int32.ofNat j.1)), .val (.int (Int32.ofInt ((k.1 : Int) - 100))), .val (.double (own_lo i.1)), .second, .val (.double (own_lo j.1)), .second, .val (.double (own_nd k.1)), .second, .unset, .unset] [(.double (own_lo j.1)), (.double (own_lo i.1)), (.ref b101), (.ref b101)])) rfl (by rw [hml]; rfl) (Steps.refl _) (a := b101) (argsL := [(.double (own_lo i.1)), (.double (own_lo j.1))]) (rest := [(.ref b101)]) (lenOf own_pd0 rfl) rfl (by show 2 * 0 + _ ≤ _; exact Nat.le_of_eq rfl) (hb hby at_61) (fun _ _ => ⟨rfl, e101, (by decide : 1 + 0 ≤ _), (by decide : 2 + 0 ≤ _)⟩)) fun v102 T102 L102 X102 hQ102 => ?_
  obtain ⟨rfl, Nq102, K102, Fh102⟩ := hQ102
  have N102 := Fr.app N0 Nq102
  show own_Go p e below Pst (T102.setTop (mkF m 64 #[.val (.int p1), .val (.int p2), .val (.int p3), .val (.int (Int32.ofNat i.1)), .val (.int (Int32.ofNat j.1)), .val (.int (Int32.ofInt ((k.1 : Int) - 100))), .val (.double (own_lo i.1)), .second, .val (.double (own_lo j.1)), .second, .val (.double (own_nd k.1)), .second, .unset, .unset] [(.ref b101)]))
  refine own_x_astore X102.here hx (hb hby at_64) rfl rfl (l' := #[.val (.int p1), .val (.int p2), .val (.int p3), .val (.int (Int32.ofNat i.1)), .val (.int (Int32.ofNat j.1)), .val (.int (Int32.ofInt ((k.1 : Int) - 100))), .val (.double (own_lo i.1)), .second, .val (.double (own_lo j.1)), .second, .val (.double (own_nd k.1)), .second, .val (.ref b101), .unset]) rfl ?_
  refine own_x_iload X102.here hx (hb hby at_66) rfl ?_
  refine own_x_iconst X102.here hx (hb hby at_68) (z := (4 : Int32)) rfl ?_
  refine own_x_iload X102.here hx (hb hby at_69) rfl ?_
  refine own_x_imul X102.here hx (hb hby at_71) rfl ?_
  obtain ⟨bb, hbb⟩ : ∃ b, b = if_icmp.holds .le (Int32.ofInt ((k.1 : Int) - 100)) ((4 : Int32) * (Int32.ofNat j.1)) := ⟨_, rfl⟩
  have join : own_Go p e below Pst (T102.setTop (mkF m 80 #[.val (.int p1), .val (.int p2), .val (.int p3), .val (.int (Int32.ofNat i.1)), .val (.int (Int32.ofNat j.1)), .val (.int (Int32.ofInt ((k.1 : Int) - 100))), .val (.double (own_lo i.1)), .second, .val (.double (own_lo j.1)), .second, .val (.double (own_nd k.1)), .second, .val (.ref b101), .unset] [(.int (own_b bb))])) → own_Go p e below Pst (T102.setTop (mkF m 72 #[.val (.int p1), .val (.int p2), .val (.int p3), .val (.int (Int32.ofNat i.1)), .val (.int (Int32.ofNat j.1)), .val (.int (Int32.ofInt ((k.1 : Int) - 100))), .val (.double (own_lo i.1)), .second, .val (.double (own_lo j.1)), .second, .val (.double (own_nd k.1)), .second, .val (.ref b101), .unset] [(.int ((4 : Int32) * (Int32.ofNat j.1))), (.int (Int32.ofInt ((k.1 : Int) - 100)))])) := by
    intro kj
    cases bb
    · refine own_x_icmpNo X102.here hx (hb hby at_72) rfl hbb.symm ?_
      refine own_x_iconst X102.here hx (hb hby at_75) (z := (1 : Int32)) rfl ?_
      refine own_x_goto X102.here hx (pc0 := 76) (pc' := 80) rfl (hb hby at_76) (by decide) (by decide) ?_
      exact kj
    · refine own_x_icmpYes X102.here hx (pc0 := 72) (pc' := 79) rfl (hb hby at_72) rfl hbb.symm (by decide) (by decide) ?_
      refine own_x_iconst X102.here hx (hb hby at_79) (z := (0 : Int32)) rfl ?_
      exact kj
  refine join ?_
  show own_Go p e below Pst (T102.setTop (mkF m 80 #[.val (.int p1), .val (.int p2), .val (.int p3), .val (.int (Int32.ofNat i.1)), .val (.int (Int32.ofNat j.1)), .val (.int (Int32.ofInt ((k.1 : Int) - 100))), .val (.double (own_lo i.1)), .second, .val (.double (own_lo j.1)), .second, .val (.double (own_nd k.1)), .second, .val (.ref b101), .unset] [(.int (own_b bb))]))
  refine own_x_istore X102.here hx (hb hby at_80) rfl (l' := #[.val (.int p1), .val (.int p2), .val (.int p3), .val (.int (Int32.ofNat i.1)), .val (.int (Int32.ofNat j.1)), .val (.int (Int32.ofInt ((k.1 : Int) - 100))), .val (.double (own_lo i.1)), .second, .val (.double (own_lo j.1)), .second, .val (.double (own_nd k.1)), .second, .val (.ref b101), .val (.int (own_b bb))]) rfl ?_
  refine own_x_aload X102.here hx (hb hby at_82) rfl rfl ?_
  refine own_x_dload X102.here hx (hb hby at_84) rfl ?_
  have c105 := (Nat.le_trans c103 K102.1)
  have c106 := (A101.keep K102)
  obtain ⟨cq104, kq104, q104a, q104b, q104c⟩ := isOf hZ rfl c106
  refine own_cP X102 (X102.virtualBack hx (y := (⟨"com/example/resemblance/resemblance/NidfWindow", "isAbove", "(D)Z"⟩ : MethodName)) (z := (⟨"com/example/resemblance/resemblance/NidfWindow", "isAbove", "(D)Z"⟩ : MethodName)) hown (mvT hZ (own_w16 hw)) (mvT hZ (own_w17 hw)) (notFace_of_selects (args := #[]) (mvT hZ (own_w19 hw))) (mvT hZ (own_w19 hw)) (mvT hZ (own_w18 hw)) (by decide) (backOf (W := 0) (rm3 l Z a0 hw [] b101 (own_nd k.1) (own_lo j.1) bb T102.heap n0 c105 Fh102 ((own_g4 k j).trans hbb.symm)) hZ (own_w20 hw) (own_w5 hw) (by decide) (by decide)) q104a q104c (g := (mkF m 86 #[.val (.int p1), .val (.int p2), .val (.int p3), .val (.int (Int32.ofNat i.1)), .val (.int (Int32.ofNat j.1)), .val (.int (Int32.ofInt ((k.1 : Int) - 100))), .val (.double (own_lo i.1)), .second, .val (.double (own_lo j.1)), .second, .val (.double (own_nd k.1)), .second, .val (.ref b101), .val (.int (own_b bb))] [(.double (own_nd k.1)), (.ref b101)])) rfl (by rw [hml]; rfl) (Steps.refl _) (argsL := [(.double (own_nd k.1))]) (rest := []) (lenOf own_pd1 rfl) rfl (by show 2 * 0 + _ ≤ _; exact Nat.le_of_eq rfl) (hb hby at_86) (fun _ _ => ⟨rfl, rfl, (by decide : 1 + 0 ≤ _), (by decide : 2 + 0 ≤ _)⟩)) fun v104 T104 L104 X104 hQ104 => ?_
  obtain ⟨rfl, Nq104, e104⟩ := hQ104
  have N104 := Fr.app N102 Nq104
  show own_Go p e below Pst (T104.setTop (mkF m 89 #[.val (.int p1), .val (.int p2), .val (.int p3), .val (.int (Int32.ofNat i.1)), .val (.int (Int32.ofNat j.1)), .val (.int (Int32.ofInt ((k.1 : Int) - 100))), .val (.double (own_lo i.1)), .second, .val (.double (own_lo j.1)), .second, .val (.double (own_nd k.1)), .second, .val (.ref b101), .val (.int (own_b bb))] [(.int (own_b bb))]))
  refine own_x_iload X104.here hx (hb hby at_89) rfl ?_
  refine own_x_icmpNo X104.here hx (hb hby at_91) rfl (teq rfl).2 ?_
  refine own_x_iconst X104.here hx (hb hby at_94) (z := (1 : Int32)) rfl ?_
  refine own_x_goto X104.here hx (pc0 := 95) (pc' := 99) rfl (hb hby at_95) (by decide) (by decide) ?_
  rw [hPst]
  exact own_retP X104 (v := (some (.int (nar .boolean (1 : Int32))))) (Q := Q0 Z p1 p2 p3 i j k h0 n0) (fun h => by rw [Bd.returns] at h; cases h) Bd.notSynchronized (fun fs hr => retN X104 hx (t := .boolean) Bd.returns (by simp) (hb hby at_99) hr) (by decide) (by decide) (by rw [e104]; exact ⟨rfl, N104⟩)
set_option maxRecDepth 65536 in
set_option maxHeartbeats 40000000 in
theorem comes_1 {Post : Tables → Env → Array Value → State → Outcome → State → Prop} (hpost : ∀ tb e args s v u, (limb_1_1.after args s (.returned v) u = true ∧ limb_1_2.after args s (.returned v) u = true ∧ True) → FrameEnd s (.returned v) u (Jvm.fieldLocs frame_1_writes args s ++ Jvm.arrayLocs frame_1_arrays args s ++ Jvm.staticLocs frame_1_statics s) 16 128 → Post tb e args s (.returned v) u) :
    ArmFor flags0 classFile x code maxLocals ret World_1 tables_1 room_1 Calls_1 rest_1 Pre_1 Post := by
  intro l hfl _ _ p e ha hc hk s m args below hf hA hF happ hP
  obtain ⟨hcalls, hrest, hpre⟩ := hP
  obtain ⟨-, -, -, hnamed, -, -, -, hat⟩ := (Spec.applies_iff hf).mp happ
  obtain ⟨hg, hn⟩ := and_e (Cond.before_iff.mp (show (Jvm.Cond.and given_1 narrow_1).before args s = true from hpre))
  obtain ⟨h1, h2⟩ := and_e hg
  obtain ⟨h3, h4⟩ := and_e h2
  obtain ⟨h5, h6⟩ := and_e h4
  obtain ⟨w0, w1, w2, rfl⟩ : ∃ w0 w1 w2 : Value, args = #[w0, w1, w2] := by
    have hs : args.size = 3 := by simpa [Cond.value, given_1] using h1
    obtain ⟨L⟩ := args
    match L, hs with
    | [w0, w1, w2], _ => exact ⟨w0, w1, w2, rfl⟩
  have hw := fun d (hd : d ∈ tables_1) => atoms_spec (ws := Jvm.Cond.code x code maxLocals ret :: tables_1) hat d (List.mem_cons_of_mem _ hd)
  obtain ⟨i0, ei0⟩ := is_v h3
  obtain rfl : w0 = (.int i0) := Option.some.inj ei0
  obtain ⟨i1, ei1⟩ := is_v h5
  obtain rfl : w1 = (.int i1) := Option.some.inj ei1
  obtain ⟨i2, ei2⟩ := is_v h6
  obtain rfl : w2 = (.int i2) := Option.some.inj ei2
  obtain ⟨i, hi⟩ := own_l i0
  obtain ⟨j, hij, hj⟩ := own_h i1 i
  obtain ⟨k, hk'⟩ := own_n i2
  obtain ⟨n, o, h1, h2, h3, _, L, rfl, ⟨rfl, N⟩, hq⟩ := rm0 l s _ hw tables_1 i0 i1 i2 i j k s.heap s.heap.size (Nat.le_refl _) hi hj hk' hij p e ha hc hk s m _ below hf ((Spec.applies_iff_loose hf).mp happ).1 ⟨rfl, State.Warmed39.refl s, rfl⟩ trivial
  refine ⟨n, _, h1, h2, h3, hpost _ _ _ _ _ _ ⟨Cond.after_iff.mpr rfl, Cond.after_iff.mpr (eq_i res_at (Term.int_eval (1)) rfl), trivial⟩ ⟨hq.1, hq.2.1, (hq.2.2.sift fun y hy => Or.inr (N y hy)).mono (by decide) (by decide)⟩⟩
theorem main_1_1 : Claimed_1_1 := comes_1 fun _ _ _ _ _ _ h hF => ⟨h.1, hF⟩
theorem main_1_2 : Claimed_1_2 := comes_1 fun _ _ _ _ _ _ h hF => ⟨h.2.1, hF⟩
end Jvm.Pilot.@@N@@
namespace Jvm.Pilot.@@N@@
open Jvm Jvm.ClassFile Sem Op Lib Jvm.Free Jvm.Stand Jvm.Pilot.@@N@@.Jvm.D
/-! MADE BY PROGRAM (witnessworld.py) out of the Statement's table words and the real class files: 9 classes; the members and pool entries that the words name. The judged class is class 1, her method 1. -/
namespace start1
open Jvm.ClassFile
def u (s : String) : CpInfo := .utf8 (stringToUtf16 s)
/-- a pool by its gaps: so many unusable entries, then the entry; so many at the end -/
def gap : Nat → List CpInfo → List CpInfo
  | 0, r => r
  | n + 1, r => .unusable :: gap n r
def poolList (es : List (Nat × CpInfo)) (last : Nat) : List CpInfo := es.foldr (fun e r => gap e.1 (e.2 :: r)) (gap last [])
def pool (es : List (Nat × CpInfo)) (last : Nat) : Array CpInfo := ⟨poolList es last⟩
def fileOf (pool : Array CpInfo) (this : Nat) (attrs : Array Attribute := #[]) (ms : Array MethodInfo := #[]) (fl : Nat := 33) (sup : Nat := 0) (ifs : Array Nat := #[]) (fds : Array FieldInfo := #[]) : ClassFile where
  minorVersion := 0
  majorVersion := 65
  constantPool := pool
  accessFlags := fl
  thisClass := this
  superClass := sup
  interfaces := ifs
  fields := fds
  methods := ms
  attributes := attrs
def plain (name : String) (sup : Option ClassId) : Class where
  name := name
  kind := .ordinary
  loader := none
  accessFlags := 33
  super := sup
  interfaces := #[]
  cf := none
  fields := #[]
  methods := #[]
  instanceTypes := #[]
  staticTypes := #[]
  resolved := #[]
  callSites := []
  init := .initialized
  statics := none
  mirror := none

def pool0 : Array CpInfo := pool [(5, u "<init>"), (0, u "()V"), (1, .class_ 10), (1, u "java/lang/Object")] 113

def k0c0 : Code := { maxStack := 0, maxLocals := 1, code := object_method_1_code, exceptionTable := #[], attributes := #[] }
def k0m0 : Method := { name := "<init>", desc := "()V", sig := { parameters := [], returnType := none }, accessFlags := 1, code := some k0c0 }
/-- java/lang/Object -/
def k0 : Class := { plain "java/lang/Object" none with
  accessFlags := 33
  interfaces := #[]
  cf := some (fileOf pool0 8 #[] #[{ accessFlags := 1, nameIndex := 5, descriptorIndex := 6, attributes := #[] }] 33 0 #[] #[])
  fields := #[]
  methods := #[k0m0]
  instanceTypes := #[]
  staticTypes := #[]
  resolved := Array.replicate 124 none
  statics := none }

def pool1 : Array CpInfo := pool [(2, .class_ 4), (1, u "java/lang/Object"), (0, u "<init>"), (0, u "()V"), (0, .integer 2147483647), (0, .double 4625196817309499392), (1, .double 4634204016564240384), (1, .class_ 13), (0, u "com/example/resemblance/resemblance/NidfWindow"), (0, .methodref 12 15), (0, .nameAndType 5 16), (0, u "(DD)V"), (0, .methodref 12 18), (0, .nameAndType 19 20), (0, u "isAbove"), (0, u "(D)Z"), (0, .class_ 22), (0, u "com/example/resemblance/resemblance/NidfWindowIsAbovePinLaw"), (2, u "law"), (0, u "(III)Z")] 3

def k1m0 : Method := { name := "<init>", desc := "()V", sig := { parameters := [], returnType := none }, accessFlags := 1, code := none }
def k1c1 : Code := { maxStack := 6, maxLocals := 14, code := code, exceptionTable := #[], attributes := #[] }
def k1m1 : Method := { name := "law", desc := "(III)Z", sig := { parameters := [.int, .int, .int], returnType := some .boolean }, accessFlags := 9, code := some k1c1 }
/-- com/example/resemblance/resemblance/NidfWindowIsAbovePinLaw -/
def k1 : Class := { plain "com/example/resemblance/resemblance/NidfWindowIsAbovePinLaw" (some 0) with
  accessFlags := 49
  interfaces := #[]
  cf := some (fileOf pool1 21 #[] #[{ accessFlags := 1, nameIndex := 5, descriptorIndex := 6, attributes := #[] }, { accessFlags := 9, nameIndex := 25, descriptorIndex := 26, attributes := #[] }] 49 2 #[] #[])
  fields := #[]
  methods := #[k1m0, k1m1]
  instanceTypes := #[]
  staticTypes := #[]
  resolved := Array.replicate 30 none
  statics := none }

def pool2 : Array CpInfo := pool [(1, .methodref 2 3), (0, .class_ 4), (0, .nameAndType 5 6), (0, u "java/lang/Object"), (0, u "<init>"), (0, u "()V"), (9, .fieldref 17 18), (0, .class_ 19), (0, .nameAndType 20 21), (0, u "com/example/resemblance/resemblance/NidfWindow"), (0, u "low"), (0, u "D"), (0, .fieldref 17 23), (0, .nameAndType 24 21), (0, u "high"), (6, u "(DD)V"), (2, u "DEFAULT"), (0, u "Lcom/example/resemblance/resemblance/NidfWindow;"), (4, u "(D)Z"), (0, u "isAbove")] 18

def k2c0 : Code := { maxStack := 6, maxLocals := 5, code := prog_18_method_1_code, exceptionTable := #[], attributes := #[] }
def k2m0 : Method := { name := "<init>", desc := "(DD)V", sig := { parameters := [.double, .double], returnType := none }, accessFlags := 1, code := some k2c0 }
def k2c1 : Code := { maxStack := 4, maxLocals := 3, code := prog_18_method_3_code, exceptionTable := #[], attributes := #[] }
def k2m1 : Method := { name := "isAbove", desc := "(D)Z", sig := { parameters := [.double], returnType := some .boolean }, accessFlags := 1, code := some k2c1 }
/-- com/example/resemblance/resemblance/NidfWindow -/
def k2 : Class := { plain "com/example/resemblance/resemblance/NidfWindow" (some 0) with
  accessFlags := 33
  interfaces := #[]
  cf := some (fileOf pool2 17 #[] #[{ accessFlags := 1, nameIndex := 5, descriptorIndex := 31, attributes := #[] }, { accessFlags := 1, nameIndex := 41, descriptorIndex := 40, attributes := #[] }] 33 2 #[] #[{ accessFlags := 25, nameIndex := 34, descriptorIndex := 35, attributes := #[] }, { accessFlags := 18, nameIndex := 20, descriptorIndex := 21, attributes := #[] }, { accessFlags := 18, nameIndex := 24, descriptorIndex := 21, attributes := #[] }])
  fields := #[{ name := "DEFAULT", type := (.object "com/example/resemblance/resemblance/NidfWindow"), accessFlags := 25, slot := 0, constantValue := 0 }, { name := "low", type := .double, accessFlags := 18, slot := 0, constantValue := 0 }, { name := "high", type := .double, accessFlags := 18, slot := 1, constantValue := 0 }]
  methods := #[k2m0, k2m1]
  instanceTypes := #[.double, .double]
  staticTypes := #[(.object "com/example/resemblance/resemblance/NidfWindow")]
  resolved := Array.replicate 60 none
  statics := none }

def pool3 : Array CpInfo := pool [(1, u "java/lang/Cloneable"), (0, .class_ 1), (0, u "java/lang/Object"), (0, .class_ 3)] 3

/-- java/lang/Cloneable -/
def k3 : Class := { plain "java/lang/Cloneable" (some 0) with
  accessFlags := 1537
  interfaces := #[]
  cf := some (fileOf pool3 2 #[] #[] 1537 4 #[] #[])
  fields := #[]
  methods := #[]
  instanceTypes := #[]
  staticTypes := #[]
  resolved := Array.replicate 8 none
  statics := none }

def pool4 : Array CpInfo := pool [(1, u "java/io/Serializable"), (0, .class_ 1), (0, u "java/lang/Object"), (0, .class_ 3)] 3

/-- java/io/Serializable -/
def k4 : Class := { plain "java/io/Serializable" (some 0) with
  accessFlags := 1537
  interfaces := #[]
  cf := some (fileOf pool4 2 #[] #[] 1537 4 #[] #[])
  fields := #[]
  methods := #[]
  instanceTypes := #[]
  staticTypes := #[]
  resolved := Array.replicate 8 none
  statics := none }

/-- the primitive byte -/
def k5 : Class := { plain "byte" none with kind := .primitive 'B', accessFlags := 0x411 }
/-- [B -/
def k6 : Class := { plain "[B" (some 0) with kind := .array 5 .byte, interfaces := #[3, 4], accessFlags := 1041 }

/-- the primitive int -/
def k7 : Class := { plain "int" none with kind := .primitive 'I', accessFlags := 0x411 }
/-- [I -/
def k8 : Class := { plain "[I" (some 0) with kind := .array 7 .int, interfaces := #[3, 4], accessFlags := 1041 }

def heap : Heap := #[]
def classes : Array Class := #[k0, k1, k2, k3, k4, k5, k6, k7, k8]
def interned : List (Array UInt16 × Addr) := []
def slotsUsed : Nat := 0
def theMethod : MethodId := ⟨1, 1⟩
def args0 : Array Value := #[.int 5, .int 5, .int 5]
def aboutOver (below : List Frame) : State where
  vm := { classes := classes, interned := interned.toArray }
  heap := heap
  slotsUsed := slotsUsed
  threads := #[{ frames := .invoking theMethod args0 :: below }]
def below0 : List Frame := [.native { method := ⟨0, 0⟩, args := #[] }]
def about1 : State := aboutOver below0
def p0 : Program := .bare "" "" ""
def e0 : Env := launch0.env 0 0 0
theorem w_frames : about1.frames = Frame.invoking theMethod args0 :: below0 := rfl
set_option maxRecDepth 65536 in
theorem w_args : argsFit about1.vm theMethod args0 = true := by decide +kernel
set_option maxRecDepth 65536 in
theorem w_heap : heapFits about1 = true := by decide +kernel
set_option maxRecDepth 65536 in
theorem w_runnable : about1.curStatus? = some .runnable := by decide +kernel
set_option maxRecDepth 65536 in
theorem w_alone : about1.alone = true := by decide +kernel
set_option maxRecDepth 65536 in
theorem w_named : about1.methodNamed? x = some theMethod := by decide +kernel
set_option maxRecDepth 65536 in
theorem w_hears : about1.hears theMethod below0 = true := by decide +kernel
set_option maxRecDepth 65536 in
theorem w_ripe : about1.ripe theMethod args0 below0 = true := by decide +kernel
theorem w_running : about1.status = .running := rfl
set_option maxRecDepth 65536 in
theorem w_room : about1.hasRoom e0.platform room_1 = true :=
  launch0.hasRoom_least _ room_1 (by decide +kernel) (by decide +kernel) (by decide +kernel) (by decide +kernel) (by decide +kernel) (by decide +kernel)
theorem allAtoms_all (ts : List Jvm.Cond) (a : Array Jvm.Value) (st : Jvm.State) : (allAtoms ts).before a st = ts.all (fun c => c.before a st) := by
  induction ts with
  | nil => rfl
  | cons c t ih =>
    show (Jvm.Cond.and c (allAtoms t)).before a st = _
    rw [Jvm.Cond.before_and, ih, List.all_cons]
def words1 : List Jvm.Cond := Jvm.Cond.code x code maxLocals ret :: tables_1
/-- a 'code' word, met by the world's own term for the bytes: nothing is compared byte by byte -/
theorem code_word {y : MethodName} {bytes : ByteArray} {mx : Nat} {rt : Option FieldType} {a : Array Value} {s : State} {m : MethodId} {meth : Method} {c : Code} (h1 : s.methodNamed? y = some m) (h2 : s.vm.method? m = some meth) (h3 : meth.code = some c) (h4 : c.code = bytes)
    (h5 : (c.maxLocals == mx && c.exceptionTable.isEmpty && decide (c.maxStack ≤ mostOperands) && decide (meth.sig.returnType = rt) && !meth.locks && decide (parseMethodDescriptor y.desc = some meth.sig)) = true) : (Jvm.Cond.code y bytes mx rt).before a s = true := by
  simp only [Bool.and_eq_true, beq_iff_eq, Bool.not_eq_true', decide_eq_true_eq] at h5
  obtain ⟨⟨⟨⟨⟨g1, g2⟩, g3⟩, g4⟩, g5⟩, g6⟩ := h5
  simp [Cond.before, Cond.holds, Cond.value, h1, h2, h3, h4, g1, g2, g3, g4, g5, g6]
def isCode : Jvm.Cond → Bool
  | .code _ _ _ _ => true
  | _ => false
theorem all_split {L : List Jvm.Cond} {P : Jvm.Cond → Bool} (h1 : L.all (fun c => isCode c || P c) = true) (h2 : ∀ c ∈ L.filter isCode, P c = true) : L.all P = true := by
  refine List.all_eq_true.mpr fun c hc => ?_
  have h := List.all_eq_true.mp h1 c hc
  rcases Bool.eq_false_or_eq_true (isCode c) with hi | hi
  · exact h2 c (List.mem_filter.mpr ⟨hc, hi⟩)
  · simpa [hi] using h
set_option maxRecDepth 65536 in
theorem w_c0 : (Jvm.Cond.code x code maxLocals ret).before args0 about1 = true := code_word (m := ⟨1, 1⟩) (meth := k1m1) (c := k1c1) (by decide +kernel) rfl rfl rfl (by decide +kernel)
set_option maxRecDepth 65536 in
theorem w_c1 : (Jvm.Cond.code ({ cls := "com/example/resemblance/resemblance/NidfWindow", name := "<init>", desc := "(DD)V" } : Jvm.MethodName) prog_18_method_1_code (5 : Nat) (Option.none : Option Jvm.ClassFile.FieldType)).before args0 about1 = true := code_word (m := ⟨2, 0⟩) (meth := k2m0) (c := k2c0) (by decide +kernel) rfl rfl rfl (by decide +kernel)
set_option maxRecDepth 65536 in
theorem w_c2 : (Jvm.Cond.code ({ cls := "java/lang/Object", name := "<init>", desc := "()V" } : Jvm.MethodName) object_method_1_code (1 : Nat) (Option.none : Option Jvm.ClassFile.FieldType)).before args0 about1 = true := code_word (m := ⟨0, 0⟩) (meth := k0m0) (c := k0c0) (by decide +kernel) rfl rfl rfl (by decide +kernel)
set_option maxRecDepth 65536 in
theorem w_c3 : (Jvm.Cond.code ({ cls := "com/example/resemblance/resemblance/NidfWindow", name := "isAbove", desc := "(D)Z" } : Jvm.MethodName) prog_18_method_3_code (3 : Nat) (Option.some Jvm.ClassFile.FieldType.boolean)).before args0 about1 = true := code_word (m := ⟨2, 1⟩) (meth := k2m1) (c := k2c1) (by decide +kernel) rfl rfl rfl (by decide +kernel)
def codes1 : List Jvm.Cond := [Jvm.Cond.code x code maxLocals ret, Jvm.Cond.code ({ cls := "com/example/resemblance/resemblance/NidfWindow", name := "<init>", desc := "(DD)V" } : Jvm.MethodName) prog_18_method_1_code (5 : Nat) (Option.none : Option Jvm.ClassFile.FieldType), Jvm.Cond.code ({ cls := "java/lang/Object", name := "<init>", desc := "()V" } : Jvm.MethodName) object_method_1_code (1 : Nat) (Option.none : Option Jvm.ClassFile.FieldType), Jvm.Cond.code ({ cls := "com/example/resemblance/resemblance/NidfWindow", name := "isAbove", desc := "(D)Z" } : Jvm.MethodName) prog_18_method_3_code (3 : Nat) (Option.some Jvm.ClassFile.FieldType.boolean)]
set_option maxRecDepth 65536 in
theorem codes_eq : words1.filter isCode = codes1 := rfl
theorem w_codes : ∀ c ∈ words1.filter isCode, c.before args0 about1 = true := by
  rw [codes_eq]
  intro c hc
  simp only [codes1, List.mem_cons, List.not_mem_nil, or_false] at hc
  rcases hc with rfl | rfl | rfl | rfl
  · exact w_c0
  · exact w_c1
  · exact w_c2
  · exact w_c3
set_option maxRecDepth 65536 in
theorem w_t1 : words1.all (fun c => isCode c || c.before args0 about1) = true := by decide +kernel
theorem w_tables : (allAtoms (Jvm.Cond.code x code maxLocals ret :: tables_1)).before args0 about1 = true := by
  rw [allAtoms_all]
  show words1.all (fun c => c.before args0 about1) = true
  refine all_split ?_ w_codes
  rw [w_t1]
set_option maxRecDepth 65536 in
theorem w_case : (Jvm.Cond.and given_1 narrow_1).before args0 about1 = true := by decide +kernel
theorem w_applies : (headSpec (Jvm.Cond.code x code maxLocals ret :: tables_1) room_1).applies x e0.platform about1 = true :=
  (Spec.applies_iff w_frames).mpr ⟨w_running, w_runnable, w_alone, w_named, w_hears, w_ripe, w_room, w_tables⟩
theorem atStart : AtStart classFile x code maxLocals ret World_1 tables_1 room_1 Calls_1 rest_1 Pre_1 launch0 p0 e0 about1 theMethod args0 below0 :=
  ⟨lists_1, trivial, launch0.admits_env _ _ _, launch0.least_env, fairChoices_fair.cas, fairChoices_fair.clock, w_frames, w_args, w_heap, w_applies, trivial, trivial, w_case⟩
end start1
theorem witness_1 : WitnessClaimed_1 := ⟨start1.p0, start1.e0, start1.about1, start1.theMethod, start1.args0, start1.below0, start1.atStart⟩
end Jvm.Pilot.@@N@@
