import JvmDerived
import JvmDerived.Pilot.@@N@@Statement
import JvmDerived.Pilot.@@N@@Code
set_option linter.unusedVariables false
set_option linter.unusedSimpArgs false
set_option maxRecDepth 65536
set_option maxHeartbeats 40000000
namespace Jvm.Pilot.@@N@@
open Jvm Jvm.ClassFile Sem Op Lib Jvm.Free Jvm.Stand Jvm.LawKit Jvm.RoadKit Bundle Jvm.Pilot.@@N@@.Jvm.D
section Own
variable {p : Program} {l : Launch} {e : Env} {R : Room} {s : State} {m : MethodId} {args : Array Value} {below : List Frame} {meth : Method} {c : Code} {T : State} {locs : List Loc} {cells slots : Nat}
theorem own_retI (X : Stand p l e R s m args below meth c T locs cells slots) (hx : p.tables.exec = Jvm.exec) {pc : Nat} {Ls : Array Slot} {z : Int32} {rest : List Value} (hret : meth.sig.returnType = some .int) (hd : decode c.code pc = .ok (.ireturn, 1)) {fs : List Frame}
    (hl : ∀ (f : JFrame) (acts : List Action), f.method = m → f.locked = none → f.entered = [] → (doReturn e (T.setTop f) acts (some (.int z))).1 = T.setFrames fs) : Steps p.tables e below (T.setTop (mkF m pc Ls (.int z :: rest))) (T.setFrames fs) := by
  have hm' : T.vm.method? m = some meth := X.method'
  have hn : narrow .int (.int z) = .int z := rfl
  show Steps p.tables e below (T.setTop { method := m, pc := pc, locals := Ls, stack := _ :: rest, locked := none }) _
  jvm_step X.here [X.here.top, hx, hd, hm', hret, hn]
  first | (intro acts; rw [hl _ acts rfl rfl rfl]) | rw [hl _ _ rfl rfl rfl]
  exact Steps.refl _
/-- from the state S the invocation comes to an end at which Post holds -/
def own_Go (p : Program) (e : Env) (below : List Frame) (Post : Outcome → State → Prop) (S : State) : Prop := ∃ s₂ o, Steps p.tables e below S s₂ ∧ s₂.status = .running ∧ Ended s₂ below o ∧ Post o s₂
theorem own_Go.of {Post : Outcome → State → Prop} {S S' : State} (k : ∀ target, Steps p.tables e below S' target → Steps p.tables e below S target) (h : own_Go p e below Post S') : own_Go p e below Post S := by
  obtain ⟨s₂, o, h1, h2⟩ := h
  exact ⟨s₂, o, k _ h1, h2⟩
theorem own_Go.tr {Post : Outcome → State → Prop} {S S' : State} (k : Steps p.tables e below S S') (h : own_Go p e below Post S') : own_Go p e below Post S := by
  obtain ⟨s₂, o, h1, h2⟩ := h
  exact ⟨s₂, o, k.trans h1, h2⟩
theorem own_retP (X : Stand p l e R s m args below meth c T locs cells slots) {v : Option Value} {Q : Option Value → Heap → List Loc → Prop} {C S : Nat} {g : JFrame} (hv : meth.sig.returnType = none → v = none) (hlk : meth.locks = false)
    (st : ∀ fs, (∀ (f : JFrame) (acts : List Action), f.method = m → f.locked = none → f.entered = [] → (doReturn e (T.setTop f) acts v).1 = T.setFrames fs) → Steps p.tables e below (T.setTop g) (T.setFrames fs)) (hc : cells ≤ C) (hs : slots ≤ S) (hQ : Q v T.heap locs) :
    own_Go p e below (fun o U' => ∃ v L, o = .returned v ∧ Q v U'.heap L ∧ FrameEnd s o U' L C S) (T.setTop g) := by
  obtain ⟨fs, hr, hrun, hended, hW, hsame⟩ := X.leave (v := v) hv hlk
  exact ⟨_, _, st fs hr, hrun, hended, _, _, rfl, hQ, ⟨_, rfl⟩, hW, hsame.mono hc hs⟩
theorem own_nar_ref {t : FieldType} {v : Value} (h : v.isRef = true) : narrow t v = v := by
  cases v <;> first | (cases t <;> rfl) | cases h
theorem own_cP {pc : Nat} {Ls : Array Slot} {S rest : List Value} {Post : Outcome → State → Prop} {Q : Option Value → Heap → List Loc → Prop} {j n : Nat} (X : Stand p l e R s m args below meth c T locs cells slots)
    (H : ∃ (v : Option Value) (vm₁ : Vm) (B : Pt), s.WarmedH vm₁ ∧ Stand p l e R s m args below meth c B.U B.locs B.cells B.slots ∧ (∃ L, Q v B.U.heap L ∧ B.locs = locs ++ L ∧ B.cells = cells + j ∧ B.slots = slots + n) ∧ Steps p.tables e below (T.setTop (mkF m pc Ls S)) (B.U.setTop (mkF m (pc + 3) Ls (v.toList ++ rest))))
    (k : ∀ v T' L, Stand p l e R s m args below meth c T' (locs ++ L) (cells + j) (slots + n) → Q v T'.heap L → own_Go p e below Post (T'.setTop (mkF m (pc + 3) Ls (v.toList ++ rest)))) : own_Go p e below Post (T.setTop (mkF m pc Ls S)) := by
  obtain ⟨v, vm₁, ⟨T', L', c', n'⟩, -, X', ⟨L, hQ, e1, e2, e3⟩, st⟩ := H
  dsimp only [Pt.U, Pt.locs, Pt.cells, Pt.slots] at X' e1 e2 e3 st hQ
  subst e1 e2 e3
  exact own_Go.tr st (k v T' L X' hQ)
theorem own_cF {pc : Nat} {Ls : Array Slot} {S rest : List Value} {Post : Outcome → State → Prop} {Q : Option Value → Heap → List Loc → Prop} {j n : Nat} (X : Stand p l e R s m args below meth c T locs cells slots)
    (H : ∃ (v : Option Value) (vm₁ : Vm) (B : Pt), s.WarmedH vm₁ ∧ Stand p l e R s m args below meth c B.U B.locs B.cells B.slots ∧ (∃ L, Q v B.U.heap L ∧ B.locs = locs ++ L ∧ B.cells = cells + j ∧ B.slots = slots + n) ∧ ∀ target, Steps p.tables e below (B.U.setTop (mkF m (pc + 3) Ls (v.toList ++ rest))) target → Steps p.tables e below (T.setTop (mkF m pc Ls S)) target)
    (k : ∀ v T' L, Stand p l e R s m args below meth c T' (locs ++ L) (cells + j) (slots + n) → Q v T'.heap L → own_Go p e below Post (T'.setTop (mkF m (pc + 3) Ls (v.toList ++ rest)))) : own_Go p e below Post (T.setTop (mkF m pc Ls S)) := by
  obtain ⟨v, vm₁, ⟨T', L', c', n'⟩, -, X', ⟨L, hQ, e1, e2, e3⟩, st⟩ := H
  dsimp only [Pt.U, Pt.locs, Pt.cells, Pt.slots] at X' e1 e2 e3 st hQ
  subst e1 e2 e3
  exact own_Go.of st (k v T' L X' hQ)
abbrev own_MP (l : Launch) (y : MethodName) (b : ByteArray) (ml : Nat) (rt : Option FieldType) (ws : List Jvm.Cond) (R : Room) (Z : State) (h0 : Heap) (as : Array Value) (K : Program → Env → List Frame → State → Array Value → Prop) (Q : Option Value → Heap → List Loc → Prop) : Prop :=
  MetFree l y (head1 (Jvm.Cond.code y b ml rt :: ws) R) (fun a U => a = as ∧ Z.Warmed39 U.vm ∧ U.heap = h0) K (fun _ U o U' => ∃ v L, o = .returned v ∧ Q v U'.heap L ∧ FrameEnd U o U' L R.cells R.slots)
theorem own_startP {l : Launch} {y : MethodName} {b : ByteArray} {ml : Nat} {rt : Option FieldType} {ws : List Jvm.Cond} {R : Room} {Z : State} {h0 : Heap} {as : Array Value} {K : Program → Env → List Frame → State → Array Value → Prop} {Q : Option Value → Heap → List Loc → Prop} (hpn : plainFor y = true)
    (h : ∀ (p : Program) (e : Env) (s : State) (m : MethodId) (below : List Frame) (meth : Method) (c : Code) (s₁ : State), BodyLoose p l y (head1 (Jvm.Cond.code y b ml rt :: ws) R) b ml rt e s m as below meth c s₁ → p.tables.exec = Jvm.exec → c.code = b → c.maxLocals = ml → s.vm.findClass y.cls = some m.cls → Stand p l e R s m as below meth c s₁ [] 0 0 → s₁.heap = h0 → s.heap = h0 → Z.Warmed39 s.vm → K p e below s as →
      ∀ Pst : Outcome → State → Prop, Pst = (fun o U' => ∃ v L, o = .returned v ∧ Q v U'.heap L ∧ FrameEnd s o U' L R.cells R.slots) → own_Go p e below Pst (s₁.setTop (entryFrame m as ml))) : own_MP l y b ml rt ws R Z h0 as K Q := by
  refine MetFree.of_bodySF hpn hisR ?_
  intro p e s m args below meth c s₁ Bd hml0 hP hK
  obtain ⟨rfl, hZ, hh0⟩ := hP
  exact h p e s m below meth c s₁ Bd Bd.exec Bd.bytes hml0 (findClass_of_methodNamed Bd.named) (Stand.of_body Bd) (by rw [← hh0, Bd.state]; rfl) hh0 hZ hK _ rfl
end Own
section OwnX
variable {p : Program} {e : Env} {m : MethodId} {below : List Frame} {c : Code} {T : State}
theorem o_aconstNull {pc : Nat} {Ls : Array Slot} {S : List Value} {Post : Outcome → State → Prop} (h : At T m c below) (hx : p.tables.exec = Jvm.exec) (hd : decode c.code pc = .ok (.aconst_null, 1)) (hr : own_Go p e below Post (T.setTop (mkF m (pc + 1) (Ls) (.null :: S)))) : own_Go p e below Post (T.setTop (mkF m pc Ls S)) := own_Go.of (fun t k => XS.aconstNull h hx rfl hd k) hr
theorem o_aload {pc : Nat} {Ls : Array Slot} {S : List Value} {Post : Outcome → State → Prop} (h : At T m c below) (hx : p.tables.exec = Jvm.exec) {k : Nat} {v : Value} (hd : decode c.code pc = .ok (.aload k, 2)) (hl : Ls[k]? = some (.val v)) (hv : v.isRef = true) (hr : own_Go p e below Post (T.setTop (mkF m (pc + 2) (Ls) (v :: S)))) : own_Go p e below Post (T.setTop (mkF m pc Ls S)) := own_Go.of (fun t k => XS.aload h hx rfl hd hl hv k) hr
theorem o_aloadN {pc : Nat} {Ls : Array Slot} {S : List Value} {Post : Outcome → State → Prop} (h : At T m c below) (hx : p.tables.exec = Jvm.exec) {k : Fin 4} {v : Value} (hd : decode c.code pc = .ok (.aload_n k, 1)) (hl : Ls[k.val]? = some (.val v)) (hv : v.isRef = true) (hr : own_Go p e below Post (T.setTop (mkF m (pc + 1) (Ls) (v :: S)))) : own_Go p e below Post (T.setTop (mkF m pc Ls S)) := own_Go.of (fun t k => XS.aloadN h hx rfl hd hl hv k) hr
theorem o_astore {pc : Nat} {Ls : Array Slot} {S : List Value} {Post : Outcome → State → Prop} (h : At T m c below) (hx : p.tables.exec = Jvm.exec) {k : Nat} {x : Value} {rest : List Value} {l' : Array Slot} (hd : decode c.code pc = .ok (.astore k, 2)) (hs : S = x :: rest) (hv : x.isRef = true) (hl : storeLocals Ls k x = some l') (hr : own_Go p e below Post (T.setTop (mkF m (pc + 2) (l') (rest)))) : own_Go p e below Post (T.setTop (mkF m pc Ls S)) := own_Go.of (fun t k => XS.astore h hx rfl hd hs hv hl k) hr
theorem o_astoreN {pc : Nat} {Ls : Array Slot} {S : List Value} {Post : Outcome → State → Prop} (h : At T m c below) (hx : p.tables.exec = Jvm.exec) {k : Fin 4} {x : Value} {rest : List Value} {l' : Array Slot} (hd : decode c.code pc = .ok (.astore_n k, 1)) (hs : S = x :: rest) (hv : x.isRef = true) (hl : storeLocals Ls k.val x = some l') (hr : own_Go p e below Post (T.setTop (mkF m (pc + 1) (l') (rest)))) : own_Go p e below Post (T.setTop (mkF m pc Ls S)) := own_Go.of (fun t k => XS.astoreN h hx rfl hd hs hv hl k) hr
theorem o_bipush {pc : Nat} {Ls : Array Slot} {S : List Value} {Post : Outcome → State → Prop} (h : At T m c below) (hx : p.tables.exec = Jvm.exec) {i : Int} (hd : decode c.code pc = .ok (.bipush i, 2)) {z : Int32} (hz : (Int8.ofInt i).toInt32 = z) (hr : own_Go p e below Post (T.setTop (mkF m (pc + 2) (Ls) (.int z :: S)))) : own_Go p e below Post (T.setTop (mkF m pc Ls S)) := by subst hz; exact own_Go.of (fun t k => XS.bipush h hx rfl hd k) hr
theorem o_dup {pc : Nat} {Ls : Array Slot} {S : List Value} {Post : Outcome → State → Prop} (h : At T m c below) (hx : p.tables.exec = Jvm.exec) {x : Value} {rest : List Value} (hd : decode c.code pc = .ok (.dup, 1)) (hs : S = x :: rest) (hc : x.category = 1) (hr : own_Go p e below Post (T.setTop (mkF m (pc + 1) (Ls) (x :: x :: rest)))) : own_Go p e below Post (T.setTop (mkF m pc Ls S)) := own_Go.of (fun t k => XS.dup h hx rfl hd hs hc k) hr
theorem o_dupX1 {pc : Nat} {Ls : Array Slot} {S : List Value} {Post : Outcome → State → Prop} (h : At T m c below) (hx : p.tables.exec = Jvm.exec) {x y : Value} {rest : List Value} (hd : decode c.code pc = .ok (.dup_x1, 1)) (hs : S = x :: y :: rest) (hc : x.category = 1) (hc2 : y.category = 1) (hr : own_Go p e below Post (T.setTop (mkF m (pc + 1) (Ls) (x :: y :: x :: rest)))) : own_Go p e below Post (T.setTop (mkF m pc Ls S)) := own_Go.of (fun t k => XS.dupX1 h hx rfl hd hs hc hc2 k) hr
theorem o_goto {pc : Nat} {Ls : Array Slot} {S : List Value} {Post : Outcome → State → Prop} (h : At T m c below) (hx : p.tables.exec = Jvm.exec) {o : Int} {pc0 pc' : Nat} (hpc : pc = pc0) (hd : decode c.code pc = .ok (.goto o, 3)) (ho : 0 ≤ (pc0 : Int) + o) (hp : ((pc0 : Int) + o).toNat = pc') (hr : own_Go p e below Post (T.setTop (mkF m (pc') (Ls) (S)))) : own_Go p e below Post (T.setTop (mkF m pc Ls S)) := own_Go.of (fun t k => XS.goto h hx rfl hpc hd ho hp k) hr
theorem o_i2l {pc : Nat} {Ls : Array Slot} {S : List Value} {Post : Outcome → State → Prop} (h : At T m c below) (hx : p.tables.exec = Jvm.exec) {v : Int32} {rest : List Value} (hd : decode c.code pc = .ok (.i2l, 1)) (hs : S = .int v :: rest) (hr : own_Go p e below Post (T.setTop (mkF m (pc + 1) (Ls) (.long (v.toInt64) :: rest)))) : own_Go p e below Post (T.setTop (mkF m pc Ls S)) := own_Go.of (fun t k => XS.i2l h hx rfl hd hs k) hr
theorem o_iadd {pc : Nat} {Ls : Array Slot} {S : List Value} {Post : Outcome → State → Prop} (h : At T m c below) (hx : p.tables.exec = Jvm.exec) {x y : Int32} {rest : List Value} (hd : decode c.code pc = .ok (.iadd, 1)) (hs : S = .int y :: .int x :: rest) (hr : own_Go p e below Post (T.setTop (mkF m (pc + 1) (Ls) (.int (x + y) :: rest)))) : own_Go p e below Post (T.setTop (mkF m pc Ls S)) := own_Go.of (fun t k => XS.iadd h hx rfl hd hs k) hr
theorem o_iand {pc : Nat} {Ls : Array Slot} {S : List Value} {Post : Outcome → State → Prop} (h : At T m c below) (hx : p.tables.exec = Jvm.exec) {x y : Int32} {rest : List Value} (hd : decode c.code pc = .ok (.iand, 1)) (hs : S = .int y :: .int x :: rest) (hr : own_Go p e below Post (T.setTop (mkF m (pc + 1) (Ls) (.int (x &&& y) :: rest)))) : own_Go p e below Post (T.setTop (mkF m pc Ls S)) := own_Go.of (fun t k => XS.iand h hx rfl hd hs k) hr
theorem o_icmpNo {pc : Nat} {Ls : Array Slot} {S : List Value} {Post : Outcome → State → Prop} (h : At T m c below) (hx : p.tables.exec = Jvm.exec) {cd : ClassFile.Cond} {o : Int} {x y : Int32} {rest : List Value} (hd : decode c.code pc = .ok (.if_icmp cd o, 3)) (hs : S = .int y :: .int x :: rest) (hc : if_icmp.holds cd x y = false) (hr : own_Go p e below Post (T.setTop (mkF m (pc + 3) (Ls) (rest)))) : own_Go p e below Post (T.setTop (mkF m pc Ls S)) := own_Go.of (fun t k => XS.icmpNo h hx rfl hd hs hc k) hr
theorem o_icmpYes {pc : Nat} {Ls : Array Slot} {S : List Value} {Post : Outcome → State → Prop} (h : At T m c below) (hx : p.tables.exec = Jvm.exec) {cd : ClassFile.Cond} {x y : Int32} {rest : List Value} {o : Int} {pc0 pc' : Nat} (hpc : pc = pc0) (hd : decode c.code pc = .ok (.if_icmp cd o, 3)) (hs : S = .int y :: .int x :: rest) (hc : if_icmp.holds cd x y = true) (ho : 0 ≤ (pc0 : Int) + o) (hp : ((pc0 : Int) + o).toNat = pc') (hr : own_Go p e below Post (T.setTop (mkF m (pc') (Ls) (rest)))) : own_Go p e below Post (T.setTop (mkF m pc Ls S)) := own_Go.of (fun t k => XS.icmpYes h hx rfl hpc hd hs hc ho hp k) hr
theorem o_iconst {pc : Nat} {Ls : Array Slot} {S : List Value} {Post : Outcome → State → Prop} (h : At T m c below) (hx : p.tables.exec = Jvm.exec) {i : Int} (hd : decode c.code pc = .ok (.iconst i, 1)) {z : Int32} (hz : (Int32.ofInt i) = z) (hr : own_Go p e below Post (T.setTop (mkF m (pc + 1) (Ls) (.int z :: S)))) : own_Go p e below Post (T.setTop (mkF m pc Ls S)) := by subst hz; exact own_Go.of (fun t k => XS.iconst h hx rfl hd k) hr
theorem o_ifNo {pc : Nat} {Ls : Array Slot} {S : List Value} {Post : Outcome → State → Prop} (h : At T m c below) (hx : p.tables.exec = Jvm.exec) {cd : ClassFile.Cond} {o : Int} {x : Int32} {rest : List Value} (hd : decode c.code pc = .ok (.ifCond cd o, 3)) (hs : S = .int x :: rest) (hc : ifCond.holds cd x = false) (hr : own_Go p e below Post (T.setTop (mkF m (pc + 3) (Ls) (rest)))) : own_Go p e below Post (T.setTop (mkF m pc Ls S)) := own_Go.of (fun t k => XS.ifNo h hx rfl hd hs hc k) hr
theorem o_ifYes {pc : Nat} {Ls : Array Slot} {S : List Value} {Post : Outcome → State → Prop} (h : At T m c below) (hx : p.tables.exec = Jvm.exec) {cd : ClassFile.Cond} {x : Int32} {rest : List Value} {o : Int} {pc0 pc' : Nat} (hpc : pc = pc0) (hd : decode c.code pc = .ok (.ifCond cd o, 3)) (hs : S = .int x :: rest) (hc : ifCond.holds cd x = true) (ho : 0 ≤ (pc0 : Int) + o) (hp : ((pc0 : Int) + o).toNat = pc') (hr : own_Go p e below Post (T.setTop (mkF m (pc') (Ls) (rest)))) : own_Go p e below Post (T.setTop (mkF m pc Ls S)) := own_Go.of (fun t k => XS.ifYes h hx rfl hpc hd hs hc ho hp k) hr
theorem o_ifnonnullNo {pc : Nat} {Ls : Array Slot} {S : List Value} {Post : Outcome → State → Prop} (h : At T m c below) (hx : p.tables.exec = Jvm.exec) {o : Int} {rest : List Value} (hd : decode c.code pc = .ok (.ifnonnull o, 3)) (hs : S = .null :: rest) (hr : own_Go p e below Post (T.setTop (mkF m (pc + 3) (Ls) (rest)))) : own_Go p e below Post (T.setTop (mkF m pc Ls S)) := own_Go.of (fun t k => XS.ifnonnullNo h hx rfl hd hs k) hr
theorem o_iinc {pc : Nat} {Ls : Array Slot} {S : List Value} {Post : Outcome → State → Prop} (h : At T m c below) (hx : p.tables.exec = Jvm.exec) {k : Nat} {cst : Int} {x : Int32} {l' : Array Slot} (hd : decode c.code pc = .ok (.iinc k cst, 3)) (hl : Ls[k]? = some (.val (.int x))) (hl' : storeLocals Ls k (.int (x + Int32.ofInt cst)) = some l') (hr : own_Go p e below Post (T.setTop (mkF m (pc + 3) (l') (S)))) : own_Go p e below Post (T.setTop (mkF m pc Ls S)) := own_Go.of (fun t k => XS.iinc h hx rfl hd hl hl' k) hr
theorem o_iload {pc : Nat} {Ls : Array Slot} {S : List Value} {Post : Outcome → State → Prop} (h : At T m c below) (hx : p.tables.exec = Jvm.exec) {k : Nat} {v : Int32} (hd : decode c.code pc = .ok (.iload k, 2)) (hl : Ls[k]? = some (.val (.int v))) (hr : own_Go p e below Post (T.setTop (mkF m (pc + 2) (Ls) (.int v :: S)))) : own_Go p e below Post (T.setTop (mkF m pc Ls S)) := own_Go.of (fun t k => XS.iload h hx rfl hd hl k) hr
theorem o_iloadN {pc : Nat} {Ls : Array Slot} {S : List Value} {Post : Outcome → State → Prop} (h : At T m c below) (hx : p.tables.exec = Jvm.exec) {k : Fin 4} {v : Int32} (hd : decode c.code pc = .ok (.iload_n k, 1)) (hl : Ls[k.val]? = some (.val (.int v))) (hr : own_Go p e below Post (T.setTop (mkF m (pc + 1) (Ls) (.int v :: S)))) : own_Go p e below Post (T.setTop (mkF m pc Ls S)) := own_Go.of (fun t k => XS.iloadN h hx rfl hd hl k) hr
theorem o_ishl {pc : Nat} {Ls : Array Slot} {S : List Value} {Post : Outcome → State → Prop} (h : At T m c below) (hx : p.tables.exec = Jvm.exec) {x : Int32} {y : Int32} {rest : List Value} (hd : decode c.code pc = .ok (.ishl, 1)) (hs : S = .int y :: .int x :: rest) (hr : own_Go p e below Post (T.setTop (mkF m (pc + 1) (Ls) (.int (x <<< (y &&& 31)) :: rest)))) : own_Go p e below Post (T.setTop (mkF m pc Ls S)) := own_Go.of (fun t k => XS.ishl h hx rfl hd hs k) hr
theorem o_istore {pc : Nat} {Ls : Array Slot} {S : List Value} {Post : Outcome → State → Prop} (h : At T m c below) (hx : p.tables.exec = Jvm.exec) {k : Nat} {x : Int32} {rest : List Value} {l' : Array Slot} (hd : decode c.code pc = .ok (.istore k, 2)) (hs : S = .int x :: rest) (hl : storeLocals Ls k (.int x) = some l') (hr : own_Go p e below Post (T.setTop (mkF m (pc + 2) (l') (rest)))) : own_Go p e below Post (T.setTop (mkF m pc Ls S)) := own_Go.of (fun t k => XS.istore h hx rfl hd hs hl k) hr
theorem o_istoreN {pc : Nat} {Ls : Array Slot} {S : List Value} {Post : Outcome → State → Prop} (h : At T m c below) (hx : p.tables.exec = Jvm.exec) {k : Fin 4} {x : Int32} {rest : List Value} {l' : Array Slot} (hd : decode c.code pc = .ok (.istore_n k, 1)) (hs : S = .int x :: rest) (hl : storeLocals Ls k.val (.int x) = some l') (hr : own_Go p e below Post (T.setTop (mkF m (pc + 1) (l') (rest)))) : own_Go p e below Post (T.setTop (mkF m pc Ls S)) := own_Go.of (fun t k => XS.istoreN h hx rfl hd hs hl k) hr
theorem o_isub {pc : Nat} {Ls : Array Slot} {S : List Value} {Post : Outcome → State → Prop} (h : At T m c below) (hx : p.tables.exec = Jvm.exec) {x y : Int32} {rest : List Value} (hd : decode c.code pc = .ok (.isub, 1)) (hs : S = .int y :: .int x :: rest) (hr : own_Go p e below Post (T.setTop (mkF m (pc + 1) (Ls) (.int (x - y) :: rest)))) : own_Go p e below Post (T.setTop (mkF m pc Ls S)) := own_Go.of (fun t k => XS.isub h hx rfl hd hs k) hr
theorem o_iushr {pc : Nat} {Ls : Array Slot} {S : List Value} {Post : Outcome → State → Prop} (h : At T m c below) (hx : p.tables.exec = Jvm.exec) {x : Int32} {y : Int32} {rest : List Value} (hd : decode c.code pc = .ok (.iushr, 1)) (hs : S = .int y :: .int x :: rest) (hr : own_Go p e below Post (T.setTop (mkF m (pc + 1) (Ls) (.int ((x.toUInt32 >>> (y &&& 31).toUInt32).toInt32) :: rest)))) : own_Go p e below Post (T.setTop (mkF m pc Ls S)) := own_Go.of (fun t k => XS.iushr h hx rfl hd hs k) hr
theorem o_l2i {pc : Nat} {Ls : Array Slot} {S : List Value} {Post : Outcome → State → Prop} (h : At T m c below) (hx : p.tables.exec = Jvm.exec) {v : Int64} {rest : List Value} (hd : decode c.code pc = .ok (.l2i, 1)) (hs : S = .long v :: rest) (hr : own_Go p e below Post (T.setTop (mkF m (pc + 1) (Ls) (.int (v.toInt32) :: rest)))) : own_Go p e below Post (T.setTop (mkF m pc Ls S)) := own_Go.of (fun t k => XS.l2i h hx rfl hd hs k) hr
theorem o_ladd {pc : Nat} {Ls : Array Slot} {S : List Value} {Post : Outcome → State → Prop} (h : At T m c below) (hx : p.tables.exec = Jvm.exec) {x : Int64} {y : Int64} {rest : List Value} (hd : decode c.code pc = .ok (.ladd, 1)) (hs : S = .long y :: .long x :: rest) (hr : own_Go p e below Post (T.setTop (mkF m (pc + 1) (Ls) (.long (x + y) :: rest)))) : own_Go p e below Post (T.setTop (mkF m pc Ls S)) := own_Go.of (fun t k => XS.ladd h hx rfl hd hs k) hr
theorem o_land {pc : Nat} {Ls : Array Slot} {S : List Value} {Post : Outcome → State → Prop} (h : At T m c below) (hx : p.tables.exec = Jvm.exec) {x : Int64} {y : Int64} {rest : List Value} (hd : decode c.code pc = .ok (.land, 1)) (hs : S = .long y :: .long x :: rest) (hr : own_Go p e below Post (T.setTop (mkF m (pc + 1) (Ls) (.long (x &&& y) :: rest)))) : own_Go p e below Post (T.setTop (mkF m pc Ls S)) := own_Go.of (fun t k => XS.land h hx rfl hd hs k) hr
theorem o_lcmp {pc : Nat} {Ls : Array Slot} {S : List Value} {Post : Outcome → State → Prop} (h : At T m c below) (hx : p.tables.exec = Jvm.exec) {x y : Int64} {rest : List Value} (hd : decode c.code pc = .ok (.lcmp, 1)) (hs : S = .long y :: .long x :: rest) (hr : own_Go p e below Post (T.setTop (mkF m (pc + 1) (Ls) (.int (if x > y then 1 else if x = y then 0 else -1) :: rest)))) : own_Go p e below Post (T.setTop (mkF m pc Ls S)) := own_Go.of (fun t k => XS.lcmp h hx rfl hd hs k) hr
theorem o_lconst {pc : Nat} {Ls : Array Slot} {S : List Value} {Post : Outcome → State → Prop} (h : At T m c below) (hx : p.tables.exec = Jvm.exec) {k : Fin 2} (hd : decode c.code pc = .ok (.lconst k, 1)) {z : Int64} (hz : (Int64.ofNat k) = z) (hr : own_Go p e below Post (T.setTop (mkF m (pc + 1) (Ls) (.long z :: S)))) : own_Go p e below Post (T.setTop (mkF m pc Ls S)) := by subst hz; exact own_Go.of (fun t k => XS.lconst h hx rfl hd k) hr
theorem o_ldiv {pc : Nat} {Ls : Array Slot} {S : List Value} {Post : Outcome → State → Prop} (h : At T m c below) (hx : p.tables.exec = Jvm.exec) {x y : Int64} {rest : List Value} (hd : decode c.code pc = .ok (.ldiv, 1)) (hs : S = .long y :: .long x :: rest) (hy : y ≠ 0) (hr : own_Go p e below Post (T.setTop (mkF m (pc + 1) (Ls) (.long (x / y) :: rest)))) : own_Go p e below Post (T.setTop (mkF m pc Ls S)) := own_Go.of (fun t k => XS.ldiv h hx rfl hd hs hy k) hr
theorem o_lload {pc : Nat} {Ls : Array Slot} {S : List Value} {Post : Outcome → State → Prop} (h : At T m c below) (hx : p.tables.exec = Jvm.exec) {k : Nat} {v : Int64} (hd : decode c.code pc = .ok (.lload k, 2)) (hl : Ls[k]? = some (.val (.long v))) (hr : own_Go p e below Post (T.setTop (mkF m (pc + 2) (Ls) (.long v :: S)))) : own_Go p e below Post (T.setTop (mkF m pc Ls S)) := own_Go.of (fun t k => XS.lload h hx rfl hd hl k) hr
theorem o_lloadN {pc : Nat} {Ls : Array Slot} {S : List Value} {Post : Outcome → State → Prop} (h : At T m c below) (hx : p.tables.exec = Jvm.exec) {k : Fin 4} {v : Int64} (hd : decode c.code pc = .ok (.lload_n k, 1)) (hl : Ls[k.val]? = some (.val (.long v))) (hr : own_Go p e below Post (T.setTop (mkF m (pc + 1) (Ls) (.long v :: S)))) : own_Go p e below Post (T.setTop (mkF m pc Ls S)) := own_Go.of (fun t k => XS.lloadN h hx rfl hd hl k) hr
theorem o_lmul {pc : Nat} {Ls : Array Slot} {S : List Value} {Post : Outcome → State → Prop} (h : At T m c below) (hx : p.tables.exec = Jvm.exec) {x : Int64} {y : Int64} {rest : List Value} (hd : decode c.code pc = .ok (.lmul, 1)) (hs : S = .long y :: .long x :: rest) (hr : own_Go p e below Post (T.setTop (mkF m (pc + 1) (Ls) (.long (x * y) :: rest)))) : own_Go p e below Post (T.setTop (mkF m pc Ls S)) := own_Go.of (fun t k => XS.lmul h hx rfl hd hs k) hr
theorem o_lneg {pc : Nat} {Ls : Array Slot} {S : List Value} {Post : Outcome → State → Prop} (h : At T m c below) (hx : p.tables.exec = Jvm.exec) {v : Int64} {rest : List Value} (hd : decode c.code pc = .ok (.lneg, 1)) (hs : S = .long v :: rest) (hr : own_Go p e below Post (T.setTop (mkF m (pc + 1) (Ls) (.long (-v) :: rest)))) : own_Go p e below Post (T.setTop (mkF m pc Ls S)) := own_Go.of (fun t k => XS.lneg h hx rfl hd hs k) hr
theorem o_lor {pc : Nat} {Ls : Array Slot} {S : List Value} {Post : Outcome → State → Prop} (h : At T m c below) (hx : p.tables.exec = Jvm.exec) {x : Int64} {y : Int64} {rest : List Value} (hd : decode c.code pc = .ok (.lor, 1)) (hs : S = .long y :: .long x :: rest) (hr : own_Go p e below Post (T.setTop (mkF m (pc + 1) (Ls) (.long (x ||| y) :: rest)))) : own_Go p e below Post (T.setTop (mkF m pc Ls S)) := own_Go.of (fun t k => XS.lor h hx rfl hd hs k) hr
theorem o_lrem {pc : Nat} {Ls : Array Slot} {S : List Value} {Post : Outcome → State → Prop} (h : At T m c below) (hx : p.tables.exec = Jvm.exec) {x y : Int64} {rest : List Value} (hd : decode c.code pc = .ok (.lrem, 1)) (hs : S = .long y :: .long x :: rest) (hy : y ≠ 0) (hr : own_Go p e below Post (T.setTop (mkF m (pc + 1) (Ls) (.long (x - (x / y) * y) :: rest)))) : own_Go p e below Post (T.setTop (mkF m pc Ls S)) := own_Go.of (fun t k => XS.lrem h hx rfl hd hs hy k) hr
theorem o_lshl {pc : Nat} {Ls : Array Slot} {S : List Value} {Post : Outcome → State → Prop} (h : At T m c below) (hx : p.tables.exec = Jvm.exec) {x : Int64} {y : Int32} {rest : List Value} (hd : decode c.code pc = .ok (.lshl, 1)) (hs : S = .int y :: .long x :: rest) (hr : own_Go p e below Post (T.setTop (mkF m (pc + 1) (Ls) (.long (x <<< (y &&& 0x3f).toInt64) :: rest)))) : own_Go p e below Post (T.setTop (mkF m pc Ls S)) := own_Go.of (fun t k => XS.lshl h hx rfl hd hs k) hr
theorem o_lstore {pc : Nat} {Ls : Array Slot} {S : List Value} {Post : Outcome → State → Prop} (h : At T m c below) (hx : p.tables.exec = Jvm.exec) {k : Nat} {x : Int64} {rest : List Value} {l' : Array Slot} (hd : decode c.code pc = .ok (.lstore k, 2)) (hs : S = .long x :: rest) (hl : storeLocals Ls k (.long x) = some l') (hr : own_Go p e below Post (T.setTop (mkF m (pc + 2) (l') (rest)))) : own_Go p e below Post (T.setTop (mkF m pc Ls S)) := own_Go.of (fun t k => XS.lstore h hx rfl hd hs hl k) hr
theorem o_lstoreN {pc : Nat} {Ls : Array Slot} {S : List Value} {Post : Outcome → State → Prop} (h : At T m c below) (hx : p.tables.exec = Jvm.exec) {k : Fin 4} {x : Int64} {rest : List Value} {l' : Array Slot} (hd : decode c.code pc = .ok (.lstore_n k, 1)) (hs : S = .long x :: rest) (hl : storeLocals Ls k.val (.long x) = some l') (hr : own_Go p e below Post (T.setTop (mkF m (pc + 1) (l') (rest)))) : own_Go p e below Post (T.setTop (mkF m pc Ls S)) := own_Go.of (fun t k => XS.lstoreN h hx rfl hd hs hl k) hr
theorem o_lsub {pc : Nat} {Ls : Array Slot} {S : List Value} {Post : Outcome → State → Prop} (h : At T m c below) (hx : p.tables.exec = Jvm.exec) {x : Int64} {y : Int64} {rest : List Value} (hd : decode c.code pc = .ok (.lsub, 1)) (hs : S = .long y :: .long x :: rest) (hr : own_Go p e below Post (T.setTop (mkF m (pc + 1) (Ls) (.long (x - y) :: rest)))) : own_Go p e below Post (T.setTop (mkF m pc Ls S)) := own_Go.of (fun t k => XS.lsub h hx rfl hd hs k) hr
theorem o_lushr {pc : Nat} {Ls : Array Slot} {S : List Value} {Post : Outcome → State → Prop} (h : At T m c below) (hx : p.tables.exec = Jvm.exec) {x : Int64} {y : Int32} {rest : List Value} (hd : decode c.code pc = .ok (.lushr, 1)) (hs : S = .int y :: .long x :: rest) (hr : own_Go p e below Post (T.setTop (mkF m (pc + 1) (Ls) (.long ((x.toUInt64 >>> (y &&& 0x3f).toInt64.toUInt64).toInt64) :: rest)))) : own_Go p e below Post (T.setTop (mkF m pc Ls S)) := own_Go.of (fun t k => XS.lushr h hx rfl hd hs k) hr
theorem o_lxor {pc : Nat} {Ls : Array Slot} {S : List Value} {Post : Outcome → State → Prop} (h : At T m c below) (hx : p.tables.exec = Jvm.exec) {x : Int64} {y : Int64} {rest : List Value} (hd : decode c.code pc = .ok (.lxor, 1)) (hs : S = .long y :: .long x :: rest) (hr : own_Go p e below Post (T.setTop (mkF m (pc + 1) (Ls) (.long (x ^^^ y) :: rest)))) : own_Go p e below Post (T.setTop (mkF m pc Ls S)) := own_Go.of (fun t k => XS.lxor h hx rfl hd hs k) hr
theorem o_sipush {pc : Nat} {Ls : Array Slot} {S : List Value} {Post : Outcome → State → Prop} (h : At T m c below) (hx : p.tables.exec = Jvm.exec) {i : Int} (hd : decode c.code pc = .ok (.sipush i, 3)) {z : Int32} (hz : (Int16.ofInt i).toInt32 = z) (hr : own_Go p e below Post (T.setTop (mkF m (pc + 3) (Ls) (.int z :: S)))) : own_Go p e below Post (T.setTop (mkF m pc Ls S)) := by subst hz; exact own_Go.of (fun t k => XS.sipush h hx rfl hd k) hr
end OwnX
section OwnH
variable {p : Program} {l : Launch} {e : Env} {R : Room} {s : State} {m : MethodId} {args : Array Value} {below : List Frame} {meth : Method} {c : Code} {T : State} {locs : List Loc} {cells slots : Nat} {Z : State} {a0 : Array Value} {h : Heap} {Post : Outcome → State → Prop} {pc : Nat} {Ls : Array Slot} {S : List Value}
theorem p_getF (X : Stand p l e R s m args below meth c T locs cells slots) (hx : p.tables.exec = Jvm.exec) (hZ : Z.Warmed39 s.vm) {own R0 O n d host : String} {index : Nat} (hown : s.vm.findClass own = some m.cls) (w : (Cond.fieldLink own index R0 n d).before a0 Z = true ∨ (Cond.fieldLinkNest own index R0 n d host).before a0 Z = true) (via : Via Z R0 O n d) (eT : T.heap = h) {a : Addr} {v : Value} (F : Fld Z h a O n d v) {rest : List Value} (hs : S = .ref a :: rest) (hd : decode c.code pc = .ok (.getfield index, 3)) (k : ∀ T', Stand p l e R s m args below meth c T' locs cells slots → T'.heap = h → own_Go p e below Post (T'.setTop (mkF m (pc + 3) (Ls) (v :: rest)))) : own_Go p e below Post (T.setTop (mkF m pc Ls S)) := by
  obtain ⟨T', q0, q1, st⟩ := getF X hx hZ hown w via eT F (g := mkF m pc Ls S) rfl hs hd
  exact own_Go.of st (k T' @q0 @q1)
theorem p_getS2 (X : Stand p l e R s m args below meth c T locs cells slots) (hx : p.tables.exec = Jvm.exec) (hZ : Z.Warmed39 s.vm) {own R0 O n d host : String} {index : Nat} (hown : s.vm.findClass own = some m.cls) (w : (Cond.fieldLink own index R0 n d).before a0 Z = true ∨ (Cond.fieldLinkNest own index R0 n d host).before a0 Z = true) (via : Via Z R0 O n d) (eT : T.heap = h) {v : Value} (F : Sta Z h O n d v) (hd : decode c.code pc = .ok (.getstatic index, 3)) (k : ∀ T', Stand p l e R s m args below meth c T' locs cells slots → T'.heap = h → own_Go p e below Post (T'.setTop (mkF m (pc + 3) (Ls) (v :: S)))) : own_Go p e below Post (T.setTop (mkF m pc Ls S)) := by
  obtain ⟨T', q0, q1, st⟩ := getS2 X hx hZ hown w via eT F (g := mkF m pc Ls S) rfl hd
  exact own_Go.of st (k T' @q0 @q1)
theorem p_initO (X : Stand p l e R s m args below meth c T locs cells slots) (hx : p.tables.exec = Jvm.exec) (hZ : Z.Warmed39 s.vm) {own : String} {idx : Nat} (hown : s.vm.findClass own = some m.cls) (w1 : (Cond.methodLink own idx Lib.objectInit).before a0 Z = true) (w2 : (Cond.instanceMethod Lib.objectInit).before a0 Z = true) (w3 : (Cond.code Lib.objectInit ⟨#[0xb1]⟩ 1 none).before a0 Z = true) (eT : T.heap = h) (hsize : Ls.size = c.maxLocals) {a : Addr} {rest : List Value} (hs : S = .ref a :: rest) (hd : decode c.code pc = .ok (.invokespecial idx, 3)) (hf : 1 ≤ R.frames) {W : Nat} (hW : 2 * (mkF m pc Ls S).monitorRoom + (rest.map fun v => v.category).sum ≤ W) (hl : W + 12 ≤ R.locals) (k : ∀ T', Stand p l e R s m args below meth c T' locs cells slots → T'.heap = h → own_Go p e below Post (T'.setTop (mkF m (pc + 3) (Ls) (rest)))) : own_Go p e below Post (T.setTop (mkF m pc Ls S)) := by
  obtain ⟨T', q0, q1, st⟩ := initO X hx hZ hown w1 w2 w3 eT (g := mkF m pc Ls S) rfl hsize hs hd hf hW hl
  exact own_Go.of st (k T' @q0 @q1)
theorem p_newO (X : Stand p l e R s m args below meth c T locs cells slots) (hx : p.tables.exec = Jvm.exec) (hZ : Z.Warmed39 s.vm) {own C : String} {index n : Nat} (hown : s.vm.findClass own = some m.cls) (w : (Cond.classLink own index C).before a0 Z = true) (wi : (Cond.instantiable C n).before a0 Z = true) (wz : (Cond.initialized C).before a0 Z = true) (eT : T.heap = h) (hd : decode c.code pc = .ok (.new index, 3)) (hc : cells + 1 ≤ R.cells) (hl : slots + n ≤ R.slots) (k : ∀ T' h' (x : Addr), x = h.size → Stand p l e R s m args below meth c T' locs (cells + 1) (slots + n) → T'.heap = h' → Ext h h' → Exa Z h' x C → (∀ {O nm d : String} {ty : FieldType}, Laid Z a0 C O nm d → parseFieldDescriptor d = some ty → Fld Z h' x O nm d (defaultValue ty)) → (∃ cell : Cell, h'[x]? = some cell ∧ cell.vm = .none ∧ cell.monitor = {}) → own_Go p e below Post (T'.setTop (mkF m (pc + 3) (Ls) (.ref x :: S)))) : own_Go p e below Post (T.setTop (mkF m pc Ls S)) := by
  obtain ⟨T', h', q0, q1, q2, q3, q4, q5, st⟩ := newO X hx hZ hown w wi wz eT (g := mkF m pc Ls S) rfl hd hc hl
  exact own_Go.of st (k T' h' _ rfl @q0 @q1 @q2 @q3 @q4 @q5)
theorem p_newP (X : Stand p l e R s m args below meth c T locs cells slots) (hx : p.tables.exec = Jvm.exec) (hZ : Z.Warmed39 s.vm) {aty : ArrayType} (w : (Cond.arrayClass (newarray.typeOf aty)).before a0 Z = true) (eT : T.heap = h) (hd : decode c.code pc = .ok (.newarray aty, 2)) {n : Int32} {rest : List Value} (hs : S = .int n :: rest) (hn : ¬ n < 0) {cap : Nat} (hcap : n.toNatClampNeg ≤ cap) (hb : cap * 8 ≤ 536870912) (hc : cells + 1 ≤ R.cells) (hl : slots + cap ≤ R.slots) (k : ∀ T' h' cA (x : Addr), x = h.size → Stand p l e R s m args below meth c T' locs (cells + 1) (slots + cap) → T'.heap = h' → Ext h h' → Arr Z h' x (newA cA (newarray.typeOf aty) n) (newarray.typeOf aty) → own_Go p e below Post (T'.setTop (mkF m (pc + 2) (Ls) (.ref x :: rest)))) : own_Go p e below Post (T.setTop (mkF m pc Ls S)) := by
  obtain ⟨T', h', cA, q0, q1, q2, q3, st⟩ := newP X hx hZ w eT (g := mkF m pc Ls S) rfl hd hs hn hcap hb hc hl
  exact own_Go.of st (k T' h' cA _ rfl @q0 @q1 @q2 @q3)
theorem p_newR (X : Stand p l e R s m args below meth c T locs cells slots) (hx : p.tables.exec = Jvm.exec) (hZ : Z.Warmed39 s.vm) {own C : String} {index : Nat} (hown : s.vm.findClass own = some m.cls) (w1 : (Cond.classLink own index C).before a0 Z = true) (w2 : (Cond.arrayOver (.object C)).before a0 Z = true) (eT : T.heap = h) (hd : decode c.code pc = .ok (.anewarray index, 3)) {n : Int32} {rest : List Value} (hs : S = .int n :: rest) (hn : ¬ n < 0) {cap : Nat} (hcap : n.toNatClampNeg ≤ cap) (hb : cap * 8 ≤ 536870912) (hc : cells + 1 ≤ R.cells) (hl : slots + cap ≤ R.slots) (k : ∀ T' h' cA (x : Addr), x = h.size → Stand p l e R s m args below meth c T' locs (cells + 1) (slots + cap) → T'.heap = h' → Ext h h' → Arr Z h' x (newA cA (.object C) n) (.object C) → Ovr Z cA C → own_Go p e below Post (T'.setTop (mkF m (pc + 3) (Ls) (.ref x :: rest)))) : own_Go p e below Post (T.setTop (mkF m pc Ls S)) := by
  obtain ⟨T', h', cA, q0, q1, q2, q3, q4, st⟩ := newR X hx hZ hown w1 w2 eT (g := mkF m pc Ls S) rfl hd hs hn hcap hb hc hl
  exact own_Go.of st (k T' h' cA _ rfl @q0 @q1 @q2 @q3 @q4)
theorem p_putF (X : Stand p l e R s m args below meth c T locs cells slots) (hx : p.tables.exec = Jvm.exec) (hZ : Z.Warmed39 s.vm) {own R0 O n d host C : String} {index kk : Nat} {ty : FieldType} (hown : s.vm.findClass own = some m.cls) (w : (Cond.fieldLink own index R0 n d).before a0 Z = true ∨ (Cond.fieldLinkNest own index R0 n d host).before a0 Z = true) (via : Via Z R0 O n d) (eT : T.heap = h) {a : Addr} {v old : Value} (F : Fld Z h a O n d old) (E : Exa Z h a C) (L : (Cond.lays C O n d).before a0 Z = true ∨ ((Cond.laysFinal C O n d).before a0 Z = true ∧ own = O ∧ meth.name = "<init>")) (wi : (Cond.instantiable C kk).before a0 Z = true) (hty : parseFieldDescriptor d = some ty) (hn : narrow ty v = v) (hf : fits ty v = true) {rest : List Value} (hs : S = v :: .ref a :: rest) (hd : decode c.code pc = .ok (.putfield index, 3)) (k : ∀ T' h', Stand p l e R s m args below meth c T' (locs ++ [⟨a, Jvm.RoadKit.slotOf Z O n d⟩]) cells slots → T'.heap = h' → Wr h h' a (Jvm.RoadKit.slotOf Z O n d) v → own_Go p e below Post (T'.setTop (mkF m (pc + 3) (Ls) (rest)))) : own_Go p e below Post (T.setTop (mkF m pc Ls S)) := by
  obtain ⟨T', h', q0, q1, q2, st⟩ := putF X hx hZ hown w via eT F E L wi hty hn hf (g := mkF m pc Ls S) rfl hs hd
  exact own_Go.of st (k T' h' @q0 @q1 @q2)
theorem p_stI (X : Stand p l e R s m args below meth c T locs cells slots) (hx : p.tables.exec = Jvm.exec) (hZ : Z.Warmed39 s.vm) (eT : T.heap = h) {a : Addr} {cl : Cell} (A : Arr Z h a cl .int) {j : Int32} {x : Int32} (hj : ¬ (j < 0 ∨ cl.slots.size ≤ j.toNatClampNeg)) {rest : List Value} (hs : S = .int x :: .int j :: .ref a :: rest) (hd : decode c.code pc = .ok (.iastore, 1)) (k : ∀ T' h', Stand p l e R s m args below meth c T' (locs ++ [⟨a, j.toNatClampNeg⟩]) cells slots → T'.heap = h' → Wr h h' a j.toNatClampNeg (.int x) → own_Go p e below Post (T'.setTop (mkF m (pc + 1) (Ls) (rest)))) : own_Go p e below Post (T.setTop (mkF m pc Ls S)) := by
  obtain ⟨T', h', q0, q1, q2, st⟩ := stI X hx hZ eT A hj (g := mkF m pc Ls S) rfl hs hd
  exact own_Go.of st (k T' h' @q0 @q1 @q2)
theorem p_stR (X : Stand p l e R s m args below meth c T locs cells slots) (hx : p.tables.exec = Jvm.exec) (hZ : Z.Warmed39 s.vm) (eT : T.heap = h) {a : Addr} {cl : Cell} {ty : FieldType} (A : Arr Z h a cl ty) {j : Int32} {v : Value} (hj : ¬ (j < 0 ∨ cl.slots.size ≤ j.toNatClampNeg)) (hty : ty.isReference = true) (F : Sto Z h a v) {rest : List Value} (hs : S = v :: .int j :: .ref a :: rest) (hd : decode c.code pc = .ok (.aastore, 1)) (k : ∀ T' h', Stand p l e R s m args below meth c T' (locs ++ [⟨a, j.toNatClampNeg⟩]) cells slots → T'.heap = h' → Wr h h' a j.toNatClampNeg v → own_Go p e below Post (T'.setTop (mkF m (pc + 1) (Ls) (rest)))) : own_Go p e below Post (T.setTop (mkF m pc Ls S)) := by
  obtain ⟨T', h', q0, q1, q2, st⟩ := stR X hx hZ eT A hj hty F (g := mkF m pc Ls S) rfl hs hd
  exact own_Go.of st (k T' h' @q0 @q1 @q2)
theorem p_arI (X : Stand p l e R s m args below meth c T locs cells slots) (hx : p.tables.exec = Jvm.exec) (hZ : Z.Warmed39 s.vm) (eT : T.heap = h) {a : Addr} {k : ClassId} {N : Int32} {vs : List Value} {d : Value} (V : Arv Z h a k .int N vs d) (j : Int32) (i : Nat) (hj : ¬ j < 0 ∧ j < N) (hi : j.toNatClampNeg = i) (hl : i < vs.length) {x : Int32} {rest : List Value} (hs : S = .int x :: .int j :: .ref a :: rest) (hd : decode c.code pc = .ok (.iastore, 1)) (kk : ∀ T' h', Stand p l e R s m args below meth c T' (locs ++ [⟨a, j.toNatClampNeg⟩]) cells slots → T'.heap = h' → Wr h h' a j.toNatClampNeg (.int x) → Arv Z h' a k .int N (vs.set i (.int x)) d → own_Go p e below Post (T'.setTop (mkF m (pc + 1) Ls rest))) : own_Go p e below Post (T.setTop (mkF m pc Ls S)) := by
  obtain ⟨cl, Ar, q, S', P, H, G⟩ := V
  exact p_stI X hx hZ eT Ar (inb_of S' hj) hs hd fun T' h' X' e' W => kk T' h' X' e' W (Arv.set Ar q S' P H G rfl W i hi hl)
end OwnH
abbrev own_H (a0 : Array Value) (Z : State) : Prop := ∀ d ∈ tables_1, d.before a0 Z = true
theorem own_mem (i : Nat) {d : Jvm.Cond} (h : tables_1[i]? = some d) : d ∈ tables_1 := List.mem_of_getElem? h
theorem g_ {a0 : Array Value} {Z : State} (hw : own_H a0 Z) (i : Nat) {d : Jvm.Cond} (h : tables_1[i]? = some d) : d.before a0 Z = true := hw _ (List.mem_of_getElem? h)
section OwnW
variable {a0 : Array Value} {Z : State}
end OwnW
abbrev Mn0 : MethodName := ⟨"java/time/Duration", "compareTo", "(Ljava/time/Duration;)I"⟩
abbrev Mn1 : MethodName := ⟨"java/time/Duration", "multipliedBy", "(J)Ljava/time/Duration;"⟩
abbrev Mn2 : MethodName := ⟨"java/time/Duration", "getSeconds", "()J"⟩
abbrev Mn3 : MethodName := ⟨"java/time/Duration", "getNano", "()I"⟩
abbrev Mn4 : MethodName := ⟨"java/math/MutableBigInteger", "toBigInteger", "(I)Ljava/math/BigInteger;"⟩
abbrev Mn5 : MethodName := ⟨"java/math/BigInteger", "getInt", "(I)I"⟩
abbrev Mn6 : MethodName := ⟨"java/math/BigDecimal", "inflated", "()Ljava/math/BigInteger;"⟩
abbrev Mn7 : MethodName := ⟨"java/math/BigDecimal", "toBigIntegerExact", "()Ljava/math/BigInteger;"⟩
abbrev Mn8 : MethodName := ⟨"java/math/MutableBigInteger", "compare", "(Ljava/math/MutableBigInteger;)I"⟩
abbrev Mn9 : MethodName := ⟨"java/math/MutableBigInteger", "divideOneWord", "(ILjava/math/MutableBigInteger;)I"⟩
abbrev Mn10 : MethodName := ⟨"java/math/MutableBigInteger", "divideKnuth", "(Ljava/math/MutableBigInteger;Ljava/math/MutableBigInteger;Z)Ljava/math/MutableBigInteger;"⟩
abbrev Mn11 : MethodName := ⟨"java/math/MutableBigInteger", "divideKnuth", "(Ljava/math/MutableBigInteger;Ljava/math/MutableBigInteger;)Ljava/math/MutableBigInteger;"⟩
abbrev Mn12 : MethodName := ⟨"java/math/MutableBigInteger", "getMagnitudeArray", "()[I"⟩
abbrev Mn13 : MethodName := ⟨"java/math/BigInteger", "divideAndRemainderKnuth", "(Ljava/math/BigInteger;)[Ljava/math/BigInteger;"⟩
abbrev Mn14 : MethodName := ⟨"java/math/BigInteger", "divideAndRemainder", "(Ljava/math/BigInteger;)[Ljava/math/BigInteger;"⟩
abbrev Mn15 : MethodName := ⟨"java/lang/Number", "<init>", "()V"⟩
abbrev Mn16 : MethodName := ⟨"java/math/BigDecimal", "checkScale", "(J)I"⟩
abbrev Mn17 : MethodName := ⟨"java/math/BigDecimal", "valueOf", "(JI)Ljava/math/BigDecimal;"⟩
abbrev Mn18 : MethodName := ⟨"java/math/BigDecimal", "movePointRight", "(I)Ljava/math/BigDecimal;"⟩
abbrev Mn19 : MethodName := ⟨"java/math/BigDecimal", "setScale", "(II)Ljava/math/BigDecimal;"⟩
abbrev Mn20 : MethodName := ⟨"java/math/MutableBigInteger", "<init>", "()V"⟩
abbrev Mn21 : MethodName := ⟨"java/math/MutableBigInteger", "<init>", "([I)V"⟩
abbrev Mn22 : MethodName := ⟨"java/math/MutableBigInteger", "clear", "()V"⟩
abbrev Mn23 : MethodName := ⟨"java/math/BigInteger", "bitLength", "()I"⟩
abbrev Mn24 : MethodName := ⟨"java/math/BigInteger", "signInt", "()I"⟩
abbrev Mn25 : MethodName := ⟨"java/math/BigInteger", "longValue", "()J"⟩
abbrev Mn26 : MethodName := ⟨"java/math/BigInteger", "intValue", "()I"⟩
abbrev Mn27 : MethodName := ⟨"java/lang/Long", "compare", "(JJ)I"⟩
abbrev Mn28 : MethodName := ⟨"java/lang/Math", "abs", "(J)J"⟩
abbrev Mn29 : MethodName := ⟨"java/math/BigDecimal", "<init>", "(Ljava/math/BigInteger;JII)V"⟩
abbrev Mn30 : MethodName := ⟨"java/math/BigInteger", "<init>", "(J)V"⟩
abbrev Mn31 : MethodName := ⟨"java/math/BigInteger", "valueOf", "(J)Ljava/math/BigInteger;"⟩
abbrev Mn32 : MethodName := ⟨"java/lang/Integer", "numberOfLeadingZeros", "(I)I"⟩
abbrev Mn33 : MethodName := ⟨"java/time/Duration", "create", "(Ljava/math/BigDecimal;)Ljava/time/Duration;"⟩
abbrev Mn34 : MethodName := ⟨"com/example/tidewheel/tidewheel/rules/Retries", "delay", "(I)Ljava/time/Duration;"⟩
abbrev Mn35 : MethodName := ⟨"java/math/BigDecimal", "valueOf", "(J)Ljava/math/BigDecimal;"⟩
abbrev Mn36 : MethodName := ⟨"java/math/BigDecimal", "add", "(Ljava/math/BigDecimal;)Ljava/math/BigDecimal;"⟩
abbrev Mn37 : MethodName := ⟨"java/time/Duration", "toBigDecimalSeconds", "()Ljava/math/BigDecimal;"⟩
abbrev Mn38 : MethodName := ⟨"java/math/BigDecimal", "multiply", "(Ljava/math/BigDecimal;)Ljava/math/BigDecimal;"⟩
abbrev Mn39 : MethodName := ⟨"java/math/MutableBigInteger", "normalize", "()V"⟩
abbrev Mn40 : MethodName := ⟨"java/math/BigInteger", "<init>", "([II)V"⟩
abbrev Mn41 : MethodName := ⟨"java/time/Duration", "ofSeconds", "(JJ)Ljava/time/Duration;"⟩
abbrev Mn42 : MethodName := ⟨"java/math/BigDecimal", "checkScale", "(JJ)I"⟩
abbrev Mn43 : MethodName := ⟨"java/math/BigDecimal", "zeroValueOf", "(I)Ljava/math/BigDecimal;"⟩
abbrev Mn44 : MethodName := ⟨"java/math/BigDecimal", "longMultiplyPowerTen", "(JI)J"⟩
abbrev Mn45 : MethodName := ⟨"java/math/BigDecimal", "add", "(JJ)J"⟩
abbrev Mn46 : MethodName := ⟨"java/math/BigDecimal", "add", "(JJI)Ljava/math/BigDecimal;"⟩
abbrev Mn47 : MethodName := ⟨"java/math/BigDecimal", "add", "(JIJI)Ljava/math/BigDecimal;"⟩
abbrev Mn48 : MethodName := ⟨"java/math/BigDecimal", "multiply", "(JJ)J"⟩
abbrev Mn49 : MethodName := ⟨"java/math/BigDecimal", "multiply", "(JJI)Ljava/math/BigDecimal;"⟩
abbrev Mn50 : MethodName := ⟨"java/math/BigInteger", "bitLengthForInt", "(I)I"⟩
abbrev Mn51 : MethodName := ⟨"java/util/Arrays", "checkLength", "(II)V"⟩
abbrev Mn52 : MethodName := ⟨"java/lang/Math", "min", "(II)I"⟩
abbrev Mn53 : MethodName := ⟨"java/util/Arrays", "copyOfRangeInt", "([III)[I"⟩
abbrev Mn54 : MethodName := ⟨"java/util/Arrays", "copyOfRange", "([III)[I"⟩
abbrev Mn55 : MethodName := ⟨"java/util/Arrays", "fill", "([II)V"⟩
abbrev Mn56 : MethodName := ⟨"java/lang/Math", "floorDiv", "(JJ)J"⟩
abbrev Mn57 : MethodName := ⟨"java/lang/Math", "floorMod", "(JJ)J"⟩
abbrev Mn58 : MethodName := ⟨"java/lang/Math", "addExact", "(JJ)J"⟩
abbrev Mn59 : MethodName := ⟨"java/time/Duration", "<init>", "(JI)V"⟩
abbrev Mn60 : MethodName := ⟨"java/time/Duration", "create", "(JI)Ljava/time/Duration;"⟩
theorem own_e {b : ByteArray} {l : List (Nat × Instr × Nat)} (h : ∀ p ∈ l, decode b p.1 = .ok p.2) (i : Nat) {p : Nat} {x : Instr} {k : Nat} (hp : l[i]? = some (p, x, k)) : decode b p = .ok (x, k) := h (p, x, k) (List.mem_of_getElem? hp)
theorem own_E {c : Code} {b : ByteArray} {l : List (Nat × Instr × Nat)} (hc : c.code = b) (h : ∀ p ∈ l, decode b p.1 = .ok p.2) (i : Nat) {p : Nat} {x : Instr} {k : Nat} (hp : l[i]? = some (p, x, k)) : decode c.code p = .ok (x, k) := hb hc (own_e h i hp)
theorem own_D1 : ∀ p ∈ ([(0, .iload_n 0, 1), (1, .iconst 1, 1), (2, .if_icmp .ge 29, 3), (31, .getstatic 26, 3), (34, .astore_n 1, 1), (35, .iconst 1, 1), (36, .istore_n 2, 1), (37, .iload_n 2, 1), (38, .iload_n 0, 1), (39, .if_icmp .ge 27, 3), (42, .aload_n 1, 1), (43, .getstatic 32, 3), (46, .invokevirtual 35, 3), (49, .ifCond .ge 17, 3), (52, .aload_n 1, 1), (53, .ldc2_w 41, 3), (56, .invokevirtual 43, 3), (59, .astore_n 1, 1), (60, .iinc 2 1, 3), (63, .goto (-26), 3), (66, .aload_n 1, 1), (67, .getstatic 32, 3), (70, .invokevirtual 35, 3), (73, .ifCond .ge 7, 3), (80, .getstatic 32, 3), (83, .areturn, 1), (76, .aload_n 1, 1), (77, .goto 6, 3)] : List (Nat × Instr × Nat)), decode prog_34_method_2_code p.1 = .ok p.2 := by decide +kernel
theorem own_D2 : ∀ p ∈ ([(0, .aload_n 0, 1), (1, .getfield 221, 3), (4, .aload_n 1, 1), (5, .getfield 221, 3), (8, .invokestatic 416, 3), (11, .istore_n 2, 1), (12, .iload_n 2, 1), (13, .ifCond .eq 5, 3), (16, .iload_n 2, 1), (17, .ireturn, 1)] : List (Nat × Instr × Nat)), decode jdk_2316_method_66_code p.1 = .ok p.2 := by decide +kernel
theorem own_D3 : ∀ p ∈ ([(0, .lload_n 0, 1), (1, .lload_n 2, 1), (2, .lcmp, 1), (3, .ifCond .ge 7, 3), (6, .iconst (-1), 1), (7, .goto 14, 3), (21, .ireturn, 1), (10, .lload_n 0, 1), (11, .lload_n 2, 1), (12, .lcmp, 1), (13, .ifCond .ne 7, 3), (20, .iconst 1, 1)] : List (Nat × Instr × Nat)), decode jdk_35_method_42_code p.1 = .ok p.2 := by decide +kernel
theorem own_D4 : ∀ p ∈ ([(0, .aload_n 0, 1), (1, .getfield 221, 3), (4, .lreturn, 1)] : List (Nat × Instr × Nat)), decode jdk_2316_method_23_code p.1 = .ok p.2 := by decide +kernel
theorem own_D5 : ∀ p ∈ ([(0, .aload_n 0, 1), (1, .getfield 224, 3), (4, .ireturn, 1)] : List (Nat × Instr × Nat)), decode jdk_2316_method_24_code p.1 = .ok p.2 := by decide +kernel
theorem own_D6 : ∀ p ∈ ([(0, .lload_n 1, 1), (1, .lconst 0, 1), (2, .lcmp, 1), (3, .ifCond .ne 7, 3), (10, .lload_n 1, 1), (11, .lconst 1, 1), (12, .lcmp, 1), (13, .ifCond .ne 5, 3), (18, .aload_n 0, 1), (19, .invokevirtual 309, 3), (22, .lload_n 1, 1), (23, .invokestatic 313, 3), (26, .invokevirtual 319, 3), (29, .invokestatic 323, 3), (32, .areturn, 1)] : List (Nat × Instr × Nat)), decode jdk_2316_method_44_code p.1 = .ok p.2 := by decide +kernel
theorem own_D7 : ∀ p ∈ ([(0, .aload_n 0, 1), (1, .getfield 221, 3), (4, .invokestatic 313, 3), (7, .aload_n 0, 1), (8, .getfield 224, 3), (11, .i2l, 1), (12, .bipush 9, 2), (14, .invokestatic 347, 3), (17, .invokevirtual 350, 3), (20, .areturn, 1)] : List (Nat × Instr × Nat)), decode jdk_2316_method_47_code p.1 = .ok p.2 := by decide +kernel
theorem own_D8 : ∀ p ∈ ([(0, .lload_n 0, 1), (1, .lconst 0, 1), (2, .lcmp, 1), (3, .ifCond .lt 20, 3), (6, .lload_n 0, 1), (7, .getstatic 246, 3), (10, .arraylength, 1), (11, .i2l, 1), (12, .lcmp, 1), (13, .ifCond .ge 10, 3), (16, .getstatic 246, 3), (19, .lload_n 0, 1), (20, .l2i, 1), (21, .aaload, 1), (22, .areturn, 1), (23, .lload_n 0, 1), (24, .ldc2_w 125, 3), (27, .lcmp, 1), (28, .ifCond .eq 15, 3), (31, .new 3, 3), (34, .dup, 1), (35, .aconst_null, 1), (36, .lload_n 0, 1), (37, .iconst 0, 1), (38, .iconst 0, 1), (39, .invokespecial 243, 3), (42, .areturn, 1)] : List (Nat × Instr × Nat)), decode jdk_17_method_21_code p.1 = .ok p.2 := by decide +kernel
theorem own_D9 : ∀ p ∈ ([(0, .iload_n 2, 1), (1, .ifCond .ne 8, 3), (9, .lload_n 0, 1), (10, .lconst 0, 1), (11, .lcmp, 1), (12, .ifCond .ne 8, 3), (15, .iload_n 2, 1), (16, .invokestatic 239, 3), (19, .areturn, 1), (20, .new 3, 3), (23, .dup, 1), (24, .lload_n 0, 1), (25, .ldc2_w 125, 3), (28, .lcmp, 1), (29, .ifCond .ne 9, 3), (38, .aconst_null, 1), (39, .lload_n 0, 1), (40, .iload_n 2, 1), (41, .iconst 0, 1), (42, .invokespecial 243, 3), (45, .areturn, 1)] : List (Nat × Instr × Nat)), decode jdk_17_method_20_code p.1 = .ok p.2 := by decide +kernel
theorem own_D10 : ∀ p ∈ ([(0, .iload_n 0, 1), (1, .ifCond .lt 17, 3), (4, .iload_n 0, 1), (5, .getstatic 250, 3), (8, .arraylength, 1), (9, .if_icmp .ge 9, 3), (12, .getstatic 250, 3), (15, .iload_n 0, 1), (16, .aaload, 1), (17, .areturn, 1)] : List (Nat × Instr × Nat)), decode jdk_17_method_24_code p.1 = .ok p.2 := by decide +kernel
theorem own_D11 : ∀ p ∈ ([(0, .aload_n 0, 1), (1, .getfield 24, 3), (4, .ldc2_w 125, 3), (7, .lcmp, 1), (8, .ifCond .eq 54, 3), (11, .aload_n 1, 1), (12, .getfield 24, 3), (15, .ldc2_w 125, 3), (18, .lcmp, 1), (19, .ifCond .eq 23, 3), (22, .aload_n 0, 1), (23, .getfield 24, 3), (26, .aload_n 0, 1), (27, .getfield 17, 3), (30, .aload_n 1, 1), (31, .getfield 24, 3), (34, .aload_n 1, 1), (35, .getfield 17, 3), (38, .invokestatic 257, 3), (41, .areturn, 1)] : List (Nat × Instr × Nat)), decode jdk_17_method_26_code p.1 = .ok p.2 := by decide +kernel
theorem own_D12 : ∀ p ∈ ([(0, .iload_n 2, 1), (1, .i2l, 1), (2, .iload 5, 2), (4, .i2l, 1), (5, .lsub, 1), (6, .lstore 6, 2), (8, .lload 6, 2), (10, .lconst 0, 1), (11, .lcmp, 1), (12, .ifCond .ne 10, 3), (22, .lload 6, 2), (24, .lconst 0, 1), (25, .lcmp, 1), (26, .ifCond .ge 85, 3), (29, .lload_n 0, 1), (30, .lload 6, 2), (32, .lneg, 1), (33, .invokestatic 994, 3), (36, .istore 8, 2), (38, .lload_n 0, 1), (39, .iload 8, 2), (41, .invokestatic 599, 3), (44, .lstore 9, 2), (46, .lload 9, 2), (48, .ldc2_w 125, 3), (51, .lcmp, 1), (52, .ifCond .eq 12, 3), (55, .lload 9, 2), (57, .lload_n 3, 1), (58, .iload 5, 2), (60, .invokestatic 1000, 3), (63, .areturn, 1)] : List (Nat × Instr × Nat)), decode jdk_17_method_134_code p.1 = .ok p.2 := by decide +kernel
theorem own_D13 : ∀ p ∈ ([(0, .lload_n 2, 1), (1, .l2i, 1), (2, .istore 4, 2), (4, .iload 4, 2), (6, .i2l, 1), (7, .lload_n 2, 1), (8, .lcmp, 1), (9, .ifCond .eq 50, 3), (59, .iload 4, 2), (61, .ireturn, 1)] : List (Nat × Instr × Nat)), decode jdk_17_method_113_code p.1 = .ok p.2 := by decide +kernel
theorem own_D14 : ∀ p ∈ ([(0, .lload_n 0, 1), (1, .lconst 0, 1), (2, .lcmp, 1), (3, .ifCond .eq 7, 3), (6, .iload_n 2, 1), (7, .ifCond .gt 5, 3), (12, .getstatic 95, 3), (15, .astore_n 3, 1), (16, .getstatic 825, 3), (19, .astore 4, 2), (21, .iload_n 2, 1), (22, .aload_n 3, 1), (23, .arraylength, 1), (24, .if_icmp .ge 41, 3), (27, .iload_n 2, 1), (28, .aload 4, 2), (30, .arraylength, 1), (31, .if_icmp .ge 34, 3), (34, .aload_n 3, 1), (35, .iload_n 2, 1), (36, .laload, 1), (37, .lstore 5, 2), (39, .lload_n 0, 1), (40, .lconst 1, 1), (41, .lcmp, 1), (42, .ifCond .ne 6, 3), (45, .lload 5, 2), (47, .lreturn, 1), (48, .lload_n 0, 1), (49, .invokestatic 440, 3), (52, .aload 4, 2), (54, .iload_n 2, 1), (55, .laload, 1), (56, .lcmp, 1), (57, .ifCond .gt 8, 3), (60, .lload_n 0, 1), (61, .lload 5, 2), (63, .lmul, 1), (64, .lreturn, 1)] : List (Nat × Instr × Nat)), decode jdk_17_method_97_code p.1 = .ok p.2 := by decide +kernel
theorem own_D15 : ∀ p ∈ ([(0, .lload_n 0, 1), (1, .lload_n 2, 1), (2, .invokestatic 996, 3), (5, .lstore 5, 2), (7, .lload 5, 2), (9, .ldc2_w 125, 3), (12, .lcmp, 1), (13, .ifCond .eq 11, 3), (16, .lload 5, 2), (18, .iload 4, 2), (20, .invokestatic 328, 3), (23, .areturn, 1)] : List (Nat × Instr × Nat)), decode jdk_17_method_133_code p.1 = .ok p.2 := by decide +kernel
theorem own_D16 : ∀ p ∈ ([(0, .lload_n 0, 1), (1, .lload_n 2, 1), (2, .ladd, 1), (3, .lstore 4, 2), (5, .lload 4, 2), (7, .lload_n 0, 1), (8, .lxor, 1), (9, .lload 4, 2), (11, .lload_n 2, 1), (12, .lxor, 1), (13, .land, 1), (14, .lconst 0, 1), (15, .lcmp, 1), (16, .ifCond .lt 6, 3), (19, .lload 4, 2), (21, .lreturn, 1)] : List (Nat × Instr × Nat)), decode jdk_17_method_132_code p.1 = .ok p.2 := by decide +kernel
theorem own_D17 : ∀ p ∈ ([(0, .aload_n 0, 1), (1, .invokespecial 11, 3), (4, .aload_n 0, 1), (5, .iload 4, 2), (7, .putfield 17, 3), (10, .aload_n 0, 1), (11, .iload 5, 2), (13, .putfield 21, 3), (16, .aload_n 0, 1), (17, .lload_n 2, 1), (18, .putfield 24, 3), (21, .aload_n 0, 1), (22, .aload_n 1, 1), (23, .putfield 28, 3), (26, .return_, 1)] : List (Nat × Instr × Nat)), decode jdk_17_method_1_code p.1 = .ok p.2 := by decide +kernel
theorem own_D18 : ∀ p ∈ ([(0, .aload_n 0, 1), (1, .invokespecial 1, 3), (4, .return_, 1)] : List (Nat × Instr × Nat)), decode jdk_18_method_1_code p.1 = .ok p.2 := by decide +kernel
theorem own_D20 : ∀ p ∈ ([(0, .aload_n 0, 1), (1, .aload_n 0, 1), (2, .getfield 17, 3), (5, .i2l, 1), (6, .aload_n 1, 1), (7, .getfield 17, 3), (10, .i2l, 1), (11, .ladd, 1), (12, .invokevirtual 325, 3), (15, .istore_n 2, 1), (16, .aload_n 0, 1), (17, .getfield 24, 3), (20, .ldc2_w 125, 3), (23, .lcmp, 1), (24, .ifCond .eq 40, 3), (27, .aload_n 1, 1), (28, .getfield 24, 3), (31, .ldc2_w 125, 3), (34, .lcmp, 1), (35, .ifCond .eq 16, 3), (38, .aload_n 0, 1), (39, .getfield 24, 3), (42, .aload_n 1, 1), (43, .getfield 24, 3), (46, .iload_n 2, 1), (47, .invokestatic 342, 3), (50, .areturn, 1)] : List (Nat × Instr × Nat)), decode jdk_17_method_31_code p.1 = .ok p.2 := by decide +kernel
theorem own_D21 : ∀ p ∈ ([(0, .lload_n 1, 1), (1, .l2i, 1), (2, .istore_n 3, 1), (3, .iload_n 3, 1), (4, .i2l, 1), (5, .lload_n 1, 1), (6, .lcmp, 1), (7, .ifCond .eq 69, 3), (76, .iload_n 3, 1), (77, .ireturn, 1)] : List (Nat × Instr × Nat)), decode jdk_17_method_106_code p.1 = .ok p.2 := by decide +kernel
theorem own_D22 : ∀ p ∈ ([(0, .lload_n 0, 1), (1, .lload_n 2, 1), (2, .invokestatic 1055, 3), (5, .lstore 5, 2), (7, .lload 5, 2), (9, .ldc2_w 125, 3), (12, .lcmp, 1), (13, .ifCond .eq 11, 3), (16, .lload 5, 2), (18, .iload 4, 2), (20, .invokestatic 328, 3), (23, .areturn, 1)] : List (Nat × Instr × Nat)), decode jdk_17_method_157_code p.1 = .ok p.2 := by decide +kernel
theorem own_D23 : ∀ p ∈ ([(0, .lload_n 0, 1), (1, .lload_n 2, 1), (2, .lmul, 1), (3, .lstore 4, 2), (5, .lload_n 0, 1), (6, .invokestatic 440, 3), (9, .lstore 6, 2), (11, .lload_n 2, 1), (12, .invokestatic 440, 3), (15, .lstore 8, 2), (17, .lload 6, 2), (19, .lload 8, 2), (21, .lor, 1), (22, .bipush 31, 2), (24, .lushr, 1), (25, .lconst 0, 1), (26, .lcmp, 1), (27, .ifCond .eq 18, 3), (45, .lload 4, 2), (47, .lreturn, 1), (30, .lload_n 2, 1), (31, .lconst 0, 1), (32, .lcmp, 1), (33, .ifCond .eq 12, 3), (36, .lload 4, 2), (38, .lload_n 2, 1), (39, .ldiv, 1), (40, .lload_n 0, 1), (41, .lcmp, 1), (42, .ifCond .ne 6, 3)] : List (Nat × Instr × Nat)), decode jdk_17_method_156_code p.1 = .ok p.2 := by decide +kernel
theorem own_D24 : ∀ p ∈ ([(0, .lload_n 0, 1), (1, .lconst 0, 1), (2, .lcmp, 1), (3, .ifCond .ge 8, 3), (11, .lload_n 0, 1), (12, .lreturn, 1)] : List (Nat × Instr × Nat)), decode jdk_29_method_61_code p.1 = .ok p.2 := by decide +kernel
theorem own_D25 : ∀ p ∈ ([(0, .aload_n 0, 1), (1, .bipush 9, 2), (3, .invokevirtual 353, 3), (6, .invokevirtual 357, 3), (9, .astore_n 1, 1), (10, .aload_n 1, 1), (11, .getstatic 361, 3), (14, .invokevirtual 365, 3), (17, .astore_n 2, 1), (18, .aload_n 2, 1), (19, .iconst 0, 1), (20, .aaload, 1), (21, .invokevirtual 371, 3), (24, .bipush 63, 2), (26, .if_icmp .le 31, 3), (57, .aload_n 2, 1), (58, .iconst 0, 1), (59, .aaload, 1), (60, .invokevirtual 376, 3), (63, .aload_n 2, 1), (64, .iconst 1, 1), (65, .aaload, 1), (66, .invokevirtual 379, 3), (69, .i2l, 1), (70, .invokestatic 176, 3), (73, .areturn, 1)] : List (Nat × Instr × Nat)), decode jdk_2316_method_48_code p.1 = .ok p.2 := by decide +kernel
theorem own_D26 : ∀ p ∈ ([(0, .iload_n 1, 1), (1, .ifCond .ne 12, 3), (13, .aload_n 0, 1), (14, .aload_n 0, 1), (15, .getfield 17, 3), (18, .i2l, 1), (19, .iload_n 1, 1), (20, .i2l, 1), (21, .lsub, 1), (22, .invokevirtual 325, 3), (25, .istore_n 2, 1), (26, .new 3, 3), (29, .dup, 1), (30, .aload_n 0, 1), (31, .getfield 28, 3), (34, .aload_n 0, 1), (35, .getfield 24, 3), (38, .iload_n 2, 1), (39, .iconst 0, 1), (40, .invokespecial 243, 3), (43, .astore_n 3, 1), (44, .aload_n 3, 1), (45, .getfield 17, 3), (48, .ifCond .ge 13, 3), (61, .aload_n 3, 1), (62, .areturn, 1)] : List (Nat × Instr × Nat)), decode jdk_17_method_67_code p.1 = .ok p.2 := by decide +kernel
theorem own_D27 : ∀ p ∈ ([(0, .aload_n 0, 1), (1, .iconst 0, 1), (2, .bipush 7, 2), (4, .invokevirtual 419, 3), (7, .invokevirtual 302, 3), (10, .areturn, 1)] : List (Nat × Instr × Nat)), decode jdk_17_method_81_code p.1 = .ok p.2 := by decide +kernel
theorem own_D28 : ∀ p ∈ ([(0, .iload_n 2, 1), (1, .ifCond .lt 9, 3), (4, .iload_n 2, 1), (5, .bipush 7, 2), (7, .if_icmp .le 14, 3), (21, .aload_n 0, 1), (22, .getfield 17, 3), (25, .istore_n 3, 1), (26, .iload_n 1, 1), (27, .iload_n 3, 1), (28, .if_icmp .ne 5, 3), (31, .aload_n 0, 1), (32, .areturn, 1)] : List (Nat × Instr × Nat)), decode jdk_17_method_64_code p.1 = .ok p.2 := by decide +kernel
theorem own_D29 : ∀ p ∈ ([(0, .aload_n 0, 1), (1, .getfield 28, 3), (4, .ifnonnull 11, 3), (7, .aload_n 0, 1), (8, .getfield 24, 3), (11, .invokestatic 193, 3), (14, .areturn, 1)] : List (Nat × Instr × Nat)), decode jdk_17_method_99_code p.1 = .ok p.2 := by decide +kernel
theorem own_D30 : ∀ p ∈ ([(0, .lload_n 0, 1), (1, .lconst 0, 1), (2, .lcmp, 1), (3, .ifCond .ne 7, 3), (10, .lload_n 0, 1), (11, .lconst 0, 1), (12, .lcmp, 1), (13, .ifCond .le 18, 3), (16, .lload_n 0, 1), (17, .ldc2_w 345, 3), (20, .lcmp, 1), (21, .ifCond .gt 10, 3), (31, .lload_n 0, 1), (32, .lconst 0, 1), (33, .lcmp, 1), (34, .ifCond .ge 19, 3), (53, .new 23, 3), (56, .dup, 1), (57, .lload_n 0, 1), (58, .invokespecial 356, 3), (61, .areturn, 1)] : List (Nat × Instr × Nat)), decode jdk_2097_method_29_code p.1 = .ok p.2 := by decide +kernel
theorem own_D31 : ∀ p ∈ ([(0, .aload_n 0, 1), (1, .invokespecial 3, 3), (4, .lload_n 1, 1), (5, .lconst 0, 1), (6, .lcmp, 1), (7, .ifCond .ge 14, 3), (21, .aload_n 0, 1), (22, .iconst 1, 1), (23, .putfield 32, 3), (26, .lload_n 1, 1), (27, .bipush 32, 2), (29, .lushr, 1), (30, .l2i, 1), (31, .istore_n 3, 1), (32, .iload_n 3, 1), (33, .ifCond .ne 21, 3), (36, .aload_n 0, 1), (37, .iconst 1, 1), (38, .newarray .int, 2), (40, .putfield 28, 3), (43, .aload_n 0, 1), (44, .getfield 28, 3), (47, .iconst 0, 1), (48, .lload_n 1, 1), (49, .l2i, 1), (50, .iastore, 1), (51, .goto 25, 3), (76, .return_, 1), (54, .aload_n 0, 1), (55, .iconst 2, 1), (56, .newarray .int, 2), (58, .putfield 28, 3), (61, .aload_n 0, 1), (62, .getfield 28, 3), (65, .iconst 0, 1), (66, .iload_n 3, 1), (67, .iastore, 1), (68, .aload_n 0, 1), (69, .getfield 28, 3), (72, .iconst 1, 1), (73, .lload_n 1, 1), (74, .l2i, 1), (75, .iastore, 1)] : List (Nat × Instr × Nat)), decode jdk_2097_method_30_code p.1 = .ok p.2 := by decide +kernel
theorem own_D32 : ∀ p ∈ ([(0, .aload_n 1, 1), (1, .getfield 28, 3), (4, .arraylength, 1), (5, .bipush 80, 2), (7, .if_icmp .lt 19, 3), (26, .aload_n 0, 1), (27, .aload_n 1, 1), (28, .invokevirtual 551, 3), (31, .areturn, 1)] : List (Nat × Instr × Nat)), decode jdk_2097_method_63_code p.1 = .ok p.2 := by decide +kernel
theorem own_D33 : ∀ p ∈ ([(0, .iconst 2, 1), (1, .anewarray 23, 3), (4, .astore_n 2, 1), (5, .new 541, 3), (8, .dup, 1), (9, .invokespecial 543, 3), (12, .astore_n 3, 1), (13, .new 541, 3), (16, .dup, 1), (17, .aload_n 0, 1), (18, .getfield 28, 3), (21, .invokespecial 544, 3), (24, .astore 4, 2), (26, .new 541, 3), (29, .dup, 1), (30, .aload_n 1, 1), (31, .getfield 28, 3), (34, .invokespecial 544, 3), (37, .astore 5, 2), (39, .aload 4, 2), (41, .aload 5, 2), (43, .aload_n 3, 1), (44, .invokevirtual 558, 3), (47, .astore 6, 2), (49, .aload_n 2, 1), (50, .iconst 0, 1), (51, .aload_n 3, 1), (52, .aload_n 0, 1), (53, .getfield 32, 3), (56, .aload_n 1, 1), (57, .getfield 32, 3), (60, .if_icmp .ne 7, 3), (63, .iconst 1, 1), (64, .goto 4, 3), (68, .invokevirtual 548, 3), (71, .aastore, 1), (72, .aload_n 2, 1), (73, .iconst 1, 1), (74, .aload 6, 2), (76, .aload_n 0, 1), (77, .getfield 32, 3), (80, .invokevirtual 548, 3), (83, .aastore, 1), (84, .aload_n 2, 1), (85, .areturn, 1)] : List (Nat × Instr × Nat)), decode jdk_2097_method_64_code p.1 = .ok p.2 := by decide +kernel
theorem own_D34 : ∀ p ∈ ([(0, .aload_n 0, 1), (1, .invokespecial 5, 3), (4, .aload_n 0, 1), (5, .iconst 0, 1), (6, .putfield 11, 3), (9, .aload_n 0, 1), (10, .iconst 1, 1), (11, .newarray .int, 2), (13, .putfield 17, 3), (16, .aload_n 0, 1), (17, .iconst 0, 1), (18, .putfield 21, 3), (21, .return_, 1)] : List (Nat × Instr × Nat)), decode jdk_2101_method_1_code p.1 = .ok p.2 := by decide +kernel
theorem own_D35 : ∀ p ∈ ([(0, .aload_n 0, 1), (1, .invokespecial 5, 3), (4, .aload_n 0, 1), (5, .iconst 0, 1), (6, .putfield 11, 3), (9, .aload_n 0, 1), (10, .aload_n 1, 1), (11, .putfield 17, 3), (14, .aload_n 0, 1), (15, .aload_n 1, 1), (16, .arraylength, 1), (17, .putfield 21, 3), (20, .return_, 1)] : List (Nat × Instr × Nat)), decode jdk_2101_method_3_code p.1 = .ok p.2 := by decide +kernel
theorem own_D36 : ∀ p ∈ ([(0, .aload_n 0, 1), (1, .aload_n 1, 1), (2, .aload_n 2, 1), (3, .iconst 1, 1), (4, .invokevirtual 163, 3), (7, .areturn, 1)] : List (Nat × Instr × Nat)), decode jdk_2101_method_56_code p.1 = .ok p.2 := by decide +kernel
theorem own_D37 : ∀ p ∈ ([(0, .aload_n 1, 1), (1, .getfield 21, 3), (4, .ifCond .ne 13, 3), (17, .aload_n 0, 1), (18, .getfield 21, 3), (21, .ifCond .ne 29, 3), (50, .aload_n 0, 1), (51, .aload_n 1, 1), (52, .invokevirtual 142, 3), (55, .istore 4, 2), (57, .iload 4, 2), (59, .ifCond .ge 30, 3), (89, .iload 4, 2), (91, .ifCond .ne 36, 3), (127, .aload_n 2, 1), (128, .invokevirtual 149, 3), (131, .aload_n 1, 1), (132, .getfield 21, 3), (135, .iconst 1, 1), (136, .if_icmp .ne 48, 3), (139, .aload_n 0, 1), (140, .aload_n 1, 1), (141, .getfield 17, 3), (144, .aload_n 1, 1), (145, .getfield 11, 3), (148, .iaload, 1), (149, .aload_n 2, 1), (150, .invokevirtual 178, 3), (153, .istore 5, 2), (155, .iload_n 3, 1), (156, .ifCond .eq 26, 3), (159, .iload 5, 2), (161, .ifCond .ne 11, 3), (164, .new 12, 3), (167, .dup, 1), (168, .invokespecial 177, 3), (171, .areturn, 1)] : List (Nat × Instr × Nat)), decode jdk_2101_method_57_code p.1 = .ok p.2 := by decide +kernel
theorem own_D38 : ∀ p ∈ ([(0, .aload_n 1, 1), (1, .getfield 21, 3), (4, .istore_n 2, 1), (5, .aload_n 0, 1), (6, .getfield 21, 3), (9, .iload_n 2, 1), (10, .if_icmp .ge 5, 3), (15, .aload_n 0, 1), (16, .getfield 21, 3), (19, .iload_n 2, 1), (20, .if_icmp .le 5, 3), (25, .aload_n 1, 1), (26, .getfield 17, 3), (29, .astore_n 3, 1), (30, .aload_n 0, 1), (31, .getfield 11, 3), (34, .istore 4, 2), (36, .aload_n 1, 1), (37, .getfield 11, 3), (40, .istore 5, 2), (42, .iload 4, 2), (44, .aload_n 0, 1), (45, .getfield 21, 3), (48, .aload_n 0, 1), (49, .getfield 11, 3), (52, .iadd, 1), (53, .if_icmp .ge 51, 3), (56, .aload_n 0, 1), (57, .getfield 17, 3), (60, .iload 4, 2), (62, .iaload, 1), (63, .ldc 88, 2), (65, .iadd, 1), (66, .istore 6, 2), (68, .aload_n 3, 1), (69, .iload 5, 2), (71, .iaload, 1), (72, .ldc 88, 2), (74, .iadd, 1), (75, .istore 7, 2), (77, .iload 6, 2), (79, .iload 7, 2), (81, .if_icmp .ge 5, 3), (86, .iload 6, 2), (88, .iload 7, 2), (90, .if_icmp .le 5, 3), (93, .iconst 1, 1), (94, .ireturn, 1), (23, .iconst 1, 1), (24, .ireturn, 1)] : List (Nat × Instr × Nat)), decode jdk_2101_method_15_code p.1 = .ok p.2 := by decide +kernel
theorem own_D39 : ∀ p ∈ ([(0, .aload_n 0, 1), (1, .aload_n 0, 1), (2, .iconst 0, 1), (3, .dup_x1, 1), (4, .putfield 21, 3), (7, .putfield 11, 3), (10, .iconst 0, 1), (11, .istore_n 1, 1), (12, .aload_n 0, 1), (13, .getfield 17, 3), (16, .arraylength, 1), (17, .istore_n 2, 1), (18, .iload_n 1, 1), (19, .iload_n 2, 1), (20, .if_icmp .ge 16, 3), (23, .aload_n 0, 1), (24, .getfield 17, 3), (27, .iload_n 1, 1), (28, .iconst 0, 1), (29, .iastore, 1), (30, .iinc 1 1, 3), (33, .goto (-15), 3), (36, .return_, 1)] : List (Nat × Instr × Nat)), decode jdk_2101_method_13_code p.1 = .ok p.2 := by decide +kernel
theorem own_D40 : ∀ p ∈ ([(0, .iload_n 1, 1), (1, .i2l, 1), (2, .ldc2_w 52, 3), (5, .land, 1), (6, .lstore_n 3, 1), (7, .aload_n 0, 1), (8, .getfield 21, 3), (11, .iconst 1, 1), (12, .if_icmp .ne 67, 3), (15, .aload_n 0, 1), (16, .getfield 17, 3), (19, .aload_n 0, 1), (20, .getfield 11, 3), (23, .iaload, 1), (24, .i2l, 1), (25, .ldc2_w 52, 3), (28, .land, 1), (29, .lstore 5, 2), (31, .lload 5, 2), (33, .lload_n 3, 1), (34, .ldiv, 1), (35, .l2i, 1), (36, .istore 7, 2), (38, .lload 5, 2), (40, .iload 7, 2), (42, .i2l, 1), (43, .lload_n 3, 1), (44, .lmul, 1), (45, .lsub, 1), (46, .l2i, 1), (47, .istore 8, 2), (49, .aload_n 2, 1), (50, .getfield 17, 3), (53, .iconst 0, 1), (54, .iload 7, 2), (56, .iastore, 1), (57, .aload_n 2, 1), (58, .iload 7, 2), (60, .ifCond .ne 7, 3), (67, .iconst 1, 1), (68, .putfield 21, 3), (71, .aload_n 2, 1), (72, .iconst 0, 1), (73, .putfield 11, 3), (76, .iload 8, 2), (78, .ireturn, 1), (79, .aload_n 2, 1), (80, .getfield 17, 3), (83, .arraylength, 1), (84, .aload_n 0, 1), (85, .getfield 21, 3), (88, .if_icmp .ge 13, 3), (91, .aload_n 2, 1), (92, .aload_n 0, 1), (93, .getfield 21, 3), (96, .newarray .int, 2), (98, .putfield 17, 3), (101, .aload_n 2, 1), (102, .iconst 0, 1), (103, .putfield 11, 3), (106, .aload_n 2, 1), (107, .aload_n 0, 1), (108, .getfield 21, 3), (111, .putfield 21, 3), (114, .iload_n 1, 1), (115, .invokestatic 152, 3), (118, .istore 5, 2), (120, .aload_n 0, 1), (121, .getfield 17, 3), (124, .aload_n 0, 1), (125, .getfield 11, 3), (128, .iaload, 1), (129, .istore 6, 2), (131, .iload 6, 2), (133, .i2l, 1), (134, .ldc2_w 52, 3), (137, .land, 1), (138, .lstore 7, 2), (140, .lload 7, 2), (142, .lload_n 3, 1), (143, .lcmp, 1), (144, .ifCond .ge 13, 3), (147, .aload_n 2, 1), (148, .getfield 17, 3), (151, .iconst 0, 1), (152, .iconst 0, 1), (153, .iastore, 1), (154, .goto 38, 3), (192, .aload_n 0, 1), (193, .getfield 21, 3), (196, .istore 9, 2), (198, .iinc 9 (-1), 3), (201, .iload 9, 2), (203, .ifCond .le 112, 3), (206, .lload 7, 2), (208, .bipush 32, 2), (210, .lshl, 1), (211, .aload_n 0, 1), (212, .getfield 17, 3), (215, .aload_n 0, 1), (216, .getfield 11, 3), (219, .aload_n 0, 1), (220, .getfield 21, 3), (223, .iadd, 1), (224, .iload 9, 2), (226, .isub, 1), (227, .iaload, 1), (228, .i2l, 1), (229, .ldc2_w 52, 3), (232, .land, 1), (233, .lor, 1), (234, .lstore 10, 2), (236, .lload 10, 2), (238, .lconst 0, 1), (239, .lcmp, 1), (240, .ifCond .lt 24, 3), (243, .lload 10, 2), (245, .lload_n 3, 1), (246, .ldiv, 1), (247, .l2i, 1), (248, .istore 12, 2), (250, .lload 10, 2), (252, .iload 12, 2), (254, .i2l, 1), (255, .lload_n 3, 1), (256, .lmul, 1), (257, .lsub, 1), (258, .l2i, 1), (259, .istore 6, 2), (261, .goto 28, 3), (289, .aload_n 2, 1), (290, .getfield 17, 3), (293, .aload_n 0, 1), (294, .getfield 21, 3), (297, .iload 9, 2), (299, .isub, 1), (300, .iload 12, 2), (302, .iastore, 1), (303, .iload 6, 2), (305, .i2l, 1), (306, .ldc2_w 52, 3), (309, .land, 1), (310, .lstore 7, 2), (312, .goto (-114), 3), (315, .aload_n 2, 1), (316, .invokevirtual 64, 3), (319, .iload 5, 2), (321, .ifCond .le 8, 3), (324, .iload 6, 2), (326, .iload_n 1, 1), (327, .irem, 1), (328, .ireturn, 1)] : List (Nat × Instr × Nat)), decode jdk_2101_method_53_code p.1 = .ok p.2 := by decide +kernel
theorem own_D41 : ∀ p ∈ ([(0, .aload_n 0, 1), (1, .getfield 21, 3), (4, .ifCond .eq 7, 3), (7, .iload_n 1, 1), (8, .ifCond .ne 7, 3), (15, .new 1, 3), (18, .dup, 1), (19, .aload_n 0, 1), (20, .invokevirtual 58, 3), (23, .iload_n 1, 1), (24, .invokespecial 62, 3), (27, .areturn, 1), (11, .getstatic 54, 3), (14, .areturn, 1)] : List (Nat × Instr × Nat)), decode jdk_2101_method_9_code p.1 = .ok p.2 := by decide +kernel
theorem own_D42 : ∀ p ∈ ([(0, .aload_n 0, 1), (1, .getfield 11, 3), (4, .ifCond .gt 15, 3), (7, .aload_n 0, 1), (8, .getfield 17, 3), (11, .arraylength, 1), (12, .aload_n 0, 1), (13, .getfield 21, 3), (16, .if_icmp .eq 48, 3), (64, .aload_n 0, 1), (65, .getfield 17, 3), (68, .areturn, 1), (19, .aload_n 0, 1), (20, .getfield 17, 3), (23, .aload_n 0, 1), (24, .getfield 11, 3), (27, .aload_n 0, 1), (28, .getfield 11, 3), (31, .aload_n 0, 1), (32, .getfield 21, 3), (35, .iadd, 1), (36, .invokestatic 33, 3), (39, .astore_n 1, 1), (40, .aload_n 0, 1), (41, .getfield 17, 3), (44, .iconst 0, 1), (45, .invokestatic 37, 3), (48, .aload_n 0, 1), (49, .iconst 0, 1), (50, .putfield 11, 3), (53, .aload_n 0, 1), (54, .aload_n 1, 1), (55, .arraylength, 1), (56, .putfield 21, 3), (59, .aload_n 0, 1), (60, .aload_n 1, 1), (61, .putfield 17, 3)] : List (Nat × Instr × Nat)), decode jdk_2101_method_7_code p.1 = .ok p.2 := by decide +kernel
theorem own_D43 : ∀ p ∈ ([(0, .aload_n 0, 1), (1, .invokespecial 3, 3), (4, .aload_n 0, 1), (5, .aload_n 1, 1), (6, .arraylength, 1), (7, .ifCond .ne 7, 3), (14, .iload_n 2, 1), (15, .putfield 32, 3), (18, .aload_n 0, 1), (19, .aload_n 1, 1), (20, .putfield 28, 3), (23, .aload_n 0, 1), (24, .getfield 28, 3), (27, .arraylength, 1), (28, .ldc 43, 2), (30, .if_icmp .lt 7, 3), (37, .return_, 1)] : List (Nat × Instr × Nat)), decode jdk_2097_method_25_code p.1 = .ok p.2 := by decide +kernel
theorem own_D44 : ∀ p ∈ ([(0, .aload_n 0, 1), (1, .getfield 747, 3), (4, .iconst 1, 1), (5, .isub, 1), (6, .istore_n 1, 1), (7, .iload_n 1, 1), (8, .iconst (-1), 1), (9, .if_icmp .ne 129, 3), (12, .aload_n 0, 1), (13, .getfield 28, 3), (16, .astore_n 2, 1), (17, .aload_n 2, 1), (18, .arraylength, 1), (19, .istore_n 3, 1), (20, .iload_n 3, 1), (21, .ifCond .ne 8, 3), (29, .iload_n 3, 1), (30, .iconst 1, 1), (31, .isub, 1), (32, .iconst 5, 1), (33, .ishl, 1), (34, .aload_n 0, 1), (35, .getfield 28, 3), (38, .iconst 0, 1), (39, .iaload, 1), (40, .invokestatic 605, 3), (43, .iadd, 1), (44, .istore 4, 2), (46, .aload_n 0, 1), (47, .getfield 32, 3), (50, .ifCond .ge 78, 3), (128, .iload 4, 2), (130, .istore_n 1, 1), (131, .aload_n 0, 1), (132, .iload_n 1, 1), (133, .iconst 1, 1), (134, .iadd, 1), (135, .putfield 747, 3), (138, .iload_n 1, 1), (139, .ireturn, 1)] : List (Nat × Instr × Nat)), decode jdk_2097_method_118_code p.1 = .ok p.2 := by decide +kernel
theorem own_D45 : ∀ p ∈ ([(0, .bipush 32, 2), (2, .iload_n 0, 1), (3, .invokestatic 602, 3), (6, .isub, 1), (7, .ireturn, 1)] : List (Nat × Instr × Nat)), decode jdk_2097_method_74_code p.1 = .ok p.2 := by decide +kernel
theorem own_D46 : ∀ p ∈ ([(0, .iload_n 0, 1), (1, .ifCond .gt 14, 3), (15, .bipush 31, 2), (17, .istore_n 1, 1), (18, .iload_n 0, 1), (19, .ldc_w 264, 3), (22, .if_icmp .lt 11, 3), (25, .iinc 1 (-16), 3), (28, .iload_n 0, 1), (29, .bipush 16, 2), (31, .iushr, 1), (32, .istore_n 0, 1), (33, .iload_n 0, 1), (34, .sipush 256, 3), (37, .if_icmp .lt 11, 3), (40, .iinc 1 (-8), 3), (43, .iload_n 0, 1), (44, .bipush 8, 2), (46, .iushr, 1), (47, .istore_n 0, 1), (48, .iload_n 0, 1), (49, .bipush 16, 2), (51, .if_icmp .lt 10, 3), (54, .iinc 1 (-4), 3), (57, .iload_n 0, 1), (58, .iconst 4, 1), (59, .iushr, 1), (60, .istore_n 0, 1), (61, .iload_n 0, 1), (62, .iconst 4, 1), (63, .if_icmp .lt 10, 3), (73, .iload_n 1, 1), (74, .iload_n 0, 1), (75, .iconst 1, 1), (76, .iushr, 1), (77, .isub, 1), (78, .ireturn, 1), (66, .iinc 1 (-2), 3), (69, .iload_n 0, 1), (70, .iconst 2, 1), (71, .iushr, 1), (72, .istore_n 0, 1)] : List (Nat × Instr × Nat)), decode jdk_33_method_47_code p.1 = .ok p.2 := by decide +kernel
theorem own_D47 : ∀ p ∈ ([(0, .lconst 0, 1), (1, .lstore_n 1, 1), (2, .iconst 1, 1), (3, .istore_n 3, 1), (4, .iload_n 3, 1), (5, .ifCond .lt 25, 3), (8, .lload_n 1, 1), (9, .bipush 32, 2), (11, .lshl, 1), (12, .aload_n 0, 1), (13, .iload_n 3, 1), (14, .invokevirtual 736, 3), (17, .i2l, 1), (18, .ldc2_w 130, 3), (21, .land, 1), (22, .ladd, 1), (23, .lstore_n 1, 1), (24, .iinc 3 (-1), 3), (27, .goto (-23), 3), (30, .lload_n 1, 1), (31, .lreturn, 1)] : List (Nat × Instr × Nat)), decode jdk_2097_method_136_code p.1 = .ok p.2 := by decide +kernel
theorem own_D48 : ∀ p ∈ ([(0, .iload_n 1, 1), (1, .ifCond .ge 5, 3), (6, .iload_n 1, 1), (7, .aload_n 0, 1), (8, .getfield 28, 3), (11, .arraylength, 1), (12, .if_icmp .lt 8, 3), (15, .aload_n 0, 1), (16, .invokevirtual 860, 3), (19, .ireturn, 1), (20, .aload_n 0, 1), (21, .getfield 28, 3), (24, .aload_n 0, 1), (25, .getfield 28, 3), (28, .arraylength, 1), (29, .iload_n 1, 1), (30, .isub, 1), (31, .iconst 1, 1), (32, .isub, 1), (33, .iaload, 1), (34, .istore_n 2, 1), (35, .aload_n 0, 1), (36, .getfield 32, 3), (39, .ifCond .lt 7, 3), (42, .iload_n 2, 1), (43, .goto 19, 3), (62, .ireturn, 1)] : List (Nat × Instr × Nat)), decode jdk_2097_method_148_code p.1 = .ok p.2 := by decide +kernel
theorem own_D49 : ∀ p ∈ ([(0, .aload_n 0, 1), (1, .getfield 32, 3), (4, .ifCond .ge 7, 3), (11, .iconst 0, 1), (12, .ireturn, 1)] : List (Nat × Instr × Nat)), decode jdk_2097_method_147_code p.1 = .ok p.2 := by decide +kernel
theorem own_D50 : ∀ p ∈ ([(0, .iconst 0, 1), (1, .istore_n 1, 1), (2, .aload_n 0, 1), (3, .iconst 0, 1), (4, .invokevirtual 736, 3), (7, .istore_n 1, 1), (8, .iload_n 1, 1), (9, .ireturn, 1)] : List (Nat × Instr × Nat)), decode jdk_2097_method_135_code p.1 = .ok p.2 := by decide +kernel
theorem own_D51 : ∀ p ∈ ([(0, .lload_n 0, 1), (1, .lload_n 2, 1), (2, .ldc2_w 16, 3), (5, .invokestatic 18, 3), (8, .invokestatic 22, 3), (11, .lstore 4, 2), (13, .lload_n 2, 1), (14, .ldc2_w 16, 3), (17, .invokestatic 25, 3), (20, .l2i, 1), (21, .istore 6, 2), (23, .lload 4, 2), (25, .iload 6, 2), (27, .invokestatic 10, 3), (30, .areturn, 1)] : List (Nat × Instr × Nat)), decode jdk_2316_method_5_code p.1 = .ok p.2 := by decide +kernel
theorem own_D52 : ∀ p ∈ ([(0, .lload_n 0, 1), (1, .lload_n 2, 1), (2, .ldiv, 1), (3, .lstore 4, 2), (5, .lload_n 0, 1), (6, .lload_n 2, 1), (7, .lxor, 1), (8, .lconst 0, 1), (9, .lcmp, 1), (10, .ifCond .ge 17, 3), (27, .lload 4, 2), (29, .lreturn, 1)] : List (Nat × Instr × Nat)), decode jdk_29_method_49_code p.1 = .ok p.2 := by decide +kernel
theorem own_D53 : ∀ p ∈ ([(0, .lload_n 0, 1), (1, .lload_n 2, 1), (2, .ladd, 1), (3, .lstore 4, 2), (5, .lload_n 0, 1), (6, .lload 4, 2), (8, .lxor, 1), (9, .lload_n 2, 1), (10, .lload 4, 2), (12, .lxor, 1), (13, .land, 1), (14, .lconst 0, 1), (15, .lcmp, 1), (16, .ifCond .ge 13, 3), (29, .lload 4, 2), (31, .lreturn, 1)] : List (Nat × Instr × Nat)), decode jdk_29_method_25_code p.1 = .ok p.2 := by decide +kernel
theorem own_D54 : ∀ p ∈ ([(0, .lload_n 0, 1), (1, .lload_n 2, 1), (2, .lrem, 1), (3, .lstore 4, 2), (5, .lload_n 0, 1), (6, .lload_n 2, 1), (7, .lxor, 1), (8, .lconst 0, 1), (9, .lcmp, 1), (10, .ifCond .ge 15, 3), (25, .lload 4, 2), (27, .lreturn, 1)] : List (Nat × Instr × Nat)), decode jdk_29_method_52_code p.1 = .ok p.2 := by decide +kernel
theorem own_D55 : ∀ p ∈ ([(0, .lload_n 0, 1), (1, .iload_n 2, 1), (2, .i2l, 1), (3, .lor, 1), (4, .lconst 0, 1), (5, .lcmp, 1), (6, .ifCond .ne 7, 3), (13, .new 11, 3), (16, .dup, 1), (17, .lload_n 0, 1), (18, .iload_n 2, 1), (19, .invokespecial 215, 3), (22, .areturn, 1)] : List (Nat × Instr × Nat)), decode jdk_2316_method_16_code p.1 = .ok p.2 := by decide +kernel
theorem own_D56 : ∀ p ∈ ([(0, .aload_n 0, 1), (1, .invokespecial 218, 3), (4, .aload_n 0, 1), (5, .lload_n 1, 1), (6, .putfield 221, 3), (9, .aload_n 0, 1), (10, .iload_n 3, 1), (11, .putfield 224, 3), (14, .return_, 1)] : List (Nat × Instr × Nat)), decode jdk_2316_method_17_code p.1 = .ok p.2 := by decide +kernel
theorem own_D57 : ∀ p ∈ ([(0, .aload_n 0, 1), (1, .getfield 21, 3), (4, .ifCond .ne 9, 3), (13, .aload_n 0, 1), (14, .getfield 11, 3), (17, .istore_n 1, 1), (18, .aload_n 0, 1), (19, .getfield 17, 3), (22, .iload_n 1, 1), (23, .iaload, 1), (24, .ifCond .eq 4, 3), (28, .iload_n 1, 1), (29, .aload_n 0, 1), (30, .getfield 21, 3), (33, .iadd, 1), (34, .istore_n 2, 1), (35, .iinc 1 1, 3), (38, .iload_n 1, 1), (39, .iload_n 2, 1), (40, .if_icmp .ge 12, 3), (43, .aload_n 0, 1), (44, .getfield 17, 3), (47, .iload_n 1, 1), (48, .iaload, 1), (49, .ifCond .eq (-14), 3), (52, .iload_n 1, 1), (53, .aload_n 0, 1), (54, .getfield 11, 3), (57, .isub, 1), (58, .istore_n 3, 1), (59, .aload_n 0, 1), (60, .dup, 1), (61, .getfield 21, 3), (64, .iload_n 3, 1), (65, .isub, 1), (66, .putfield 21, 3), (69, .aload_n 0, 1), (70, .aload_n 0, 1), (71, .getfield 21, 3), (74, .ifCond .ne 7, 3), (81, .aload_n 0, 1), (82, .getfield 11, 3), (85, .iload_n 3, 1), (86, .iadd, 1), (87, .putfield 11, 3), (90, .return_, 1)] : List (Nat × Instr × Nat)), decode jdk_2101_method_21_code p.1 = .ok p.2 := by decide +kernel
theorem own_D58 : ∀ p ∈ ([(0, .iload_n 1, 1), (1, .ifCond .ne 9, 3), (10, .aload_n 0, 1), (11, .iload_n 1, 1), (12, .iload_n 2, 1), (13, .invokestatic 351, 3), (16, .areturn, 1)] : List (Nat × Instr × Nat)), decode jdk_65_method_136_code p.1 = .ok p.2 := by decide +kernel
theorem own_D59 : ∀ p ∈ ([(0, .iload_n 1, 1), (1, .iload_n 2, 1), (2, .invokestatic 343, 3), (5, .iload_n 2, 1), (6, .iload_n 1, 1), (7, .isub, 1), (8, .istore_n 3, 1), (9, .iload_n 3, 1), (10, .newarray .int, 2), (12, .astore 4, 2), (14, .aload_n 0, 1), (15, .iload_n 1, 1), (16, .aload 4, 2), (18, .iconst 0, 1), (19, .aload_n 0, 1), (20, .arraylength, 1), (21, .iload_n 1, 1), (22, .isub, 1), (23, .iload_n 3, 1), (24, .invokestatic 304, 3), (27, .invokestatic 150, 3), (30, .aload 4, 2), (32, .areturn, 1)] : List (Nat × Instr × Nat)), decode jdk_65_method_137_code p.1 = .ok p.2 := by decide +kernel
theorem own_D60 : ∀ p ∈ ([(0, .iload_n 1, 1), (1, .iload_n 0, 1), (2, .if_icmp .ge 35, 3), (37, .return_, 1)] : List (Nat × Instr × Nat)), decode jdk_65_method_131_code p.1 = .ok p.2 := by decide +kernel
theorem own_D61 : ∀ p ∈ ([(0, .iload_n 0, 1), (1, .iload_n 1, 1), (2, .if_icmp .gt 7, 3), (5, .iload_n 0, 1), (6, .goto 4, 3), (10, .ireturn, 1)] : List (Nat × Instr × Nat)), decode jdk_29_method_69_code p.1 = .ok p.2 := by decide +kernel
theorem own_D62 : ∀ p ∈ ([(0, .iconst 0, 1), (1, .istore_n 2, 1), (2, .aload_n 0, 1), (3, .arraylength, 1), (4, .istore_n 3, 1), (5, .iload_n 2, 1), (6, .iload_n 3, 1), (7, .if_icmp .ge 13, 3), (10, .aload_n 0, 1), (11, .iload_n 2, 1), (12, .iload_n 1, 1), (13, .iastore, 1), (14, .iinc 2 1, 3), (17, .goto (-12), 3), (20, .return_, 1)] : List (Nat × Instr × Nat)), decode jdk_65_method_103_code p.1 = .ok p.2 := by decide +kernel
def own_VA (s r v9 v2 : Int64) (q hi lo : Int32) : Prop := (s = 1 ∧ r = 2 ∧ v9 = 1000000000 ∧ v2 = 2000000000 ∧ q = 2 ∧ hi = 0 ∧ lo = 2000000000) ∨ (s = 2 ∧ r = 4 ∧ v9 = 2000000000 ∧ v2 = 4000000000 ∧ q = 4 ∧ hi = 0 ∧ lo = -294967296)
def own_VB (s r v9 v2 : Int64) (q hi lo : Int32) : Prop := (s = 4 ∧ r = 8 ∧ v9 = 4000000000 ∧ v2 = 8000000000 ∧ q = 8 ∧ hi = 1 ∧ lo = -589934592) ∨ (s = 8 ∧ r = 16 ∧ v9 = 8000000000 ∧ v2 = 16000000000 ∧ q = 16 ∧ hi = 3 ∧ lo = -1179869184) ∨ (s = 16 ∧ r = 32 ∧ v9 = 16000000000 ∧ v2 = 32000000000 ∧ q = 32 ∧ hi = 7 ∧ lo = 1935228928) ∨ (s = 32 ∧ r = 64 ∧ v9 = 32000000000 ∧ v2 = 64000000000 ∧ q = 64 ∧ hi = 14 ∧ lo = -424509440) ∨ (s = 64 ∧ r = 128 ∧ v9 = 64000000000 ∧ v2 = 128000000000 ∧ q = 128 ∧ hi = 29 ∧ lo = -849018880) ∨ (s = 128 ∧ r = 256 ∧ v9 = 128000000000 ∧ v2 = 256000000000 ∧ q = 256 ∧ hi = 59 ∧ lo = -1698037760) ∨ (s = 256 ∧ r = 512 ∧ v9 = 256000000000 ∧ v2 = 512000000000 ∧ q = 512 ∧ hi = 119 ∧ lo = 898891776) ∨ (s = 512 ∧ r = 1024 ∧ v9 = 512000000000 ∧ v2 = 1024000000000 ∧ q = 1024 ∧ hi = 238 ∧ lo = 1797783552) ∨ (s = 1024 ∧ r = 2048 ∧ v9 = 1024000000000 ∧ v2 = 2048000000000 ∧ q = 2048 ∧ hi = 476 ∧ lo = -699400192) ∨ (s = 2048 ∧ r = 4096 ∧ v9 = 2048000000000 ∧ v2 = 4096000000000 ∧ q = 4096 ∧ hi = 953 ∧ lo = -1398800384)
def own_V (s r v9 v2 : Int64) (q hi lo : Int32) : Prop := own_VA s r v9 v2 q hi lo ∨ own_VB s r v9 v2 q hi lo
abbrev own_p10 : List Value := [(.long 1), (.long 10), (.long 100), (.long 1000), (.long 10000), (.long 100000), (.long 1000000), (.long 10000000), (.long 100000000), (.long 1000000000), (.long 10000000000), (.long 100000000000), (.long 1000000000000), (.long 10000000000000), (.long 100000000000000), (.long 1000000000000000), (.long 10000000000000000), (.long 100000000000000000), (.long 1000000000000000000)]
abbrev own_thr : List Value := [(.long 9223372036854775807), (.long 922337203685477580), (.long 92233720368547758), (.long 9223372036854775), (.long 922337203685477), (.long 92233720368547), (.long 9223372036854), (.long 922337203685), (.long 92233720368), (.long 9223372036), (.long 922337203), (.long 92233720), (.long 9223372), (.long 922337), (.long 92233), (.long 9223), (.long 922), (.long 92), (.long 9)]
abbrev own_ztt (o : Nat → Addr) : List Value := [(.ref (o 20)), (.ref (o 21)), (.ref (o 22)), (.ref (o 23)), (.ref (o 24)), (.ref (o 25)), (.ref (o 26)), (.ref (o 27)), (.ref (o 28)), (.ref (o 29)), (.ref (o 30))]
abbrev own_zsb (o : Nat → Addr) : List Value := [(.ref (o 40)), (.ref (o 41)), (.ref (o 42)), (.ref (o 43)), (.ref (o 44)), (.ref (o 45)), (.ref (o 46)), (.ref (o 47)), (.ref (o 48)), (.ref (o 49)), (.ref (o 50)), (.ref (o 51)), (.ref (o 52)), (.ref (o 53)), (.ref (o 54)), (.ref (o 55))]
def own_G (Z : State) (o : Nat → Addr) (kc : Nat → ClassId) : Prop := Sta Z Z.heap "java/math/BigDecimal" "ZERO_THROUGH_TEN" "[Ljava/math/BigDecimal;" (.ref (o 0)) ∧ Arv Z Z.heap (o 0) (kc 0) (.object "java/math/BigDecimal") (11 : Int32) (own_ztt o) .null ∧ Sta Z Z.heap "java/math/BigDecimal" "ZERO_SCALED_BY" "[Ljava/math/BigDecimal;" (.ref (o 1)) ∧ Arv Z Z.heap (o 1) (kc 1) (.object "java/math/BigDecimal") (16 : Int32) (own_zsb o) .null ∧ Sta Z Z.heap "java/math/BigDecimal" "LONG_TEN_POWERS_TABLE" "[J" (.ref (o 2)) ∧ Arv Z Z.heap (o 2) (kc 2) .long (19 : Int32) own_p10 (.long 0) ∧ Sta Z Z.heap "java/math/BigDecimal" "THRESHOLDS_TABLE" "[J" (.ref (o 3)) ∧ Arv Z Z.heap (o 3) (kc 3) .long (19 : Int32) own_thr (.long 0) ∧ Sta Z Z.heap "java/time/Duration" "BI_NANOS_PER_SECOND" "Ljava/math/BigInteger;" (.ref (o 4)) ∧ Exa Z Z.heap (o 4) "java/math/BigInteger" ∧ Fld Z Z.heap (o 4) "java/math/BigInteger" "signum" "I" (.int (1 : Int32)) ∧ Fld Z Z.heap (o 4) "java/math/BigInteger" "mag" "[I" (.ref (o 5)) ∧ Arv Z Z.heap (o 5) (kc 5) .int (1 : Int32) [(.int 1000000000)] (.int 0) ∧ Sta Z Z.heap "java/math/BigInteger" "ZERO" "Ljava/math/BigInteger;" (.ref (o 6)) ∧ Exa Z Z.heap (o 6) "java/math/BigInteger" ∧ Fld Z Z.heap (o 6) "java/math/BigInteger" "signum" "I" (.int (0 : Int32)) ∧ Fld Z Z.heap (o 6) "java/math/BigInteger" "mag" "[I" (.ref (o 7)) ∧ Arv Z Z.heap (o 7) (kc 7) .int (0 : Int32) [] (.int 0) ∧ Exa Z Z.heap (o 21) "java/math/BigDecimal" ∧ Fld Z Z.heap (o 21) "java/math/BigDecimal" "intCompact" "J" (.long (1 : Int64)) ∧ Fld Z Z.heap (o 21) "java/math/BigDecimal" "scale" "I" (.int (0 : Int32)) ∧ Exa Z Z.heap (o 22) "java/math/BigDecimal" ∧ Fld Z Z.heap (o 22) "java/math/BigDecimal" "intCompact" "J" (.long (2 : Int64)) ∧ Fld Z Z.heap (o 22) "java/math/BigDecimal" "scale" "I" (.int (0 : Int32)) ∧ Exa Z Z.heap (o 24) "java/math/BigDecimal" ∧ Fld Z Z.heap (o 24) "java/math/BigDecimal" "intCompact" "J" (.long (4 : Int64)) ∧ Fld Z Z.heap (o 24) "java/math/BigDecimal" "scale" "I" (.int (0 : Int32)) ∧ Exa Z Z.heap (o 28) "java/math/BigDecimal" ∧ Fld Z Z.heap (o 28) "java/math/BigDecimal" "intCompact" "J" (.long (8 : Int64)) ∧ Fld Z Z.heap (o 28) "java/math/BigDecimal" "scale" "I" (.int (0 : Int32)) ∧ Exa Z Z.heap (o 49) "java/math/BigDecimal" ∧ Fld Z Z.heap (o 49) "java/math/BigDecimal" "intCompact" "J" (.long (0 : Int64)) ∧ Fld Z Z.heap (o 49) "java/math/BigDecimal" "scale" "I" (.int (9 : Int32))
theorem own_decl {Z : State} {a0 : Array Value} {y : MethodName} {bytes : ByteArray} {maxL : Nat} {ret : Option FieldType} (w1 : (Jvm.Cond.instanceMethod y).before a0 Z = true) (w2 : (Jvm.Cond.code y bytes maxL ret).before a0 Z = true) : (Jvm.Cond.declares y).before a0 Z = true := by
  obtain ⟨m, meth, hn, hm, hst, -⟩ := Cond.instanceMethod_spec w1
  obtain ⟨m2, c, q1, -, -, -, -, -, -, hsig⟩ := Cond.code_spec hn w2
  cases hm.symm.trans q1
  simp [Cond.before, Cond.holds, Cond.value, hn, hm, hst, hsig]
theorem own_le {args : Array Value} {first s : State} {o : Option Outcome} {idx : List Nat} (x : Int64) : (Term.long x).eval args first o idx s = some (.long x) := rfl
theorem own_len {Z : State} {args : Array Value} {t : Term} {x : Addr} {cl : Cell} {ty : FieldType} {z : Int32} (h : (Term.length t).eval args Z none [] Z = some (.int z)) (ht : t.eval args Z none [] Z = some (.ref x)) (A : Arr Z Z.heap x cl ty) : cl.slots.size < 2 ^ 31 ∧ cl.slots.size.toInt32 = z := by
  obtain ⟨a, c, e1, e2, e3⟩ := Term.length_spec h
  cases ht.symm.trans e1
  have ec : c = cl := by
    have e4 := e2
    simp only [State.arrayAt?, A.1, Option.bind_eq_bind, Option.bind_some] at e4
    cases hk : Z.vm.classes[cl.cls]? with
    | none => rw [hk] at e4; cases e4
    | some k =>
      rw [hk] at e4
      simp only [Option.bind_some] at e4
      split at e4
      · cases e4
      · split at e4
        · exact (Option.some.inj e4).symm
        · cases e4
  subst ec
  simp only [Value.int.injEq] at e3
  refine ⟨?_, e3.symm⟩
  by_cases q : c.slots.size < 2 ^ 31
  · exact q
  · simp [Term.eval, ht, e2, q] at h
theorem own_arv_ty {Z : State} {h : Heap} {a b : Addr} {k1 k2 : ClassId} {z1 z2 : Int32} {C : String} {v1 v2 : List Value} {d1 d2 : Value} (A : Arv Z h a k1 .int z1 v1 d1) (B : Arv Z h b k2 (.object C) z2 v2 d2) : a ≠ b := fun e => by
  subst e
  obtain ⟨c1, ⟨h1, ⟨-, k, hk, cp, e1⟩, -⟩, -⟩ := A
  obtain ⟨c2, ⟨h2, ⟨-, k', hk', cp', e2⟩, -⟩, -⟩ := B
  cases h1.symm.trans h2
  cases hk.symm.trans hk'
  rw [e1] at e2
  simp at e2
theorem own_pn_java_lang_Number : plainName "java/lang/Number" = true := by first | (simp [plainName, overriddenIn]; done) | decide +kernel
theorem own_ef_R_1 (m : MethodId) (x0 : Addr) : entryFrame m #[(.ref x0)] 1 = mkF m 0 #[.val (.ref x0)] [] := by first | (simp [entryFrame, mkF, argsToLocals, Value.category]; done) | rfl
def Q_num (Z : State) (a1 : Addr) (h0 : Heap) (n0 : Nat) (v : Option Value) (h : Heap) (L : List Loc) : Prop := v = none ∧ Fr n0 L ∧ h = h0
theorem rm_num (l : Launch) (Z : State) (a0 : Array Value) (hw : own_H a0 Z) (ws : List Jvm.Cond) (a1 : Addr) (h0 : Heap) (n0 : Nat) (Z0 : n0 ≤ h0.size) : own_MP l Mn15 jdk_18_method_1_code 1 none ws ({ frames := 1, cells := 0, slots := 0, locals := 12 } : Room) Z h0 #[(.ref a1)] (fun _ _ _ _ _ => True) (Q_num Z a1 h0 n0) := by
  refine own_startP (plainFor_of_name own_pn_java_lang_Number) fun p e s m below meth c s₁ Bd hx hby hml hown0 X0 e0 hh0 hZ hK Pst hPst => ?_
  have dE := own_E hby own_D18
  have hown : s.vm.findClass "java/lang/Number" = some m.cls := hown0
  have hnm := (name_of_methodNamed Bd.named Bd.method).1
  have N0 := Fr.nil n0
  rw [own_ef_R_1 m a1]
  refine o_aloadN X0.here hx (dE 0 rfl) rfl rfl ?_
  refine p_initO X0 hx hZ hown (g_ hw 95 rfl) (g_ hw 96 rfl) (g_ hw 97 rfl) e0 (by rw [hml]; rfl) rfl (dE 1 rfl) (by decide) (W := 0) (by show 2 * 0 + _ ≤ _; exact Nat.le_of_eq rfl) (by decide) fun T101 X101 e101 => ?_
  rw [hPst]
  exact own_retP X101 (v := none) (Q := Q_num Z a1 h0 n0) (fun _ => rfl) Bd.notSynchronized (fun fs hr => X101.returnOut hx Bd.returns (dE 2 rfl) hr) (by decide) (by decide) (by rw [e101]; exact ⟨rfl, N0, rfl⟩)
theorem own_pn_java_lang_Long : plainName "java/lang/Long" = true := by first | (simp [plainName, overriddenIn]; done) | decide +kernel
theorem own_ef_JJ_4 (m : MethodId) (x0 : Int64) (x1 : Int64) : entryFrame m #[(.long x0), (.long x1)] 4 = mkF m 0 #[.val (.long x0), .second, .val (.long x1), .second] [] := by first | (simp [entryFrame, mkF, argsToLocals, Value.category]; done) | rfl
def Q_lcL (Z : State) (x y : Int64) (h0 : Heap) (n0 : Nat) (v : Option Value) (h : Heap) (L : List Loc) : Prop := v = some (.int (-1 : Int32)) ∧ Fr n0 L ∧ h = h0
theorem rm_lcL (l : Launch) (Z : State) (a0 : Array Value) (hw : own_H a0 Z) (ws : List Jvm.Cond) (x y : Int64) (h0 : Heap) (n0 : Nat) (Z0 : n0 ≤ h0.size) (hh : lcmpW x y < 0) : own_MP l Mn27 jdk_35_method_42_code 4 (some .int) ws ({ frames := 0, cells := 0, slots := 0, locals := 0 } : Room) Z h0 #[(.long x), (.long y)] (fun _ _ _ _ _ => True) (Q_lcL Z x y h0 n0) := by
  refine own_startP (plainFor_of_name own_pn_java_lang_Long) fun p e s m below meth c s₁ Bd hx hby hml hown0 X0 e0 hh0 hZ hK Pst hPst => ?_
  have dE := own_E hby own_D3
  have hown : s.vm.findClass "java/lang/Long" = some m.cls := hown0
  have hnm := (name_of_methodNamed Bd.named Bd.method).1
  have N0 := Fr.nil n0
  rw [own_ef_JJ_4 m x y]
  refine o_lloadN X0.here hx (dE 0 rfl) rfl ?_
  refine o_lloadN X0.here hx (dE 1 rfl) rfl ?_
  refine o_lcmp X0.here hx (dE 2 rfl) rfl ?_
  refine o_ifNo X0.here hx (dE 3 rfl) rfl ((if0 _ _).trans (tlt hh).2.1) ?_
  refine o_iconst X0.here hx (dE 4 rfl) (z := (-1 : Int32)) (by decide) ?_
  refine o_goto X0.here hx (pc0 := 7) (pc' := 21) rfl (dE 5 rfl) (by decide) (by decide) ?_
  rw [hPst]
  exact own_retP X0 (v := (some (.int (-1 : Int32)))) (Q := Q_lcL Z x y h0 n0) (fun h => by rw [Bd.returns] at h; cases h) Bd.notSynchronized (fun fs hr => own_retI X0 hx Bd.returns (dE 6 rfl) hr) (by decide) (by decide) (by rw [e0]; exact ⟨rfl, N0, rfl⟩)
def Q_lcG (Z : State) (x y : Int64) (h0 : Heap) (n0 : Nat) (v : Option Value) (h : Heap) (L : List Loc) : Prop := v = some (.int (1 : Int32)) ∧ Fr n0 L ∧ h = h0
theorem rm_lcG (l : Launch) (Z : State) (a0 : Array Value) (hw : own_H a0 Z) (ws : List Jvm.Cond) (x y : Int64) (h0 : Heap) (n0 : Nat) (Z0 : n0 ≤ h0.size) (hh : ¬ lcmpW x y < 0) (h2 : ¬ lcmpW x y = 0) : own_MP l Mn27 jdk_35_method_42_code 4 (some .int) ws ({ frames := 0, cells := 0, slots := 0, locals := 0 } : Room) Z h0 #[(.long x), (.long y)] (fun _ _ _ _ _ => True) (Q_lcG Z x y h0 n0) := by
  refine own_startP (plainFor_of_name own_pn_java_lang_Long) fun p e s m below meth c s₁ Bd hx hby hml hown0 X0 e0 hh0 hZ hK Pst hPst => ?_
  have dE := own_E hby own_D3
  have hown : s.vm.findClass "java/lang/Long" = some m.cls := hown0
  have hnm := (name_of_methodNamed Bd.named Bd.method).1
  have N0 := Fr.nil n0
  rw [own_ef_JJ_4 m x y]
  refine o_lloadN X0.here hx (dE 0 rfl) rfl ?_
  refine o_lloadN X0.here hx (dE 1 rfl) rfl ?_
  refine o_lcmp X0.here hx (dE 2 rfl) rfl ?_
  refine o_ifYes X0.here hx (pc0 := 3) (pc' := 10) rfl (dE 3 rfl) rfl ((if0 _ _).trans (flt hh).2.1) (by decide) (by decide) ?_
  refine o_lloadN X0.here hx (dE 7 rfl) rfl ?_
  refine o_lloadN X0.here hx (dE 8 rfl) rfl ?_
  refine o_lcmp X0.here hx (dE 9 rfl) rfl ?_
  refine o_ifYes X0.here hx (pc0 := 13) (pc' := 20) rfl (dE 10 rfl) rfl ((if0 _ _).trans (feq h2).2) (by decide) (by decide) ?_
  refine o_iconst X0.here hx (dE 11 rfl) (z := (1 : Int32)) rfl ?_
  rw [hPst]
  exact own_retP X0 (v := (some (.int (1 : Int32)))) (Q := Q_lcG Z x y h0 n0) (fun h => by rw [Bd.returns] at h; cases h) Bd.notSynchronized (fun fs hr => own_retI X0 hx Bd.returns (dE 6 rfl) hr) (by decide) (by decide) (by rw [e0]; exact ⟨rfl, N0, rfl⟩)
theorem own_pd0 : parseMethodDescriptor "(JJ)I" = some ⟨[.long, .long], some .int⟩ := by decide +kernel
theorem own_pn_java_time_Duration : plainName "java/time/Duration" = true := by first | (simp [plainName, overriddenIn]; done) | decide +kernel
theorem own_ef_RR_3 (m : MethodId) (x0 : Addr) (x1 : Addr) : entryFrame m #[(.ref x0), (.ref x1)] 3 = mkF m 0 #[.val (.ref x0), .val (.ref x1), .unset] [] := by first | (simp [entryFrame, mkF, argsToLocals, Value.category]; done) | rfl
def Q_ctL (Z : State) (a1 a2 : Addr) (x y : Int64) (h0 : Heap) (n0 : Nat) (v : Option Value) (h : Heap) (L : List Loc) : Prop := v = some (.int (-1 : Int32)) ∧ Fr n0 L ∧ h = h0
theorem rm_ctL (l : Launch) (Z : State) (a0 : Array Value) (hw : own_H a0 Z) (ws : List Jvm.Cond) (a1 a2 : Addr) (x y : Int64) (h0 : Heap) (n0 : Nat) (Z0 : n0 ≤ h0.size) (F1 : Fld Z h0 a1 "java/time/Duration" "seconds" "J" (.long x)) (F2 : Fld Z h0 a2 "java/time/Duration" "seconds" "J" (.long y)) (hh : lcmpW x y < 0) : own_MP l Mn0 jdk_2316_method_66_code 3 (some .int) ws ({ frames := 1, cells := 0, slots := 0, locals := 15 } : Room) Z h0 #[(.ref a1), (.ref a2)] (fun _ _ _ _ _ => True) (Q_ctL Z a1 a2 x y h0 n0) := by
  refine own_startP (plainFor_of_name own_pn_java_time_Duration) fun p e s m below meth c s₁ Bd hx hby hml hown0 X0 e0 hh0 hZ hK Pst hPst => ?_
  have dE := own_E hby own_D2
  have hown : s.vm.findClass "java/time/Duration" = some m.cls := hown0
  have hnm := (name_of_methodNamed Bd.named Bd.method).1
  have N0 := Fr.nil n0
  rw [own_ef_RR_3 m a1 a2]
  refine o_aloadN X0.here hx (dE 0 rfl) rfl rfl ?_
  refine p_getF X0 hx hZ hown (host := "") (Or.inl (g_ hw 14 rfl)) Via.refl e0 F1 rfl (dE 1 rfl) fun T101 X101 e101 => ?_
  refine o_aloadN X101.here hx (dE 2 rfl) rfl rfl ?_
  refine p_getF X101 hx hZ hown (host := "") (Or.inl (g_ hw 14 rfl)) Via.refl e101 F2 rfl (dE 3 rfl) fun T102 X102 e102 => ?_
  refine own_cF X102 (Jvm.LawKit.callS X102 hx (y := Mn27) hown (mvT hZ (g_ hw 16 rfl)) (mvT hZ (g_ hw 17 rfl)) (mvT hZ (g_ hw 18 rfl)) (mvT hZ (g_ hw 19 rfl)) (by decide) (backOf (W := 0) (rm_lcL l Z a0 hw [] x y h0 n0 Z0 hh) hZ (g_ hw 19 rfl) (g_ hw 18 rfl) (by decide) (by decide)) (g := (mkF m 8 #[.val (.ref a1), .val (.ref a2), .unset] [(.long y), (.long x)])) rfl (by rw [hml]; rfl) (argsL := [(.long x), (.long y)]) (rest := []) (lenOf own_pd0 rfl) rfl (by show 2 * 0 + _ ≤ _; exact Nat.le_of_eq rfl) (dE 4 rfl) (fun _ _ => ⟨rfl, e102, (by decide : 0 + 0 ≤ _), (by decide : 0 + 0 ≤ _)⟩)) fun v103 T103 L103 X103 hQ103 => ?_
  obtain ⟨rfl, Nq103, e103⟩ := hQ103
  have N103 := Fr.app N0 Nq103
  show own_Go p e below Pst (T103.setTop (mkF m 11 #[.val (.ref a1), .val (.ref a2), .unset] [(.int (-1 : Int32))]))
  refine o_istoreN X103.here hx (dE 5 rfl) rfl (l' := #[.val (.ref a1), .val (.ref a2), .val (.int (-1 : Int32))]) rfl ?_
  refine o_iloadN X103.here hx (dE 6 rfl) rfl ?_
  refine o_ifNo X103.here hx (dE 7 rfl) rfl ((if0 _ _).trans (feq (by decide)).1) ?_
  refine o_iloadN X103.here hx (dE 8 rfl) rfl ?_
  rw [hPst]
  exact own_retP X103 (v := (some (.int (-1 : Int32)))) (Q := Q_ctL Z a1 a2 x y h0 n0) (fun h => by rw [Bd.returns] at h; cases h) Bd.notSynchronized (fun fs hr => own_retI X103 hx Bd.returns (dE 9 rfl) hr) (by decide) (by decide) (by rw [e103]; exact ⟨rfl, N103, rfl⟩)
def Q_ctG (Z : State) (a1 a2 : Addr) (x y : Int64) (h0 : Heap) (n0 : Nat) (v : Option Value) (h : Heap) (L : List Loc) : Prop := v = some (.int (1 : Int32)) ∧ Fr n0 L ∧ h = h0
theorem rm_ctG (l : Launch) (Z : State) (a0 : Array Value) (hw : own_H a0 Z) (ws : List Jvm.Cond) (a1 a2 : Addr) (x y : Int64) (h0 : Heap) (n0 : Nat) (Z0 : n0 ≤ h0.size) (F1 : Fld Z h0 a1 "java/time/Duration" "seconds" "J" (.long x)) (F2 : Fld Z h0 a2 "java/time/Duration" "seconds" "J" (.long y)) (hh : ¬ lcmpW x y < 0) (h2 : ¬ lcmpW x y = 0) : own_MP l Mn0 jdk_2316_method_66_code 3 (some .int) ws ({ frames := 1, cells := 0, slots := 0, locals := 15 } : Room) Z h0 #[(.ref a1), (.ref a2)] (fun _ _ _ _ _ => True) (Q_ctG Z a1 a2 x y h0 n0) := by
  refine own_startP (plainFor_of_name own_pn_java_time_Duration) fun p e s m below meth c s₁ Bd hx hby hml hown0 X0 e0 hh0 hZ hK Pst hPst => ?_
  have dE := own_E hby own_D2
  have hown : s.vm.findClass "java/time/Duration" = some m.cls := hown0
  have hnm := (name_of_methodNamed Bd.named Bd.method).1
  have N0 := Fr.nil n0
  rw [own_ef_RR_3 m a1 a2]
  refine o_aloadN X0.here hx (dE 0 rfl) rfl rfl ?_
  refine p_getF X0 hx hZ hown (host := "") (Or.inl (g_ hw 14 rfl)) Via.refl e0 F1 rfl (dE 1 rfl) fun T101 X101 e101 => ?_
  refine o_aloadN X101.here hx (dE 2 rfl) rfl rfl ?_
  refine p_getF X101 hx hZ hown (host := "") (Or.inl (g_ hw 14 rfl)) Via.refl e101 F2 rfl (dE 3 rfl) fun T102 X102 e102 => ?_
  refine own_cF X102 (Jvm.LawKit.callS X102 hx (y := Mn27) hown (mvT hZ (g_ hw 16 rfl)) (mvT hZ (g_ hw 17 rfl)) (mvT hZ (g_ hw 18 rfl)) (mvT hZ (g_ hw 19 rfl)) (by decide) (backOf (W := 0) (rm_lcG l Z a0 hw [] x y h0 n0 Z0 hh h2) hZ (g_ hw 19 rfl) (g_ hw 18 rfl) (by decide) (by decide)) (g := (mkF m 8 #[.val (.ref a1), .val (.ref a2), .unset] [(.long y), (.long x)])) rfl (by rw [hml]; rfl) (argsL := [(.long x), (.long y)]) (rest := []) (lenOf own_pd0 rfl) rfl (by show 2 * 0 + _ ≤ _; exact Nat.le_of_eq rfl) (dE 4 rfl) (fun _ _ => ⟨rfl, e102, (by decide : 0 + 0 ≤ _), (by decide : 0 + 0 ≤ _)⟩)) fun v103 T103 L103 X103 hQ103 => ?_
  obtain ⟨rfl, Nq103, e103⟩ := hQ103
  have N103 := Fr.app N0 Nq103
  show own_Go p e below Pst (T103.setTop (mkF m 11 #[.val (.ref a1), .val (.ref a2), .unset] [(.int (1 : Int32))]))
  refine o_istoreN X103.here hx (dE 5 rfl) rfl (l' := #[.val (.ref a1), .val (.ref a2), .val (.int (1 : Int32))]) rfl ?_
  refine o_iloadN X103.here hx (dE 6 rfl) rfl ?_
  refine o_ifNo X103.here hx (dE 7 rfl) rfl ((if0 _ _).trans (feq (by decide)).1) ?_
  refine o_iloadN X103.here hx (dE 8 rfl) rfl ?_
  rw [hPst]
  exact own_retP X103 (v := (some (.int (1 : Int32)))) (Q := Q_ctG Z a1 a2 x y h0 n0) (fun h => by rw [Bd.returns] at h; cases h) Bd.notSynchronized (fun fs hr => own_retI X103 hx Bd.returns (dE 9 rfl) hr) (by decide) (by decide) (by rw [e103]; exact ⟨rfl, N103, rfl⟩)
def Q_gs (Z : State) (a1 : Addr) (u : Int64) (h0 : Heap) (n0 : Nat) (v : Option Value) (h : Heap) (L : List Loc) : Prop := v = some (.long u) ∧ Fr n0 L ∧ h = h0
theorem rm_gs (l : Launch) (Z : State) (a0 : Array Value) (hw : own_H a0 Z) (ws : List Jvm.Cond) (a1 : Addr) (u : Int64) (h0 : Heap) (n0 : Nat) (Z0 : n0 ≤ h0.size) (F1 : Fld Z h0 a1 "java/time/Duration" "seconds" "J" (.long u)) : own_MP l Mn2 jdk_2316_method_23_code 1 (some .long) ws ({ frames := 0, cells := 0, slots := 0, locals := 0 } : Room) Z h0 #[(.ref a1)] (fun _ _ _ _ _ => True) (Q_gs Z a1 u h0 n0) := by
  refine own_startP (plainFor_of_name own_pn_java_time_Duration) fun p e s m below meth c s₁ Bd hx hby hml hown0 X0 e0 hh0 hZ hK Pst hPst => ?_
  have dE := own_E hby own_D4
  have hown : s.vm.findClass "java/time/Duration" = some m.cls := hown0
  have hnm := (name_of_methodNamed Bd.named Bd.method).1
  have N0 := Fr.nil n0
  rw [own_ef_R_1 m a1]
  refine o_aloadN X0.here hx (dE 0 rfl) rfl rfl ?_
  refine p_getF X0 hx hZ hown (host := "") (Or.inl (g_ hw 14 rfl)) Via.refl e0 F1 rfl (dE 1 rfl) fun T101 X101 e101 => ?_
  rw [hPst]
  exact own_retP X101 (v := (some (.long u))) (Q := Q_gs Z a1 u h0 n0) (fun h => by rw [Bd.returns] at h; cases h) Bd.notSynchronized (fun fs hr => retOut X101 hx Bd.returns rfl (Or.inr (Or.inl ⟨rfl, rfl, _, rfl⟩)) (dE 2 rfl) hr) (by decide) (by decide) (by rw [e101]; exact ⟨rfl, N0, rfl⟩)
def Q_gn (Z : State) (a1 : Addr) (u : Int32) (h0 : Heap) (n0 : Nat) (v : Option Value) (h : Heap) (L : List Loc) : Prop := v = some (.int u) ∧ Fr n0 L ∧ h = h0
theorem rm_gn (l : Launch) (Z : State) (a0 : Array Value) (hw : own_H a0 Z) (ws : List Jvm.Cond) (a1 : Addr) (u : Int32) (h0 : Heap) (n0 : Nat) (Z0 : n0 ≤ h0.size) (F1 : Fld Z h0 a1 "java/time/Duration" "nanos" "I" (.int u)) : own_MP l Mn3 jdk_2316_method_24_code 1 (some .int) ws ({ frames := 0, cells := 0, slots := 0, locals := 0 } : Room) Z h0 #[(.ref a1)] (fun _ _ _ _ _ => True) (Q_gn Z a1 u h0 n0) := by
  refine own_startP (plainFor_of_name own_pn_java_time_Duration) fun p e s m below meth c s₁ Bd hx hby hml hown0 X0 e0 hh0 hZ hK Pst hPst => ?_
  have dE := own_E hby own_D5
  have hown : s.vm.findClass "java/time/Duration" = some m.cls := hown0
  have hnm := (name_of_methodNamed Bd.named Bd.method).1
  have N0 := Fr.nil n0
  rw [own_ef_R_1 m a1]
  refine o_aloadN X0.here hx (dE 0 rfl) rfl rfl ?_
  refine p_getF X0 hx hZ hown (host := "") (Or.inl (g_ hw 30 rfl)) Via.refl e0 F1 rfl (dE 1 rfl) fun T101 X101 e101 => ?_
  rw [hPst]
  exact own_retP X101 (v := (some (.int u))) (Q := Q_gn Z a1 u h0 n0) (fun h => by rw [Bd.returns] at h; cases h) Bd.notSynchronized (fun fs hr => own_retI X101 hx Bd.returns (dE 2 rfl) hr) (by decide) (by decide) (by rw [e101]; exact ⟨rfl, N0, rfl⟩)
theorem own_ef_J_2 (m : MethodId) (x0 : Int64) : entryFrame m #[(.long x0)] 2 = mkF m 0 #[.val (.long x0), .second] [] := by first | (simp [entryFrame, mkF, argsToLocals, Value.category]; done) | rfl
def Q_abs (Z : State) (x : Int64) (h0 : Heap) (n0 : Nat) (v : Option Value) (h : Heap) (L : List Loc) : Prop := v = some (.long x) ∧ Fr n0 L ∧ h = h0
theorem rm_abs (l : Launch) (Z : State) (a0 : Array Value) (hw : own_H a0 Z) (ws : List Jvm.Cond) (x : Int64) (h0 : Heap) (n0 : Nat) (Z0 : n0 ≤ h0.size) (hh : ¬ lcmpW x 0 < 0) : own_MP l Mn28 jdk_29_method_61_code 2 (some .long) ws ({ frames := 0, cells := 0, slots := 0, locals := 0 } : Room) Z h0 #[(.long x)] (fun _ _ _ _ _ => True) (Q_abs Z x h0 n0) := by
  refine own_startP (Jvm.Free.JP.mathPlain rfl (by decide +kernel)) fun p e s m below meth c s₁ Bd hx hby hml hown0 X0 e0 hh0 hZ hK Pst hPst => ?_
  have dE := own_E hby own_D24
  have hown : s.vm.findClass "java/lang/Math" = some m.cls := hown0
  have hnm := (name_of_methodNamed Bd.named Bd.method).1
  have N0 := Fr.nil n0
  rw [own_ef_J_2 m x]
  refine o_lloadN X0.here hx (dE 0 rfl) rfl ?_
  refine o_lconst X0.here hx (dE 1 rfl) (z := (0 : Int64)) rfl ?_
  refine o_lcmp X0.here hx (dE 2 rfl) rfl ?_
  refine o_ifYes X0.here hx (pc0 := 3) (pc' := 11) rfl (dE 3 rfl) rfl ((if0 _ _).trans (flt hh).2.1) (by decide) (by decide) ?_
  refine o_lloadN X0.here hx (dE 4 rfl) rfl ?_
  rw [hPst]
  exact own_retP X0 (v := (some (.long x))) (Q := Q_abs Z x h0 n0) (fun h => by rw [Bd.returns] at h; cases h) Bd.notSynchronized (fun fs hr => retOut X0 hx Bd.returns rfl (Or.inr (Or.inl ⟨rfl, rfl, _, rfl⟩)) (dE 5 rfl) hr) (by decide) (by decide) (by rw [e0]; exact ⟨rfl, N0, rfl⟩)
theorem own_pn_java_math_BigDecimal : plainName "java/math/BigDecimal" = true := by first | (simp [plainName, overriddenIn]; done) | decide +kernel
theorem own_ef_JJ_5 (m : MethodId) (x0 : Int64) (x1 : Int64) : entryFrame m #[(.long x0), (.long x1)] 5 = mkF m 0 #[.val (.long x0), .second, .val (.long x1), .second, .unset] [] := by first | (simp [entryFrame, mkF, argsToLocals, Value.category]; done) | rfl
def Q_cs2 (Z : State) (x : Int64) (h0 : Heap) (n0 : Nat) (v : Option Value) (h : Heap) (L : List Loc) : Prop := v = some (.int (9 : Int32)) ∧ Fr n0 L ∧ h = h0
theorem rm_cs2 (l : Launch) (Z : State) (a0 : Array Value) (hw : own_H a0 Z) (ws : List Jvm.Cond) (x : Int64) (h0 : Heap) (n0 : Nat) (Z0 : n0 ≤ h0.size) : own_MP l Mn42 jdk_17_method_113_code 5 (some .int) ws ({ frames := 0, cells := 0, slots := 0, locals := 0 } : Room) Z h0 #[(.long x), (.long (9 : Int64))] (fun _ _ _ _ _ => True) (Q_cs2 Z x h0 n0) := by
  refine own_startP (plainFor_of_name own_pn_java_math_BigDecimal) fun p e s m below meth c s₁ Bd hx hby hml hown0 X0 e0 hh0 hZ hK Pst hPst => ?_
  have dE := own_E hby own_D13
  have hown : s.vm.findClass "java/math/BigDecimal" = some m.cls := hown0
  have hnm := (name_of_methodNamed Bd.named Bd.method).1
  have N0 := Fr.nil n0
  rw [own_ef_JJ_5 m x (9 : Int64)]
  refine o_lloadN X0.here hx (dE 0 rfl) rfl ?_
  refine o_l2i X0.here hx (dE 1 rfl) rfl ?_
  rw [show ((9 : Int64).toInt32) = (9 : Int32) from by decide]
  show own_Go p e below Pst (s₁.setTop (mkF m 2 #[.val (.long x), .second, .val (.long (9 : Int64)), .second, .unset] [(.int (9 : Int32))]))
  refine o_istore X0.here hx (dE 2 rfl) rfl (l' := #[.val (.long x), .second, .val (.long (9 : Int64)), .second, .val (.int (9 : Int32))]) rfl ?_
  refine o_iload X0.here hx (dE 3 rfl) rfl ?_
  refine o_i2l X0.here hx (dE 4 rfl) rfl ?_
  refine o_lloadN X0.here hx (dE 5 rfl) rfl ?_
  refine o_lcmp X0.here hx (dE 6 rfl) rfl ?_
  refine o_ifYes X0.here hx (pc0 := 9) (pc' := 59) rfl (dE 7 rfl) rfl ((if0 _ _).trans (teq (by decide)).1) (by decide) (by decide) ?_
  refine o_iload X0.here hx (dE 8 rfl) rfl ?_
  rw [hPst]
  exact own_retP X0 (v := (some (.int (9 : Int32)))) (Q := Q_cs2 Z x h0 n0) (fun h => by rw [Bd.returns] at h; cases h) Bd.notSynchronized (fun fs hr => own_retI X0 hx Bd.returns (dE 9 rfl) hr) (by decide) (by decide) (by rw [e0]; exact ⟨rfl, N0, rfl⟩)
theorem own_ef_RJ_5 (m : MethodId) (x0 : Addr) (x1 : Int64) : entryFrame m #[(.ref x0), (.long x1)] 5 = mkF m 0 #[.val (.ref x0), .val (.long x1), .second, .unset, .unset] [] := by first | (simp [entryFrame, mkF, argsToLocals, Value.category]; done) | rfl
def Q_cs1 (Z : State) (a1 : Addr) (x : Int64) (k : Int32) (h0 : Heap) (n0 : Nat) (v : Option Value) (h : Heap) (L : List Loc) : Prop := v = some (.int k) ∧ Fr n0 L ∧ h = h0
theorem rm_cs1 (l : Launch) (Z : State) (a0 : Array Value) (hw : own_H a0 Z) (ws : List Jvm.Cond) (a1 : Addr) (x : Int64) (k : Int32) (h0 : Heap) (n0 : Nat) (Z0 : n0 ≤ h0.size) (h1 : x.toInt32 = k) (h2 : lcmpW k.toInt64 x = 0) : own_MP l Mn16 jdk_17_method_106_code 5 (some .int) ws ({ frames := 0, cells := 0, slots := 0, locals := 0 } : Room) Z h0 #[(.ref a1), (.long x)] (fun _ _ _ _ _ => True) (Q_cs1 Z a1 x k h0 n0) := by
  refine own_startP (plainFor_of_name own_pn_java_math_BigDecimal) fun p e s m below meth c s₁ Bd hx hby hml hown0 X0 e0 hh0 hZ hK Pst hPst => ?_
  have dE := own_E hby own_D21
  have hown : s.vm.findClass "java/math/BigDecimal" = some m.cls := hown0
  have hnm := (name_of_methodNamed Bd.named Bd.method).1
  have N0 := Fr.nil n0
  rw [own_ef_RJ_5 m a1 x]
  refine o_lloadN X0.here hx (dE 0 rfl) rfl ?_
  refine o_l2i X0.here hx (dE 1 rfl) rfl ?_
  rw [h1]
  show own_Go p e below Pst (s₁.setTop (mkF m 2 #[.val (.ref a1), .val (.long x), .second, .unset, .unset] [(.int k)]))
  refine o_istoreN X0.here hx (dE 2 rfl) rfl (l' := #[.val (.ref a1), .val (.long x), .second, .val (.int k), .unset]) rfl ?_
  refine o_iloadN X0.here hx (dE 3 rfl) rfl ?_
  refine o_i2l X0.here hx (dE 4 rfl) rfl ?_
  refine o_lloadN X0.here hx (dE 5 rfl) rfl ?_
  refine o_lcmp X0.here hx (dE 6 rfl) rfl ?_
  refine o_ifYes X0.here hx (pc0 := 7) (pc' := 76) rfl (dE 7 rfl) rfl ((if0 _ _).trans (teq h2).1) (by decide) (by decide) ?_
  refine o_iloadN X0.here hx (dE 8 rfl) rfl ?_
  rw [hPst]
  exact own_retP X0 (v := (some (.int k))) (Q := Q_cs1 Z a1 x k h0 n0) (fun h => by rw [Bd.returns] at h; cases h) Bd.notSynchronized (fun fs hr => own_retI X0 hx Bd.returns (dE 9 rfl) hr) (by decide) (by decide) (by rw [e0]; exact ⟨rfl, N0, rfl⟩)
theorem own_pd1 : parseMethodDescriptor "()V" = some ⟨[], none⟩ := by decide +kernel
theorem own_ef_RNJII_6 (m : MethodId) (x0 : Addr) (x2 : Int64) (x3 : Int32) (x4 : Int32) : entryFrame m #[(.ref x0), .null, (.long x2), (.int x3), (.int x4)] 6 = mkF m 0 #[.val (.ref x0), .val .null, .val (.long x2), .second, .val (.int x3), .val (.int x4)] [] := by first | (simp [entryFrame, mkF, argsToLocals, Value.category]; done) | rfl
def Q_bdi (Z : State) (a1 : Addr) (x : Int64) (sc : Int32) (u1 u2 u3 u4 : Value) (h0 : Heap) (n0 : Nat) (v : Option Value) (h : Heap) (L : List Loc) : Prop := v = none ∧ Fr n0 L ∧ Keep h0 h [a1] ∧ Exa Z h a1 "java/math/BigDecimal" ∧ Fld Z h a1 "java/math/BigDecimal" "intCompact" "J" (.long x) ∧ Fld Z h a1 "java/math/BigDecimal" "scale" "I" (.int sc) ∧ Fld Z h a1 "java/math/BigDecimal" "intVal" "Ljava/math/BigInteger;" .null
theorem rm_bdi (l : Launch) (Z : State) (a0 : Array Value) (hw : own_H a0 Z) (ws : List Jvm.Cond) (a1 : Addr) (x : Int64) (sc : Int32) (u1 u2 u3 u4 : Value) (h0 : Heap) (n0 : Nat) (Z0 : n0 ≤ h0.size) (E1 : Exa Z h0 a1 "java/math/BigDecimal") (g1 : n0 ≤ a1) (F1 : Fld Z h0 a1 "java/math/BigDecimal" "scale" "I" u1) (F2 : Fld Z h0 a1 "java/math/BigDecimal" "precision" "I" u2) (F3 : Fld Z h0 a1 "java/math/BigDecimal" "intCompact" "J" u3) (F4 : Fld Z h0 a1 "java/math/BigDecimal" "intVal" "Ljava/math/BigInteger;" u4) : own_MP l Mn29 jdk_17_method_1_code 6 none ws ({ frames := 2, cells := 0, slots := 0, locals := 24 } : Room) Z h0 #[(.ref a1), .null, (.long x), (.int sc), (.int (0 : Int32))] (fun _ _ _ _ _ => True) (Q_bdi Z a1 x sc u1 u2 u3 u4 h0 n0) := by
  refine own_startP (plainFor_of_name own_pn_java_math_BigDecimal) fun p e s m below meth c s₁ Bd hx hby hml hown0 X0 e0 hh0 hZ hK Pst hPst => ?_
  have dE := own_E hby own_D17
  have hown : s.vm.findClass "java/math/BigDecimal" = some m.cls := hown0
  have hnm := (name_of_methodNamed Bd.named Bd.method).1
  have N0 := Fr.nil n0
  rw [own_ef_RNJII_6 m a1 x sc (0 : Int32)]
  refine o_aloadN X0.here hx (dE 0 rfl) rfl rfl ?_
  refine own_cP X0 (X0.specialBack hx (y := Mn15) rfl hown (mvT hZ (g_ hw 89 rfl)) (mvT hZ (g_ hw 90 rfl)) (mvT hZ (g_ hw 94 rfl)) (by decide) (backOf (W := 0) (rm_num l Z a0 hw [] a1 h0 n0 Z0 ) hZ (g_ hw 94 rfl) (g_ hw 93 rfl) (by decide) (by decide)) (g := (mkF m 1 #[.val (.ref a1), .val .null, .val (.long x), .second, .val (.int sc), .val (.int (0 : Int32))] [(.ref a1)])) rfl (by rw [hml]; rfl) (Steps.refl _) (a := a1) (argsL := []) (rest := []) (lenOf own_pd1 rfl) rfl (by show 2 * 0 + _ ≤ _; exact Nat.le_of_eq rfl) (dE 1 rfl) (fun _ _ => ⟨rfl, e0, (by decide : 0 + 0 ≤ _), (by decide : 0 + 0 ≤ _)⟩)) fun v101 T101 L101 X101 hQ101 => ?_
  obtain ⟨rfl, Nq101, e101⟩ := hQ101
  have N101 := Fr.app N0 Nq101
  show own_Go p e below Pst (T101.setTop (mkF m 4 #[.val (.ref a1), .val .null, .val (.long x), .second, .val (.int sc), .val (.int (0 : Int32))] []))
  refine o_aloadN X101.here hx (dE 2 rfl) rfl rfl ?_
  refine o_iload X101.here hx (dE 3 rfl) rfl ?_
  refine p_putF X101 hx hZ hown (host := "") (Or.inl (g_ hw 63 rfl)) Via.refl e101 F1 E1 (Or.inr ⟨(g_ hw 64 rfl), rfl, hnm⟩) (g_ hw 84 rfl) (ty := .int) (by decide) rfl rfl rfl (dE 4 rfl) fun T102 h102 X102 e102 W102 => ?_
  have Fw102 := Fld.same W102 F1
  have N102 := Fr.snoc X102 N101 g1
  refine o_aloadN X102.here hx (dE 5 rfl) rfl rfl ?_
  refine o_iload X102.here hx (dE 6 rfl) rfl ?_
  have c103 := (E1.wr W102)
  have c104 := (F2.other W102 (Or.inr (slot_ne (Or.inl (g_ hw 99 rfl)) (Or.inr (g_ hw 64 rfl)) (by decide) (t := .int) (t' := .int) (by decide) (by decide))))
  refine p_putF X102 hx hZ hown (host := "") (Or.inl (g_ hw 98 rfl)) Via.refl e102 c104 c103 (Or.inl (g_ hw 99 rfl)) (g_ hw 84 rfl) (ty := .int) (by decide) rfl rfl rfl (dE 7 rfl) fun T105 h105 X105 e105 W105 => ?_
  have Fw105 := Fld.same W105 c104
  have N105 := Fr.snoc X105 N102 g1
  refine o_aloadN X105.here hx (dE 8 rfl) rfl rfl ?_
  refine o_lloadN X105.here hx (dE 9 rfl) rfl ?_
  have c106 := (c103.wr W105)
  have c107 := ((F3.other W102 (Or.inr (slot_ne (Or.inr (g_ hw 61 rfl)) (Or.inr (g_ hw 64 rfl)) (by decide) (t := .long) (t' := .int) (by decide) (by decide)))).other W105 (Or.inr (slot_ne (Or.inr (g_ hw 61 rfl)) (Or.inl (g_ hw 99 rfl)) (by decide) (t := .long) (t' := .int) (by decide) (by decide))))
  refine p_putF X105 hx hZ hown (host := "") (Or.inl (g_ hw 60 rfl)) Via.refl e105 c107 c106 (Or.inr ⟨(g_ hw 61 rfl), rfl, hnm⟩) (g_ hw 84 rfl) (ty := .long) (by decide) rfl rfl rfl (dE 10 rfl) fun T108 h108 X108 e108 W108 => ?_
  have Fw108 := Fld.same W108 c107
  have N108 := Fr.snoc X108 N105 g1
  refine o_aloadN X108.here hx (dE 11 rfl) rfl rfl ?_
  refine o_aloadN X108.here hx (dE 12 rfl) rfl rfl ?_
  have c109 := (c106.wr W108)
  have c110 := (((F4.other W102 (Or.inr (slot_ne (Or.inr (g_ hw 101 rfl)) (Or.inr (g_ hw 64 rfl)) (by decide) (t := (.object "java/math/BigInteger")) (t' := .int) (by decide) (by decide)))).other W105 (Or.inr (slot_ne (Or.inr (g_ hw 101 rfl)) (Or.inl (g_ hw 99 rfl)) (by decide) (t := (.object "java/math/BigInteger")) (t' := .int) (by decide) (by decide)))).other W108 (Or.inr (slot_ne (Or.inr (g_ hw 101 rfl)) (Or.inr (g_ hw 61 rfl)) (by decide) (t := (.object "java/math/BigInteger")) (t' := .long) (by decide) (by decide))))
  refine p_putF X108 hx hZ hown (host := "") (Or.inl (g_ hw 100 rfl)) Via.refl e108 c110 c109 (Or.inr ⟨(g_ hw 101 rfl), rfl, hnm⟩) (g_ hw 84 rfl) (ty := (.object "java/math/BigInteger")) (by decide) rfl rfl rfl (dE 13 rfl) fun T111 h111 X111 e111 W111 => ?_
  have Fw111 := Fld.same W111 c110
  have N111 := Fr.snoc X111 N108 g1
  have c112 := (((((Keep.refl h0 [a1]).wr W102 (Or.inl (List.mem_of_getElem? (i := 0) rfl))).wr W105 (Or.inl (List.mem_of_getElem? (i := 0) rfl))).wr W108 (Or.inl (List.mem_of_getElem? (i := 0) rfl))).wr W111 (Or.inl (List.mem_of_getElem? (i := 0) rfl)))
  have c113 := (c109.wr W111)
  have c114 := (Fw108.other W111 (Or.inr (slot_ne (Or.inr (g_ hw 61 rfl)) (Or.inr (g_ hw 101 rfl)) (by decide) (t := .long) (t' := (.object "java/math/BigInteger")) (by decide) (by decide))))
  have c115 := (((Fw102.other W105 (Or.inr (slot_ne (Or.inr (g_ hw 64 rfl)) (Or.inl (g_ hw 99 rfl)) (by decide) (t := .int) (t' := .int) (by decide) (by decide)))).other W108 (Or.inr (slot_ne (Or.inr (g_ hw 64 rfl)) (Or.inr (g_ hw 61 rfl)) (by decide) (t := .int) (t' := .long) (by decide) (by decide)))).other W111 (Or.inr (slot_ne (Or.inr (g_ hw 64 rfl)) (Or.inr (g_ hw 101 rfl)) (by decide) (t := .int) (t' := (.object "java/math/BigInteger")) (by decide) (by decide))))
  rw [hPst]
  exact own_retP X111 (v := none) (Q := Q_bdi Z a1 x sc u1 u2 u3 u4 h0 n0) (fun _ => rfl) Bd.notSynchronized (fun fs hr => X111.returnOut hx Bd.returns (dE 14 rfl) hr) (by decide) (by decide) (by rw [e111]; exact ⟨rfl, N111, c112, c113, c114, c115, Fw111⟩)
def own_big (s : Int64) : Prop := s = 16 ∨ s = 32 ∨ s = 64 ∨ s = 128 ∨ s = 256 ∨ s = 512 ∨ s = 1024 ∨ s = 2048
theorem own_big1 {s : Int64} (hs : own_big s) : ¬ lcmpW s 0 < 0 ∧ ¬ lcmpW s (11 : Int32).toInt64 < 0 ∧ ¬ lcmpW s (-9223372036854775808 : Int64) = 0 := by
  rcases hs with rfl | rfl | rfl | rfl | rfl | rfl | rfl | rfl <;> decide
theorem own_sm {s r v9 v2 : Int64} {q hi lo : Int32} (hV : own_V s r v9 v2 q hi lo) : s = 1 ∨ s = 2 ∨ s = 4 ∨ s = 8 ∨ own_big s := by
  unfold own_big
  rcases hV with (⟨rfl, rfl, rfl, rfl, rfl, rfl, rfl⟩ | ⟨rfl, rfl, rfl, rfl, rfl, rfl, rfl⟩) | (⟨rfl, rfl, rfl, rfl, rfl, rfl, rfl⟩ | ⟨rfl, rfl, rfl, rfl, rfl, rfl, rfl⟩ | ⟨rfl, rfl, rfl, rfl, rfl, rfl, rfl⟩ | ⟨rfl, rfl, rfl, rfl, rfl, rfl, rfl⟩ | ⟨rfl, rfl, rfl, rfl, rfl, rfl, rfl⟩ | ⟨rfl, rfl, rfl, rfl, rfl, rfl, rfl⟩ | ⟨rfl, rfl, rfl, rfl, rfl, rfl, rfl⟩ | ⟨rfl, rfl, rfl, rfl, rfl, rfl, rfl⟩ | ⟨rfl, rfl, rfl, rfl, rfl, rfl, rfl⟩ | ⟨rfl, rfl, rfl, rfl, rfl, rfl, rfl⟩) <;> simp
theorem own_pd2 : parseMethodDescriptor "(Ljava/math/BigInteger;JII)V" = some ⟨[(.object "java/math/BigInteger"), .long, .int, .int], none⟩ := by decide +kernel
def Q_vo (Z : State) (s : Int64) (o : Nat → Addr) (kc : Nat → ClassId) (h0 : Heap) (n0 : Nat) (v : Option Value) (h : Heap) (L : List Loc) : Prop := ∃ x : Addr, v = some (.ref x) ∧ Fr n0 L ∧ Keep h0 h [] ∧ Exa Z h x "java/math/BigDecimal" ∧ Fld Z h x "java/math/BigDecimal" "intCompact" "J" (.long s) ∧ Fld Z h x "java/math/BigDecimal" "scale" "I" (.int (0 : Int32))
theorem rm_vo (l : Launch) (Z : State) (a0 : Array Value) (hw : own_H a0 Z) (ws : List Jvm.Cond) (s : Int64) (o : Nat → Addr) (kc : Nat → ClassId) (h0 : Heap) (n0 : Nat) (Z0 : n0 ≤ h0.size) (O : Old Z n0 h0) (G : own_G Z o kc) (hs : s = 1 ∨ s = 2 ∨ s = 4 ∨ s = 8 ∨ own_big s) : own_MP l Mn35 jdk_17_method_21_code 2 (some (.object "java/math/BigDecimal")) ws ({ frames := 3, cells := 1, slots := 5, locals := 42 } : Room) Z h0 #[(.long s)] (fun _ _ _ _ _ => True) (Q_vo Z s o kc h0 n0) := by
  refine own_startP (plainFor_of_name own_pn_java_math_BigDecimal) fun p e s' m below meth c s₁ Bd hx hby hml hown0 X0 e0 hh0 hZ hK Pst hPst => ?_
  have dE := own_E hby own_D8
  have hown : s'.vm.findClass "java/math/BigDecimal" = some m.cls := hown0
  have hnm := (name_of_methodNamed Bd.named Bd.method).1
  have N0 := Fr.nil n0
  rw [own_ef_J_2 m s]
  rcases hs with rfl | rfl | rfl | rfl | hs
  · refine o_lloadN X0.here hx (dE 0 rfl) rfl ?_
    refine o_lconst X0.here hx (dE 1 rfl) (z := (0 : Int64)) rfl ?_
    refine o_lcmp X0.here hx (dE 2 rfl) rfl ?_
    refine o_ifNo X0.here hx (dE 3 rfl) rfl ((if0 _ _).trans (flt (by decide)).1) ?_
    refine o_lloadN X0.here hx (dE 4 rfl) rfl ?_
    refine p_getS2 X0 hx hZ hown (host := "") (Or.inl (g_ hw 47 rfl)) Via.refl e0 (G.1.ext O.2) (dE 5 rfl) fun T101 X101 e101 => ?_
    have c102 := (G.2.1).ext O.2
    obtain ⟨cl103, Ar103, -, S103, P103, -, -⟩ := id c102
    refine own_Go.of (S' := T101.setTop (mkF m 11 #[.val (.long (1 : Int64)), .second] [(.int (11 : Int32)), (.long (1 : Int64))])) (fun tgt kst => X101.arraylength hx (by rw [e101]; exact Ar103.1) (State.isArrayOf_alike hZ.alike Ar103.2.1) (g := (mkF m 10 #[.val (.long (1 : Int64)), .second] [(.ref (o 0)), (.long (1 : Int64))])) rfl rfl (dE 6 rfl) _ (by rw [len_of S103 P103]; exact kst)) ?_
    refine o_i2l X101.here hx (dE 7 rfl) rfl ?_
    refine o_lcmp X101.here hx (dE 8 rfl) rfl ?_
    refine o_ifNo X101.here hx (dE 9 rfl) rfl ((if0 _ _).trans (tlt (by decide)).2.1) ?_
    refine p_getS2 X101 hx hZ hown (host := "") (Or.inl (g_ hw 47 rfl)) Via.refl e101 (G.1.ext O.2) (dE 10 rfl) fun T104 X104 e104 => ?_
    refine o_lloadN X104.here hx (dE 11 rfl) rfl ?_
    refine o_l2i X104.here hx (dE 12 rfl) rfl ?_
    rw [show ((1 : Int64).toInt32) = (1 : Int32) from by decide]
    show own_Go p e below Pst (T104.setTop (mkF m 21 #[.val (.long (1 : Int64)), .second] [(.int (1 : Int32)), (.ref (o 0))]))
    have c105 := (G.2.1).ext O.2
    obtain ⟨cl106, Ar106, q106, S106, P106, H106, G106⟩ := id c105
    have hin106 : ¬ ((1 : Int32) < 0 ∨ cl106.slots.size ≤ ((1 : Int32)).toNatClampNeg) := inb_of S106 ⟨by decide, by decide⟩
    have hat106 : cl106.slots[((1 : Int32)).toNatClampNeg]? = some (.ref (o 21)) := Has.at H106 hin106 rfl
    refine own_Go.of (S' := T104.setTop (mkF m 22 #[.val (.long (1 : Int64)), .second] [(.ref (o 21))])) (fun tgt kst => X104.aaload hx (j := (1 : Int32)) (v := (.ref (o 21))) (by rw [e104]; exact Ar106.1) (State.isArrayOf_alike hZ.alike Ar106.2.1) rfl Ar106.2.2 hin106 hat106 (g := (mkF m 21 #[.val (.long (1 : Int64)), .second] [(.int (1 : Int32)), (.ref (o 0))])) rfl rfl (dE 13 rfl) _ kst) ?_
    have c107 := (G.2.2.2.2.2.2.2.2.2.2.2.2.2.2.2.2.2.2.1).ext O.2
    have c108 := (G.2.2.2.2.2.2.2.2.2.2.2.2.2.2.2.2.2.2.2.1).ext O.2
    have c109 := (G.2.2.2.2.2.2.2.2.2.2.2.2.2.2.2.2.2.2.2.2.1).ext O.2
    rw [hPst]
    exact own_retP X104 (v := (some (.ref (o 21)))) (Q := Q_vo Z (1 : Int64) o kc h0 n0) (fun h => by rw [Bd.returns] at h; cases h) Bd.notSynchronized (fun fs hr => retOut X104 hx Bd.returns rfl (Or.inr (Or.inr (Or.inr (Or.inr ⟨rfl, rfl, rfl⟩)))) (dE 14 rfl) hr) (by decide) (by decide) (by rw [e104]; exact ⟨_, rfl, N0, (Keep.refl h0 []), c107, c108, c109⟩)
  · refine o_lloadN X0.here hx (dE 0 rfl) rfl ?_
    refine o_lconst X0.here hx (dE 1 rfl) (z := (0 : Int64)) rfl ?_
    refine o_lcmp X0.here hx (dE 2 rfl) rfl ?_
    refine o_ifNo X0.here hx (dE 3 rfl) rfl ((if0 _ _).trans (flt (by decide)).1) ?_
    refine o_lloadN X0.here hx (dE 4 rfl) rfl ?_
    refine p_getS2 X0 hx hZ hown (host := "") (Or.inl (g_ hw 47 rfl)) Via.refl e0 (G.1.ext O.2) (dE 5 rfl) fun T110 X110 e110 => ?_
    have c111 := (G.2.1).ext O.2
    obtain ⟨cl112, Ar112, -, S112, P112, -, -⟩ := id c111
    refine own_Go.of (S' := T110.setTop (mkF m 11 #[.val (.long (2 : Int64)), .second] [(.int (11 : Int32)), (.long (2 : Int64))])) (fun tgt kst => X110.arraylength hx (by rw [e110]; exact Ar112.1) (State.isArrayOf_alike hZ.alike Ar112.2.1) (g := (mkF m 10 #[.val (.long (2 : Int64)), .second] [(.ref (o 0)), (.long (2 : Int64))])) rfl rfl (dE 6 rfl) _ (by rw [len_of S112 P112]; exact kst)) ?_
    refine o_i2l X110.here hx (dE 7 rfl) rfl ?_
    refine o_lcmp X110.here hx (dE 8 rfl) rfl ?_
    refine o_ifNo X110.here hx (dE 9 rfl) rfl ((if0 _ _).trans (tlt (by decide)).2.1) ?_
    refine p_getS2 X110 hx hZ hown (host := "") (Or.inl (g_ hw 47 rfl)) Via.refl e110 (G.1.ext O.2) (dE 10 rfl) fun T113 X113 e113 => ?_
    refine o_lloadN X113.here hx (dE 11 rfl) rfl ?_
    refine o_l2i X113.here hx (dE 12 rfl) rfl ?_
    rw [show ((2 : Int64).toInt32) = (2 : Int32) from by decide]
    show own_Go p e below Pst (T113.setTop (mkF m 21 #[.val (.long (2 : Int64)), .second] [(.int (2 : Int32)), (.ref (o 0))]))
    have c114 := (G.2.1).ext O.2
    obtain ⟨cl115, Ar115, q115, S115, P115, H115, G115⟩ := id c114
    have hin115 : ¬ ((2 : Int32) < 0 ∨ cl115.slots.size ≤ ((2 : Int32)).toNatClampNeg) := inb_of S115 ⟨by decide, by decide⟩
    have hat115 : cl115.slots[((2 : Int32)).toNatClampNeg]? = some (.ref (o 22)) := Has.at H115 hin115 rfl
    refine own_Go.of (S' := T113.setTop (mkF m 22 #[.val (.long (2 : Int64)), .second] [(.ref (o 22))])) (fun tgt kst => X113.aaload hx (j := (2 : Int32)) (v := (.ref (o 22))) (by rw [e113]; exact Ar115.1) (State.isArrayOf_alike hZ.alike Ar115.2.1) rfl Ar115.2.2 hin115 hat115 (g := (mkF m 21 #[.val (.long (2 : Int64)), .second] [(.int (2 : Int32)), (.ref (o 0))])) rfl rfl (dE 13 rfl) _ kst) ?_
    have c116 := (G.2.2.2.2.2.2.2.2.2.2.2.2.2.2.2.2.2.2.2.2.2.1).ext O.2
    have c117 := (G.2.2.2.2.2.2.2.2.2.2.2.2.2.2.2.2.2.2.2.2.2.2.1).ext O.2
    have c118 := (G.2.2.2.2.2.2.2.2.2.2.2.2.2.2.2.2.2.2.2.2.2.2.2.1).ext O.2
    rw [hPst]
    exact own_retP X113 (v := (some (.ref (o 22)))) (Q := Q_vo Z (2 : Int64) o kc h0 n0) (fun h => by rw [Bd.returns] at h; cases h) Bd.notSynchronized (fun fs hr => retOut X113 hx Bd.returns rfl (Or.inr (Or.inr (Or.inr (Or.inr ⟨rfl, rfl, rfl⟩)))) (dE 14 rfl) hr) (by decide) (by decide) (by rw [e113]; exact ⟨_, rfl, N0, (Keep.refl h0 []), c116, c117, c118⟩)
  · refine o_lloadN X0.here hx (dE 0 rfl) rfl ?_
    refine o_lconst X0.here hx (dE 1 rfl) (z := (0 : Int64)) rfl ?_
    refine o_lcmp X0.here hx (dE 2 rfl) rfl ?_
    refine o_ifNo X0.here hx (dE 3 rfl) rfl ((if0 _ _).trans (flt (by decide)).1) ?_
    refine o_lloadN X0.here hx (dE 4 rfl) rfl ?_
    refine p_getS2 X0 hx hZ hown (host := "") (Or.inl (g_ hw 47 rfl)) Via.refl e0 (G.1.ext O.2) (dE 5 rfl) fun T119 X119 e119 => ?_
    have c120 := (G.2.1).ext O.2
    obtain ⟨cl121, Ar121, -, S121, P121, -, -⟩ := id c120
    refine own_Go.of (S' := T119.setTop (mkF m 11 #[.val (.long (4 : Int64)), .second] [(.int (11 : Int32)), (.long (4 : Int64))])) (fun tgt kst => X119.arraylength hx (by rw [e119]; exact Ar121.1) (State.isArrayOf_alike hZ.alike Ar121.2.1) (g := (mkF m 10 #[.val (.long (4 : Int64)), .second] [(.ref (o 0)), (.long (4 : Int64))])) rfl rfl (dE 6 rfl) _ (by rw [len_of S121 P121]; exact kst)) ?_
    refine o_i2l X119.here hx (dE 7 rfl) rfl ?_
    refine o_lcmp X119.here hx (dE 8 rfl) rfl ?_
    refine o_ifNo X119.here hx (dE 9 rfl) rfl ((if0 _ _).trans (tlt (by decide)).2.1) ?_
    refine p_getS2 X119 hx hZ hown (host := "") (Or.inl (g_ hw 47 rfl)) Via.refl e119 (G.1.ext O.2) (dE 10 rfl) fun T122 X122 e122 => ?_
    refine o_lloadN X122.here hx (dE 11 rfl) rfl ?_
    refine o_l2i X122.here hx (dE 12 rfl) rfl ?_
    rw [show ((4 : Int64).toInt32) = (4 : Int32) from by decide]
    show own_Go p e below Pst (T122.setTop (mkF m 21 #[.val (.long (4 : Int64)), .second] [(.int (4 : Int32)), (.ref (o 0))]))
    have c123 := (G.2.1).ext O.2
    obtain ⟨cl124, Ar124, q124, S124, P124, H124, G124⟩ := id c123
    have hin124 : ¬ ((4 : Int32) < 0 ∨ cl124.slots.size ≤ ((4 : Int32)).toNatClampNeg) := inb_of S124 ⟨by decide, by decide⟩
    have hat124 : cl124.slots[((4 : Int32)).toNatClampNeg]? = some (.ref (o 24)) := Has.at H124 hin124 rfl
    refine own_Go.of (S' := T122.setTop (mkF m 22 #[.val (.long (4 : Int64)), .second] [(.ref (o 24))])) (fun tgt kst => X122.aaload hx (j := (4 : Int32)) (v := (.ref (o 24))) (by rw [e122]; exact Ar124.1) (State.isArrayOf_alike hZ.alike Ar124.2.1) rfl Ar124.2.2 hin124 hat124 (g := (mkF m 21 #[.val (.long (4 : Int64)), .second] [(.int (4 : Int32)), (.ref (o 0))])) rfl rfl (dE 13 rfl) _ kst) ?_
    have c125 := (G.2.2.2.2.2.2.2.2.2.2.2.2.2.2.2.2.2.2.2.2.2.2.2.2.1).ext O.2
    have c126 := (G.2.2.2.2.2.2.2.2.2.2.2.2.2.2.2.2.2.2.2.2.2.2.2.2.2.1).ext O.2
    have c127 := (G.2.2.2.2.2.2.2.2.2.2.2.2.2.2.2.2.2.2.2.2.2.2.2.2.2.2.1).ext O.2
    rw [hPst]
    exact own_retP X122 (v := (some (.ref (o 24)))) (Q := Q_vo Z (4 : Int64) o kc h0 n0) (fun h => by rw [Bd.returns] at h; cases h) Bd.notSynchronized (fun fs hr => retOut X122 hx Bd.returns rfl (Or.inr (Or.inr (Or.inr (Or.inr ⟨rfl, rfl, rfl⟩)))) (dE 14 rfl) hr) (by decide) (by decide) (by rw [e122]; exact ⟨_, rfl, N0, (Keep.refl h0 []), c125, c126, c127⟩)
  · refine o_lloadN X0.here hx (dE 0 rfl) rfl ?_
    refine o_lconst X0.here hx (dE 1 rfl) (z := (0 : Int64)) rfl ?_
    refine o_lcmp X0.here hx (dE 2 rfl) rfl ?_
    refine o_ifNo X0.here hx (dE 3 rfl) rfl ((if0 _ _).trans (flt (by decide)).1) ?_
    refine o_lloadN X0.here hx (dE 4 rfl) rfl ?_
    refine p_getS2 X0 hx hZ hown (host := "") (Or.inl (g_ hw 47 rfl)) Via.refl e0 (G.1.ext O.2) (dE 5 rfl) fun T128 X128 e128 => ?_
    have c129 := (G.2.1).ext O.2
    obtain ⟨cl130, Ar130, -, S130, P130, -, -⟩ := id c129
    refine own_Go.of (S' := T128.setTop (mkF m 11 #[.val (.long (8 : Int64)), .second] [(.int (11 : Int32)), (.long (8 : Int64))])) (fun tgt kst => X128.arraylength hx (by rw [e128]; exact Ar130.1) (State.isArrayOf_alike hZ.alike Ar130.2.1) (g := (mkF m 10 #[.val (.long (8 : Int64)), .second] [(.ref (o 0)), (.long (8 : Int64))])) rfl rfl (dE 6 rfl) _ (by rw [len_of S130 P130]; exact kst)) ?_
    refine o_i2l X128.here hx (dE 7 rfl) rfl ?_
    refine o_lcmp X128.here hx (dE 8 rfl) rfl ?_
    refine o_ifNo X128.here hx (dE 9 rfl) rfl ((if0 _ _).trans (tlt (by decide)).2.1) ?_
    refine p_getS2 X128 hx hZ hown (host := "") (Or.inl (g_ hw 47 rfl)) Via.refl e128 (G.1.ext O.2) (dE 10 rfl) fun T131 X131 e131 => ?_
    refine o_lloadN X131.here hx (dE 11 rfl) rfl ?_
    refine o_l2i X131.here hx (dE 12 rfl) rfl ?_
    rw [show ((8 : Int64).toInt32) = (8 : Int32) from by decide]
    show own_Go p e below Pst (T131.setTop (mkF m 21 #[.val (.long (8 : Int64)), .second] [(.int (8 : Int32)), (.ref (o 0))]))
    have c132 := (G.2.1).ext O.2
    obtain ⟨cl133, Ar133, q133, S133, P133, H133, G133⟩ := id c132
    have hin133 : ¬ ((8 : Int32) < 0 ∨ cl133.slots.size ≤ ((8 : Int32)).toNatClampNeg) := inb_of S133 ⟨by decide, by decide⟩
    have hat133 : cl133.slots[((8 : Int32)).toNatClampNeg]? = some (.ref (o 28)) := Has.at H133 hin133 rfl
    refine own_Go.of (S' := T131.setTop (mkF m 22 #[.val (.long (8 : Int64)), .second] [(.ref (o 28))])) (fun tgt kst => X131.aaload hx (j := (8 : Int32)) (v := (.ref (o 28))) (by rw [e131]; exact Ar133.1) (State.isArrayOf_alike hZ.alike Ar133.2.1) rfl Ar133.2.2 hin133 hat133 (g := (mkF m 21 #[.val (.long (8 : Int64)), .second] [(.int (8 : Int32)), (.ref (o 0))])) rfl rfl (dE 13 rfl) _ kst) ?_
    have c134 := (G.2.2.2.2.2.2.2.2.2.2.2.2.2.2.2.2.2.2.2.2.2.2.2.2.2.2.2.1).ext O.2
    have c135 := (G.2.2.2.2.2.2.2.2.2.2.2.2.2.2.2.2.2.2.2.2.2.2.2.2.2.2.2.2.1).ext O.2
    have c136 := (G.2.2.2.2.2.2.2.2.2.2.2.2.2.2.2.2.2.2.2.2.2.2.2.2.2.2.2.2.2.1).ext O.2
    rw [hPst]
    exact own_retP X131 (v := (some (.ref (o 28)))) (Q := Q_vo Z (8 : Int64) o kc h0 n0) (fun h => by rw [Bd.returns] at h; cases h) Bd.notSynchronized (fun fs hr => retOut X131 hx Bd.returns rfl (Or.inr (Or.inr (Or.inr (Or.inr ⟨rfl, rfl, rfl⟩)))) (dE 14 rfl) hr) (by decide) (by decide) (by rw [e131]; exact ⟨_, rfl, N0, (Keep.refl h0 []), c134, c135, c136⟩)
  · refine o_lloadN X0.here hx (dE 0 rfl) rfl ?_
    refine o_lconst X0.here hx (dE 1 rfl) (z := (0 : Int64)) rfl ?_
    refine o_lcmp X0.here hx (dE 2 rfl) rfl ?_
    refine o_ifNo X0.here hx (dE 3 rfl) rfl ((if0 _ _).trans (flt (own_big1 hs).1).1) ?_
    refine o_lloadN X0.here hx (dE 4 rfl) rfl ?_
    refine p_getS2 X0 hx hZ hown (host := "") (Or.inl (g_ hw 47 rfl)) Via.refl e0 (G.1.ext O.2) (dE 5 rfl) fun T137 X137 e137 => ?_
    have c138 := (G.2.1).ext O.2
    obtain ⟨cl139, Ar139, -, S139, P139, -, -⟩ := id c138
    refine own_Go.of (S' := T137.setTop (mkF m 11 #[.val (.long s), .second] [(.int (11 : Int32)), (.long s)])) (fun tgt kst => X137.arraylength hx (by rw [e137]; exact Ar139.1) (State.isArrayOf_alike hZ.alike Ar139.2.1) (g := (mkF m 10 #[.val (.long s), .second] [(.ref (o 0)), (.long s)])) rfl rfl (dE 6 rfl) _ (by rw [len_of S139 P139]; exact kst)) ?_
    refine o_i2l X137.here hx (dE 7 rfl) rfl ?_
    refine o_lcmp X137.here hx (dE 8 rfl) rfl ?_
    refine o_ifYes X137.here hx (pc0 := 13) (pc' := 23) rfl (dE 9 rfl) rfl ((if0 _ _).trans (flt (own_big1 hs).2.1).2.1) (by decide) (by decide) ?_
    refine o_lloadN X137.here hx (dE 15 rfl) rfl ?_
    refine own_Go.of (S' := T137.setTop (mkF m 27 #[.val (.long s), .second] [(.long (-9223372036854775808 : Int64)), (.long s)])) (fun tgt kst => X137.ldc2Long hx hown (mvT hZ (g_ hw 62 rfl)) (g := (mkF m 24 #[.val (.long s), .second] [(.long s)])) rfl (dE 16 rfl) _ kst) ?_
    refine o_lcmp X137.here hx (dE 17 rfl) rfl ?_
    refine o_ifNo X137.here hx (dE 18 rfl) rfl ((if0 _ _).trans (feq (own_big1 hs).2.2).1) ?_
    refine p_newO X137 hx hZ hown (g_ hw 83 rfl) (g_ hw 84 rfl) (g_ hw 45 rfl) e137 (dE 19 rfl) (by decide) (by decide) fun T140 h140 b140 g140 X140 e140 E140 A140 D140 U140 => ?_
    have gn_b140 : n0 ≤ b140 := Nat.le_trans Z0 (Nat.le_of_eq g140.symm)
    have sz_b140 : h0.size ≤ b140 := Nat.le_trans (Keep.refl h0 []).1 (Nat.le_of_eq g140.symm)
    have f140_intCompact : Fld Z h140 b140 "java/math/BigDecimal" "intCompact" "J" (.long (0 : Int64)) := D140 (Or.inr (g_ hw 61 rfl)) (ty := .long) (by decide)
    have f140_scale : Fld Z h140 b140 "java/math/BigDecimal" "scale" "I" (.int (0 : Int32)) := D140 (Or.inr (g_ hw 64 rfl)) (ty := .int) (by decide)
    have f140_precision : Fld Z h140 b140 "java/math/BigDecimal" "precision" "I" (.int (0 : Int32)) := D140 (Or.inl (g_ hw 99 rfl)) (ty := .int) (by decide)
    have f140_intVal : Fld Z h140 b140 "java/math/BigDecimal" "intVal" "Ljava/math/BigInteger;" .null := D140 (Or.inr (g_ hw 101 rfl)) (ty := (.object "java/math/BigInteger")) (by decide)
    refine o_dup X140.here hx (dE 20 rfl) rfl rfl ?_
    refine o_aconstNull X140.here hx (dE 21 rfl) ?_
    refine o_lloadN X140.here hx (dE 22 rfl) rfl ?_
    refine o_iconst X140.here hx (dE 23 rfl) (z := (0 : Int32)) rfl ?_
    refine o_iconst X140.here hx (dE 24 rfl) (z := (0 : Int32)) rfl ?_
    have c142 := (Nat.le_trans Z0 E140.1)
    refine own_cP X140 (X140.specialBack hx (y := Mn29) rfl hown (mvT hZ (g_ hw 85 rfl)) (mvT hZ (g_ hw 86 rfl)) (mvT hZ (g_ hw 88 rfl)) (by decide) (backOf (W := 1) (rm_bdi l Z a0 hw [] b140 s (0 : Int32) (.int 0) (.int 0) (.long 0) .null h140 n0 c142 A140 gn_b140 f140_scale f140_precision f140_intCompact f140_intVal) hZ (g_ hw 88 rfl) (g_ hw 45 rfl) (by decide) (by decide)) (g := (mkF m 39 #[.val (.long s), .second] [(.int (0 : Int32)), (.int (0 : Int32)), (.long s), .null, (.ref b140), (.ref b140)])) rfl (by rw [hml]; rfl) (Steps.refl _) (a := b140) (argsL := [.null, (.long s), (.int (0 : Int32)), (.int (0 : Int32))]) (rest := [(.ref b140)]) (lenOf own_pd2 rfl) rfl (by show 2 * 0 + _ ≤ _; exact Nat.le_of_eq rfl) (dE 25 rfl) (fun _ _ => ⟨rfl, e140, (by decide : 1 + 0 ≤ _), (by decide : 5 + 0 ≤ _)⟩)) fun v141 T141 L141 X141 hQ141 => ?_
    obtain ⟨rfl, Nq141, K141, A141, C141, S141, V141⟩ := hQ141
    have N141 := Fr.app N0 Nq141
    show own_Go p e below Pst (T141.setTop (mkF m 42 #[.val (.long s), .second] [(.ref b140)]))
    have c143 := (Keep.trans ((Keep.refl h0 []).ext E140) K141 (allS (Or.inr sz_b140) all0))
    rw [hPst]
    exact own_retP X141 (v := (some (.ref b140))) (Q := Q_vo Z s o kc h0 n0) (fun h => by rw [Bd.returns] at h; cases h) Bd.notSynchronized (fun fs hr => retOut X141 hx Bd.returns rfl (Or.inr (Or.inr (Or.inr (Or.inr ⟨rfl, rfl, rfl⟩)))) (dE 26 rfl) hr) (by decide) (by decide) ⟨_, rfl, N141, c143, A141, C141, S141⟩
theorem own_ef_I_1 (m : MethodId) (x0 : Int32) : entryFrame m #[(.int x0)] 1 = mkF m 0 #[.val (.int x0)] [] := by first | (simp [entryFrame, mkF, argsToLocals, Value.category]; done) | rfl
def Q_zv (Z : State) (o : Nat → Addr) (kc : Nat → ClassId) (h0 : Heap) (n0 : Nat) (v : Option Value) (h : Heap) (L : List Loc) : Prop := v = some (.ref (o 49)) ∧ Fr n0 L ∧ h = h0
theorem rm_zv (l : Launch) (Z : State) (a0 : Array Value) (hw : own_H a0 Z) (ws : List Jvm.Cond) (o : Nat → Addr) (kc : Nat → ClassId) (h0 : Heap) (n0 : Nat) (Z0 : n0 ≤ h0.size) (O : Old Z n0 h0) (G : own_G Z o kc) : own_MP l Mn43 jdk_17_method_24_code 1 (some (.object "java/math/BigDecimal")) ws ({ frames := 0, cells := 0, slots := 0, locals := 0 } : Room) Z h0 #[(.int (9 : Int32))] (fun _ _ _ _ _ => True) (Q_zv Z o kc h0 n0) := by
  refine own_startP (plainFor_of_name own_pn_java_math_BigDecimal) fun p e s m below meth c s₁ Bd hx hby hml hown0 X0 e0 hh0 hZ hK Pst hPst => ?_
  have dE := own_E hby own_D10
  have hown : s.vm.findClass "java/math/BigDecimal" = some m.cls := hown0
  have hnm := (name_of_methodNamed Bd.named Bd.method).1
  have N0 := Fr.nil n0
  rw [own_ef_I_1 m (9 : Int32)]
  refine o_iloadN X0.here hx (dE 0 rfl) rfl ?_
  refine o_ifNo X0.here hx (dE 1 rfl) rfl ((if0 _ _).trans (flt (by decide)).1) ?_
  refine o_iloadN X0.here hx (dE 2 rfl) rfl ?_
  refine p_getS2 X0 hx hZ hown (host := "") (Or.inl (g_ hw 54 rfl)) Via.refl e0 (G.2.2.1.ext O.2) (dE 3 rfl) fun T101 X101 e101 => ?_
  have c102 := (G.2.2.2.1).ext O.2
  obtain ⟨cl103, Ar103, -, S103, P103, -, -⟩ := id c102
  refine own_Go.of (S' := T101.setTop (mkF m 9 #[.val (.int (9 : Int32))] [(.int (16 : Int32)), (.int (9 : Int32))])) (fun tgt kst => X101.arraylength hx (by rw [e101]; exact Ar103.1) (State.isArrayOf_alike hZ.alike Ar103.2.1) (g := (mkF m 8 #[.val (.int (9 : Int32))] [(.ref (o 1)), (.int (9 : Int32))])) rfl rfl (dE 4 rfl) _ (by rw [len_of S103 P103]; exact kst)) ?_
  refine o_icmpNo X101.here hx (dE 5 rfl) rfl (tlt (by decide)).2.1 ?_
  refine p_getS2 X101 hx hZ hown (host := "") (Or.inl (g_ hw 54 rfl)) Via.refl e101 (G.2.2.1.ext O.2) (dE 6 rfl) fun T104 X104 e104 => ?_
  refine o_iloadN X104.here hx (dE 7 rfl) rfl ?_
  have c105 := (G.2.2.2.1).ext O.2
  obtain ⟨cl106, Ar106, q106, S106, P106, H106, G106⟩ := id c105
  have hin106 : ¬ ((9 : Int32) < 0 ∨ cl106.slots.size ≤ ((9 : Int32)).toNatClampNeg) := inb_of S106 ⟨by decide, by decide⟩
  have hat106 : cl106.slots[((9 : Int32)).toNatClampNeg]? = some (.ref (o 49)) := Has.at H106 hin106 rfl
  refine own_Go.of (S' := T104.setTop (mkF m 17 #[.val (.int (9 : Int32))] [(.ref (o 49))])) (fun tgt kst => X104.aaload hx (j := (9 : Int32)) (v := (.ref (o 49))) (by rw [e104]; exact Ar106.1) (State.isArrayOf_alike hZ.alike Ar106.2.1) rfl Ar106.2.2 hin106 hat106 (g := (mkF m 16 #[.val (.int (9 : Int32))] [(.int (9 : Int32)), (.ref (o 1))])) rfl rfl (dE 8 rfl) _ kst) ?_
  rw [hPst]
  exact own_retP X104 (v := (some (.ref (o 49)))) (Q := Q_zv Z o kc h0 n0) (fun h => by rw [Bd.returns] at h; cases h) Bd.notSynchronized (fun fs hr => retOut X104 hx Bd.returns rfl (Or.inr (Or.inr (Or.inr (Or.inr ⟨rfl, rfl, rfl⟩)))) (dE 9 rfl) hr) (by decide) (by decide) (by rw [e104]; exact ⟨rfl, N0, rfl⟩)
theorem own_pd3 : parseMethodDescriptor "(I)Ljava/math/BigDecimal;" = some ⟨[.int], some (.object "java/math/BigDecimal")⟩ := by decide +kernel
theorem own_ef_JI_3 (m : MethodId) (x0 : Int64) (x1 : Int32) : entryFrame m #[(.long x0), (.int x1)] 3 = mkF m 0 #[.val (.long x0), .second, .val (.int x1)] [] := by first | (simp [entryFrame, mkF, argsToLocals, Value.category]; done) | rfl
def Q_vji0 (Z : State) (o : Nat → Addr) (kc : Nat → ClassId) (h0 : Heap) (n0 : Nat) (v : Option Value) (h : Heap) (L : List Loc) : Prop := v = some (.ref (o 49)) ∧ Fr n0 L ∧ h = h0
theorem rm_vji0 (l : Launch) (Z : State) (a0 : Array Value) (hw : own_H a0 Z) (ws : List Jvm.Cond) (o : Nat → Addr) (kc : Nat → ClassId) (h0 : Heap) (n0 : Nat) (Z0 : n0 ≤ h0.size) (O : Old Z n0 h0) (G : own_G Z o kc) : own_MP l Mn17 jdk_17_method_20_code 3 (some (.object "java/math/BigDecimal")) ws ({ frames := 1, cells := 0, slots := 0, locals := 12 } : Room) Z h0 #[(.long (0 : Int64)), (.int (9 : Int32))] (fun _ _ _ _ _ => True) (Q_vji0 Z o kc h0 n0) := by
  refine own_startP (plainFor_of_name own_pn_java_math_BigDecimal) fun p e s m below meth c s₁ Bd hx hby hml hown0 X0 e0 hh0 hZ hK Pst hPst => ?_
  have dE := own_E hby own_D9
  have hown : s.vm.findClass "java/math/BigDecimal" = some m.cls := hown0
  have hnm := (name_of_methodNamed Bd.named Bd.method).1
  have N0 := Fr.nil n0
  rw [own_ef_JI_3 m (0 : Int64) (9 : Int32)]
  refine o_iloadN X0.here hx (dE 0 rfl) rfl ?_
  refine o_ifYes X0.here hx (pc0 := 1) (pc' := 9) rfl (dE 1 rfl) rfl ((if0 _ _).trans (feq (by decide)).2) (by decide) (by decide) ?_
  refine o_lloadN X0.here hx (dE 2 rfl) rfl ?_
  refine o_lconst X0.here hx (dE 3 rfl) (z := (0 : Int64)) rfl ?_
  refine o_lcmp X0.here hx (dE 4 rfl) rfl ?_
  refine o_ifNo X0.here hx (dE 5 rfl) rfl ((if0 _ _).trans (teq (by decide)).2) ?_
  refine o_iloadN X0.here hx (dE 6 rfl) rfl ?_
  refine own_cF X0 (Jvm.LawKit.callS X0 hx (y := Mn43) hown (mvT hZ (g_ hw 51 rfl)) (mvT hZ (g_ hw 52 rfl)) (mvT hZ (g_ hw 45 rfl)) (mvT hZ (g_ hw 53 rfl)) (by decide) (backOf (W := 0) (rm_zv l Z a0 hw [] o kc h0 n0 Z0 O G) hZ (g_ hw 53 rfl) (g_ hw 45 rfl) (by decide) (by decide)) (g := (mkF m 16 #[.val (.long (0 : Int64)), .second, .val (.int (9 : Int32))] [(.int (9 : Int32))])) rfl (by rw [hml]; rfl) (argsL := [(.int (9 : Int32))]) (rest := []) (lenOf own_pd3 rfl) rfl (by show 2 * 0 + _ ≤ _; exact Nat.le_of_eq rfl) (dE 7 rfl) (fun _ _ => ⟨rfl, e0, (by decide : 0 + 0 ≤ _), (by decide : 0 + 0 ≤ _)⟩)) fun v101 T101 L101 X101 hQ101 => ?_
  obtain ⟨rfl, Nq101, e101⟩ := hQ101
  have N101 := Fr.app N0 Nq101
  show own_Go p e below Pst (T101.setTop (mkF m 19 #[.val (.long (0 : Int64)), .second, .val (.int (9 : Int32))] [(.ref (o 49))]))
  rw [hPst]
  exact own_retP X101 (v := (some (.ref (o 49)))) (Q := Q_vji0 Z o kc h0 n0) (fun h => by rw [Bd.returns] at h; cases h) Bd.notSynchronized (fun fs hr => retOut X101 hx Bd.returns rfl (Or.inr (Or.inr (Or.inr (Or.inr ⟨rfl, rfl, rfl⟩)))) (dE 8 rfl) hr) (by decide) (by decide) (by rw [e101]; exact ⟨rfl, N101, rfl⟩)
def Q_vji (Z : State) (w : Int64) (h0 : Heap) (n0 : Nat) (v : Option Value) (h : Heap) (L : List Loc) : Prop := ∃ x : Addr, v = some (.ref x) ∧ Fr n0 L ∧ Keep h0 h [] ∧ h0.size ≤ x ∧ Exa Z h x "java/math/BigDecimal" ∧ Fld Z h x "java/math/BigDecimal" "intCompact" "J" (.long w) ∧ Fld Z h x "java/math/BigDecimal" "scale" "I" (.int (9 : Int32)) ∧ Fld Z h x "java/math/BigDecimal" "intVal" "Ljava/math/BigInteger;" .null
theorem rm_vji (l : Launch) (Z : State) (a0 : Array Value) (hw : own_H a0 Z) (ws : List Jvm.Cond) (w : Int64) (h0 : Heap) (n0 : Nat) (Z0 : n0 ≤ h0.size) (h1 : ¬ lcmpW w 0 = 0) (h2 : ¬ lcmpW w (-9223372036854775808 : Int64) = 0) : own_MP l Mn17 jdk_17_method_20_code 3 (some (.object "java/math/BigDecimal")) ws ({ frames := 3, cells := 1, slots := 5, locals := 42 } : Room) Z h0 #[(.long w), (.int (9 : Int32))] (fun _ _ _ _ _ => True) (Q_vji Z w h0 n0) := by
  refine own_startP (plainFor_of_name own_pn_java_math_BigDecimal) fun p e s m below meth c s₁ Bd hx hby hml hown0 X0 e0 hh0 hZ hK Pst hPst => ?_
  have dE := own_E hby own_D9
  have hown : s.vm.findClass "java/math/BigDecimal" = some m.cls := hown0
  have hnm := (name_of_methodNamed Bd.named Bd.method).1
  have N0 := Fr.nil n0
  rw [own_ef_JI_3 m w (9 : Int32)]
  refine o_iloadN X0.here hx (dE 0 rfl) rfl ?_
  refine o_ifYes X0.here hx (pc0 := 1) (pc' := 9) rfl (dE 1 rfl) rfl ((if0 _ _).trans (feq (by decide)).2) (by decide) (by decide) ?_
  refine o_lloadN X0.here hx (dE 2 rfl) rfl ?_
  refine o_lconst X0.here hx (dE 3 rfl) (z := (0 : Int64)) rfl ?_
  refine o_lcmp X0.here hx (dE 4 rfl) rfl ?_
  refine o_ifYes X0.here hx (pc0 := 12) (pc' := 20) rfl (dE 5 rfl) rfl ((if0 _ _).trans (feq h1).2) (by decide) (by decide) ?_
  refine p_newO X0 hx hZ hown (g_ hw 83 rfl) (g_ hw 84 rfl) (g_ hw 45 rfl) e0 (dE 9 rfl) (by decide) (by decide) fun T101 h101 b101 g101 X101 e101 E101 A101 D101 U101 => ?_
  have gn_b101 : n0 ≤ b101 := Nat.le_trans Z0 (Nat.le_of_eq g101.symm)
  have sz_b101 : h0.size ≤ b101 := Nat.le_trans (Keep.refl h0 []).1 (Nat.le_of_eq g101.symm)
  have f101_intCompact : Fld Z h101 b101 "java/math/BigDecimal" "intCompact" "J" (.long (0 : Int64)) := D101 (Or.inr (g_ hw 61 rfl)) (ty := .long) (by decide)
  have f101_scale : Fld Z h101 b101 "java/math/BigDecimal" "scale" "I" (.int (0 : Int32)) := D101 (Or.inr (g_ hw 64 rfl)) (ty := .int) (by decide)
  have f101_precision : Fld Z h101 b101 "java/math/BigDecimal" "precision" "I" (.int (0 : Int32)) := D101 (Or.inl (g_ hw 99 rfl)) (ty := .int) (by decide)
  have f101_intVal : Fld Z h101 b101 "java/math/BigDecimal" "intVal" "Ljava/math/BigInteger;" .null := D101 (Or.inr (g_ hw 101 rfl)) (ty := (.object "java/math/BigInteger")) (by decide)
  refine o_dup X101.here hx (dE 10 rfl) rfl rfl ?_
  refine o_lloadN X101.here hx (dE 11 rfl) rfl ?_
  refine own_Go.of (S' := T101.setTop (mkF m 28 #[.val (.long w), .second, .val (.int (9 : Int32))] [(.long (-9223372036854775808 : Int64)), (.long w), (.ref b101), (.ref b101)])) (fun tgt kst => X101.ldc2Long hx hown (mvT hZ (g_ hw 62 rfl)) (g := (mkF m 25 #[.val (.long w), .second, .val (.int (9 : Int32))] [(.long w), (.ref b101), (.ref b101)])) rfl (dE 12 rfl) _ kst) ?_
  refine o_lcmp X101.here hx (dE 13 rfl) rfl ?_
  refine o_ifYes X101.here hx (pc0 := 29) (pc' := 38) rfl (dE 14 rfl) rfl ((if0 _ _).trans (feq h2).2) (by decide) (by decide) ?_
  refine o_aconstNull X101.here hx (dE 15 rfl) ?_
  refine o_lloadN X101.here hx (dE 16 rfl) rfl ?_
  refine o_iloadN X101.here hx (dE 17 rfl) rfl ?_
  refine o_iconst X101.here hx (dE 18 rfl) (z := (0 : Int32)) rfl ?_
  have c103 := (Nat.le_trans Z0 E101.1)
  refine own_cP X101 (X101.specialBack hx (y := Mn29) rfl hown (mvT hZ (g_ hw 85 rfl)) (mvT hZ (g_ hw 86 rfl)) (mvT hZ (g_ hw 88 rfl)) (by decide) (backOf (W := 1) (rm_bdi l Z a0 hw [] b101 w (9 : Int32) (.int 0) (.int 0) (.long 0) .null h101 n0 c103 A101 gn_b101 f101_scale f101_precision f101_intCompact f101_intVal) hZ (g_ hw 88 rfl) (g_ hw 45 rfl) (by decide) (by decide)) (g := (mkF m 42 #[.val (.long w), .second, .val (.int (9 : Int32))] [(.int (0 : Int32)), (.int (9 : Int32)), (.long w), .null, (.ref b101), (.ref b101)])) rfl (by rw [hml]; rfl) (Steps.refl _) (a := b101) (argsL := [.null, (.long w), (.int (9 : Int32)), (.int (0 : Int32))]) (rest := [(.ref b101)]) (lenOf own_pd2 rfl) rfl (by show 2 * 0 + _ ≤ _; exact Nat.le_of_eq rfl) (dE 19 rfl) (fun _ _ => ⟨rfl, e101, (by decide : 1 + 0 ≤ _), (by decide : 5 + 0 ≤ _)⟩)) fun v102 T102 L102 X102 hQ102 => ?_
  obtain ⟨rfl, Nq102, K102, A102, C102, S102, V102⟩ := hQ102
  have N102 := Fr.app N0 Nq102
  show own_Go p e below Pst (T102.setTop (mkF m 45 #[.val (.long w), .second, .val (.int (9 : Int32))] [(.ref b101)]))
  have c104 := (Keep.trans ((Keep.refl h0 []).ext E101) K102 (allS (Or.inr sz_b101) all0))
  rw [hPst]
  exact own_retP X102 (v := (some (.ref b101))) (Q := Q_vji Z w h0 n0) (fun h => by rw [Bd.returns] at h; cases h) Bd.notSynchronized (fun fs hr => retOut X102 hx Bd.returns rfl (Or.inr (Or.inr (Or.inr (Or.inr ⟨rfl, rfl, rfl⟩)))) (dE 20 rfl) hr) (by decide) (by decide) ⟨_, rfl, N102, c104, sz_b101, A102, C102, S102, V102⟩
theorem own_f0 {s r v9 v2 : Int64} {q hi lo : Int32} (hV : own_V s r v9 v2 q hi lo) : ¬ lcmpW s 0 = 0 := by
  rcases hV with (⟨rfl, rfl, rfl, rfl, rfl, rfl, rfl⟩ | ⟨rfl, rfl, rfl, rfl, rfl, rfl, rfl⟩) | (⟨rfl, rfl, rfl, rfl, rfl, rfl, rfl⟩ | ⟨rfl, rfl, rfl, rfl, rfl, rfl, rfl⟩ | ⟨rfl, rfl, rfl, rfl, rfl, rfl, rfl⟩ | ⟨rfl, rfl, rfl, rfl, rfl, rfl, rfl⟩ | ⟨rfl, rfl, rfl, rfl, rfl, rfl, rfl⟩ | ⟨rfl, rfl, rfl, rfl, rfl, rfl, rfl⟩ | ⟨rfl, rfl, rfl, rfl, rfl, rfl, rfl⟩ | ⟨rfl, rfl, rfl, rfl, rfl, rfl, rfl⟩ | ⟨rfl, rfl, rfl, rfl, rfl, rfl, rfl⟩ | ⟨rfl, rfl, rfl, rfl, rfl, rfl, rfl⟩) <;> decide
theorem own_f1 {s r v9 v2 : Int64} {q hi lo : Int32} (hV : own_V s r v9 v2 q hi lo) : lcmpW s (1 : Int64) = 0 → (1000000000 : Int64) = v9 := by
  rcases hV with (⟨rfl, rfl, rfl, rfl, rfl, rfl, rfl⟩ | ⟨rfl, rfl, rfl, rfl, rfl, rfl, rfl⟩) | (⟨rfl, rfl, rfl, rfl, rfl, rfl, rfl⟩ | ⟨rfl, rfl, rfl, rfl, rfl, rfl, rfl⟩ | ⟨rfl, rfl, rfl, rfl, rfl, rfl, rfl⟩ | ⟨rfl, rfl, rfl, rfl, rfl, rfl, rfl⟩ | ⟨rfl, rfl, rfl, rfl, rfl, rfl, rfl⟩ | ⟨rfl, rfl, rfl, rfl, rfl, rfl, rfl⟩ | ⟨rfl, rfl, rfl, rfl, rfl, rfl, rfl⟩ | ⟨rfl, rfl, rfl, rfl, rfl, rfl, rfl⟩ | ⟨rfl, rfl, rfl, rfl, rfl, rfl, rfl⟩ | ⟨rfl, rfl, rfl, rfl, rfl, rfl, rfl⟩) <;> decide
theorem own_f2 {s r v9 v2 : Int64} {q hi lo : Int32} (hV : own_V s r v9 v2 q hi lo) : ¬ lcmpW s 0 < 0 := by
  rcases hV with (⟨rfl, rfl, rfl, rfl, rfl, rfl, rfl⟩ | ⟨rfl, rfl, rfl, rfl, rfl, rfl, rfl⟩) | (⟨rfl, rfl, rfl, rfl, rfl, rfl, rfl⟩ | ⟨rfl, rfl, rfl, rfl, rfl, rfl, rfl⟩ | ⟨rfl, rfl, rfl, rfl, rfl, rfl, rfl⟩ | ⟨rfl, rfl, rfl, rfl, rfl, rfl, rfl⟩ | ⟨rfl, rfl, rfl, rfl, rfl, rfl, rfl⟩ | ⟨rfl, rfl, rfl, rfl, rfl, rfl, rfl⟩ | ⟨rfl, rfl, rfl, rfl, rfl, rfl, rfl⟩ | ⟨rfl, rfl, rfl, rfl, rfl, rfl, rfl⟩ | ⟨rfl, rfl, rfl, rfl, rfl, rfl, rfl⟩ | ⟨rfl, rfl, rfl, rfl, rfl, rfl, rfl⟩) <;> decide
theorem own_pd4 : parseMethodDescriptor "(J)J" = some ⟨[.long], some .long⟩ := by decide +kernel
theorem own_f3 {s r v9 v2 : Int64} {q hi lo : Int32} (hV : own_V s r v9 v2 q hi lo) : ¬ (0 : Int32) < lcmpW s (9223372036 : Int64) := by
  rcases hV with (⟨rfl, rfl, rfl, rfl, rfl, rfl, rfl⟩ | ⟨rfl, rfl, rfl, rfl, rfl, rfl, rfl⟩) | (⟨rfl, rfl, rfl, rfl, rfl, rfl, rfl⟩ | ⟨rfl, rfl, rfl, rfl, rfl, rfl, rfl⟩ | ⟨rfl, rfl, rfl, rfl, rfl, rfl, rfl⟩ | ⟨rfl, rfl, rfl, rfl, rfl, rfl, rfl⟩ | ⟨rfl, rfl, rfl, rfl, rfl, rfl, rfl⟩ | ⟨rfl, rfl, rfl, rfl, rfl, rfl, rfl⟩ | ⟨rfl, rfl, rfl, rfl, rfl, rfl, rfl⟩ | ⟨rfl, rfl, rfl, rfl, rfl, rfl, rfl⟩ | ⟨rfl, rfl, rfl, rfl, rfl, rfl, rfl⟩ | ⟨rfl, rfl, rfl, rfl, rfl, rfl, rfl⟩) <;> decide
theorem own_f4 {s r v9 v2 : Int64} {q hi lo : Int32} (hV : own_V s r v9 v2 q hi lo) : s * (1000000000 : Int64) = v9 := by
  rcases hV with (⟨rfl, rfl, rfl, rfl, rfl, rfl, rfl⟩ | ⟨rfl, rfl, rfl, rfl, rfl, rfl, rfl⟩) | (⟨rfl, rfl, rfl, rfl, rfl, rfl, rfl⟩ | ⟨rfl, rfl, rfl, rfl, rfl, rfl, rfl⟩ | ⟨rfl, rfl, rfl, rfl, rfl, rfl, rfl⟩ | ⟨rfl, rfl, rfl, rfl, rfl, rfl, rfl⟩ | ⟨rfl, rfl, rfl, rfl, rfl, rfl, rfl⟩ | ⟨rfl, rfl, rfl, rfl, rfl, rfl, rfl⟩ | ⟨rfl, rfl, rfl, rfl, rfl, rfl, rfl⟩ | ⟨rfl, rfl, rfl, rfl, rfl, rfl, rfl⟩ | ⟨rfl, rfl, rfl, rfl, rfl, rfl, rfl⟩ | ⟨rfl, rfl, rfl, rfl, rfl, rfl, rfl⟩) <;> decide
theorem own_ef_JI_7 (m : MethodId) (x0 : Int64) (x1 : Int32) : entryFrame m #[(.long x0), (.int x1)] 7 = mkF m 0 #[.val (.long x0), .second, .val (.int x1), .unset, .unset, .unset, .unset] [] := by first | (simp [entryFrame, mkF, argsToLocals, Value.category]; done) | rfl
def Q_lmp (Z : State) (s r v9 v2 : Int64) (q hi lo : Int32) (o : Nat → Addr) (kc : Nat → ClassId) (h0 : Heap) (n0 : Nat) (v : Option Value) (h : Heap) (L : List Loc) : Prop := v = some (.long v9) ∧ Fr n0 L ∧ h = h0
theorem rm_lmp (l : Launch) (Z : State) (a0 : Array Value) (hw : own_H a0 Z) (ws : List Jvm.Cond) (s r v9 v2 : Int64) (q hi lo : Int32) (o : Nat → Addr) (kc : Nat → ClassId) (h0 : Heap) (n0 : Nat) (Z0 : n0 ≤ h0.size) (O : Old Z n0 h0) (G : own_G Z o kc) (hV : own_V s r v9 v2 q hi lo) : own_MP l Mn44 jdk_17_method_97_code 7 (some .long) ws ({ frames := 1, cells := 0, slots := 0, locals := 13 } : Room) Z h0 #[(.long s), (.int (9 : Int32))] (fun _ _ _ _ _ => True) (Q_lmp Z s r v9 v2 q hi lo o kc h0 n0) := by
  refine own_startP (plainFor_of_name own_pn_java_math_BigDecimal) fun p e s' m below meth c s₁ Bd hx hby hml hown0 X0 e0 hh0 hZ hK Pst hPst => ?_
  have dE := own_E hby own_D14
  have hown : s'.vm.findClass "java/math/BigDecimal" = some m.cls := hown0
  have hnm := (name_of_methodNamed Bd.named Bd.method).1
  have N0 := Fr.nil n0
  rw [own_ef_JI_7 m s (9 : Int32)]
  refine o_lloadN X0.here hx (dE 0 rfl) rfl ?_
  refine o_lconst X0.here hx (dE 1 rfl) (z := (0 : Int64)) rfl ?_
  refine o_lcmp X0.here hx (dE 2 rfl) rfl ?_
  refine o_ifNo X0.here hx (dE 3 rfl) rfl ((if0 _ _).trans (feq (own_f0 hV)).1) ?_
  refine o_iloadN X0.here hx (dE 4 rfl) rfl ?_
  refine o_ifYes X0.here hx (pc0 := 7) (pc' := 12) rfl (dE 5 rfl) rfl ((if0 _ _).trans (tlt (by decide)).2.2.1) (by decide) (by decide) ?_
  refine p_getS2 X0 hx hZ hown (host := "") (Or.inl (g_ hw 74 rfl)) Via.refl e0 (G.2.2.2.2.1.ext O.2) (dE 6 rfl) fun T101 X101 e101 => ?_
  refine o_astoreN X101.here hx (dE 7 rfl) rfl rfl (l' := #[.val (.long s), .second, .val (.int (9 : Int32)), .val (.ref (o 2)), .unset, .unset, .unset]) rfl ?_
  refine p_getS2 X101 hx hZ hown (host := "") (Or.inl (g_ hw 75 rfl)) Via.refl e101 (G.2.2.2.2.2.2.1.ext O.2) (dE 8 rfl) fun T102 X102 e102 => ?_
  refine o_astore X102.here hx (dE 9 rfl) rfl rfl (l' := #[.val (.long s), .second, .val (.int (9 : Int32)), .val (.ref (o 2)), .val (.ref (o 3)), .unset, .unset]) rfl ?_
  refine o_iloadN X102.here hx (dE 10 rfl) rfl ?_
  refine o_aloadN X102.here hx (dE 11 rfl) rfl rfl ?_
  have c103 := (G.2.2.2.2.2.1).ext O.2
  obtain ⟨cl104, Ar104, -, S104, P104, -, -⟩ := id c103
  refine own_Go.of (S' := T102.setTop (mkF m 24 #[.val (.long s), .second, .val (.int (9 : Int32)), .val (.ref (o 2)), .val (.ref (o 3)), .unset, .unset] [(.int (19 : Int32)), (.int (9 : Int32))])) (fun tgt kst => X102.arraylength hx (by rw [e102]; exact Ar104.1) (State.isArrayOf_alike hZ.alike Ar104.2.1) (g := (mkF m 23 #[.val (.long s), .second, .val (.int (9 : Int32)), .val (.ref (o 2)), .val (.ref (o 3)), .unset, .unset] [(.ref (o 2)), (.int (9 : Int32))])) rfl rfl (dE 12 rfl) _ (by rw [len_of S104 P104]; exact kst)) ?_
  refine o_icmpNo X102.here hx (dE 13 rfl) rfl (tlt (by decide)).2.1 ?_
  refine o_iloadN X102.here hx (dE 14 rfl) rfl ?_
  refine o_aload X102.here hx (dE 15 rfl) rfl rfl ?_
  have c105 := (G.2.2.2.2.2.2.2.1).ext O.2
  obtain ⟨cl106, Ar106, -, S106, P106, -, -⟩ := id c105
  refine own_Go.of (S' := T102.setTop (mkF m 31 #[.val (.long s), .second, .val (.int (9 : Int32)), .val (.ref (o 2)), .val (.ref (o 3)), .unset, .unset] [(.int (19 : Int32)), (.int (9 : Int32))])) (fun tgt kst => X102.arraylength hx (by rw [e102]; exact Ar106.1) (State.isArrayOf_alike hZ.alike Ar106.2.1) (g := (mkF m 30 #[.val (.long s), .second, .val (.int (9 : Int32)), .val (.ref (o 2)), .val (.ref (o 3)), .unset, .unset] [(.ref (o 3)), (.int (9 : Int32))])) rfl rfl (dE 16 rfl) _ (by rw [len_of S106 P106]; exact kst)) ?_
  refine o_icmpNo X102.here hx (dE 17 rfl) rfl (tlt (by decide)).2.1 ?_
  refine o_aloadN X102.here hx (dE 18 rfl) rfl rfl ?_
  refine o_iloadN X102.here hx (dE 19 rfl) rfl ?_
  have c107 := (G.2.2.2.2.2.1).ext O.2
  obtain ⟨cl108, Ar108, q108, S108, P108, H108, G108⟩ := id c107
  have hin108 : ¬ ((9 : Int32) < 0 ∨ cl108.slots.size ≤ ((9 : Int32)).toNatClampNeg) := inb_of S108 ⟨by decide, by decide⟩
  have hat108 : cl108.slots[((9 : Int32)).toNatClampNeg]? = some (.long (1000000000 : Int64)) := Has.at H108 hin108 rfl
  refine own_Go.of (S' := T102.setTop (mkF m 37 #[.val (.long s), .second, .val (.int (9 : Int32)), .val (.ref (o 2)), .val (.ref (o 3)), .unset, .unset] [(.long (1000000000 : Int64))])) (fun tgt kst => X102.laload hx (j := (9 : Int32)) (v := (.long (1000000000 : Int64))) (by rw [e102]; exact Ar108.1) (State.isArrayOf_alike hZ.alike Ar108.2.1) Ar108.2.2 hin108 hat108 (g := (mkF m 36 #[.val (.long s), .second, .val (.int (9 : Int32)), .val (.ref (o 2)), .val (.ref (o 3)), .unset, .unset] [(.int (9 : Int32)), (.ref (o 2))])) rfl rfl (dE 20 rfl) _ kst) ?_
  refine o_lstore X102.here hx (dE 21 rfl) rfl (l' := #[.val (.long s), .second, .val (.int (9 : Int32)), .val (.ref (o 2)), .val (.ref (o 3)), .val (.long (1000000000 : Int64)), .second]) rfl ?_
  refine o_lloadN X102.here hx (dE 22 rfl) rfl ?_
  refine o_lconst X102.here hx (dE 23 rfl) (z := (1 : Int64)) rfl ?_
  refine o_lcmp X102.here hx (dE 24 rfl) rfl ?_
  by_cases h1 : lcmpW s (1 : Int64) = 0
  · refine o_ifNo X102.here hx (dE 25 rfl) rfl ((if0 _ _).trans (teq h1).2) ?_
    refine o_lload X102.here hx (dE 26 rfl) rfl ?_
    have e9 : (1000000000 : Int64) = v9 := (own_f1 hV) h1
    rw [e9]
    show own_Go p e below Pst (T102.setTop (mkF m 47 #[.val (.long s), .second, .val (.int (9 : Int32)), .val (.ref (o 2)), .val (.ref (o 3)), .val (.long v9), .second] [(.long v9)]))
    rw [hPst]
    exact own_retP X102 (v := (some (.long v9))) (Q := Q_lmp Z s r v9 v2 q hi lo o kc h0 n0) (fun h => by rw [Bd.returns] at h; cases h) Bd.notSynchronized (fun fs hr => retOut X102 hx Bd.returns rfl (Or.inr (Or.inl ⟨rfl, rfl, _, rfl⟩)) (dE 27 rfl) hr) (by decide) (by decide) (by rw [e102]; exact ⟨rfl, N0, rfl⟩)
  · refine o_ifYes X102.here hx (pc0 := 42) (pc' := 48) rfl (dE 25 rfl) rfl ((if0 _ _).trans (feq h1).2) (by decide) (by decide) ?_
    refine o_lloadN X102.here hx (dE 28 rfl) rfl ?_
    refine own_cF X102 (Jvm.LawKit.callS X102 hx (y := Mn28) hown (mvT hZ (g_ hw 118 rfl)) (mvT hZ (g_ hw 119 rfl)) (mvT hZ (g_ hw 120 rfl)) (mvT hZ (g_ hw 121 rfl)) (by decide) (backOf (W := 0) (rm_abs l Z a0 hw [] s h0 n0 Z0 (own_f2 hV)) hZ (g_ hw 121 rfl) (g_ hw 120 rfl) (by decide) (by decide)) (g := (mkF m 49 #[.val (.long s), .second, .val (.int (9 : Int32)), .val (.ref (o 2)), .val (.ref (o 3)), .val (.long (1000000000 : Int64)), .second] [(.long s)])) rfl (by rw [hml]; rfl) (argsL := [(.long s)]) (rest := []) (lenOf own_pd4 rfl) rfl (by show 2 * 0 + _ ≤ _; exact Nat.le_of_eq rfl) (dE 29 rfl) (fun _ _ => ⟨rfl, e102, (by decide : 0 + 0 ≤ _), (by decide : 0 + 0 ≤ _)⟩)) fun v109 T109 L109 X109 hQ109 => ?_
    obtain ⟨rfl, Nq109, e109⟩ := hQ109
    have N109 := Fr.app N0 Nq109
    show own_Go p e below Pst (T109.setTop (mkF m 52 #[.val (.long s), .second, .val (.int (9 : Int32)), .val (.ref (o 2)), .val (.ref (o 3)), .val (.long (1000000000 : Int64)), .second] [(.long s)]))
    refine o_aload X109.here hx (dE 30 rfl) rfl rfl ?_
    refine o_iloadN X109.here hx (dE 31 rfl) rfl ?_
    have c110 := (G.2.2.2.2.2.2.2.1).ext O.2
    obtain ⟨cl111, Ar111, q111, S111, P111, H111, G111⟩ := id c110
    have hin111 : ¬ ((9 : Int32) < 0 ∨ cl111.slots.size ≤ ((9 : Int32)).toNatClampNeg) := inb_of S111 ⟨by decide, by decide⟩
    have hat111 : cl111.slots[((9 : Int32)).toNatClampNeg]? = some (.long (9223372036 : Int64)) := Has.at H111 hin111 rfl
    refine own_Go.of (S' := T109.setTop (mkF m 56 #[.val (.long s), .second, .val (.int (9 : Int32)), .val (.ref (o 2)), .val (.ref (o 3)), .val (.long (1000000000 : Int64)), .second] [(.long (9223372036 : Int64)), (.long s)])) (fun tgt kst => X109.laload hx (j := (9 : Int32)) (v := (.long (9223372036 : Int64))) (by rw [e109]; exact Ar111.1) (State.isArrayOf_alike hZ.alike Ar111.2.1) Ar111.2.2 hin111 hat111 (g := (mkF m 55 #[.val (.long s), .second, .val (.int (9 : Int32)), .val (.ref (o 2)), .val (.ref (o 3)), .val (.long (1000000000 : Int64)), .second] [(.int (9 : Int32)), (.ref (o 3)), (.long s)])) rfl rfl (dE 32 rfl) _ kst) ?_
    refine o_lcmp X109.here hx (dE 33 rfl) rfl ?_
    refine o_ifNo X109.here hx (dE 34 rfl) rfl ((if0 _ _).trans (flt (own_f3 hV)).2.2.1) ?_
    refine o_lloadN X109.here hx (dE 35 rfl) rfl ?_
    refine o_lload X109.here hx (dE 36 rfl) rfl ?_
    refine o_lmul X109.here hx (dE 37 rfl) rfl ?_
    rw [(own_f4 hV)]
    show own_Go p e below Pst (T109.setTop (mkF m 64 #[.val (.long s), .second, .val (.int (9 : Int32)), .val (.ref (o 2)), .val (.ref (o 3)), .val (.long (1000000000 : Int64)), .second] [(.long v9)]))
    rw [hPst]
    exact own_retP X109 (v := (some (.long v9))) (Q := Q_lmp Z s r v9 v2 q hi lo o kc h0 n0) (fun h => by rw [Bd.returns] at h; cases h) Bd.notSynchronized (fun fs hr => retOut X109 hx Bd.returns rfl (Or.inr (Or.inl ⟨rfl, rfl, _, rfl⟩)) (dE 38 rfl) hr) (by decide) (by decide) (by rw [e109]; exact ⟨rfl, N109, rfl⟩)
theorem own_f5 {s r v9 v2 : Int64} {q hi lo : Int32} (hV : own_V s r v9 v2 q hi lo) : v9 + (0 : Int64) = v9 := by
  rcases hV with (⟨rfl, rfl, rfl, rfl, rfl, rfl, rfl⟩ | ⟨rfl, rfl, rfl, rfl, rfl, rfl, rfl⟩) | (⟨rfl, rfl, rfl, rfl, rfl, rfl, rfl⟩ | ⟨rfl, rfl, rfl, rfl, rfl, rfl, rfl⟩ | ⟨rfl, rfl, rfl, rfl, rfl, rfl, rfl⟩ | ⟨rfl, rfl, rfl, rfl, rfl, rfl, rfl⟩ | ⟨rfl, rfl, rfl, rfl, rfl, rfl, rfl⟩ | ⟨rfl, rfl, rfl, rfl, rfl, rfl, rfl⟩ | ⟨rfl, rfl, rfl, rfl, rfl, rfl, rfl⟩ | ⟨rfl, rfl, rfl, rfl, rfl, rfl, rfl⟩ | ⟨rfl, rfl, rfl, rfl, rfl, rfl, rfl⟩ | ⟨rfl, rfl, rfl, rfl, rfl, rfl, rfl⟩) <;> decide
theorem own_f6 {s r v9 v2 : Int64} {q hi lo : Int32} (hV : own_V s r v9 v2 q hi lo) : ¬ lcmpW ((v9 ^^^ v9) &&& (v9 ^^^ (0 : Int64))) (0 : Int64) < 0 := by
  rcases hV with (⟨rfl, rfl, rfl, rfl, rfl, rfl, rfl⟩ | ⟨rfl, rfl, rfl, rfl, rfl, rfl, rfl⟩) | (⟨rfl, rfl, rfl, rfl, rfl, rfl, rfl⟩ | ⟨rfl, rfl, rfl, rfl, rfl, rfl, rfl⟩ | ⟨rfl, rfl, rfl, rfl, rfl, rfl, rfl⟩ | ⟨rfl, rfl, rfl, rfl, rfl, rfl, rfl⟩ | ⟨rfl, rfl, rfl, rfl, rfl, rfl, rfl⟩ | ⟨rfl, rfl, rfl, rfl, rfl, rfl, rfl⟩ | ⟨rfl, rfl, rfl, rfl, rfl, rfl, rfl⟩ | ⟨rfl, rfl, rfl, rfl, rfl, rfl, rfl⟩ | ⟨rfl, rfl, rfl, rfl, rfl, rfl, rfl⟩ | ⟨rfl, rfl, rfl, rfl, rfl, rfl, rfl⟩) <;> decide
theorem own_ef_JJ_6 (m : MethodId) (x0 : Int64) (x1 : Int64) : entryFrame m #[(.long x0), (.long x1)] 6 = mkF m 0 #[.val (.long x0), .second, .val (.long x1), .second, .unset, .unset] [] := by first | (simp [entryFrame, mkF, argsToLocals, Value.category]; done) | rfl
def Q_a2 (Z : State) (s r v9 v2 : Int64) (q hi lo : Int32) (h0 : Heap) (n0 : Nat) (v : Option Value) (h : Heap) (L : List Loc) : Prop := v = some (.long v9) ∧ Fr n0 L ∧ h = h0
theorem rm_a2 (l : Launch) (Z : State) (a0 : Array Value) (hw : own_H a0 Z) (ws : List Jvm.Cond) (s r v9 v2 : Int64) (q hi lo : Int32) (h0 : Heap) (n0 : Nat) (Z0 : n0 ≤ h0.size) (hV : own_V s r v9 v2 q hi lo) : own_MP l Mn45 jdk_17_method_132_code 6 (some .long) ws ({ frames := 0, cells := 0, slots := 0, locals := 0 } : Room) Z h0 #[(.long v9), (.long (0 : Int64))] (fun _ _ _ _ _ => True) (Q_a2 Z s r v9 v2 q hi lo h0 n0) := by
  refine own_startP (plainFor_of_name own_pn_java_math_BigDecimal) fun p e s' m below meth c s₁ Bd hx hby hml hown0 X0 e0 hh0 hZ hK Pst hPst => ?_
  have dE := own_E hby own_D16
  have hown : s'.vm.findClass "java/math/BigDecimal" = some m.cls := hown0
  have hnm := (name_of_methodNamed Bd.named Bd.method).1
  have N0 := Fr.nil n0
  rw [own_ef_JJ_6 m v9 (0 : Int64)]
  refine o_lloadN X0.here hx (dE 0 rfl) rfl ?_
  refine o_lloadN X0.here hx (dE 1 rfl) rfl ?_
  refine o_ladd X0.here hx (dE 2 rfl) rfl ?_
  rw [(own_f5 hV)]
  show own_Go p e below Pst (s₁.setTop (mkF m 3 #[.val (.long v9), .second, .val (.long (0 : Int64)), .second, .unset, .unset] [(.long v9)]))
  refine o_lstore X0.here hx (dE 3 rfl) rfl (l' := #[.val (.long v9), .second, .val (.long (0 : Int64)), .second, .val (.long v9), .second]) rfl ?_
  refine o_lload X0.here hx (dE 4 rfl) rfl ?_
  refine o_lloadN X0.here hx (dE 5 rfl) rfl ?_
  refine o_lxor X0.here hx (dE 6 rfl) rfl ?_
  refine o_lload X0.here hx (dE 7 rfl) rfl ?_
  refine o_lloadN X0.here hx (dE 8 rfl) rfl ?_
  refine o_lxor X0.here hx (dE 9 rfl) rfl ?_
  refine o_land X0.here hx (dE 10 rfl) rfl ?_
  refine o_lconst X0.here hx (dE 11 rfl) (z := (0 : Int64)) rfl ?_
  refine o_lcmp X0.here hx (dE 12 rfl) rfl ?_
  refine o_ifNo X0.here hx (dE 13 rfl) rfl ((if0 _ _).trans (flt (own_f6 hV)).1) ?_
  refine o_lload X0.here hx (dE 14 rfl) rfl ?_
  rw [hPst]
  exact own_retP X0 (v := (some (.long v9))) (Q := Q_a2 Z s r v9 v2 q hi lo h0 n0) (fun h => by rw [Bd.returns] at h; cases h) Bd.notSynchronized (fun fs hr => retOut X0 hx Bd.returns rfl (Or.inr (Or.inl ⟨rfl, rfl, _, rfl⟩)) (dE 15 rfl) hr) (by decide) (by decide) (by rw [e0]; exact ⟨rfl, N0, rfl⟩)
theorem own_pd5 : parseMethodDescriptor "(JJ)J" = some ⟨[.long, .long], some .long⟩ := by decide +kernel
theorem own_f7 {s r v9 v2 : Int64} {q hi lo : Int32} (hV : own_V s r v9 v2 q hi lo) : ¬ lcmpW v9 (-9223372036854775808 : Int64) = 0 := by
  rcases hV with (⟨rfl, rfl, rfl, rfl, rfl, rfl, rfl⟩ | ⟨rfl, rfl, rfl, rfl, rfl, rfl, rfl⟩) | (⟨rfl, rfl, rfl, rfl, rfl, rfl, rfl⟩ | ⟨rfl, rfl, rfl, rfl, rfl, rfl, rfl⟩ | ⟨rfl, rfl, rfl, rfl, rfl, rfl, rfl⟩ | ⟨rfl, rfl, rfl, rfl, rfl, rfl, rfl⟩ | ⟨rfl, rfl, rfl, rfl, rfl, rfl, rfl⟩ | ⟨rfl, rfl, rfl, rfl, rfl, rfl, rfl⟩ | ⟨rfl, rfl, rfl, rfl, rfl, rfl, rfl⟩ | ⟨rfl, rfl, rfl, rfl, rfl, rfl, rfl⟩ | ⟨rfl, rfl, rfl, rfl, rfl, rfl, rfl⟩ | ⟨rfl, rfl, rfl, rfl, rfl, rfl, rfl⟩) <;> decide
theorem own_f8 {s r v9 v2 : Int64} {q hi lo : Int32} (hV : own_V s r v9 v2 q hi lo) : ¬ lcmpW v9 0 = 0 := by
  rcases hV with (⟨rfl, rfl, rfl, rfl, rfl, rfl, rfl⟩ | ⟨rfl, rfl, rfl, rfl, rfl, rfl, rfl⟩) | (⟨rfl, rfl, rfl, rfl, rfl, rfl, rfl⟩ | ⟨rfl, rfl, rfl, rfl, rfl, rfl, rfl⟩ | ⟨rfl, rfl, rfl, rfl, rfl, rfl, rfl⟩ | ⟨rfl, rfl, rfl, rfl, rfl, rfl, rfl⟩ | ⟨rfl, rfl, rfl, rfl, rfl, rfl, rfl⟩ | ⟨rfl, rfl, rfl, rfl, rfl, rfl, rfl⟩ | ⟨rfl, rfl, rfl, rfl, rfl, rfl, rfl⟩ | ⟨rfl, rfl, rfl, rfl, rfl, rfl, rfl⟩ | ⟨rfl, rfl, rfl, rfl, rfl, rfl, rfl⟩ | ⟨rfl, rfl, rfl, rfl, rfl, rfl, rfl⟩) <;> decide
theorem own_pd6 : parseMethodDescriptor "(JI)Ljava/math/BigDecimal;" = some ⟨[.long, .int], some (.object "java/math/BigDecimal")⟩ := by decide +kernel
theorem own_ef_JJI_7 (m : MethodId) (x0 : Int64) (x1 : Int64) (x2 : Int32) : entryFrame m #[(.long x0), (.long x1), (.int x2)] 7 = mkF m 0 #[.val (.long x0), .second, .val (.long x1), .second, .val (.int x2), .unset, .unset] [] := by first | (simp [entryFrame, mkF, argsToLocals, Value.category]; done) | rfl
def Q_a3 (Z : State) (s r v9 v2 : Int64) (q hi lo : Int32) (h0 : Heap) (n0 : Nat) (v : Option Value) (h : Heap) (L : List Loc) : Prop := ∃ x : Addr, v = some (.ref x) ∧ Fr n0 L ∧ Keep h0 h [] ∧ h0.size ≤ x ∧ Exa Z h x "java/math/BigDecimal" ∧ Fld Z h x "java/math/BigDecimal" "intCompact" "J" (.long v9) ∧ Fld Z h x "java/math/BigDecimal" "scale" "I" (.int (9 : Int32)) ∧ Fld Z h x "java/math/BigDecimal" "intVal" "Ljava/math/BigInteger;" .null
theorem rm_a3 (l : Launch) (Z : State) (a0 : Array Value) (hw : own_H a0 Z) (ws : List Jvm.Cond) (s r v9 v2 : Int64) (q hi lo : Int32) (h0 : Heap) (n0 : Nat) (Z0 : n0 ≤ h0.size) (hV : own_V s r v9 v2 q hi lo) : own_MP l Mn46 jdk_17_method_133_code 7 (some (.object "java/math/BigDecimal")) ws ({ frames := 4, cells := 1, slots := 5, locals := 56 } : Room) Z h0 #[(.long v9), (.long (0 : Int64)), (.int (9 : Int32))] (fun _ _ _ _ _ => True) (Q_a3 Z s r v9 v2 q hi lo h0 n0) := by
  refine own_startP (plainFor_of_name own_pn_java_math_BigDecimal) fun p e s' m below meth c s₁ Bd hx hby hml hown0 X0 e0 hh0 hZ hK Pst hPst => ?_
  have dE := own_E hby own_D15
  have hown : s'.vm.findClass "java/math/BigDecimal" = some m.cls := hown0
  have hnm := (name_of_methodNamed Bd.named Bd.method).1
  have N0 := Fr.nil n0
  rw [own_ef_JJI_7 m v9 (0 : Int64) (9 : Int32)]
  refine o_lloadN X0.here hx (dE 0 rfl) rfl ?_
  refine o_lloadN X0.here hx (dE 1 rfl) rfl ?_
  refine own_cF X0 (Jvm.LawKit.callS X0 hx (y := Mn45) hown (mvT hZ (g_ hw 79 rfl)) (mvT hZ (g_ hw 80 rfl)) (mvT hZ (g_ hw 45 rfl)) (mvT hZ (g_ hw 81 rfl)) (by decide) (backOf (W := 0) (rm_a2 l Z a0 hw [] s r v9 v2 q hi lo h0 n0 Z0 hV) hZ (g_ hw 81 rfl) (g_ hw 45 rfl) (by decide) (by decide)) (g := (mkF m 2 #[.val (.long v9), .second, .val (.long (0 : Int64)), .second, .val (.int (9 : Int32)), .unset, .unset] [(.long (0 : Int64)), (.long v9)])) rfl (by rw [hml]; rfl) (argsL := [(.long v9), (.long (0 : Int64))]) (rest := []) (lenOf own_pd5 rfl) rfl (by show 2 * 0 + _ ≤ _; exact Nat.le_of_eq rfl) (dE 2 rfl) (fun _ _ => ⟨rfl, e0, (by decide : 0 + 0 ≤ _), (by decide : 0 + 0 ≤ _)⟩)) fun v101 T101 L101 X101 hQ101 => ?_
  obtain ⟨rfl, Nq101, e101⟩ := hQ101
  have N101 := Fr.app N0 Nq101
  show own_Go p e below Pst (T101.setTop (mkF m 5 #[.val (.long v9), .second, .val (.long (0 : Int64)), .second, .val (.int (9 : Int32)), .unset, .unset] [(.long v9)]))
  refine o_lstore X101.here hx (dE 3 rfl) rfl (l' := #[.val (.long v9), .second, .val (.long (0 : Int64)), .second, .val (.int (9 : Int32)), .val (.long v9), .second]) rfl ?_
  refine o_lload X101.here hx (dE 4 rfl) rfl ?_
  refine own_Go.of (S' := T101.setTop (mkF m 12 #[.val (.long v9), .second, .val (.long (0 : Int64)), .second, .val (.int (9 : Int32)), .val (.long v9), .second] [(.long (-9223372036854775808 : Int64)), (.long v9)])) (fun tgt kst => X101.ldc2Long hx hown (mvT hZ (g_ hw 62 rfl)) (g := (mkF m 9 #[.val (.long v9), .second, .val (.long (0 : Int64)), .second, .val (.int (9 : Int32)), .val (.long v9), .second] [(.long v9)])) rfl (dE 5 rfl) _ kst) ?_
  refine o_lcmp X101.here hx (dE 6 rfl) rfl ?_
  refine o_ifNo X101.here hx (dE 7 rfl) rfl ((if0 _ _).trans (feq (own_f7 hV)).1) ?_
  refine o_lload X101.here hx (dE 8 rfl) rfl ?_
  refine o_iload X101.here hx (dE 9 rfl) rfl ?_
  refine own_cF X101 (Jvm.LawKit.callS X101 hx (y := Mn17) hown (mvT hZ (g_ hw 82 rfl)) (mvT hZ (g_ hw 49 rfl)) (mvT hZ (g_ hw 45 rfl)) (mvT hZ (g_ hw 50 rfl)) (by decide) (backOf (W := 0) (rm_vji l Z a0 hw [] v9 h0 n0 Z0 (own_f8 hV) (own_f7 hV)) hZ (g_ hw 50 rfl) (g_ hw 45 rfl) (by decide) (by decide)) (g := (mkF m 20 #[.val (.long v9), .second, .val (.long (0 : Int64)), .second, .val (.int (9 : Int32)), .val (.long v9), .second] [(.int (9 : Int32)), (.long v9)])) rfl (by rw [hml]; rfl) (argsL := [(.long v9), (.int (9 : Int32))]) (rest := []) (lenOf own_pd6 rfl) rfl (by show 2 * 0 + _ ≤ _; exact Nat.le_of_eq rfl) (dE 10 rfl) (fun _ _ => ⟨rfl, e101, (by decide : 0 + 1 ≤ _), (by decide : 0 + 5 ≤ _)⟩)) fun v102 T102 L102 X102 hQ102 => ?_
  obtain ⟨x102, rfl, Nq102, K102, sx102, A102, C102, S102, V102⟩ := hQ102
  have N102 := Fr.app N101 Nq102
  have gn_x102 : n0 ≤ x102 := Nat.le_trans Z0 sx102
  have sz_x102 : h0.size ≤ x102 := Nat.le_trans (Keep.refl h0 []).1 sx102
  show own_Go p e below Pst (T102.setTop (mkF m 23 #[.val (.long v9), .second, .val (.long (0 : Int64)), .second, .val (.int (9 : Int32)), .val (.long v9), .second] [(.ref x102)]))
  have c103 := (Keep.trans (Keep.refl h0 []) K102 all0)
  rw [hPst]
  exact own_retP X102 (v := (some (.ref x102))) (Q := Q_a3 Z s r v9 v2 q hi lo h0 n0) (fun h => by rw [Bd.returns] at h; cases h) Bd.notSynchronized (fun fs hr => retOut X102 hx Bd.returns rfl (Or.inr (Or.inr (Or.inr (Or.inr ⟨rfl, rfl, rfl⟩)))) (dE 11 rfl) hr) (by decide) (by decide) ⟨_, rfl, N102, c103, sz_x102, A102, C102, S102, V102⟩
theorem own_pd7 : parseMethodDescriptor "(JI)J" = some ⟨[.long, .int], some .long⟩ := by decide +kernel
theorem own_pd8 : parseMethodDescriptor "(JJI)Ljava/math/BigDecimal;" = some ⟨[.long, .long, .int], some (.object "java/math/BigDecimal")⟩ := by decide +kernel
theorem own_ef_JIJI_12 (m : MethodId) (x0 : Int64) (x1 : Int32) (x2 : Int64) (x3 : Int32) : entryFrame m #[(.long x0), (.int x1), (.long x2), (.int x3)] 12 = mkF m 0 #[.val (.long x0), .second, .val (.int x1), .val (.long x2), .second, .val (.int x3), .unset, .unset, .unset, .unset, .unset, .unset] [] := by first | (simp [entryFrame, mkF, argsToLocals, Value.category]; done) | rfl
def Q_a4 (Z : State) (s r v9 v2 : Int64) (q hi lo : Int32) (o : Nat → Addr) (kc : Nat → ClassId) (h0 : Heap) (n0 : Nat) (v : Option Value) (h : Heap) (L : List Loc) : Prop := ∃ x : Addr, v = some (.ref x) ∧ Fr n0 L ∧ Keep h0 h [] ∧ h0.size ≤ x ∧ Exa Z h x "java/math/BigDecimal" ∧ Fld Z h x "java/math/BigDecimal" "intCompact" "J" (.long v9) ∧ Fld Z h x "java/math/BigDecimal" "scale" "I" (.int (9 : Int32)) ∧ Fld Z h x "java/math/BigDecimal" "intVal" "Ljava/math/BigInteger;" .null
theorem rm_a4 (l : Launch) (Z : State) (a0 : Array Value) (hw : own_H a0 Z) (ws : List Jvm.Cond) (s r v9 v2 : Int64) (q hi lo : Int32) (o : Nat → Addr) (kc : Nat → ClassId) (h0 : Heap) (n0 : Nat) (Z0 : n0 ≤ h0.size) (O : Old Z n0 h0) (G : own_G Z o kc) (hV : own_V s r v9 v2 q hi lo) : own_MP l Mn47 jdk_17_method_134_code 12 (some (.object "java/math/BigDecimal")) ws ({ frames := 5, cells := 1, slots := 5, locals := 74 } : Room) Z h0 #[(.long s), (.int (0 : Int32)), (.long (0 : Int64)), (.int (9 : Int32))] (fun _ _ _ _ _ => True) (Q_a4 Z s r v9 v2 q hi lo o kc h0 n0) := by
  refine own_startP (plainFor_of_name own_pn_java_math_BigDecimal) fun p e s' m below meth c s₁ Bd hx hby hml hown0 X0 e0 hh0 hZ hK Pst hPst => ?_
  have dE := own_E hby own_D12
  have hown : s'.vm.findClass "java/math/BigDecimal" = some m.cls := hown0
  have hnm := (name_of_methodNamed Bd.named Bd.method).1
  have N0 := Fr.nil n0
  rw [own_ef_JIJI_12 m s (0 : Int32) (0 : Int64) (9 : Int32)]
  refine o_iloadN X0.here hx (dE 0 rfl) rfl ?_
  refine o_i2l X0.here hx (dE 1 rfl) rfl ?_
  refine o_iload X0.here hx (dE 2 rfl) rfl ?_
  refine o_i2l X0.here hx (dE 3 rfl) rfl ?_
  refine o_lsub X0.here hx (dE 4 rfl) rfl ?_
  refine o_lstore X0.here hx (dE 5 rfl) rfl (l' := #[.val (.long s), .second, .val (.int (0 : Int32)), .val (.long (0 : Int64)), .second, .val (.int (9 : Int32)), .val (.long (((0 : Int32).toInt64) - ((9 : Int32).toInt64))), .second, .unset, .unset, .unset, .unset]) rfl ?_
  refine o_lload X0.here hx (dE 6 rfl) rfl ?_
  refine o_lconst X0.here hx (dE 7 rfl) (z := (0 : Int64)) rfl ?_
  refine o_lcmp X0.here hx (dE 8 rfl) rfl ?_
  refine o_ifYes X0.here hx (pc0 := 12) (pc' := 22) rfl (dE 9 rfl) rfl ((if0 _ _).trans (feq (by decide)).2) (by decide) (by decide) ?_
  refine o_lload X0.here hx (dE 10 rfl) rfl ?_
  refine o_lconst X0.here hx (dE 11 rfl) (z := (0 : Int64)) rfl ?_
  refine o_lcmp X0.here hx (dE 12 rfl) rfl ?_
  refine o_ifNo X0.here hx (dE 13 rfl) rfl ((if0 _ _).trans (tlt (by decide)).2.1) ?_
  refine o_lloadN X0.here hx (dE 14 rfl) rfl ?_
  refine o_lload X0.here hx (dE 15 rfl) rfl ?_
  refine o_lneg X0.here hx (dE 16 rfl) rfl ?_
  rw [show (-(((0 : Int32).toInt64) - ((9 : Int32).toInt64))) = (9 : Int64) from by decide]
  show own_Go p e below Pst (s₁.setTop (mkF m 33 #[.val (.long s), .second, .val (.int (0 : Int32)), .val (.long (0 : Int64)), .second, .val (.int (9 : Int32)), .val (.long (((0 : Int32).toInt64) - ((9 : Int32).toInt64))), .second, .unset, .unset, .unset, .unset] [(.long (9 : Int64)), (.long s)]))
  refine own_cF X0 (Jvm.LawKit.callS X0 hx (y := Mn42) hown (mvT hZ (g_ hw 68 rfl)) (mvT hZ (g_ hw 69 rfl)) (mvT hZ (g_ hw 45 rfl)) (mvT hZ (g_ hw 70 rfl)) (by decide) (backOf (W := 0) (rm_cs2 l Z a0 hw [] s h0 n0 Z0 ) hZ (g_ hw 70 rfl) (g_ hw 45 rfl) (by decide) (by decide)) (g := (mkF m 33 #[.val (.long s), .second, .val (.int (0 : Int32)), .val (.long (0 : Int64)), .second, .val (.int (9 : Int32)), .val (.long (((0 : Int32).toInt64) - ((9 : Int32).toInt64))), .second, .unset, .unset, .unset, .unset] [(.long (9 : Int64)), (.long s)])) rfl (by rw [hml]; rfl) (argsL := [(.long s), (.long (9 : Int64))]) (rest := []) (lenOf own_pd0 rfl) rfl (by show 2 * 0 + _ ≤ _; exact Nat.le_of_eq rfl) (dE 17 rfl) (fun _ _ => ⟨rfl, e0, (by decide : 0 + 0 ≤ _), (by decide : 0 + 0 ≤ _)⟩)) fun v101 T101 L101 X101 hQ101 => ?_
  obtain ⟨rfl, Nq101, e101⟩ := hQ101
  have N101 := Fr.app N0 Nq101
  show own_Go p e below Pst (T101.setTop (mkF m 36 #[.val (.long s), .second, .val (.int (0 : Int32)), .val (.long (0 : Int64)), .second, .val (.int (9 : Int32)), .val (.long (((0 : Int32).toInt64) - ((9 : Int32).toInt64))), .second, .unset, .unset, .unset, .unset] [(.int (9 : Int32))]))
  refine o_istore X101.here hx (dE 18 rfl) rfl (l' := #[.val (.long s), .second, .val (.int (0 : Int32)), .val (.long (0 : Int64)), .second, .val (.int (9 : Int32)), .val (.long (((0 : Int32).toInt64) - ((9 : Int32).toInt64))), .second, .val (.int (9 : Int32)), .unset, .unset, .unset]) rfl ?_
  refine o_lloadN X101.here hx (dE 19 rfl) rfl ?_
  refine o_iload X101.here hx (dE 20 rfl) rfl ?_
  refine own_cF X101 (Jvm.LawKit.callS X101 hx (y := Mn44) hown (mvT hZ (g_ hw 71 rfl)) (mvT hZ (g_ hw 72 rfl)) (mvT hZ (g_ hw 45 rfl)) (mvT hZ (g_ hw 73 rfl)) (by decide) (backOf (W := 0) (rm_lmp l Z a0 hw [] s r v9 v2 q hi lo o kc h0 n0 Z0 O G hV) hZ (g_ hw 73 rfl) (g_ hw 45 rfl) (by decide) (by decide)) (g := (mkF m 41 #[.val (.long s), .second, .val (.int (0 : Int32)), .val (.long (0 : Int64)), .second, .val (.int (9 : Int32)), .val (.long (((0 : Int32).toInt64) - ((9 : Int32).toInt64))), .second, .val (.int (9 : Int32)), .unset, .unset, .unset] [(.int (9 : Int32)), (.long s)])) rfl (by rw [hml]; rfl) (argsL := [(.long s), (.int (9 : Int32))]) (rest := []) (lenOf own_pd7 rfl) rfl (by show 2 * 0 + _ ≤ _; exact Nat.le_of_eq rfl) (dE 21 rfl) (fun _ _ => ⟨rfl, e101, (by decide : 0 + 0 ≤ _), (by decide : 0 + 0 ≤ _)⟩)) fun v102 T102 L102 X102 hQ102 => ?_
  obtain ⟨rfl, Nq102, e102⟩ := hQ102
  have N102 := Fr.app N101 Nq102
  show own_Go p e below Pst (T102.setTop (mkF m 44 #[.val (.long s), .second, .val (.int (0 : Int32)), .val (.long (0 : Int64)), .second, .val (.int (9 : Int32)), .val (.long (((0 : Int32).toInt64) - ((9 : Int32).toInt64))), .second, .val (.int (9 : Int32)), .unset, .unset, .unset] [(.long v9)]))
  refine o_lstore X102.here hx (dE 22 rfl) rfl (l' := #[.val (.long s), .second, .val (.int (0 : Int32)), .val (.long (0 : Int64)), .second, .val (.int (9 : Int32)), .val (.long (((0 : Int32).toInt64) - ((9 : Int32).toInt64))), .second, .val (.int (9 : Int32)), .val (.long v9), .second, .unset]) rfl ?_
  refine o_lload X102.here hx (dE 23 rfl) rfl ?_
  refine own_Go.of (S' := T102.setTop (mkF m 51 #[.val (.long s), .second, .val (.int (0 : Int32)), .val (.long (0 : Int64)), .second, .val (.int (9 : Int32)), .val (.long (((0 : Int32).toInt64) - ((9 : Int32).toInt64))), .second, .val (.int (9 : Int32)), .val (.long v9), .second, .unset] [(.long (-9223372036854775808 : Int64)), (.long v9)])) (fun tgt kst => X102.ldc2Long hx hown (mvT hZ (g_ hw 62 rfl)) (g := (mkF m 48 #[.val (.long s), .second, .val (.int (0 : Int32)), .val (.long (0 : Int64)), .second, .val (.int (9 : Int32)), .val (.long (((0 : Int32).toInt64) - ((9 : Int32).toInt64))), .second, .val (.int (9 : Int32)), .val (.long v9), .second, .unset] [(.long v9)])) rfl (dE 24 rfl) _ kst) ?_
  refine o_lcmp X102.here hx (dE 25 rfl) rfl ?_
  refine o_ifNo X102.here hx (dE 26 rfl) rfl ((if0 _ _).trans (feq (own_f7 hV)).1) ?_
  refine o_lload X102.here hx (dE 27 rfl) rfl ?_
  refine o_lloadN X102.here hx (dE 28 rfl) rfl ?_
  refine o_iload X102.here hx (dE 29 rfl) rfl ?_
  refine own_cF X102 (Jvm.LawKit.callS X102 hx (y := Mn46) hown (mvT hZ (g_ hw 76 rfl)) (mvT hZ (g_ hw 77 rfl)) (mvT hZ (g_ hw 45 rfl)) (mvT hZ (g_ hw 78 rfl)) (by decide) (backOf (W := 0) (rm_a3 l Z a0 hw [] s r v9 v2 q hi lo h0 n0 Z0 hV) hZ (g_ hw 78 rfl) (g_ hw 45 rfl) (by decide) (by decide)) (g := (mkF m 60 #[.val (.long s), .second, .val (.int (0 : Int32)), .val (.long (0 : Int64)), .second, .val (.int (9 : Int32)), .val (.long (((0 : Int32).toInt64) - ((9 : Int32).toInt64))), .second, .val (.int (9 : Int32)), .val (.long v9), .second, .unset] [(.int (9 : Int32)), (.long (0 : Int64)), (.long v9)])) rfl (by rw [hml]; rfl) (argsL := [(.long v9), (.long (0 : Int64)), (.int (9 : Int32))]) (rest := []) (lenOf own_pd8 rfl) rfl (by show 2 * 0 + _ ≤ _; exact Nat.le_of_eq rfl) (dE 30 rfl) (fun _ _ => ⟨rfl, e102, (by decide : 0 + 1 ≤ _), (by decide : 0 + 5 ≤ _)⟩)) fun v103 T103 L103 X103 hQ103 => ?_
  obtain ⟨x103, rfl, Nq103, K103, sx103, A103, C103, S103, V103⟩ := hQ103
  have N103 := Fr.app N102 Nq103
  have gn_x103 : n0 ≤ x103 := Nat.le_trans Z0 sx103
  have sz_x103 : h0.size ≤ x103 := Nat.le_trans (Keep.refl h0 []).1 sx103
  show own_Go p e below Pst (T103.setTop (mkF m 63 #[.val (.long s), .second, .val (.int (0 : Int32)), .val (.long (0 : Int64)), .second, .val (.int (9 : Int32)), .val (.long (((0 : Int32).toInt64) - ((9 : Int32).toInt64))), .second, .val (.int (9 : Int32)), .val (.long v9), .second, .unset] [(.ref x103)]))
  have c104 := (Keep.trans (Keep.refl h0 []) K103 all0)
  rw [hPst]
  exact own_retP X103 (v := (some (.ref x103))) (Q := Q_a4 Z s r v9 v2 q hi lo o kc h0 n0) (fun h => by rw [Bd.returns] at h; cases h) Bd.notSynchronized (fun fs hr => retOut X103 hx Bd.returns rfl (Or.inr (Or.inr (Or.inr (Or.inr ⟨rfl, rfl, rfl⟩)))) (dE 31 rfl) hr) (by decide) (by decide) ⟨_, rfl, N103, c104, sz_x103, A103, C103, S103, V103⟩
theorem own_f9 {s r v9 v2 : Int64} {q hi lo : Int32} (hV : own_V s r v9 v2 q hi lo) : ¬ lcmpW s (-9223372036854775808 : Int64) = 0 := by
  rcases hV with (⟨rfl, rfl, rfl, rfl, rfl, rfl, rfl⟩ | ⟨rfl, rfl, rfl, rfl, rfl, rfl, rfl⟩) | (⟨rfl, rfl, rfl, rfl, rfl, rfl, rfl⟩ | ⟨rfl, rfl, rfl, rfl, rfl, rfl, rfl⟩ | ⟨rfl, rfl, rfl, rfl, rfl, rfl, rfl⟩ | ⟨rfl, rfl, rfl, rfl, rfl, rfl, rfl⟩ | ⟨rfl, rfl, rfl, rfl, rfl, rfl, rfl⟩ | ⟨rfl, rfl, rfl, rfl, rfl, rfl, rfl⟩ | ⟨rfl, rfl, rfl, rfl, rfl, rfl, rfl⟩ | ⟨rfl, rfl, rfl, rfl, rfl, rfl, rfl⟩ | ⟨rfl, rfl, rfl, rfl, rfl, rfl, rfl⟩ | ⟨rfl, rfl, rfl, rfl, rfl, rfl, rfl⟩) <;> decide
theorem own_pd9 : parseMethodDescriptor "(JIJI)Ljava/math/BigDecimal;" = some ⟨[.long, .int, .long, .int], some (.object "java/math/BigDecimal")⟩ := by decide +kernel
theorem own_ef_RR_2 (m : MethodId) (x0 : Addr) (x1 : Addr) : entryFrame m #[(.ref x0), (.ref x1)] 2 = mkF m 0 #[.val (.ref x0), .val (.ref x1)] [] := by first | (simp [entryFrame, mkF, argsToLocals, Value.category]; done) | rfl
def Q_ab (Z : State) (s r v9 v2 : Int64) (q hi lo : Int32) (o : Nat → Addr) (kc : Nat → ClassId) (a1 a2 : Addr) (h0 : Heap) (n0 : Nat) (v : Option Value) (h : Heap) (L : List Loc) : Prop := ∃ x : Addr, v = some (.ref x) ∧ Fr n0 L ∧ Keep h0 h [] ∧ h0.size ≤ x ∧ Exa Z h x "java/math/BigDecimal" ∧ Fld Z h x "java/math/BigDecimal" "intCompact" "J" (.long v9) ∧ Fld Z h x "java/math/BigDecimal" "scale" "I" (.int (9 : Int32)) ∧ Fld Z h x "java/math/BigDecimal" "intVal" "Ljava/math/BigInteger;" .null
theorem rm_ab (l : Launch) (Z : State) (a0 : Array Value) (hw : own_H a0 Z) (ws : List Jvm.Cond) (s r v9 v2 : Int64) (q hi lo : Int32) (o : Nat → Addr) (kc : Nat → ClassId) (a1 a2 : Addr) (h0 : Heap) (n0 : Nat) (Z0 : n0 ≤ h0.size) (O : Old Z n0 h0) (G : own_G Z o kc) (hV : own_V s r v9 v2 q hi lo) (Ea1 : Exa Z h0 a1 "java/math/BigDecimal") (Ca1 : Fld Z h0 a1 "java/math/BigDecimal" "intCompact" "J" (.long s)) (Sa1 : Fld Z h0 a1 "java/math/BigDecimal" "scale" "I" (.int (0 : Int32))) (Ea2 : Exa Z h0 a2 "java/math/BigDecimal") (Ca2 : Fld Z h0 a2 "java/math/BigDecimal" "intCompact" "J" (.long (0 : Int64))) (Sa2 : Fld Z h0 a2 "java/math/BigDecimal" "scale" "I" (.int (9 : Int32))) : own_MP l Mn36 jdk_17_method_26_code 2 (some (.object "java/math/BigDecimal")) ws ({ frames := 6, cells := 1, slots := 5, locals := 97 } : Room) Z h0 #[(.ref a1), (.ref a2)] (fun _ _ _ _ _ => True) (Q_ab Z s r v9 v2 q hi lo o kc a1 a2 h0 n0) := by
  refine own_startP (plainFor_of_name own_pn_java_math_BigDecimal) fun p e s' m below meth c s₁ Bd hx hby hml hown0 X0 e0 hh0 hZ hK Pst hPst => ?_
  have dE := own_E hby own_D11
  have hown : s'.vm.findClass "java/math/BigDecimal" = some m.cls := hown0
  have hnm := (name_of_methodNamed Bd.named Bd.method).1
  have N0 := Fr.nil n0
  rw [own_ef_RR_2 m a1 a2]
  refine o_aloadN X0.here hx (dE 0 rfl) rfl rfl ?_
  refine p_getF X0 hx hZ hown (host := "") (Or.inl (g_ hw 60 rfl)) Via.refl e0 Ca1 rfl (dE 1 rfl) fun T101 X101 e101 => ?_
  refine own_Go.of (S' := T101.setTop (mkF m 7 #[.val (.ref a1), .val (.ref a2)] [(.long (-9223372036854775808 : Int64)), (.long s)])) (fun tgt kst => X101.ldc2Long hx hown (mvT hZ (g_ hw 62 rfl)) (g := (mkF m 4 #[.val (.ref a1), .val (.ref a2)] [(.long s)])) rfl (dE 2 rfl) _ kst) ?_
  refine o_lcmp X101.here hx (dE 3 rfl) rfl ?_
  refine o_ifNo X101.here hx (dE 4 rfl) rfl ((if0 _ _).trans (feq (own_f9 hV)).1) ?_
  refine o_aloadN X101.here hx (dE 5 rfl) rfl rfl ?_
  refine p_getF X101 hx hZ hown (host := "") (Or.inl (g_ hw 60 rfl)) Via.refl e101 Ca2 rfl (dE 6 rfl) fun T102 X102 e102 => ?_
  refine own_Go.of (S' := T102.setTop (mkF m 18 #[.val (.ref a1), .val (.ref a2)] [(.long (-9223372036854775808 : Int64)), (.long (0 : Int64))])) (fun tgt kst => X102.ldc2Long hx hown (mvT hZ (g_ hw 62 rfl)) (g := (mkF m 15 #[.val (.ref a1), .val (.ref a2)] [(.long (0 : Int64))])) rfl (dE 7 rfl) _ kst) ?_
  refine o_lcmp X102.here hx (dE 8 rfl) rfl ?_
  refine o_ifNo X102.here hx (dE 9 rfl) rfl ((if0 _ _).trans (feq (by decide)).1) ?_
  refine o_aloadN X102.here hx (dE 10 rfl) rfl rfl ?_
  refine p_getF X102 hx hZ hown (host := "") (Or.inl (g_ hw 60 rfl)) Via.refl e102 Ca1 rfl (dE 11 rfl) fun T103 X103 e103 => ?_
  refine o_aloadN X103.here hx (dE 12 rfl) rfl rfl ?_
  refine p_getF X103 hx hZ hown (host := "") (Or.inl (g_ hw 63 rfl)) Via.refl e103 Sa1 rfl (dE 13 rfl) fun T104 X104 e104 => ?_
  refine o_aloadN X104.here hx (dE 14 rfl) rfl rfl ?_
  refine p_getF X104 hx hZ hown (host := "") (Or.inl (g_ hw 60 rfl)) Via.refl e104 Ca2 rfl (dE 15 rfl) fun T105 X105 e105 => ?_
  refine o_aloadN X105.here hx (dE 16 rfl) rfl rfl ?_
  refine p_getF X105 hx hZ hown (host := "") (Or.inl (g_ hw 63 rfl)) Via.refl e105 Sa2 rfl (dE 17 rfl) fun T106 X106 e106 => ?_
  refine own_cF X106 (Jvm.LawKit.callS X106 hx (y := Mn47) hown (mvT hZ (g_ hw 65 rfl)) (mvT hZ (g_ hw 66 rfl)) (mvT hZ (g_ hw 45 rfl)) (mvT hZ (g_ hw 67 rfl)) (by decide) (backOf (W := 0) (rm_a4 l Z a0 hw [] s r v9 v2 q hi lo o kc h0 n0 Z0 O G hV) hZ (g_ hw 67 rfl) (g_ hw 45 rfl) (by decide) (by decide)) (g := (mkF m 38 #[.val (.ref a1), .val (.ref a2)] [(.int (9 : Int32)), (.long (0 : Int64)), (.int (0 : Int32)), (.long s)])) rfl (by rw [hml]; rfl) (argsL := [(.long s), (.int (0 : Int32)), (.long (0 : Int64)), (.int (9 : Int32))]) (rest := []) (lenOf own_pd9 rfl) rfl (by show 2 * 0 + _ ≤ _; exact Nat.le_of_eq rfl) (dE 18 rfl) (fun _ _ => ⟨rfl, e106, (by decide : 0 + 1 ≤ _), (by decide : 0 + 5 ≤ _)⟩)) fun v107 T107 L107 X107 hQ107 => ?_
  obtain ⟨x107, rfl, Nq107, K107, sx107, A107, C107, S107, V107⟩ := hQ107
  have N107 := Fr.app N0 Nq107
  have gn_x107 : n0 ≤ x107 := Nat.le_trans Z0 sx107
  have sz_x107 : h0.size ≤ x107 := Nat.le_trans (Keep.refl h0 []).1 sx107
  show own_Go p e below Pst (T107.setTop (mkF m 41 #[.val (.ref a1), .val (.ref a2)] [(.ref x107)]))
  have c108 := (Keep.trans (Keep.refl h0 []) K107 all0)
  rw [hPst]
  exact own_retP X107 (v := (some (.ref x107))) (Q := Q_ab Z s r v9 v2 q hi lo o kc a1 a2 h0 n0) (fun h => by rw [Bd.returns] at h; cases h) Bd.notSynchronized (fun fs hr => retOut X107 hx Bd.returns rfl (Or.inr (Or.inr (Or.inr (Or.inr ⟨rfl, rfl, rfl⟩)))) (dE 19 rfl) hr) (by decide) (by decide) ⟨_, rfl, N107, c108, sz_x107, A107, C107, S107, V107⟩
theorem own_pd10 : parseMethodDescriptor "(J)Ljava/math/BigDecimal;" = some ⟨[.long], some (.object "java/math/BigDecimal")⟩ := by decide +kernel
theorem own_pd11 : parseMethodDescriptor "(Ljava/math/BigDecimal;)Ljava/math/BigDecimal;" = some ⟨[(.object "java/math/BigDecimal")], some (.object "java/math/BigDecimal")⟩ := by decide +kernel
def Q_tbs (Z : State) (s r v9 v2 : Int64) (q hi lo : Int32) (o : Nat → Addr) (kc : Nat → ClassId) (a1 : Addr) (h0 : Heap) (n0 : Nat) (v : Option Value) (h : Heap) (L : List Loc) : Prop := ∃ x : Addr, v = some (.ref x) ∧ Fr n0 L ∧ Keep h0 h [] ∧ h0.size ≤ x ∧ Exa Z h x "java/math/BigDecimal" ∧ Fld Z h x "java/math/BigDecimal" "intCompact" "J" (.long v9) ∧ Fld Z h x "java/math/BigDecimal" "scale" "I" (.int (9 : Int32)) ∧ Fld Z h x "java/math/BigDecimal" "intVal" "Ljava/math/BigInteger;" .null
theorem rm_tbs (l : Launch) (Z : State) (a0 : Array Value) (hw : own_H a0 Z) (ws : List Jvm.Cond) (s r v9 v2 : Int64) (q hi lo : Int32) (o : Nat → Addr) (kc : Nat → ClassId) (a1 : Addr) (h0 : Heap) (n0 : Nat) (Z0 : n0 ≤ h0.size) (O : Old Z n0 h0) (G : own_G Z o kc) (hV : own_V s r v9 v2 q hi lo) (ED : Exa Z h0 a1 "java/time/Duration") (D1 : Fld Z h0 a1 "java/time/Duration" "seconds" "J" (.long s)) (D2 : Fld Z h0 a1 "java/time/Duration" "nanos" "I" (.int (0 : Int32))) : own_MP l Mn37 jdk_2316_method_47_code 1 (some (.object "java/math/BigDecimal")) ws ({ frames := 7, cells := 2, slots := 10, locals := 110 } : Room) Z h0 #[(.ref a1)] (fun _ _ _ _ _ => True) (Q_tbs Z s r v9 v2 q hi lo o kc a1 h0 n0) := by
  refine own_startP (plainFor_of_name own_pn_java_time_Duration) fun p e s' m below meth c s₁ Bd hx hby hml hown0 X0 e0 hh0 hZ hK Pst hPst => ?_
  have dE := own_E hby own_D7
  have hown : s'.vm.findClass "java/time/Duration" = some m.cls := hown0
  have hnm := (name_of_methodNamed Bd.named Bd.method).1
  have N0 := Fr.nil n0
  rw [own_ef_R_1 m a1]
  refine o_aloadN X0.here hx (dE 0 rfl) rfl rfl ?_
  refine p_getF X0 hx hZ hown (host := "") (Or.inl (g_ hw 14 rfl)) Via.refl e0 D1 rfl (dE 1 rfl) fun T101 X101 e101 => ?_
  refine own_cF X101 (Jvm.LawKit.callS X101 hx (y := Mn35) hown (mvT hZ (g_ hw 43 rfl)) (mvT hZ (g_ hw 44 rfl)) (mvT hZ (g_ hw 45 rfl)) (mvT hZ (g_ hw 46 rfl)) (by decide) (backOf (W := 0) (rm_vo l Z a0 hw [] s o kc h0 n0 Z0 O G (own_sm hV)) hZ (g_ hw 46 rfl) (g_ hw 45 rfl) (by decide) (by decide)) (g := (mkF m 4 #[.val (.ref a1)] [(.long s)])) rfl (by rw [hml]; rfl) (argsL := [(.long s)]) (rest := []) (lenOf own_pd10 rfl) rfl (by show 2 * 0 + _ ≤ _; exact Nat.le_of_eq rfl) (dE 2 rfl) (fun _ _ => ⟨rfl, e101, (by decide : 0 + 1 ≤ _), (by decide : 0 + 5 ≤ _)⟩)) fun v102 T102 L102 X102 hQ102 => ?_
  obtain ⟨x102, rfl, Nq102, K102, A102, C102, S102⟩ := hQ102
  have N102 := Fr.app N0 Nq102
  show own_Go p e below Pst (T102.setTop (mkF m 7 #[.val (.ref a1)] [(.ref x102)]))
  refine o_aloadN X102.here hx (dE 3 rfl) rfl rfl ?_
  have c103 := (D2.keep K102 nin0)
  refine p_getF X102 hx hZ hown (host := "") (Or.inl (g_ hw 30 rfl)) Via.refl rfl c103 rfl (dE 4 rfl) fun T104 X104 e104 => ?_
  refine o_i2l X104.here hx (dE 5 rfl) rfl ?_
  rw [show ((0 : Int32).toInt64) = (0 : Int64) from by decide]
  show own_Go p e below Pst (T104.setTop (mkF m 12 #[.val (.ref a1)] [(.long (0 : Int64)), (.ref x102)]))
  refine o_bipush X104.here hx (dE 6 rfl) (z := (9 : Int32)) rfl ?_
  have c105 := (O.keep K102 all0)
  have c107 := (Nat.le_trans Z0 K102.1)
  refine own_cF X104 (Jvm.LawKit.callS X104 hx (y := Mn17) hown (mvT hZ (g_ hw 48 rfl)) (mvT hZ (g_ hw 49 rfl)) (mvT hZ (g_ hw 45 rfl)) (mvT hZ (g_ hw 50 rfl)) (by decide) (backOf (W := 1) (rm_vji0 l Z a0 hw [] o kc T102.heap n0 c107 c105 G) hZ (g_ hw 50 rfl) (g_ hw 45 rfl) (by decide) (by decide)) (g := (mkF m 14 #[.val (.ref a1)] [(.int (9 : Int32)), (.long (0 : Int64)), (.ref x102)])) rfl (by rw [hml]; rfl) (argsL := [(.long (0 : Int64)), (.int (9 : Int32))]) (rest := [(.ref x102)]) (lenOf own_pd6 rfl) rfl (by show 2 * 0 + _ ≤ _; exact Nat.le_of_eq rfl) (dE 7 rfl) (fun _ _ => ⟨rfl, e104, (by decide : 1 + 0 ≤ _), (by decide : 5 + 0 ≤ _)⟩)) fun v106 T106 L106 X106 hQ106 => ?_
  obtain ⟨rfl, Nq106, e106⟩ := hQ106
  have N106 := Fr.app N102 Nq106
  show own_Go p e below Pst (T106.setTop (mkF m 17 #[.val (.ref a1)] [(.ref (o 49)), (.ref x102)]))
  have c108 := (G.2.2.2.2.2.2.2.2.2.2.2.2.2.2.2.2.2.2.2.2.2.2.2.2.2.2.2.2.2.2.1).ext c105.2
  have c109 := (G.2.2.2.2.2.2.2.2.2.2.2.2.2.2.2.2.2.2.2.2.2.2.2.2.2.2.2.2.2.2.2.1).ext c105.2
  have c110 := (G.2.2.2.2.2.2.2.2.2.2.2.2.2.2.2.2.2.2.2.2.2.2.2.2.2.2.2.2.2.2.2.2).ext c105.2
  obtain ⟨cq111, kq111, q111a, q111b, q111c⟩ := isOf hZ e106 A102
  refine own_cP X106 (X106.virtualBack hx (y := Mn36) (z := Mn36) hown (mvT hZ (g_ hw 55 rfl)) (mvT hZ (g_ hw 56 rfl)) (notFace_of_selects (args := #[]) (mvT hZ (g_ hw 58 rfl))) (mvT hZ (g_ hw 58 rfl)) (mvT hZ (g_ hw 57 rfl)) (by decide) (backOf (W := 0) (rm_ab l Z a0 hw [] s r v9 v2 q hi lo o kc x102 (o 49) T102.heap n0 c107 c105 G hV A102 C102 S102 c108 c109 c110) hZ (g_ hw 59 rfl) (g_ hw 45 rfl) (by decide) (by decide)) q111a q111c (g := (mkF m 17 #[.val (.ref a1)] [(.ref (o 49)), (.ref x102)])) rfl (by rw [hml]; rfl) (Steps.refl _) (argsL := [(.ref (o 49))]) (rest := []) (lenOf own_pd11 rfl) rfl (by show 2 * 0 + _ ≤ _; exact Nat.le_of_eq rfl) (dE 8 rfl) (fun _ _ => ⟨rfl, e106, (by decide : 1 + 1 ≤ _), (by decide : 5 + 5 ≤ _)⟩)) fun v111 T111 L111 X111 hQ111 => ?_
  obtain ⟨x111, rfl, Nq111, K111, sx111, A111, C111, S111, V111⟩ := hQ111
  have N111 := Fr.app N106 Nq111
  have c112 := (ED.keep K102)
  have ne_a1_x111 : a1 ≠ x111 := Nat.ne_of_lt (Nat.lt_of_lt_of_le c112.lt sx111)
  have ne_x102_x111 : x102 ≠ x111 := Nat.ne_of_lt (Nat.lt_of_lt_of_le A102.lt sx111)
  have gn_x111 : n0 ≤ x111 := Nat.le_trans c107 sx111
  have c113 := (Keep.trans (Keep.refl h0 []) K102 all0)
  have sz_x111 : h0.size ≤ x111 := Nat.le_trans c113.1 sx111
  show own_Go p e below Pst (T111.setTop (mkF m 20 #[.val (.ref a1)] [(.ref x111)]))
  have c114 := (Keep.trans c113 K111 all0)
  rw [hPst]
  exact own_retP X111 (v := (some (.ref x111))) (Q := Q_tbs Z s r v9 v2 q hi lo o kc a1 h0 n0) (fun h => by rw [Bd.returns] at h; cases h) Bd.notSynchronized (fun fs hr => retOut X111 hx Bd.returns rfl (Or.inr (Or.inr (Or.inr (Or.inr ⟨rfl, rfl, rfl⟩)))) (dE 9 rfl) hr) (by decide) (by decide) ⟨_, rfl, N111, c114, sz_x111, A111, C111, S111, V111⟩
theorem own_f10 {s r v9 v2 : Int64} {q hi lo : Int32} (hV : own_V s r v9 v2 q hi lo) : v9 * (2 : Int64) = v2 := by
  rcases hV with (⟨rfl, rfl, rfl, rfl, rfl, rfl, rfl⟩ | ⟨rfl, rfl, rfl, rfl, rfl, rfl, rfl⟩) | (⟨rfl, rfl, rfl, rfl, rfl, rfl, rfl⟩ | ⟨rfl, rfl, rfl, rfl, rfl, rfl, rfl⟩ | ⟨rfl, rfl, rfl, rfl, rfl, rfl, rfl⟩ | ⟨rfl, rfl, rfl, rfl, rfl, rfl, rfl⟩ | ⟨rfl, rfl, rfl, rfl, rfl, rfl, rfl⟩ | ⟨rfl, rfl, rfl, rfl, rfl, rfl, rfl⟩ | ⟨rfl, rfl, rfl, rfl, rfl, rfl, rfl⟩ | ⟨rfl, rfl, rfl, rfl, rfl, rfl, rfl⟩ | ⟨rfl, rfl, rfl, rfl, rfl, rfl, rfl⟩ | ⟨rfl, rfl, rfl, rfl, rfl, rfl, rfl⟩) <;> decide
theorem own_f11 {s r v9 v2 : Int64} {q hi lo : Int32} (hV : own_V s r v9 v2 q hi lo) : ¬ lcmpW v9 0 < 0 := by
  rcases hV with (⟨rfl, rfl, rfl, rfl, rfl, rfl, rfl⟩ | ⟨rfl, rfl, rfl, rfl, rfl, rfl, rfl⟩) | (⟨rfl, rfl, rfl, rfl, rfl, rfl, rfl⟩ | ⟨rfl, rfl, rfl, rfl, rfl, rfl, rfl⟩ | ⟨rfl, rfl, rfl, rfl, rfl, rfl, rfl⟩ | ⟨rfl, rfl, rfl, rfl, rfl, rfl, rfl⟩ | ⟨rfl, rfl, rfl, rfl, rfl, rfl, rfl⟩ | ⟨rfl, rfl, rfl, rfl, rfl, rfl, rfl⟩ | ⟨rfl, rfl, rfl, rfl, rfl, rfl, rfl⟩ | ⟨rfl, rfl, rfl, rfl, rfl, rfl, rfl⟩ | ⟨rfl, rfl, rfl, rfl, rfl, rfl, rfl⟩ | ⟨rfl, rfl, rfl, rfl, rfl, rfl, rfl⟩) <;> decide
theorem own_f12 {s r v9 v2 : Int64} {q hi lo : Int32} (hV : own_V s r v9 v2 q hi lo) : lcmpW (v2 / (2 : Int64)) v9 = 0 := by
  rcases hV with (⟨rfl, rfl, rfl, rfl, rfl, rfl, rfl⟩ | ⟨rfl, rfl, rfl, rfl, rfl, rfl, rfl⟩) | (⟨rfl, rfl, rfl, rfl, rfl, rfl, rfl⟩ | ⟨rfl, rfl, rfl, rfl, rfl, rfl, rfl⟩ | ⟨rfl, rfl, rfl, rfl, rfl, rfl, rfl⟩ | ⟨rfl, rfl, rfl, rfl, rfl, rfl, rfl⟩ | ⟨rfl, rfl, rfl, rfl, rfl, rfl, rfl⟩ | ⟨rfl, rfl, rfl, rfl, rfl, rfl, rfl⟩ | ⟨rfl, rfl, rfl, rfl, rfl, rfl, rfl⟩ | ⟨rfl, rfl, rfl, rfl, rfl, rfl, rfl⟩ | ⟨rfl, rfl, rfl, rfl, rfl, rfl, rfl⟩ | ⟨rfl, rfl, rfl, rfl, rfl, rfl, rfl⟩) <;> decide
theorem own_ef_JJ_10 (m : MethodId) (x0 : Int64) (x1 : Int64) : entryFrame m #[(.long x0), (.long x1)] 10 = mkF m 0 #[.val (.long x0), .second, .val (.long x1), .second, .unset, .unset, .unset, .unset, .unset, .unset] [] := by first | (simp [entryFrame, mkF, argsToLocals, Value.category]; done) | rfl
def Q_m2 (Z : State) (s r v9 v2 : Int64) (q hi lo : Int32) (h0 : Heap) (n0 : Nat) (v : Option Value) (h : Heap) (L : List Loc) : Prop := v = some (.long v2) ∧ Fr n0 L ∧ h = h0
theorem rm_m2 (l : Launch) (Z : State) (a0 : Array Value) (hw : own_H a0 Z) (ws : List Jvm.Cond) (s r v9 v2 : Int64) (q hi lo : Int32) (h0 : Heap) (n0 : Nat) (Z0 : n0 ≤ h0.size) (hV : own_V s r v9 v2 q hi lo) : own_MP l Mn48 jdk_17_method_156_code 10 (some .long) ws ({ frames := 1, cells := 0, slots := 0, locals := 13 } : Room) Z h0 #[(.long v9), (.long (2 : Int64))] (fun _ _ _ _ _ => True) (Q_m2 Z s r v9 v2 q hi lo h0 n0) := by
  refine own_startP (plainFor_of_name own_pn_java_math_BigDecimal) fun p e s' m below meth c s₁ Bd hx hby hml hown0 X0 e0 hh0 hZ hK Pst hPst => ?_
  have dE := own_E hby own_D23
  have hown : s'.vm.findClass "java/math/BigDecimal" = some m.cls := hown0
  have hnm := (name_of_methodNamed Bd.named Bd.method).1
  have N0 := Fr.nil n0
  rw [own_ef_JJ_10 m v9 (2 : Int64)]
  refine o_lloadN X0.here hx (dE 0 rfl) rfl ?_
  refine o_lloadN X0.here hx (dE 1 rfl) rfl ?_
  refine o_lmul X0.here hx (dE 2 rfl) rfl ?_
  rw [(own_f10 hV)]
  show own_Go p e below Pst (s₁.setTop (mkF m 3 #[.val (.long v9), .second, .val (.long (2 : Int64)), .second, .unset, .unset, .unset, .unset, .unset, .unset] [(.long v2)]))
  refine o_lstore X0.here hx (dE 3 rfl) rfl (l' := #[.val (.long v9), .second, .val (.long (2 : Int64)), .second, .val (.long v2), .second, .unset, .unset, .unset, .unset]) rfl ?_
  refine o_lloadN X0.here hx (dE 4 rfl) rfl ?_
  refine own_cF X0 (Jvm.LawKit.callS X0 hx (y := Mn28) hown (mvT hZ (g_ hw 118 rfl)) (mvT hZ (g_ hw 119 rfl)) (mvT hZ (g_ hw 120 rfl)) (mvT hZ (g_ hw 121 rfl)) (by decide) (backOf (W := 0) (rm_abs l Z a0 hw [] v9 h0 n0 Z0 (own_f11 hV)) hZ (g_ hw 121 rfl) (g_ hw 120 rfl) (by decide) (by decide)) (g := (mkF m 6 #[.val (.long v9), .second, .val (.long (2 : Int64)), .second, .val (.long v2), .second, .unset, .unset, .unset, .unset] [(.long v9)])) rfl (by rw [hml]; rfl) (argsL := [(.long v9)]) (rest := []) (lenOf own_pd4 rfl) rfl (by show 2 * 0 + _ ≤ _; exact Nat.le_of_eq rfl) (dE 5 rfl) (fun _ _ => ⟨rfl, e0, (by decide : 0 + 0 ≤ _), (by decide : 0 + 0 ≤ _)⟩)) fun v101 T101 L101 X101 hQ101 => ?_
  obtain ⟨rfl, Nq101, e101⟩ := hQ101
  have N101 := Fr.app N0 Nq101
  show own_Go p e below Pst (T101.setTop (mkF m 9 #[.val (.long v9), .second, .val (.long (2 : Int64)), .second, .val (.long v2), .second, .unset, .unset, .unset, .unset] [(.long v9)]))
  refine o_lstore X101.here hx (dE 6 rfl) rfl (l' := #[.val (.long v9), .second, .val (.long (2 : Int64)), .second, .val (.long v2), .second, .val (.long v9), .second, .unset, .unset]) rfl ?_
  refine o_lloadN X101.here hx (dE 7 rfl) rfl ?_
  refine own_cF X101 (Jvm.LawKit.callS X101 hx (y := Mn28) hown (mvT hZ (g_ hw 118 rfl)) (mvT hZ (g_ hw 119 rfl)) (mvT hZ (g_ hw 120 rfl)) (mvT hZ (g_ hw 121 rfl)) (by decide) (backOf (W := 0) (rm_abs l Z a0 hw [] (2 : Int64) h0 n0 Z0 (by decide)) hZ (g_ hw 121 rfl) (g_ hw 120 rfl) (by decide) (by decide)) (g := (mkF m 12 #[.val (.long v9), .second, .val (.long (2 : Int64)), .second, .val (.long v2), .second, .val (.long v9), .second, .unset, .unset] [(.long (2 : Int64))])) rfl (by rw [hml]; rfl) (argsL := [(.long (2 : Int64))]) (rest := []) (lenOf own_pd4 rfl) rfl (by show 2 * 0 + _ ≤ _; exact Nat.le_of_eq rfl) (dE 8 rfl) (fun _ _ => ⟨rfl, e101, (by decide : 0 + 0 ≤ _), (by decide : 0 + 0 ≤ _)⟩)) fun v102 T102 L102 X102 hQ102 => ?_
  obtain ⟨rfl, Nq102, e102⟩ := hQ102
  have N102 := Fr.app N101 Nq102
  show own_Go p e below Pst (T102.setTop (mkF m 15 #[.val (.long v9), .second, .val (.long (2 : Int64)), .second, .val (.long v2), .second, .val (.long v9), .second, .unset, .unset] [(.long (2 : Int64))]))
  refine o_lstore X102.here hx (dE 9 rfl) rfl (l' := #[.val (.long v9), .second, .val (.long (2 : Int64)), .second, .val (.long v2), .second, .val (.long v9), .second, .val (.long (2 : Int64)), .second]) rfl ?_
  refine o_lload X102.here hx (dE 10 rfl) rfl ?_
  refine o_lload X102.here hx (dE 11 rfl) rfl ?_
  refine o_lor X102.here hx (dE 12 rfl) rfl ?_
  refine o_bipush X102.here hx (dE 13 rfl) (z := (31 : Int32)) rfl ?_
  refine o_lushr X102.here hx (dE 14 rfl) rfl ?_
  refine o_lconst X102.here hx (dE 15 rfl) (z := (0 : Int64)) rfl ?_
  refine o_lcmp X102.here hx (dE 16 rfl) rfl ?_
  by_cases h1 : (lcmpW (((v9 ||| (2 : Int64)).toUInt64 >>> ((31 : Int32) &&& 0x3f).toInt64.toUInt64).toInt64) (0 : Int64)) = 0
  · refine o_ifYes X102.here hx (pc0 := 27) (pc' := 45) rfl (dE 17 rfl) rfl ((if0 _ _).trans (teq h1).1) (by decide) (by decide) ?_
    refine o_lload X102.here hx (dE 18 rfl) rfl ?_
    rw [hPst]
    exact own_retP X102 (v := (some (.long v2))) (Q := Q_m2 Z s r v9 v2 q hi lo h0 n0) (fun h => by rw [Bd.returns] at h; cases h) Bd.notSynchronized (fun fs hr => retOut X102 hx Bd.returns rfl (Or.inr (Or.inl ⟨rfl, rfl, _, rfl⟩)) (dE 19 rfl) hr) (by decide) (by decide) (by rw [e102]; exact ⟨rfl, N102, rfl⟩)
  · refine o_ifNo X102.here hx (dE 17 rfl) rfl ((if0 _ _).trans (feq h1).1) ?_
    refine o_lloadN X102.here hx (dE 20 rfl) rfl ?_
    refine o_lconst X102.here hx (dE 21 rfl) (z := (0 : Int64)) rfl ?_
    refine o_lcmp X102.here hx (dE 22 rfl) rfl ?_
    refine o_ifNo X102.here hx (dE 23 rfl) rfl ((if0 _ _).trans (feq (by decide)).1) ?_
    refine o_lload X102.here hx (dE 24 rfl) rfl ?_
    refine o_lloadN X102.here hx (dE 25 rfl) rfl ?_
    refine o_ldiv X102.here hx (dE 26 rfl) rfl (by decide) ?_
    refine o_lloadN X102.here hx (dE 27 rfl) rfl ?_
    refine o_lcmp X102.here hx (dE 28 rfl) rfl ?_
    refine o_ifNo X102.here hx (dE 29 rfl) rfl ((if0 _ _).trans (teq (own_f12 hV)).2) ?_
    refine o_lload X102.here hx (dE 18 rfl) rfl ?_
    rw [hPst]
    exact own_retP X102 (v := (some (.long v2))) (Q := Q_m2 Z s r v9 v2 q hi lo h0 n0) (fun h => by rw [Bd.returns] at h; cases h) Bd.notSynchronized (fun fs hr => retOut X102 hx Bd.returns rfl (Or.inr (Or.inl ⟨rfl, rfl, _, rfl⟩)) (dE 19 rfl) hr) (by decide) (by decide) (by rw [e102]; exact ⟨rfl, N102, rfl⟩)
theorem own_f13 {s r v9 v2 : Int64} {q hi lo : Int32} (hV : own_V s r v9 v2 q hi lo) : ¬ lcmpW v2 0 = 0 := by
  rcases hV with (⟨rfl, rfl, rfl, rfl, rfl, rfl, rfl⟩ | ⟨rfl, rfl, rfl, rfl, rfl, rfl, rfl⟩) | (⟨rfl, rfl, rfl, rfl, rfl, rfl, rfl⟩ | ⟨rfl, rfl, rfl, rfl, rfl, rfl, rfl⟩ | ⟨rfl, rfl, rfl, rfl, rfl, rfl, rfl⟩ | ⟨rfl, rfl, rfl, rfl, rfl, rfl, rfl⟩ | ⟨rfl, rfl, rfl, rfl, rfl, rfl, rfl⟩ | ⟨rfl, rfl, rfl, rfl, rfl, rfl, rfl⟩ | ⟨rfl, rfl, rfl, rfl, rfl, rfl, rfl⟩ | ⟨rfl, rfl, rfl, rfl, rfl, rfl, rfl⟩ | ⟨rfl, rfl, rfl, rfl, rfl, rfl, rfl⟩ | ⟨rfl, rfl, rfl, rfl, rfl, rfl, rfl⟩) <;> decide
theorem own_f14 {s r v9 v2 : Int64} {q hi lo : Int32} (hV : own_V s r v9 v2 q hi lo) : ¬ lcmpW v2 (-9223372036854775808 : Int64) = 0 := by
  rcases hV with (⟨rfl, rfl, rfl, rfl, rfl, rfl, rfl⟩ | ⟨rfl, rfl, rfl, rfl, rfl, rfl, rfl⟩) | (⟨rfl, rfl, rfl, rfl, rfl, rfl, rfl⟩ | ⟨rfl, rfl, rfl, rfl, rfl, rfl, rfl⟩ | ⟨rfl, rfl, rfl, rfl, rfl, rfl, rfl⟩ | ⟨rfl, rfl, rfl, rfl, rfl, rfl, rfl⟩ | ⟨rfl, rfl, rfl, rfl, rfl, rfl, rfl⟩ | ⟨rfl, rfl, rfl, rfl, rfl, rfl, rfl⟩ | ⟨rfl, rfl, rfl, rfl, rfl, rfl, rfl⟩ | ⟨rfl, rfl, rfl, rfl, rfl, rfl, rfl⟩ | ⟨rfl, rfl, rfl, rfl, rfl, rfl, rfl⟩ | ⟨rfl, rfl, rfl, rfl, rfl, rfl, rfl⟩) <;> decide
def Q_m3 (Z : State) (s r v9 v2 : Int64) (q hi lo : Int32) (h0 : Heap) (n0 : Nat) (v : Option Value) (h : Heap) (L : List Loc) : Prop := ∃ x : Addr, v = some (.ref x) ∧ Fr n0 L ∧ Keep h0 h [] ∧ h0.size ≤ x ∧ Exa Z h x "java/math/BigDecimal" ∧ Fld Z h x "java/math/BigDecimal" "intCompact" "J" (.long v2) ∧ Fld Z h x "java/math/BigDecimal" "scale" "I" (.int (9 : Int32)) ∧ Fld Z h x "java/math/BigDecimal" "intVal" "Ljava/math/BigInteger;" .null
theorem rm_m3 (l : Launch) (Z : State) (a0 : Array Value) (hw : own_H a0 Z) (ws : List Jvm.Cond) (s r v9 v2 : Int64) (q hi lo : Int32) (h0 : Heap) (n0 : Nat) (Z0 : n0 ≤ h0.size) (hV : own_V s r v9 v2 q hi lo) : own_MP l Mn49 jdk_17_method_157_code 7 (some (.object "java/math/BigDecimal")) ws ({ frames := 4, cells := 1, slots := 5, locals := 56 } : Room) Z h0 #[(.long v9), (.long (2 : Int64)), (.int (9 : Int32))] (fun _ _ _ _ _ => True) (Q_m3 Z s r v9 v2 q hi lo h0 n0) := by
  refine own_startP (plainFor_of_name own_pn_java_math_BigDecimal) fun p e s' m below meth c s₁ Bd hx hby hml hown0 X0 e0 hh0 hZ hK Pst hPst => ?_
  have dE := own_E hby own_D22
  have hown : s'.vm.findClass "java/math/BigDecimal" = some m.cls := hown0
  have hnm := (name_of_methodNamed Bd.named Bd.method).1
  have N0 := Fr.nil n0
  rw [own_ef_JJI_7 m v9 (2 : Int64) (9 : Int32)]
  refine o_lloadN X0.here hx (dE 0 rfl) rfl ?_
  refine o_lloadN X0.here hx (dE 1 rfl) rfl ?_
  refine own_cF X0 (Jvm.LawKit.callS X0 hx (y := Mn48) hown (mvT hZ (g_ hw 115 rfl)) (mvT hZ (g_ hw 116 rfl)) (mvT hZ (g_ hw 45 rfl)) (mvT hZ (g_ hw 117 rfl)) (by decide) (backOf (W := 0) (rm_m2 l Z a0 hw [] s r v9 v2 q hi lo h0 n0 Z0 hV) hZ (g_ hw 117 rfl) (g_ hw 45 rfl) (by decide) (by decide)) (g := (mkF m 2 #[.val (.long v9), .second, .val (.long (2 : Int64)), .second, .val (.int (9 : Int32)), .unset, .unset] [(.long (2 : Int64)), (.long v9)])) rfl (by rw [hml]; rfl) (argsL := [(.long v9), (.long (2 : Int64))]) (rest := []) (lenOf own_pd5 rfl) rfl (by show 2 * 0 + _ ≤ _; exact Nat.le_of_eq rfl) (dE 2 rfl) (fun _ _ => ⟨rfl, e0, (by decide : 0 + 0 ≤ _), (by decide : 0 + 0 ≤ _)⟩)) fun v101 T101 L101 X101 hQ101 => ?_
  obtain ⟨rfl, Nq101, e101⟩ := hQ101
  have N101 := Fr.app N0 Nq101
  show own_Go p e below Pst (T101.setTop (mkF m 5 #[.val (.long v9), .second, .val (.long (2 : Int64)), .second, .val (.int (9 : Int32)), .unset, .unset] [(.long v2)]))
  refine o_lstore X101.here hx (dE 3 rfl) rfl (l' := #[.val (.long v9), .second, .val (.long (2 : Int64)), .second, .val (.int (9 : Int32)), .val (.long v2), .second]) rfl ?_
  refine o_lload X101.here hx (dE 4 rfl) rfl ?_
  refine own_Go.of (S' := T101.setTop (mkF m 12 #[.val (.long v9), .second, .val (.long (2 : Int64)), .second, .val (.int (9 : Int32)), .val (.long v2), .second] [(.long (-9223372036854775808 : Int64)), (.long v2)])) (fun tgt kst => X101.ldc2Long hx hown (mvT hZ (g_ hw 62 rfl)) (g := (mkF m 9 #[.val (.long v9), .second, .val (.long (2 : Int64)), .second, .val (.int (9 : Int32)), .val (.long v2), .second] [(.long v2)])) rfl (dE 5 rfl) _ kst) ?_
  refine o_lcmp X101.here hx (dE 6 rfl) rfl ?_
  refine o_ifNo X101.here hx (dE 7 rfl) rfl ((if0 _ _).trans (feq (own_f14 hV)).1) ?_
  refine o_lload X101.here hx (dE 8 rfl) rfl ?_
  refine o_iload X101.here hx (dE 9 rfl) rfl ?_
  refine own_cF X101 (Jvm.LawKit.callS X101 hx (y := Mn17) hown (mvT hZ (g_ hw 82 rfl)) (mvT hZ (g_ hw 49 rfl)) (mvT hZ (g_ hw 45 rfl)) (mvT hZ (g_ hw 50 rfl)) (by decide) (backOf (W := 0) (rm_vji l Z a0 hw [] v2 h0 n0 Z0 (own_f13 hV) (own_f14 hV)) hZ (g_ hw 50 rfl) (g_ hw 45 rfl) (by decide) (by decide)) (g := (mkF m 20 #[.val (.long v9), .second, .val (.long (2 : Int64)), .second, .val (.int (9 : Int32)), .val (.long v2), .second] [(.int (9 : Int32)), (.long v2)])) rfl (by rw [hml]; rfl) (argsL := [(.long v2), (.int (9 : Int32))]) (rest := []) (lenOf own_pd6 rfl) rfl (by show 2 * 0 + _ ≤ _; exact Nat.le_of_eq rfl) (dE 10 rfl) (fun _ _ => ⟨rfl, e101, (by decide : 0 + 1 ≤ _), (by decide : 0 + 5 ≤ _)⟩)) fun v102 T102 L102 X102 hQ102 => ?_
  obtain ⟨x102, rfl, Nq102, K102, sx102, A102, C102, S102, V102⟩ := hQ102
  have N102 := Fr.app N101 Nq102
  have gn_x102 : n0 ≤ x102 := Nat.le_trans Z0 sx102
  have sz_x102 : h0.size ≤ x102 := Nat.le_trans (Keep.refl h0 []).1 sx102
  show own_Go p e below Pst (T102.setTop (mkF m 23 #[.val (.long v9), .second, .val (.long (2 : Int64)), .second, .val (.int (9 : Int32)), .val (.long v2), .second] [(.ref x102)]))
  have c103 := (Keep.trans (Keep.refl h0 []) K102 all0)
  rw [hPst]
  exact own_retP X102 (v := (some (.ref x102))) (Q := Q_m3 Z s r v9 v2 q hi lo h0 n0) (fun h => by rw [Bd.returns] at h; cases h) Bd.notSynchronized (fun fs hr => retOut X102 hx Bd.returns rfl (Or.inr (Or.inr (Or.inr (Or.inr ⟨rfl, rfl, rfl⟩)))) (dE 11 rfl) hr) (by decide) (by decide) ⟨_, rfl, N102, c103, sz_x102, A102, C102, S102, V102⟩
theorem own_pd12 : parseMethodDescriptor "(J)I" = some ⟨[.long], some .int⟩ := by decide +kernel
def Q_mu (Z : State) (s r v9 v2 : Int64) (q hi lo : Int32) (a1 a2 : Addr) (h0 : Heap) (n0 : Nat) (v : Option Value) (h : Heap) (L : List Loc) : Prop := ∃ x : Addr, v = some (.ref x) ∧ Fr n0 L ∧ Keep h0 h [] ∧ h0.size ≤ x ∧ Exa Z h x "java/math/BigDecimal" ∧ Fld Z h x "java/math/BigDecimal" "intCompact" "J" (.long v2) ∧ Fld Z h x "java/math/BigDecimal" "scale" "I" (.int (9 : Int32)) ∧ Fld Z h x "java/math/BigDecimal" "intVal" "Ljava/math/BigInteger;" .null
theorem rm_mu (l : Launch) (Z : State) (a0 : Array Value) (hw : own_H a0 Z) (ws : List Jvm.Cond) (s r v9 v2 : Int64) (q hi lo : Int32) (a1 a2 : Addr) (h0 : Heap) (n0 : Nat) (Z0 : n0 ≤ h0.size) (hV : own_V s r v9 v2 q hi lo) (Ea1 : Exa Z h0 a1 "java/math/BigDecimal") (Ca1 : Fld Z h0 a1 "java/math/BigDecimal" "intCompact" "J" (.long v9)) (Sa1 : Fld Z h0 a1 "java/math/BigDecimal" "scale" "I" (.int (9 : Int32))) (Ea2 : Exa Z h0 a2 "java/math/BigDecimal") (Ca2 : Fld Z h0 a2 "java/math/BigDecimal" "intCompact" "J" (.long (2 : Int64))) (Sa2 : Fld Z h0 a2 "java/math/BigDecimal" "scale" "I" (.int (0 : Int32))) : own_MP l Mn38 jdk_17_method_31_code 3 (some (.object "java/math/BigDecimal")) ws ({ frames := 5, cells := 1, slots := 5, locals := 74 } : Room) Z h0 #[(.ref a1), (.ref a2)] (fun _ _ _ _ _ => True) (Q_mu Z s r v9 v2 q hi lo a1 a2 h0 n0) := by
  refine own_startP (plainFor_of_name own_pn_java_math_BigDecimal) fun p e s' m below meth c s₁ Bd hx hby hml hown0 X0 e0 hh0 hZ hK Pst hPst => ?_
  have dE := own_E hby own_D20
  have hown : s'.vm.findClass "java/math/BigDecimal" = some m.cls := hown0
  have hnm := (name_of_methodNamed Bd.named Bd.method).1
  have N0 := Fr.nil n0
  rw [own_ef_RR_3 m a1 a2]
  refine o_aloadN X0.here hx (dE 0 rfl) rfl rfl ?_
  refine o_aloadN X0.here hx (dE 1 rfl) rfl rfl ?_
  refine p_getF X0 hx hZ hown (host := "") (Or.inl (g_ hw 63 rfl)) Via.refl e0 Sa1 rfl (dE 2 rfl) fun T101 X101 e101 => ?_
  refine o_i2l X101.here hx (dE 3 rfl) rfl ?_
  refine o_aloadN X101.here hx (dE 4 rfl) rfl rfl ?_
  refine p_getF X101 hx hZ hown (host := "") (Or.inl (g_ hw 63 rfl)) Via.refl e101 Sa2 rfl (dE 5 rfl) fun T102 X102 e102 => ?_
  refine o_i2l X102.here hx (dE 6 rfl) rfl ?_
  refine o_ladd X102.here hx (dE 7 rfl) rfl ?_
  rw [show (((9 : Int32).toInt64) + ((0 : Int32).toInt64)) = (9 : Int64) from by decide]
  show own_Go p e below Pst (T102.setTop (mkF m 12 #[.val (.ref a1), .val (.ref a2), .unset] [(.long (9 : Int64)), (.ref a1)]))
  obtain ⟨cq103, kq103, q103a, q103b, q103c⟩ := isOf hZ e102 Ea1
  refine own_cP X102 (X102.virtualBack hx (y := Mn16) (z := Mn16) hown (mvT hZ (g_ hw 107 rfl)) (mvT hZ (own_decl (g_ hw 108 rfl) (g_ hw 111 rfl))) (notFace_of_selects (args := #[]) (mvT hZ (g_ hw 110 rfl))) (mvT hZ (g_ hw 110 rfl)) (mvT hZ (g_ hw 108 rfl)) (by decide) (backOf (W := 0) (rm_cs1 l Z a0 hw [] a1 (9 : Int64) (9 : Int32) h0 n0 Z0 (by decide) (by decide)) hZ (g_ hw 111 rfl) (g_ hw 45 rfl) (by decide) (by decide)) q103a q103c (g := (mkF m 12 #[.val (.ref a1), .val (.ref a2), .unset] [(.long (9 : Int64)), (.ref a1)])) rfl (by rw [hml]; rfl) (Steps.refl _) (argsL := [(.long (9 : Int64))]) (rest := []) (lenOf own_pd12 rfl) rfl (by show 2 * 0 + _ ≤ _; exact Nat.le_of_eq rfl) (dE 8 rfl) (fun _ _ => ⟨rfl, e102, (by decide : 0 + 0 ≤ _), (by decide : 0 + 0 ≤ _)⟩)) fun v103 T103 L103 X103 hQ103 => ?_
  obtain ⟨rfl, Nq103, e103⟩ := hQ103
  have N103 := Fr.app N0 Nq103
  show own_Go p e below Pst (T103.setTop (mkF m 15 #[.val (.ref a1), .val (.ref a2), .unset] [(.int (9 : Int32))]))
  refine o_istoreN X103.here hx (dE 9 rfl) rfl (l' := #[.val (.ref a1), .val (.ref a2), .val (.int (9 : Int32))]) rfl ?_
  refine o_aloadN X103.here hx (dE 10 rfl) rfl rfl ?_
  refine p_getF X103 hx hZ hown (host := "") (Or.inl (g_ hw 60 rfl)) Via.refl e103 Ca1 rfl (dE 11 rfl) fun T104 X104 e104 => ?_
  refine own_Go.of (S' := T104.setTop (mkF m 23 #[.val (.ref a1), .val (.ref a2), .val (.int (9 : Int32))] [(.long (-9223372036854775808 : Int64)), (.long v9)])) (fun tgt kst => X104.ldc2Long hx hown (mvT hZ (g_ hw 62 rfl)) (g := (mkF m 20 #[.val (.ref a1), .val (.ref a2), .val (.int (9 : Int32))] [(.long v9)])) rfl (dE 12 rfl) _ kst) ?_
  refine o_lcmp X104.here hx (dE 13 rfl) rfl ?_
  refine o_ifNo X104.here hx (dE 14 rfl) rfl ((if0 _ _).trans (feq (own_f7 hV)).1) ?_
  refine o_aloadN X104.here hx (dE 15 rfl) rfl rfl ?_
  refine p_getF X104 hx hZ hown (host := "") (Or.inl (g_ hw 60 rfl)) Via.refl e104 Ca2 rfl (dE 16 rfl) fun T105 X105 e105 => ?_
  refine own_Go.of (S' := T105.setTop (mkF m 34 #[.val (.ref a1), .val (.ref a2), .val (.int (9 : Int32))] [(.long (-9223372036854775808 : Int64)), (.long (2 : Int64))])) (fun tgt kst => X105.ldc2Long hx hown (mvT hZ (g_ hw 62 rfl)) (g := (mkF m 31 #[.val (.ref a1), .val (.ref a2), .val (.int (9 : Int32))] [(.long (2 : Int64))])) rfl (dE 17 rfl) _ kst) ?_
  refine o_lcmp X105.here hx (dE 18 rfl) rfl ?_
  refine o_ifNo X105.here hx (dE 19 rfl) rfl ((if0 _ _).trans (feq (by decide)).1) ?_
  refine o_aloadN X105.here hx (dE 20 rfl) rfl rfl ?_
  refine p_getF X105 hx hZ hown (host := "") (Or.inl (g_ hw 60 rfl)) Via.refl e105 Ca1 rfl (dE 21 rfl) fun T106 X106 e106 => ?_
  refine o_aloadN X106.here hx (dE 22 rfl) rfl rfl ?_
  refine p_getF X106 hx hZ hown (host := "") (Or.inl (g_ hw 60 rfl)) Via.refl e106 Ca2 rfl (dE 23 rfl) fun T107 X107 e107 => ?_
  refine o_iloadN X107.here hx (dE 24 rfl) rfl ?_
  refine own_cF X107 (Jvm.LawKit.callS X107 hx (y := Mn49) hown (mvT hZ (g_ hw 112 rfl)) (mvT hZ (g_ hw 113 rfl)) (mvT hZ (g_ hw 45 rfl)) (mvT hZ (g_ hw 114 rfl)) (by decide) (backOf (W := 0) (rm_m3 l Z a0 hw [] s r v9 v2 q hi lo h0 n0 Z0 hV) hZ (g_ hw 114 rfl) (g_ hw 45 rfl) (by decide) (by decide)) (g := (mkF m 47 #[.val (.ref a1), .val (.ref a2), .val (.int (9 : Int32))] [(.int (9 : Int32)), (.long (2 : Int64)), (.long v9)])) rfl (by rw [hml]; rfl) (argsL := [(.long v9), (.long (2 : Int64)), (.int (9 : Int32))]) (rest := []) (lenOf own_pd8 rfl) rfl (by show 2 * 0 + _ ≤ _; exact Nat.le_of_eq rfl) (dE 25 rfl) (fun _ _ => ⟨rfl, e107, (by decide : 0 + 1 ≤ _), (by decide : 0 + 5 ≤ _)⟩)) fun v108 T108 L108 X108 hQ108 => ?_
  obtain ⟨x108, rfl, Nq108, K108, sx108, A108, C108, S108, V108⟩ := hQ108
  have N108 := Fr.app N103 Nq108
  have gn_x108 : n0 ≤ x108 := Nat.le_trans Z0 sx108
  have sz_x108 : h0.size ≤ x108 := Nat.le_trans (Keep.refl h0 []).1 sx108
  show own_Go p e below Pst (T108.setTop (mkF m 50 #[.val (.ref a1), .val (.ref a2), .val (.int (9 : Int32))] [(.ref x108)]))
  have c109 := (Keep.trans (Keep.refl h0 []) K108 all0)
  rw [hPst]
  exact own_retP X108 (v := (some (.ref x108))) (Q := Q_mu Z s r v9 v2 q hi lo a1 a2 h0 n0) (fun h => by rw [Bd.returns] at h; cases h) Bd.notSynchronized (fun fs hr => retOut X108 hx Bd.returns rfl (Or.inr (Or.inr (Or.inr (Or.inr ⟨rfl, rfl, rfl⟩)))) (dE 26 rfl) hr) (by decide) (by decide) ⟨_, rfl, N108, c109, sz_x108, A108, C108, S108, V108⟩
theorem own_ef_RI_4 (m : MethodId) (x0 : Addr) (x1 : Int32) : entryFrame m #[(.ref x0), (.int x1)] 4 = mkF m 0 #[.val (.ref x0), .val (.int x1), .unset, .unset] [] := by first | (simp [entryFrame, mkF, argsToLocals, Value.category]; done) | rfl
def Q_mpr (Z : State) (s r v9 v2 : Int64) (q hi lo : Int32) (a1 : Addr) (h0 : Heap) (n0 : Nat) (v : Option Value) (h : Heap) (L : List Loc) : Prop := ∃ x : Addr, v = some (.ref x) ∧ Fr n0 L ∧ Keep h0 h [] ∧ h0.size ≤ x ∧ Exa Z h x "java/math/BigDecimal" ∧ Fld Z h x "java/math/BigDecimal" "intCompact" "J" (.long v2) ∧ Fld Z h x "java/math/BigDecimal" "scale" "I" (.int (0 : Int32)) ∧ Fld Z h x "java/math/BigDecimal" "intVal" "Ljava/math/BigInteger;" .null
theorem rm_mpr (l : Launch) (Z : State) (a0 : Array Value) (hw : own_H a0 Z) (ws : List Jvm.Cond) (s r v9 v2 : Int64) (q hi lo : Int32) (a1 : Addr) (h0 : Heap) (n0 : Nat) (Z0 : n0 ≤ h0.size) (hV : own_V s r v9 v2 q hi lo) (Ea1 : Exa Z h0 a1 "java/math/BigDecimal") (Ca1 : Fld Z h0 a1 "java/math/BigDecimal" "intCompact" "J" (.long v2)) (Sa1 : Fld Z h0 a1 "java/math/BigDecimal" "scale" "I" (.int (9 : Int32))) (Va1 : Fld Z h0 a1 "java/math/BigDecimal" "intVal" "Ljava/math/BigInteger;" .null) : own_MP l Mn18 jdk_17_method_67_code 4 (some (.object "java/math/BigDecimal")) ws ({ frames := 3, cells := 1, slots := 5, locals := 42 } : Room) Z h0 #[(.ref a1), (.int (9 : Int32))] (fun _ _ _ _ _ => True) (Q_mpr Z s r v9 v2 q hi lo a1 h0 n0) := by
  refine own_startP (plainFor_of_name own_pn_java_math_BigDecimal) fun p e s' m below meth c s₁ Bd hx hby hml hown0 X0 e0 hh0 hZ hK Pst hPst => ?_
  have dE := own_E hby own_D26
  have hown : s'.vm.findClass "java/math/BigDecimal" = some m.cls := hown0
  have hnm := (name_of_methodNamed Bd.named Bd.method).1
  have N0 := Fr.nil n0
  rw [own_ef_RI_4 m a1 (9 : Int32)]
  refine o_iloadN X0.here hx (dE 0 rfl) rfl ?_
  refine o_ifYes X0.here hx (pc0 := 1) (pc' := 13) rfl (dE 1 rfl) rfl ((if0 _ _).trans (feq (by decide)).2) (by decide) (by decide) ?_
  refine o_aloadN X0.here hx (dE 2 rfl) rfl rfl ?_
  refine o_aloadN X0.here hx (dE 3 rfl) rfl rfl ?_
  refine p_getF X0 hx hZ hown (host := "") (Or.inl (g_ hw 63 rfl)) Via.refl e0 Sa1 rfl (dE 4 rfl) fun T101 X101 e101 => ?_
  refine o_i2l X101.here hx (dE 5 rfl) rfl ?_
  refine o_iloadN X101.here hx (dE 6 rfl) rfl ?_
  refine o_i2l X101.here hx (dE 7 rfl) rfl ?_
  refine o_lsub X101.here hx (dE 8 rfl) rfl ?_
  rw [show (((9 : Int32).toInt64) - ((9 : Int32).toInt64)) = (0 : Int64) from by decide]
  show own_Go p e below Pst (T101.setTop (mkF m 22 #[.val (.ref a1), .val (.int (9 : Int32)), .unset, .unset] [(.long (0 : Int64)), (.ref a1)]))
  obtain ⟨cq102, kq102, q102a, q102b, q102c⟩ := isOf hZ e101 Ea1
  refine own_cP X101 (X101.virtualBack hx (y := Mn16) (z := Mn16) hown (mvT hZ (g_ hw 107 rfl)) (mvT hZ (own_decl (g_ hw 108 rfl) (g_ hw 111 rfl))) (notFace_of_selects (args := #[]) (mvT hZ (g_ hw 110 rfl))) (mvT hZ (g_ hw 110 rfl)) (mvT hZ (g_ hw 108 rfl)) (by decide) (backOf (W := 0) (rm_cs1 l Z a0 hw [] a1 (0 : Int64) (0 : Int32) h0 n0 Z0 (by decide) (by decide)) hZ (g_ hw 111 rfl) (g_ hw 45 rfl) (by decide) (by decide)) q102a q102c (g := (mkF m 22 #[.val (.ref a1), .val (.int (9 : Int32)), .unset, .unset] [(.long (0 : Int64)), (.ref a1)])) rfl (by rw [hml]; rfl) (Steps.refl _) (argsL := [(.long (0 : Int64))]) (rest := []) (lenOf own_pd12 rfl) rfl (by show 2 * 0 + _ ≤ _; exact Nat.le_of_eq rfl) (dE 9 rfl) (fun _ _ => ⟨rfl, e101, (by decide : 0 + 0 ≤ _), (by decide : 0 + 0 ≤ _)⟩)) fun v102 T102 L102 X102 hQ102 => ?_
  obtain ⟨rfl, Nq102, e102⟩ := hQ102
  have N102 := Fr.app N0 Nq102
  show own_Go p e below Pst (T102.setTop (mkF m 25 #[.val (.ref a1), .val (.int (9 : Int32)), .unset, .unset] [(.int (0 : Int32))]))
  refine o_istoreN X102.here hx (dE 10 rfl) rfl (l' := #[.val (.ref a1), .val (.int (9 : Int32)), .val (.int (0 : Int32)), .unset]) rfl ?_
  refine p_newO X102 hx hZ hown (g_ hw 83 rfl) (g_ hw 84 rfl) (g_ hw 45 rfl) e102 (dE 11 rfl) (by decide) (by decide) fun T103 h103 b103 g103 X103 e103 E103 A103 D103 U103 => ?_
  have ne_a1_b103 : a1 ≠ b103 := Nat.ne_of_lt (Nat.lt_of_lt_of_le Ea1.lt (Nat.le_of_eq g103.symm))
  have gn_b103 : n0 ≤ b103 := Nat.le_trans Z0 (Nat.le_of_eq g103.symm)
  have sz_b103 : h0.size ≤ b103 := Nat.le_trans (Keep.refl h0 []).1 (Nat.le_of_eq g103.symm)
  have f103_intCompact : Fld Z h103 b103 "java/math/BigDecimal" "intCompact" "J" (.long (0 : Int64)) := D103 (Or.inr (g_ hw 61 rfl)) (ty := .long) (by decide)
  have f103_scale : Fld Z h103 b103 "java/math/BigDecimal" "scale" "I" (.int (0 : Int32)) := D103 (Or.inr (g_ hw 64 rfl)) (ty := .int) (by decide)
  have f103_precision : Fld Z h103 b103 "java/math/BigDecimal" "precision" "I" (.int (0 : Int32)) := D103 (Or.inl (g_ hw 99 rfl)) (ty := .int) (by decide)
  have f103_intVal : Fld Z h103 b103 "java/math/BigDecimal" "intVal" "Ljava/math/BigInteger;" .null := D103 (Or.inr (g_ hw 101 rfl)) (ty := (.object "java/math/BigInteger")) (by decide)
  refine o_dup X103.here hx (dE 12 rfl) rfl rfl ?_
  refine o_aloadN X103.here hx (dE 13 rfl) rfl rfl ?_
  have c104 := (Va1.ext E103)
  refine p_getF X103 hx hZ hown (host := "") (Or.inl (g_ hw 100 rfl)) Via.refl e103 c104 rfl (dE 14 rfl) fun T105 X105 e105 => ?_
  refine o_aloadN X105.here hx (dE 15 rfl) rfl rfl ?_
  have c106 := (Ca1.ext E103)
  refine p_getF X105 hx hZ hown (host := "") (Or.inl (g_ hw 60 rfl)) Via.refl e105 c106 rfl (dE 16 rfl) fun T107 X107 e107 => ?_
  refine o_iloadN X107.here hx (dE 17 rfl) rfl ?_
  refine o_iconst X107.here hx (dE 18 rfl) (z := (0 : Int32)) rfl ?_
  have c109 := (Nat.le_trans Z0 E103.1)
  refine own_cP X107 (X107.specialBack hx (y := Mn29) rfl hown (mvT hZ (g_ hw 85 rfl)) (mvT hZ (g_ hw 86 rfl)) (mvT hZ (g_ hw 88 rfl)) (by decide) (backOf (W := 1) (rm_bdi l Z a0 hw [] b103 v2 (0 : Int32) (.int 0) (.int 0) (.long 0) .null h103 n0 c109 A103 gn_b103 f103_scale f103_precision f103_intCompact f103_intVal) hZ (g_ hw 88 rfl) (g_ hw 45 rfl) (by decide) (by decide)) (g := (mkF m 40 #[.val (.ref a1), .val (.int (9 : Int32)), .val (.int (0 : Int32)), .unset] [(.int (0 : Int32)), (.int (0 : Int32)), (.long v2), .null, (.ref b103), (.ref b103)])) rfl (by rw [hml]; rfl) (Steps.refl _) (a := b103) (argsL := [.null, (.long v2), (.int (0 : Int32)), (.int (0 : Int32))]) (rest := [(.ref b103)]) (lenOf own_pd2 rfl) rfl (by show 2 * 0 + _ ≤ _; exact Nat.le_of_eq rfl) (dE 19 rfl) (fun _ _ => ⟨rfl, e107, (by decide : 1 + 0 ≤ _), (by decide : 5 + 0 ≤ _)⟩)) fun v108 T108 L108 X108 hQ108 => ?_
  obtain ⟨rfl, Nq108, K108, A108, C108, S108, V108⟩ := hQ108
  have N108 := Fr.app N102 Nq108
  show own_Go p e below Pst (T108.setTop (mkF m 43 #[.val (.ref a1), .val (.int (9 : Int32)), .val (.int (0 : Int32)), .unset] [(.ref b103)]))
  refine o_astoreN X108.here hx (dE 20 rfl) rfl rfl (l' := #[.val (.ref a1), .val (.int (9 : Int32)), .val (.int (0 : Int32)), .val (.ref b103)]) rfl ?_
  refine o_aloadN X108.here hx (dE 21 rfl) rfl rfl ?_
  refine p_getF X108 hx hZ hown (host := "") (Or.inl (g_ hw 63 rfl)) Via.refl rfl S108 rfl (dE 22 rfl) fun T110 X110 e110 => ?_
  refine o_ifYes X110.here hx (pc0 := 48) (pc' := 61) rfl (dE 23 rfl) rfl ((if0 _ _).trans (flt (by decide)).2.1) (by decide) (by decide) ?_
  refine o_aloadN X110.here hx (dE 24 rfl) rfl rfl ?_
  have c111 := (Keep.trans ((Keep.refl h0 []).ext E103) K108 (allS (Or.inr sz_b103) all0))
  rw [hPst]
  exact own_retP X110 (v := (some (.ref b103))) (Q := Q_mpr Z s r v9 v2 q hi lo a1 h0 n0) (fun h => by rw [Bd.returns] at h; cases h) Bd.notSynchronized (fun fs hr => retOut X110 hx Bd.returns rfl (Or.inr (Or.inr (Or.inr (Or.inr ⟨rfl, rfl, rfl⟩)))) (dE 25 rfl) hr) (by decide) (by decide) (by rw [e110]; exact ⟨_, rfl, N108, c111, sz_b103, A108, C108, S108, V108⟩)
theorem own_ef_RII_8 (m : MethodId) (x0 : Addr) (x1 : Int32) (x2 : Int32) : entryFrame m #[(.ref x0), (.int x1), (.int x2)] 8 = mkF m 0 #[.val (.ref x0), .val (.int x1), .val (.int x2), .unset, .unset, .unset, .unset, .unset] [] := by first | (simp [entryFrame, mkF, argsToLocals, Value.category]; done) | rfl
def Q_ss (Z : State) (a1 : Addr) (h0 : Heap) (n0 : Nat) (v : Option Value) (h : Heap) (L : List Loc) : Prop := v = some (.ref a1) ∧ Fr n0 L ∧ h = h0
theorem rm_ss (l : Launch) (Z : State) (a0 : Array Value) (hw : own_H a0 Z) (ws : List Jvm.Cond) (a1 : Addr) (h0 : Heap) (n0 : Nat) (Z0 : n0 ≤ h0.size) (S1 : Fld Z h0 a1 "java/math/BigDecimal" "scale" "I" (.int (0 : Int32))) : own_MP l Mn19 jdk_17_method_64_code 8 (some (.object "java/math/BigDecimal")) ws ({ frames := 0, cells := 0, slots := 0, locals := 0 } : Room) Z h0 #[(.ref a1), (.int (0 : Int32)), (.int (7 : Int32))] (fun _ _ _ _ _ => True) (Q_ss Z a1 h0 n0) := by
  refine own_startP (plainFor_of_name own_pn_java_math_BigDecimal) fun p e s m below meth c s₁ Bd hx hby hml hown0 X0 e0 hh0 hZ hK Pst hPst => ?_
  have dE := own_E hby own_D28
  have hown : s.vm.findClass "java/math/BigDecimal" = some m.cls := hown0
  have hnm := (name_of_methodNamed Bd.named Bd.method).1
  have N0 := Fr.nil n0
  rw [own_ef_RII_8 m a1 (0 : Int32) (7 : Int32)]
  refine o_iloadN X0.here hx (dE 0 rfl) rfl ?_
  refine o_ifNo X0.here hx (dE 1 rfl) rfl ((if0 _ _).trans (flt (by decide)).1) ?_
  refine o_iloadN X0.here hx (dE 2 rfl) rfl ?_
  refine o_bipush X0.here hx (dE 3 rfl) (z := (7 : Int32)) rfl ?_
  refine o_icmpYes X0.here hx (pc0 := 7) (pc' := 21) rfl (dE 4 rfl) rfl (flt (by decide)).2.2.2 (by decide) (by decide) ?_
  refine o_aloadN X0.here hx (dE 5 rfl) rfl rfl ?_
  refine p_getF X0 hx hZ hown (host := "") (Or.inl (g_ hw 63 rfl)) Via.refl e0 S1 rfl (dE 6 rfl) fun T101 X101 e101 => ?_
  refine o_istoreN X101.here hx (dE 7 rfl) rfl (l' := #[.val (.ref a1), .val (.int (0 : Int32)), .val (.int (7 : Int32)), .val (.int (0 : Int32)), .unset, .unset, .unset, .unset]) rfl ?_
  refine o_iloadN X101.here hx (dE 8 rfl) rfl ?_
  refine o_iloadN X101.here hx (dE 9 rfl) rfl ?_
  refine o_icmpNo X101.here hx (dE 10 rfl) rfl (teq rfl).2 ?_
  refine o_aloadN X101.here hx (dE 11 rfl) rfl rfl ?_
  rw [hPst]
  exact own_retP X101 (v := (some (.ref a1))) (Q := Q_ss Z a1 h0 n0) (fun h => by rw [Bd.returns] at h; cases h) Bd.notSynchronized (fun fs hr => retOut X101 hx Bd.returns rfl (Or.inr (Or.inr (Or.inr (Or.inr ⟨rfl, rfl, rfl⟩)))) (dE 12 rfl) hr) (by decide) (by decide) (by rw [e101]; exact ⟨rfl, N0, rfl⟩)
theorem own_f15 {s r v9 v2 : Int64} {q hi lo : Int32} (hV : own_VA s r v9 v2 q hi lo) : ¬ lcmpW v2 0 < 0 := by
  rcases hV with ⟨rfl, rfl, rfl, rfl, rfl, rfl, rfl⟩ | ⟨rfl, rfl, rfl, rfl, rfl, rfl, rfl⟩ <;> decide
theorem own_f16 {s r v9 v2 : Int64} {q hi lo : Int32} (hV : own_VA s r v9 v2 q hi lo) : (((v2.toUInt64 >>> ((32 : Int32) &&& 0x3f).toInt64.toUInt64).toInt64).toInt32) = hi := by
  rcases hV with ⟨rfl, rfl, rfl, rfl, rfl, rfl, rfl⟩ | ⟨rfl, rfl, rfl, rfl, rfl, rfl, rfl⟩ <;> decide
theorem own_f17 {s r v9 v2 : Int64} {q hi lo : Int32} (hV : own_VA s r v9 v2 q hi lo) : hi = 0 := by
  rcases hV with ⟨rfl, rfl, rfl, rfl, rfl, rfl, rfl⟩ | ⟨rfl, rfl, rfl, rfl, rfl, rfl, rfl⟩ <;> decide
theorem own_f18 {s r v9 v2 : Int64} {q hi lo : Int32} (hV : own_VA s r v9 v2 q hi lo) : (v2.toInt32) = lo := by
  rcases hV with ⟨rfl, rfl, rfl, rfl, rfl, rfl, rfl⟩ | ⟨rfl, rfl, rfl, rfl, rfl, rfl, rfl⟩ <;> decide
theorem own_pn_java_math_BigInteger : plainName "java/math/BigInteger" = true := by first | (simp [plainName, overriddenIn]; done) | decide +kernel
theorem own_ef_RJ_4 (m : MethodId) (x0 : Addr) (x1 : Int64) : entryFrame m #[(.ref x0), (.long x1)] 4 = mkF m 0 #[.val (.ref x0), .val (.long x1), .second, .unset] [] := by first | (simp [entryFrame, mkF, argsToLocals, Value.category]; done) | rfl
def Q_biA (Z : State) (s r v9 v2 : Int64) (q hi lo : Int32) (x : Addr) (u1 u2 : Value) (h0 : Heap) (n0 : Nat) (v : Option Value) (h : Heap) (L : List Loc) : Prop := v = none ∧ Fr n0 L ∧ Keep h0 h [x] ∧ Exa Z h x "java/math/BigInteger" ∧ Fld Z h x "java/math/BigInteger" "signum" "I" (.int (1 : Int32)) ∧ ∃ (t : Addr) (k : ClassId), h0.size ≤ t ∧ Fld Z h x "java/math/BigInteger" "mag" "[I" (.ref t) ∧ Arv Z h t k .int (1 : Int32) [(.int lo)] (.int 0)
theorem rm_biA (l : Launch) (Z : State) (a0 : Array Value) (hw : own_H a0 Z) (ws : List Jvm.Cond) (s r v9 v2 : Int64) (q hi lo : Int32) (x : Addr) (u1 u2 : Value) (h0 : Heap) (n0 : Nat) (Z0 : n0 ≤ h0.size) (hA : own_VA s r v9 v2 q hi lo) (E1 : Exa Z h0 x "java/math/BigInteger") (g1 : n0 ≤ x) (F1 : Fld Z h0 x "java/math/BigInteger" "signum" "I" u1) (F2 : Fld Z h0 x "java/math/BigInteger" "mag" "[I" u2) : own_MP l Mn30 jdk_2097_method_30_code 4 none ws ({ frames := 2, cells := 1, slots := 1, locals := 24 } : Room) Z h0 #[(.ref x), (.long v2)] (fun _ _ _ _ _ => True) (Q_biA Z s r v9 v2 q hi lo x u1 u2 h0 n0) := by
  refine own_startP (plainFor_of_name own_pn_java_math_BigInteger) fun p e s' m below meth c s₁ Bd hx hby hml hown0 X0 e0 hh0 hZ hK Pst hPst => ?_
  have dE := own_E hby own_D31
  have hown : s'.vm.findClass "java/math/BigInteger" = some m.cls := hown0
  have hnm := (name_of_methodNamed Bd.named Bd.method).1
  have N0 := Fr.nil n0
  rw [own_ef_RJ_4 m x v2]
  refine o_aloadN X0.here hx (dE 0 rfl) rfl rfl ?_
  refine own_cP X0 (X0.specialBack hx (y := Mn15) rfl hown (mvT hZ (g_ hw 156 rfl)) (mvT hZ (g_ hw 90 rfl)) (mvT hZ (g_ hw 94 rfl)) (by decide) (backOf (W := 0) (rm_num l Z a0 hw [] x h0 n0 Z0 ) hZ (g_ hw 94 rfl) (g_ hw 93 rfl) (by decide) (by decide)) (g := (mkF m 1 #[.val (.ref x), .val (.long v2), .second, .unset] [(.ref x)])) rfl (by rw [hml]; rfl) (Steps.refl _) (a := x) (argsL := []) (rest := []) (lenOf own_pd1 rfl) rfl (by show 2 * 0 + _ ≤ _; exact Nat.le_of_eq rfl) (dE 1 rfl) (fun _ _ => ⟨rfl, e0, (by decide : 0 + 0 ≤ _), (by decide : 0 + 0 ≤ _)⟩)) fun v101 T101 L101 X101 hQ101 => ?_
  obtain ⟨rfl, Nq101, e101⟩ := hQ101
  have N101 := Fr.app N0 Nq101
  show own_Go p e below Pst (T101.setTop (mkF m 4 #[.val (.ref x), .val (.long v2), .second, .unset] []))
  refine o_lloadN X101.here hx (dE 2 rfl) rfl ?_
  refine o_lconst X101.here hx (dE 3 rfl) (z := (0 : Int64)) rfl ?_
  refine o_lcmp X101.here hx (dE 4 rfl) rfl ?_
  refine o_ifYes X101.here hx (pc0 := 7) (pc' := 21) rfl (dE 5 rfl) rfl ((if0 _ _).trans (flt (own_f15 hA)).2.1) (by decide) (by decide) ?_
  refine o_aloadN X101.here hx (dE 6 rfl) rfl rfl ?_
  refine o_iconst X101.here hx (dE 7 rfl) (z := (1 : Int32)) rfl ?_
  refine p_putF X101 hx hZ hown (host := "") (Or.inl (g_ hw 158 rfl)) Via.refl e101 F1 E1 (Or.inr ⟨(g_ hw 159 rfl), rfl, hnm⟩) (g_ hw 151 rfl) (ty := .int) (by decide) rfl rfl rfl (dE 8 rfl) fun T102 h102 X102 e102 W102 => ?_
  have Fw102 := Fld.same W102 F1
  have N102 := Fr.snoc X102 N101 g1
  refine o_lloadN X102.here hx (dE 9 rfl) rfl ?_
  refine o_bipush X102.here hx (dE 10 rfl) (z := (32 : Int32)) rfl ?_
  refine o_lushr X102.here hx (dE 11 rfl) rfl ?_
  refine o_l2i X102.here hx (dE 12 rfl) rfl ?_
  rw [(own_f16 hA)]
  show own_Go p e below Pst (T102.setTop (mkF m 31 #[.val (.ref x), .val (.long v2), .second, .unset] [(.int hi)]))
  refine o_istoreN X102.here hx (dE 13 rfl) rfl (l' := #[.val (.ref x), .val (.long v2), .second, .val (.int hi)]) rfl ?_
  refine o_iloadN X102.here hx (dE 14 rfl) rfl ?_
  refine o_ifNo X102.here hx (dE 15 rfl) rfl ((if0 _ _).trans (teq (own_f17 hA)).2) ?_
  refine o_aloadN X102.here hx (dE 16 rfl) rfl rfl ?_
  refine o_iconst X102.here hx (dE 17 rfl) (z := (1 : Int32)) rfl ?_
  have c104 := (Nat.le_trans Z0 (Keep.of_wr W102).1)
  have c105 := ((Keep.refl h0 [x]).wr W102 (Or.inl (List.mem_of_getElem? (i := 0) rfl)))
  refine p_newP (aty := .int) X102 hx hZ (g_ hw 160 rfl) e102 (dE 18 rfl) rfl (by decide) (cap := 1) (by decide) (by decide) (by decide) (by decide) fun T103 h103 k103 b103 g103 X103 e103 E103 A103 => ?_
  have c106 := (E1.wr W102)
  have ne_x_b103 : x ≠ b103 := Nat.ne_of_lt (Nat.lt_of_lt_of_le c106.lt (Nat.le_of_eq g103.symm))
  have gn_b103 : n0 ≤ b103 := Nat.le_trans c104 (Nat.le_of_eq g103.symm)
  have sz_b103 : h0.size ≤ b103 := Nat.le_trans c105.1 (Nat.le_of_eq g103.symm)
  have V103 : Arv Z h103 b103 k103 .int (1 : Int32) [(.int (0 : Int32))] (.int (0 : Int32)) := (Arv.new A103 (by decide)).pad (pad_rep [] (.int (0 : Int32)) 1)
  have c107 := (c106.ext E103)
  have c108 := ((F2.other W102 (Or.inr (slot_ne (Or.inr (g_ hw 162 rfl)) (Or.inr (g_ hw 159 rfl)) (by decide) (t := (.array .int)) (t' := .int) (by decide) (by decide)))).ext E103)
  refine p_putF X103 hx hZ hown (host := "") (Or.inl (g_ hw 161 rfl)) Via.refl e103 c108 c107 (Or.inr ⟨(g_ hw 162 rfl), rfl, hnm⟩) (g_ hw 151 rfl) (ty := (.array .int)) (by decide) rfl rfl rfl (dE 19 rfl) fun T109 h109 X109 e109 W109 => ?_
  have Fw109 := Fld.same W109 c108
  have N109 := Fr.snoc X109 N102 g1
  refine o_aloadN X109.here hx (dE 20 rfl) rfl rfl ?_
  refine p_getF X109 hx hZ hown (host := "") (Or.inl (g_ hw 161 rfl)) Via.refl e109 Fw109 rfl (dE 21 rfl) fun T110 X110 e110 => ?_
  refine o_iconst X110.here hx (dE 22 rfl) (z := (0 : Int32)) rfl ?_
  refine o_lloadN X110.here hx (dE 23 rfl) rfl ?_
  refine o_l2i X110.here hx (dE 24 rfl) rfl ?_
  rw [(own_f18 hA)]
  show own_Go p e below Pst (T110.setTop (mkF m 50 #[.val (.ref x), .val (.long v2), .second, .val (.int hi)] [(.int lo), (.int (0 : Int32)), (.ref b103)]))
  have c111 := (V103.other W109 (Ne.symm ne_x_b103))
  refine p_arI X110 hx hZ e110 c111 (0 : Int32) 0 ⟨by decide, by decide⟩ rfl (Nat.le_of_ble_eq_true rfl) rfl (dE 25 rfl) fun T112 h112 X112 e112 W112 V112 => ?_
  have N112 := Fr.snoc X112 N109 gn_b103
  refine o_goto X112.here hx (pc0 := 51) (pc' := 76) rfl (dE 26 rfl) (by decide) (by decide) ?_
  have c113 := (((c105.ext E103).wr W109 (Or.inl (List.mem_of_getElem? (i := 0) rfl))).wr W112 (Or.inr sz_b103))
  have c114 := ((c107.wr W109).wr W112)
  have c115 := (((Fw102.ext E103).other W109 (Or.inr (slot_ne (Or.inr (g_ hw 159 rfl)) (Or.inr (g_ hw 162 rfl)) (by decide) (t := .int) (t' := (.array .int)) (by decide) (by decide)))).other W112 (Or.inl ne_x_b103))
  have c116 := (Fw109.other W112 (Or.inl ne_x_b103))
  rw [hPst]
  exact own_retP X112 (v := none) (Q := Q_biA Z s r v9 v2 q hi lo x u1 u2 h0 n0) (fun _ => rfl) Bd.notSynchronized (fun fs hr => X112.returnOut hx Bd.returns (dE 27 rfl) hr) (by decide) (by decide) (by rw [e112]; exact ⟨rfl, N112, c113, c114, c115, _, _, sz_b103, c116, V112⟩)
theorem own_f19 {s r v9 v2 : Int64} {q hi lo : Int32} (hV : own_VA s r v9 v2 q hi lo) : ¬ lcmpW v2 0 = 0 := by
  rcases hV with ⟨rfl, rfl, rfl, rfl, rfl, rfl, rfl⟩ | ⟨rfl, rfl, rfl, rfl, rfl, rfl, rfl⟩ <;> decide
theorem own_f20 {s r v9 v2 : Int64} {q hi lo : Int32} (hV : own_VA s r v9 v2 q hi lo) : (0 : Int32) < lcmpW v2 0 := by
  rcases hV with ⟨rfl, rfl, rfl, rfl, rfl, rfl, rfl⟩ | ⟨rfl, rfl, rfl, rfl, rfl, rfl, rfl⟩ <;> decide
theorem own_f21 {s r v9 v2 : Int64} {q hi lo : Int32} (hV : own_VA s r v9 v2 q hi lo) : (0 : Int32) < lcmpW v2 (16 : Int64) := by
  rcases hV with ⟨rfl, rfl, rfl, rfl, rfl, rfl, rfl⟩ | ⟨rfl, rfl, rfl, rfl, rfl, rfl, rfl⟩ <;> decide
theorem own_pd13 : parseMethodDescriptor "(J)V" = some ⟨[.long], none⟩ := by decide +kernel
def Q_bvA (Z : State) (s r v9 v2 : Int64) (q hi lo : Int32) (h0 : Heap) (n0 : Nat) (v : Option Value) (h : Heap) (L : List Loc) : Prop := ∃ x : Addr, v = some (.ref x) ∧ Fr n0 L ∧ Keep h0 h [] ∧ h0.size ≤ x ∧ Exa Z h x "java/math/BigInteger" ∧ Fld Z h x "java/math/BigInteger" "signum" "I" (.int (1 : Int32)) ∧ ∃ (t : Addr) (k : ClassId), h0.size ≤ t ∧ Fld Z h x "java/math/BigInteger" "mag" "[I" (.ref t) ∧ Arv Z h t k .int (1 : Int32) [(.int lo)] (.int 0)
theorem rm_bvA (l : Launch) (Z : State) (a0 : Array Value) (hw : own_H a0 Z) (ws : List Jvm.Cond) (s r v9 v2 : Int64) (q hi lo : Int32) (h0 : Heap) (n0 : Nat) (Z0 : n0 ≤ h0.size) (hA : own_VA s r v9 v2 q hi lo) : own_MP l Mn31 jdk_2097_method_29_code 2 (some (.object "java/math/BigInteger")) ws ({ frames := 3, cells := 2, slots := 7, locals := 40 } : Room) Z h0 #[(.long v2)] (fun _ _ _ _ _ => True) (Q_bvA Z s r v9 v2 q hi lo h0 n0) := by
  refine own_startP (plainFor_of_name own_pn_java_math_BigInteger) fun p e s' m below meth c s₁ Bd hx hby hml hown0 X0 e0 hh0 hZ hK Pst hPst => ?_
  have dE := own_E hby own_D30
  have hown : s'.vm.findClass "java/math/BigInteger" = some m.cls := hown0
  have hnm := (name_of_methodNamed Bd.named Bd.method).1
  have N0 := Fr.nil n0
  rw [own_ef_J_2 m v2]
  refine o_lloadN X0.here hx (dE 0 rfl) rfl ?_
  refine o_lconst X0.here hx (dE 1 rfl) (z := (0 : Int64)) rfl ?_
  refine o_lcmp X0.here hx (dE 2 rfl) rfl ?_
  refine o_ifYes X0.here hx (pc0 := 3) (pc' := 10) rfl (dE 3 rfl) rfl ((if0 _ _).trans (feq (own_f19 hA)).2) (by decide) (by decide) ?_
  refine o_lloadN X0.here hx (dE 4 rfl) rfl ?_
  refine o_lconst X0.here hx (dE 5 rfl) (z := (0 : Int64)) rfl ?_
  refine o_lcmp X0.here hx (dE 6 rfl) rfl ?_
  refine o_ifNo X0.here hx (dE 7 rfl) rfl ((if0 _ _).trans (tlt (own_f20 hA)).2.2.2) ?_
  refine o_lloadN X0.here hx (dE 8 rfl) rfl ?_
  refine own_Go.of (S' := s₁.setTop (mkF m 20 #[.val (.long v2), .second] [(.long (16 : Int64)), (.long v2)])) (fun tgt kst => X0.ldc2Long hx hown (mvT hZ (g_ hw 149 rfl)) (g := (mkF m 17 #[.val (.long v2), .second] [(.long v2)])) rfl (dE 9 rfl) _ kst) ?_
  refine o_lcmp X0.here hx (dE 10 rfl) rfl ?_
  refine o_ifYes X0.here hx (pc0 := 21) (pc' := 31) rfl (dE 11 rfl) rfl ((if0 _ _).trans (tlt (own_f21 hA)).2.2.1) (by decide) (by decide) ?_
  refine o_lloadN X0.here hx (dE 12 rfl) rfl ?_
  refine o_lconst X0.here hx (dE 13 rfl) (z := (0 : Int64)) rfl ?_
  refine o_lcmp X0.here hx (dE 14 rfl) rfl ?_
  refine o_ifYes X0.here hx (pc0 := 34) (pc' := 53) rfl (dE 15 rfl) rfl ((if0 _ _).trans (flt (own_f15 hA)).2.1) (by decide) (by decide) ?_
  refine p_newO X0 hx hZ hown (g_ hw 150 rfl) (g_ hw 151 rfl) (g_ hw 147 rfl) e0 (dE 16 rfl) (by decide) (by decide) fun T101 h101 b101 g101 X101 e101 E101 A101 D101 U101 => ?_
  have gn_b101 : n0 ≤ b101 := Nat.le_trans Z0 (Nat.le_of_eq g101.symm)
  have sz_b101 : h0.size ≤ b101 := Nat.le_trans (Keep.refl h0 []).1 (Nat.le_of_eq g101.symm)
  have f101_signum : Fld Z h101 b101 "java/math/BigInteger" "signum" "I" (.int (0 : Int32)) := D101 (Or.inr (g_ hw 159 rfl)) (ty := .int) (by decide)
  have f101_mag : Fld Z h101 b101 "java/math/BigInteger" "mag" "[I" .null := D101 (Or.inr (g_ hw 162 rfl)) (ty := (.array .int)) (by decide)
  have f101_bitLengthPlusOne : Fld Z h101 b101 "java/math/BigInteger" "bitLengthPlusOne" "I" (.int (0 : Int32)) := D101 (Or.inl (g_ hw 243 rfl)) (ty := .int) (by decide)
  refine o_dup X101.here hx (dE 17 rfl) rfl rfl ?_
  refine o_lloadN X101.here hx (dE 18 rfl) rfl ?_
  have c103 := (Nat.le_trans Z0 E101.1)
  refine own_cP X101 (X101.specialBack hx (y := Mn30) rfl hown (mvT hZ (g_ hw 152 rfl)) (mvT hZ (g_ hw 153 rfl)) (mvT hZ (g_ hw 155 rfl)) (by decide) (backOf (W := 1) (rm_biA l Z a0 hw [] s r v9 v2 q hi lo b101 (.int 0) .null h101 n0 c103 hA A101 gn_b101 f101_signum f101_mag) hZ (g_ hw 155 rfl) (g_ hw 147 rfl) (by decide) (by decide)) (g := (mkF m 58 #[.val (.long v2), .second] [(.long v2), (.ref b101), (.ref b101)])) rfl (by rw [hml]; rfl) (Steps.refl _) (a := b101) (argsL := [(.long v2)]) (rest := [(.ref b101)]) (lenOf own_pd13 rfl) rfl (by show 2 * 0 + _ ≤ _; exact Nat.le_of_eq rfl) (dE 19 rfl) (fun _ _ => ⟨rfl, e101, (by decide : 1 + 1 ≤ _), (by decide : 6 + 1 ≤ _)⟩)) fun v102 T102 L102 X102 hQ102 => ?_
  obtain ⟨rfl, Nq102, K102, A102, S102, t102, k102, st_102, M102, V102⟩ := hQ102
  have N102 := Fr.app N0 Nq102
  show own_Go p e below Pst (T102.setTop (mkF m 61 #[.val (.long v2), .second] [(.ref b101)]))
  have st0 : h0.size ≤ t102 := Nat.le_trans ((Keep.refl h0 []).ext E101).1 st_102
  have c104 := (Keep.trans ((Keep.refl h0 []).ext E101) K102 (allS (Or.inr sz_b101) all0))
  rw [hPst]
  exact own_retP X102 (v := (some (.ref b101))) (Q := Q_bvA Z s r v9 v2 q hi lo h0 n0) (fun h => by rw [Bd.returns] at h; cases h) Bd.notSynchronized (fun fs hr => retOut X102 hx Bd.returns rfl (Or.inr (Or.inr (Or.inr (Or.inr ⟨rfl, rfl, rfl⟩)))) (dE 20 rfl) hr) (by decide) (by decide) ⟨_, rfl, N102, c104, sz_b101, A102, S102, _, _, st0, M102, V102⟩
theorem own_pd14 : parseMethodDescriptor "(J)Ljava/math/BigInteger;" = some ⟨[.long], some (.object "java/math/BigInteger")⟩ := by decide +kernel
def Q_ifA (Z : State) (s r v9 v2 : Int64) (q hi lo : Int32) (a1 : Addr) (h0 : Heap) (n0 : Nat) (v : Option Value) (h : Heap) (L : List Loc) : Prop := ∃ x : Addr, v = some (.ref x) ∧ Fr n0 L ∧ Keep h0 h [] ∧ h0.size ≤ x ∧ Exa Z h x "java/math/BigInteger" ∧ Fld Z h x "java/math/BigInteger" "signum" "I" (.int (1 : Int32)) ∧ ∃ (t : Addr) (k : ClassId), h0.size ≤ t ∧ Fld Z h x "java/math/BigInteger" "mag" "[I" (.ref t) ∧ Arv Z h t k .int (1 : Int32) [(.int lo)] (.int 0)
theorem rm_ifA (l : Launch) (Z : State) (a0 : Array Value) (hw : own_H a0 Z) (ws : List Jvm.Cond) (s r v9 v2 : Int64) (q hi lo : Int32) (a1 : Addr) (h0 : Heap) (n0 : Nat) (Z0 : n0 ≤ h0.size) (hA : own_VA s r v9 v2 q hi lo) (Ea1 : Exa Z h0 a1 "java/math/BigDecimal") (Ca1 : Fld Z h0 a1 "java/math/BigDecimal" "intCompact" "J" (.long v2)) (Sa1 : Fld Z h0 a1 "java/math/BigDecimal" "scale" "I" (.int (0 : Int32))) (Va1 : Fld Z h0 a1 "java/math/BigDecimal" "intVal" "Ljava/math/BigInteger;" .null) : own_MP l Mn6 jdk_17_method_99_code 1 (some (.object "java/math/BigInteger")) ws ({ frames := 4, cells := 2, slots := 7, locals := 53 } : Room) Z h0 #[(.ref a1)] (fun _ _ _ _ _ => True) (Q_ifA Z s r v9 v2 q hi lo a1 h0 n0) := by
  refine own_startP (plainFor_of_name own_pn_java_math_BigDecimal) fun p e s' m below meth c s₁ Bd hx hby hml hown0 X0 e0 hh0 hZ hK Pst hPst => ?_
  have dE := own_E hby own_D29
  have hown : s'.vm.findClass "java/math/BigDecimal" = some m.cls := hown0
  have hnm := (name_of_methodNamed Bd.named Bd.method).1
  have N0 := Fr.nil n0
  rw [own_ef_R_1 m a1]
  refine o_aloadN X0.here hx (dE 0 rfl) rfl rfl ?_
  refine p_getF X0 hx hZ hown (host := "") (Or.inl (g_ hw 100 rfl)) Via.refl e0 Va1 rfl (dE 1 rfl) fun T101 X101 e101 => ?_
  refine o_ifnonnullNo X101.here hx (dE 2 rfl) rfl ?_
  refine o_aloadN X101.here hx (dE 3 rfl) rfl rfl ?_
  refine p_getF X101 hx hZ hown (host := "") (Or.inl (g_ hw 60 rfl)) Via.refl e101 Ca1 rfl (dE 4 rfl) fun T102 X102 e102 => ?_
  refine own_cF X102 (Jvm.LawKit.callS X102 hx (y := Mn31) hown (mvT hZ (g_ hw 145 rfl)) (mvT hZ (g_ hw 146 rfl)) (mvT hZ (g_ hw 147 rfl)) (mvT hZ (g_ hw 148 rfl)) (by decide) (backOf (W := 0) (rm_bvA l Z a0 hw [] s r v9 v2 q hi lo h0 n0 Z0 hA) hZ (g_ hw 148 rfl) (g_ hw 147 rfl) (by decide) (by decide)) (g := (mkF m 11 #[.val (.ref a1)] [(.long v2)])) rfl (by rw [hml]; rfl) (argsL := [(.long v2)]) (rest := []) (lenOf own_pd14 rfl) rfl (by show 2 * 0 + _ ≤ _; exact Nat.le_of_eq rfl) (dE 5 rfl) (fun _ _ => ⟨rfl, e102, (by decide : 0 + 2 ≤ _), (by decide : 0 + 7 ≤ _)⟩)) fun v103 T103 L103 X103 hQ103 => ?_
  obtain ⟨x103, rfl, Nq103, K103, sx103, A103, S103, t103, k103, st_103, M103, V103⟩ := hQ103
  have N103 := Fr.app N0 Nq103
  have gn_x103 : n0 ≤ x103 := Nat.le_trans Z0 sx103
  have sz_x103 : h0.size ≤ x103 := Nat.le_trans (Keep.refl h0 []).1 sx103
  have gn_t103 : n0 ≤ t103 := Nat.le_trans Z0 st_103
  have sz_t103 : h0.size ≤ t103 := Nat.le_trans (Keep.refl h0 []).1 st_103
  show own_Go p e below Pst (T103.setTop (mkF m 14 #[.val (.ref a1)] [(.ref x103)]))
  have c104 := (Keep.trans (Keep.refl h0 []) K103 all0)
  rw [hPst]
  exact own_retP X103 (v := (some (.ref x103))) (Q := Q_ifA Z s r v9 v2 q hi lo a1 h0 n0) (fun h => by rw [Bd.returns] at h; cases h) Bd.notSynchronized (fun fs hr => retOut X103 hx Bd.returns rfl (Or.inr (Or.inr (Or.inr (Or.inr ⟨rfl, rfl, rfl⟩)))) (dE 6 rfl) hr) (by decide) (by decide) ⟨_, rfl, N103, c104, sz_x103, A103, S103, _, _, sz_t103, M103, V103⟩
theorem own_pd15 : parseMethodDescriptor "(II)Ljava/math/BigDecimal;" = some ⟨[.int, .int], some (.object "java/math/BigDecimal")⟩ := by decide +kernel
theorem own_pd16 : parseMethodDescriptor "()Ljava/math/BigInteger;" = some ⟨[], some (.object "java/math/BigInteger")⟩ := by decide +kernel
def Q_teA (Z : State) (s r v9 v2 : Int64) (q hi lo : Int32) (a1 : Addr) (h0 : Heap) (n0 : Nat) (v : Option Value) (h : Heap) (L : List Loc) : Prop := ∃ x : Addr, v = some (.ref x) ∧ Fr n0 L ∧ Keep h0 h [] ∧ h0.size ≤ x ∧ Exa Z h x "java/math/BigInteger" ∧ Fld Z h x "java/math/BigInteger" "signum" "I" (.int (1 : Int32)) ∧ ∃ (t : Addr) (k : ClassId), h0.size ≤ t ∧ Fld Z h x "java/math/BigInteger" "mag" "[I" (.ref t) ∧ Arv Z h t k .int (1 : Int32) [(.int lo)] (.int 0)
theorem rm_teA (l : Launch) (Z : State) (a0 : Array Value) (hw : own_H a0 Z) (ws : List Jvm.Cond) (s r v9 v2 : Int64) (q hi lo : Int32) (a1 : Addr) (h0 : Heap) (n0 : Nat) (Z0 : n0 ≤ h0.size) (hA : own_VA s r v9 v2 q hi lo) (Ea1 : Exa Z h0 a1 "java/math/BigDecimal") (Ca1 : Fld Z h0 a1 "java/math/BigDecimal" "intCompact" "J" (.long v2)) (Sa1 : Fld Z h0 a1 "java/math/BigDecimal" "scale" "I" (.int (0 : Int32))) (Va1 : Fld Z h0 a1 "java/math/BigDecimal" "intVal" "Ljava/math/BigInteger;" .null) : own_MP l Mn7 jdk_17_method_81_code 1 (some (.object "java/math/BigInteger")) ws ({ frames := 5, cells := 2, slots := 7, locals := 65 } : Room) Z h0 #[(.ref a1)] (fun _ _ _ _ _ => True) (Q_teA Z s r v9 v2 q hi lo a1 h0 n0) := by
  refine own_startP (plainFor_of_name own_pn_java_math_BigDecimal) fun p e s' m below meth c s₁ Bd hx hby hml hown0 X0 e0 hh0 hZ hK Pst hPst => ?_
  have dE := own_E hby own_D27
  have hown : s'.vm.findClass "java/math/BigDecimal" = some m.cls := hown0
  have hnm := (name_of_methodNamed Bd.named Bd.method).1
  have N0 := Fr.nil n0
  rw [own_ef_R_1 m a1]
  refine o_aloadN X0.here hx (dE 0 rfl) rfl rfl ?_
  refine o_iconst X0.here hx (dE 1 rfl) (z := (0 : Int32)) rfl ?_
  refine o_bipush X0.here hx (dE 2 rfl) (z := (7 : Int32)) rfl ?_
  obtain ⟨cq101, kq101, q101a, q101b, q101c⟩ := isOf hZ e0 Ea1
  refine own_cP X0 (X0.virtualBack hx (y := Mn19) (z := Mn19) hown (mvT hZ (g_ hw 135 rfl)) (mvT hZ (g_ hw 136 rfl)) (notFace_of_selects (args := #[]) (mvT hZ (g_ hw 138 rfl))) (mvT hZ (g_ hw 138 rfl)) (mvT hZ (g_ hw 137 rfl)) (by decide) (backOf (W := 0) (rm_ss l Z a0 hw [] a1 h0 n0 Z0 Sa1) hZ (g_ hw 139 rfl) (g_ hw 45 rfl) (by decide) (by decide)) q101a q101c (g := (mkF m 4 #[.val (.ref a1)] [(.int (7 : Int32)), (.int (0 : Int32)), (.ref a1)])) rfl (by rw [hml]; rfl) (Steps.refl _) (argsL := [(.int (0 : Int32)), (.int (7 : Int32))]) (rest := []) (lenOf own_pd15 rfl) rfl (by show 2 * 0 + _ ≤ _; exact Nat.le_of_eq rfl) (dE 3 rfl) (fun _ _ => ⟨rfl, e0, (by decide : 0 + 0 ≤ _), (by decide : 0 + 0 ≤ _)⟩)) fun v101 T101 L101 X101 hQ101 => ?_
  obtain ⟨rfl, Nq101, e101⟩ := hQ101
  have N101 := Fr.app N0 Nq101
  show own_Go p e below Pst (T101.setTop (mkF m 7 #[.val (.ref a1)] [(.ref a1)]))
  obtain ⟨cq102, kq102, q102a, q102b, q102c⟩ := isOf hZ e101 Ea1
  refine own_cP X101 (X101.virtualBack hx (y := Mn6) (z := Mn6) hown (mvT hZ (g_ hw 140 rfl)) (mvT hZ (own_decl (g_ hw 141 rfl) (g_ hw 144 rfl))) (notFace_of_selects (args := #[]) (mvT hZ (g_ hw 143 rfl))) (mvT hZ (g_ hw 143 rfl)) (mvT hZ (g_ hw 141 rfl)) (by decide) (backOf (W := 0) (rm_ifA l Z a0 hw [] s r v9 v2 q hi lo a1 h0 n0 Z0 hA Ea1 Ca1 Sa1 Va1) hZ (g_ hw 144 rfl) (g_ hw 45 rfl) (by decide) (by decide)) q102a q102c (g := (mkF m 7 #[.val (.ref a1)] [(.ref a1)])) rfl (by rw [hml]; rfl) (Steps.refl _) (argsL := []) (rest := []) (lenOf own_pd16 rfl) rfl (by show 2 * 0 + _ ≤ _; exact Nat.le_of_eq rfl) (dE 4 rfl) (fun _ _ => ⟨rfl, e101, (by decide : 0 + 2 ≤ _), (by decide : 0 + 7 ≤ _)⟩)) fun v102 T102 L102 X102 hQ102 => ?_
  obtain ⟨x102, rfl, Nq102, K102, sx102, A102, S102, t102, k102, st_102, M102, V102⟩ := hQ102
  have N102 := Fr.app N101 Nq102
  have gn_x102 : n0 ≤ x102 := Nat.le_trans Z0 sx102
  have sz_x102 : h0.size ≤ x102 := Nat.le_trans (Keep.refl h0 []).1 sx102
  have gn_t102 : n0 ≤ t102 := Nat.le_trans Z0 st_102
  have sz_t102 : h0.size ≤ t102 := Nat.le_trans (Keep.refl h0 []).1 st_102
  show own_Go p e below Pst (T102.setTop (mkF m 10 #[.val (.ref a1)] [(.ref x102)]))
  have c103 := (Keep.trans (Keep.refl h0 []) K102 all0)
  rw [hPst]
  exact own_retP X102 (v := (some (.ref x102))) (Q := Q_teA Z s r v9 v2 q hi lo a1 h0 n0) (fun h => by rw [Bd.returns] at h; cases h) Bd.notSynchronized (fun fs hr => retOut X102 hx Bd.returns rfl (Or.inr (Or.inr (Or.inr (Or.inr ⟨rfl, rfl, rfl⟩)))) (dE 5 rfl) hr) (by decide) (by decide) ⟨_, rfl, N102, c103, sz_x102, A102, S102, _, _, sz_t102, M102, V102⟩
theorem own_f22 {s r v9 v2 : Int64} {q hi lo : Int32} (hV : own_VB s r v9 v2 q hi lo) : ¬ lcmpW v2 0 < 0 := by
  rcases hV with ⟨rfl, rfl, rfl, rfl, rfl, rfl, rfl⟩ | ⟨rfl, rfl, rfl, rfl, rfl, rfl, rfl⟩ | ⟨rfl, rfl, rfl, rfl, rfl, rfl, rfl⟩ | ⟨rfl, rfl, rfl, rfl, rfl, rfl, rfl⟩ | ⟨rfl, rfl, rfl, rfl, rfl, rfl, rfl⟩ | ⟨rfl, rfl, rfl, rfl, rfl, rfl, rfl⟩ | ⟨rfl, rfl, rfl, rfl, rfl, rfl, rfl⟩ | ⟨rfl, rfl, rfl, rfl, rfl, rfl, rfl⟩ | ⟨rfl, rfl, rfl, rfl, rfl, rfl, rfl⟩ | ⟨rfl, rfl, rfl, rfl, rfl, rfl, rfl⟩ <;> decide
theorem own_f23 {s r v9 v2 : Int64} {q hi lo : Int32} (hV : own_VB s r v9 v2 q hi lo) : (((v2.toUInt64 >>> ((32 : Int32) &&& 0x3f).toInt64.toUInt64).toInt64).toInt32) = hi := by
  rcases hV with ⟨rfl, rfl, rfl, rfl, rfl, rfl, rfl⟩ | ⟨rfl, rfl, rfl, rfl, rfl, rfl, rfl⟩ | ⟨rfl, rfl, rfl, rfl, rfl, rfl, rfl⟩ | ⟨rfl, rfl, rfl, rfl, rfl, rfl, rfl⟩ | ⟨rfl, rfl, rfl, rfl, rfl, rfl, rfl⟩ | ⟨rfl, rfl, rfl, rfl, rfl, rfl, rfl⟩ | ⟨rfl, rfl, rfl, rfl, rfl, rfl, rfl⟩ | ⟨rfl, rfl, rfl, rfl, rfl, rfl, rfl⟩ | ⟨rfl, rfl, rfl, rfl, rfl, rfl, rfl⟩ | ⟨rfl, rfl, rfl, rfl, rfl, rfl, rfl⟩ <;> decide
theorem own_f24 {s r v9 v2 : Int64} {q hi lo : Int32} (hV : own_VB s r v9 v2 q hi lo) : ¬ hi = 0 := by
  rcases hV with ⟨rfl, rfl, rfl, rfl, rfl, rfl, rfl⟩ | ⟨rfl, rfl, rfl, rfl, rfl, rfl, rfl⟩ | ⟨rfl, rfl, rfl, rfl, rfl, rfl, rfl⟩ | ⟨rfl, rfl, rfl, rfl, rfl, rfl, rfl⟩ | ⟨rfl, rfl, rfl, rfl, rfl, rfl, rfl⟩ | ⟨rfl, rfl, rfl, rfl, rfl, rfl, rfl⟩ | ⟨rfl, rfl, rfl, rfl, rfl, rfl, rfl⟩ | ⟨rfl, rfl, rfl, rfl, rfl, rfl, rfl⟩ | ⟨rfl, rfl, rfl, rfl, rfl, rfl, rfl⟩ | ⟨rfl, rfl, rfl, rfl, rfl, rfl, rfl⟩ <;> decide
theorem own_f25 {s r v9 v2 : Int64} {q hi lo : Int32} (hV : own_VB s r v9 v2 q hi lo) : (v2.toInt32) = lo := by
  rcases hV with ⟨rfl, rfl, rfl, rfl, rfl, rfl, rfl⟩ | ⟨rfl, rfl, rfl, rfl, rfl, rfl, rfl⟩ | ⟨rfl, rfl, rfl, rfl, rfl, rfl, rfl⟩ | ⟨rfl, rfl, rfl, rfl, rfl, rfl, rfl⟩ | ⟨rfl, rfl, rfl, rfl, rfl, rfl, rfl⟩ | ⟨rfl, rfl, rfl, rfl, rfl, rfl, rfl⟩ | ⟨rfl, rfl, rfl, rfl, rfl, rfl, rfl⟩ | ⟨rfl, rfl, rfl, rfl, rfl, rfl, rfl⟩ | ⟨rfl, rfl, rfl, rfl, rfl, rfl, rfl⟩ | ⟨rfl, rfl, rfl, rfl, rfl, rfl, rfl⟩ <;> decide
def Q_biB (Z : State) (s r v9 v2 : Int64) (q hi lo : Int32) (x : Addr) (u1 u2 : Value) (h0 : Heap) (n0 : Nat) (v : Option Value) (h : Heap) (L : List Loc) : Prop := v = none ∧ Fr n0 L ∧ Keep h0 h [x] ∧ Exa Z h x "java/math/BigInteger" ∧ Fld Z h x "java/math/BigInteger" "signum" "I" (.int (1 : Int32)) ∧ ∃ (t : Addr) (k : ClassId), h0.size ≤ t ∧ Fld Z h x "java/math/BigInteger" "mag" "[I" (.ref t) ∧ Arv Z h t k .int (2 : Int32) [(.int hi), (.int lo)] (.int 0)
theorem rm_biB (l : Launch) (Z : State) (a0 : Array Value) (hw : own_H a0 Z) (ws : List Jvm.Cond) (s r v9 v2 : Int64) (q hi lo : Int32) (x : Addr) (u1 u2 : Value) (h0 : Heap) (n0 : Nat) (Z0 : n0 ≤ h0.size) (hB : own_VB s r v9 v2 q hi lo) (E1 : Exa Z h0 x "java/math/BigInteger") (g1 : n0 ≤ x) (F1 : Fld Z h0 x "java/math/BigInteger" "signum" "I" u1) (F2 : Fld Z h0 x "java/math/BigInteger" "mag" "[I" u2) : own_MP l Mn30 jdk_2097_method_30_code 4 none ws ({ frames := 2, cells := 1, slots := 2, locals := 24 } : Room) Z h0 #[(.ref x), (.long v2)] (fun _ _ _ _ _ => True) (Q_biB Z s r v9 v2 q hi lo x u1 u2 h0 n0) := by
  refine own_startP (plainFor_of_name own_pn_java_math_BigInteger) fun p e s' m below meth c s₁ Bd hx hby hml hown0 X0 e0 hh0 hZ hK Pst hPst => ?_
  have dE := own_E hby own_D31
  have hown : s'.vm.findClass "java/math/BigInteger" = some m.cls := hown0
  have hnm := (name_of_methodNamed Bd.named Bd.method).1
  have N0 := Fr.nil n0
  rw [own_ef_RJ_4 m x v2]
  refine o_aloadN X0.here hx (dE 0 rfl) rfl rfl ?_
  refine own_cP X0 (X0.specialBack hx (y := Mn15) rfl hown (mvT hZ (g_ hw 156 rfl)) (mvT hZ (g_ hw 90 rfl)) (mvT hZ (g_ hw 94 rfl)) (by decide) (backOf (W := 0) (rm_num l Z a0 hw [] x h0 n0 Z0 ) hZ (g_ hw 94 rfl) (g_ hw 93 rfl) (by decide) (by decide)) (g := (mkF m 1 #[.val (.ref x), .val (.long v2), .second, .unset] [(.ref x)])) rfl (by rw [hml]; rfl) (Steps.refl _) (a := x) (argsL := []) (rest := []) (lenOf own_pd1 rfl) rfl (by show 2 * 0 + _ ≤ _; exact Nat.le_of_eq rfl) (dE 1 rfl) (fun _ _ => ⟨rfl, e0, (by decide : 0 + 0 ≤ _), (by decide : 0 + 0 ≤ _)⟩)) fun v101 T101 L101 X101 hQ101 => ?_
  obtain ⟨rfl, Nq101, e101⟩ := hQ101
  have N101 := Fr.app N0 Nq101
  show own_Go p e below Pst (T101.setTop (mkF m 4 #[.val (.ref x), .val (.long v2), .second, .unset] []))
  refine o_lloadN X101.here hx (dE 2 rfl) rfl ?_
  refine o_lconst X101.here hx (dE 3 rfl) (z := (0 : Int64)) rfl ?_
  refine o_lcmp X101.here hx (dE 4 rfl) rfl ?_
  refine o_ifYes X101.here hx (pc0 := 7) (pc' := 21) rfl (dE 5 rfl) rfl ((if0 _ _).trans (flt (own_f22 hB)).2.1) (by decide) (by decide) ?_
  refine o_aloadN X101.here hx (dE 6 rfl) rfl rfl ?_
  refine o_iconst X101.here hx (dE 7 rfl) (z := (1 : Int32)) rfl ?_
  refine p_putF X101 hx hZ hown (host := "") (Or.inl (g_ hw 158 rfl)) Via.refl e101 F1 E1 (Or.inr ⟨(g_ hw 159 rfl), rfl, hnm⟩) (g_ hw 151 rfl) (ty := .int) (by decide) rfl rfl rfl (dE 8 rfl) fun T102 h102 X102 e102 W102 => ?_
  have Fw102 := Fld.same W102 F1
  have N102 := Fr.snoc X102 N101 g1
  refine o_lloadN X102.here hx (dE 9 rfl) rfl ?_
  refine o_bipush X102.here hx (dE 10 rfl) (z := (32 : Int32)) rfl ?_
  refine o_lushr X102.here hx (dE 11 rfl) rfl ?_
  refine o_l2i X102.here hx (dE 12 rfl) rfl ?_
  rw [(own_f23 hB)]
  show own_Go p e below Pst (T102.setTop (mkF m 31 #[.val (.ref x), .val (.long v2), .second, .unset] [(.int hi)]))
  refine o_istoreN X102.here hx (dE 13 rfl) rfl (l' := #[.val (.ref x), .val (.long v2), .second, .val (.int hi)]) rfl ?_
  refine o_iloadN X102.here hx (dE 14 rfl) rfl ?_
  refine o_ifYes X102.here hx (pc0 := 33) (pc' := 54) rfl (dE 15 rfl) rfl ((if0 _ _).trans (feq (own_f24 hB)).2) (by decide) (by decide) ?_
  refine o_aloadN X102.here hx (dE 28 rfl) rfl rfl ?_
  refine o_iconst X102.here hx (dE 29 rfl) (z := (2 : Int32)) rfl ?_
  have c104 := (Nat.le_trans Z0 (Keep.of_wr W102).1)
  have c105 := ((Keep.refl h0 [x]).wr W102 (Or.inl (List.mem_of_getElem? (i := 0) rfl)))
  refine p_newP (aty := .int) X102 hx hZ (g_ hw 160 rfl) e102 (dE 30 rfl) rfl (by decide) (cap := 2) (by decide) (by decide) (by decide) (by decide) fun T103 h103 k103 b103 g103 X103 e103 E103 A103 => ?_
  have c106 := (E1.wr W102)
  have ne_x_b103 : x ≠ b103 := Nat.ne_of_lt (Nat.lt_of_lt_of_le c106.lt (Nat.le_of_eq g103.symm))
  have gn_b103 : n0 ≤ b103 := Nat.le_trans c104 (Nat.le_of_eq g103.symm)
  have sz_b103 : h0.size ≤ b103 := Nat.le_trans c105.1 (Nat.le_of_eq g103.symm)
  have V103 : Arv Z h103 b103 k103 .int (2 : Int32) [(.int (0 : Int32)), (.int (0 : Int32))] (.int (0 : Int32)) := (Arv.new A103 (by decide)).pad (pad_rep [] (.int (0 : Int32)) 2)
  have c107 := (c106.ext E103)
  have c108 := ((F2.other W102 (Or.inr (slot_ne (Or.inr (g_ hw 162 rfl)) (Or.inr (g_ hw 159 rfl)) (by decide) (t := (.array .int)) (t' := .int) (by decide) (by decide)))).ext E103)
  refine p_putF X103 hx hZ hown (host := "") (Or.inl (g_ hw 161 rfl)) Via.refl e103 c108 c107 (Or.inr ⟨(g_ hw 162 rfl), rfl, hnm⟩) (g_ hw 151 rfl) (ty := (.array .int)) (by decide) rfl rfl rfl (dE 31 rfl) fun T109 h109 X109 e109 W109 => ?_
  have Fw109 := Fld.same W109 c108
  have N109 := Fr.snoc X109 N102 g1
  refine o_aloadN X109.here hx (dE 32 rfl) rfl rfl ?_
  refine p_getF X109 hx hZ hown (host := "") (Or.inl (g_ hw 161 rfl)) Via.refl e109 Fw109 rfl (dE 33 rfl) fun T110 X110 e110 => ?_
  refine o_iconst X110.here hx (dE 34 rfl) (z := (0 : Int32)) rfl ?_
  refine o_iloadN X110.here hx (dE 35 rfl) rfl ?_
  have c111 := (V103.other W109 (Ne.symm ne_x_b103))
  refine p_arI X110 hx hZ e110 c111 (0 : Int32) 0 ⟨by decide, by decide⟩ rfl (Nat.le_of_ble_eq_true rfl) rfl (dE 36 rfl) fun T112 h112 X112 e112 W112 V112 => ?_
  have N112 := Fr.snoc X112 N109 gn_b103
  refine o_aloadN X112.here hx (dE 37 rfl) rfl rfl ?_
  have c113 := (Fw109.other W112 (Or.inl ne_x_b103))
  refine p_getF X112 hx hZ hown (host := "") (Or.inl (g_ hw 161 rfl)) Via.refl e112 c113 rfl (dE 38 rfl) fun T114 X114 e114 => ?_
  refine o_iconst X114.here hx (dE 39 rfl) (z := (1 : Int32)) rfl ?_
  refine o_lloadN X114.here hx (dE 40 rfl) rfl ?_
  refine o_l2i X114.here hx (dE 41 rfl) rfl ?_
  rw [(own_f25 hB)]
  show own_Go p e below Pst (T114.setTop (mkF m 75 #[.val (.ref x), .val (.long v2), .second, .val (.int hi)] [(.int lo), (.int (1 : Int32)), (.ref b103)]))
  refine p_arI X114 hx hZ e114 V112 (1 : Int32) 1 ⟨by decide, by decide⟩ rfl (Nat.le_of_ble_eq_true rfl) rfl (dE 42 rfl) fun T115 h115 X115 e115 W115 V115 => ?_
  have N115 := Fr.snoc X115 N112 gn_b103
  have c116 := ((((c105.ext E103).wr W109 (Or.inl (List.mem_of_getElem? (i := 0) rfl))).wr W112 (Or.inr sz_b103)).wr W115 (Or.inr sz_b103))
  have c117 := (((c107.wr W109).wr W112).wr W115)
  have c118 := ((((Fw102.ext E103).other W109 (Or.inr (slot_ne (Or.inr (g_ hw 159 rfl)) (Or.inr (g_ hw 162 rfl)) (by decide) (t := .int) (t' := (.array .int)) (by decide) (by decide)))).other W112 (Or.inl ne_x_b103)).other W115 (Or.inl ne_x_b103))
  have c119 := (c113.other W115 (Or.inl ne_x_b103))
  rw [hPst]
  exact own_retP X115 (v := none) (Q := Q_biB Z s r v9 v2 q hi lo x u1 u2 h0 n0) (fun _ => rfl) Bd.notSynchronized (fun fs hr => X115.returnOut hx Bd.returns (dE 27 rfl) hr) (by decide) (by decide) (by rw [e115]; exact ⟨rfl, N115, c116, c117, c118, _, _, sz_b103, c119, V115⟩)
theorem own_f26 {s r v9 v2 : Int64} {q hi lo : Int32} (hV : own_VB s r v9 v2 q hi lo) : ¬ lcmpW v2 0 = 0 := by
  rcases hV with ⟨rfl, rfl, rfl, rfl, rfl, rfl, rfl⟩ | ⟨rfl, rfl, rfl, rfl, rfl, rfl, rfl⟩ | ⟨rfl, rfl, rfl, rfl, rfl, rfl, rfl⟩ | ⟨rfl, rfl, rfl, rfl, rfl, rfl, rfl⟩ | ⟨rfl, rfl, rfl, rfl, rfl, rfl, rfl⟩ | ⟨rfl, rfl, rfl, rfl, rfl, rfl, rfl⟩ | ⟨rfl, rfl, rfl, rfl, rfl, rfl, rfl⟩ | ⟨rfl, rfl, rfl, rfl, rfl, rfl, rfl⟩ | ⟨rfl, rfl, rfl, rfl, rfl, rfl, rfl⟩ | ⟨rfl, rfl, rfl, rfl, rfl, rfl, rfl⟩ <;> decide
theorem own_f27 {s r v9 v2 : Int64} {q hi lo : Int32} (hV : own_VB s r v9 v2 q hi lo) : (0 : Int32) < lcmpW v2 0 := by
  rcases hV with ⟨rfl, rfl, rfl, rfl, rfl, rfl, rfl⟩ | ⟨rfl, rfl, rfl, rfl, rfl, rfl, rfl⟩ | ⟨rfl, rfl, rfl, rfl, rfl, rfl, rfl⟩ | ⟨rfl, rfl, rfl, rfl, rfl, rfl, rfl⟩ | ⟨rfl, rfl, rfl, rfl, rfl, rfl, rfl⟩ | ⟨rfl, rfl, rfl, rfl, rfl, rfl, rfl⟩ | ⟨rfl, rfl, rfl, rfl, rfl, rfl, rfl⟩ | ⟨rfl, rfl, rfl, rfl, rfl, rfl, rfl⟩ | ⟨rfl, rfl, rfl, rfl, rfl, rfl, rfl⟩ | ⟨rfl, rfl, rfl, rfl, rfl, rfl, rfl⟩ <;> decide
theorem own_f28 {s r v9 v2 : Int64} {q hi lo : Int32} (hV : own_VB s r v9 v2 q hi lo) : (0 : Int32) < lcmpW v2 (16 : Int64) := by
  rcases hV with ⟨rfl, rfl, rfl, rfl, rfl, rfl, rfl⟩ | ⟨rfl, rfl, rfl, rfl, rfl, rfl, rfl⟩ | ⟨rfl, rfl, rfl, rfl, rfl, rfl, rfl⟩ | ⟨rfl, rfl, rfl, rfl, rfl, rfl, rfl⟩ | ⟨rfl, rfl, rfl, rfl, rfl, rfl, rfl⟩ | ⟨rfl, rfl, rfl, rfl, rfl, rfl, rfl⟩ | ⟨rfl, rfl, rfl, rfl, rfl, rfl, rfl⟩ | ⟨rfl, rfl, rfl, rfl, rfl, rfl, rfl⟩ | ⟨rfl, rfl, rfl, rfl, rfl, rfl, rfl⟩ | ⟨rfl, rfl, rfl, rfl, rfl, rfl, rfl⟩ <;> decide
def Q_bvB (Z : State) (s r v9 v2 : Int64) (q hi lo : Int32) (h0 : Heap) (n0 : Nat) (v : Option Value) (h : Heap) (L : List Loc) : Prop := ∃ x : Addr, v = some (.ref x) ∧ Fr n0 L ∧ Keep h0 h [] ∧ h0.size ≤ x ∧ Exa Z h x "java/math/BigInteger" ∧ Fld Z h x "java/math/BigInteger" "signum" "I" (.int (1 : Int32)) ∧ ∃ (t : Addr) (k : ClassId), h0.size ≤ t ∧ Fld Z h x "java/math/BigInteger" "mag" "[I" (.ref t) ∧ Arv Z h t k .int (2 : Int32) [(.int hi), (.int lo)] (.int 0)
theorem rm_bvB (l : Launch) (Z : State) (a0 : Array Value) (hw : own_H a0 Z) (ws : List Jvm.Cond) (s r v9 v2 : Int64) (q hi lo : Int32) (h0 : Heap) (n0 : Nat) (Z0 : n0 ≤ h0.size) (hB : own_VB s r v9 v2 q hi lo) : own_MP l Mn31 jdk_2097_method_29_code 2 (some (.object "java/math/BigInteger")) ws ({ frames := 3, cells := 2, slots := 8, locals := 40 } : Room) Z h0 #[(.long v2)] (fun _ _ _ _ _ => True) (Q_bvB Z s r v9 v2 q hi lo h0 n0) := by
  refine own_startP (plainFor_of_name own_pn_java_math_BigInteger) fun p e s' m below meth c s₁ Bd hx hby hml hown0 X0 e0 hh0 hZ hK Pst hPst => ?_
  have dE := own_E hby own_D30
  have hown : s'.vm.findClass "java/math/BigInteger" = some m.cls := hown0
  have hnm := (name_of_methodNamed Bd.named Bd.method).1
  have N0 := Fr.nil n0
  rw [own_ef_J_2 m v2]
  refine o_lloadN X0.here hx (dE 0 rfl) rfl ?_
  refine o_lconst X0.here hx (dE 1 rfl) (z := (0 : Int64)) rfl ?_
  refine o_lcmp X0.here hx (dE 2 rfl) rfl ?_
  refine o_ifYes X0.here hx (pc0 := 3) (pc' := 10) rfl (dE 3 rfl) rfl ((if0 _ _).trans (feq (own_f26 hB)).2) (by decide) (by decide) ?_
  refine o_lloadN X0.here hx (dE 4 rfl) rfl ?_
  refine o_lconst X0.here hx (dE 5 rfl) (z := (0 : Int64)) rfl ?_
  refine o_lcmp X0.here hx (dE 6 rfl) rfl ?_
  refine o_ifNo X0.here hx (dE 7 rfl) rfl ((if0 _ _).trans (tlt (own_f27 hB)).2.2.2) ?_
  refine o_lloadN X0.here hx (dE 8 rfl) rfl ?_
  refine own_Go.of (S' := s₁.setTop (mkF m 20 #[.val (.long v2), .second] [(.long (16 : Int64)), (.long v2)])) (fun tgt kst => X0.ldc2Long hx hown (mvT hZ (g_ hw 149 rfl)) (g := (mkF m 17 #[.val (.long v2), .second] [(.long v2)])) rfl (dE 9 rfl) _ kst) ?_
  refine o_lcmp X0.here hx (dE 10 rfl) rfl ?_
  refine o_ifYes X0.here hx (pc0 := 21) (pc' := 31) rfl (dE 11 rfl) rfl ((if0 _ _).trans (tlt (own_f28 hB)).2.2.1) (by decide) (by decide) ?_
  refine o_lloadN X0.here hx (dE 12 rfl) rfl ?_
  refine o_lconst X0.here hx (dE 13 rfl) (z := (0 : Int64)) rfl ?_
  refine o_lcmp X0.here hx (dE 14 rfl) rfl ?_
  refine o_ifYes X0.here hx (pc0 := 34) (pc' := 53) rfl (dE 15 rfl) rfl ((if0 _ _).trans (flt (own_f22 hB)).2.1) (by decide) (by decide) ?_
  refine p_newO X0 hx hZ hown (g_ hw 150 rfl) (g_ hw 151 rfl) (g_ hw 147 rfl) e0 (dE 16 rfl) (by decide) (by decide) fun T101 h101 b101 g101 X101 e101 E101 A101 D101 U101 => ?_
  have gn_b101 : n0 ≤ b101 := Nat.le_trans Z0 (Nat.le_of_eq g101.symm)
  have sz_b101 : h0.size ≤ b101 := Nat.le_trans (Keep.refl h0 []).1 (Nat.le_of_eq g101.symm)
  have f101_signum : Fld Z h101 b101 "java/math/BigInteger" "signum" "I" (.int (0 : Int32)) := D101 (Or.inr (g_ hw 159 rfl)) (ty := .int) (by decide)
  have f101_mag : Fld Z h101 b101 "java/math/BigInteger" "mag" "[I" .null := D101 (Or.inr (g_ hw 162 rfl)) (ty := (.array .int)) (by decide)
  have f101_bitLengthPlusOne : Fld Z h101 b101 "java/math/BigInteger" "bitLengthPlusOne" "I" (.int (0 : Int32)) := D101 (Or.inl (g_ hw 243 rfl)) (ty := .int) (by decide)
  refine o_dup X101.here hx (dE 17 rfl) rfl rfl ?_
  refine o_lloadN X101.here hx (dE 18 rfl) rfl ?_
  have c103 := (Nat.le_trans Z0 E101.1)
  refine own_cP X101 (X101.specialBack hx (y := Mn30) rfl hown (mvT hZ (g_ hw 152 rfl)) (mvT hZ (g_ hw 153 rfl)) (mvT hZ (g_ hw 155 rfl)) (by decide) (backOf (W := 1) (rm_biB l Z a0 hw [] s r v9 v2 q hi lo b101 (.int 0) .null h101 n0 c103 hB A101 gn_b101 f101_signum f101_mag) hZ (g_ hw 155 rfl) (g_ hw 147 rfl) (by decide) (by decide)) (g := (mkF m 58 #[.val (.long v2), .second] [(.long v2), (.ref b101), (.ref b101)])) rfl (by rw [hml]; rfl) (Steps.refl _) (a := b101) (argsL := [(.long v2)]) (rest := [(.ref b101)]) (lenOf own_pd13 rfl) rfl (by show 2 * 0 + _ ≤ _; exact Nat.le_of_eq rfl) (dE 19 rfl) (fun _ _ => ⟨rfl, e101, (by decide : 1 + 1 ≤ _), (by decide : 6 + 2 ≤ _)⟩)) fun v102 T102 L102 X102 hQ102 => ?_
  obtain ⟨rfl, Nq102, K102, A102, S102, t102, k102, st_102, M102, V102⟩ := hQ102
  have N102 := Fr.app N0 Nq102
  show own_Go p e below Pst (T102.setTop (mkF m 61 #[.val (.long v2), .second] [(.ref b101)]))
  have st0 : h0.size ≤ t102 := Nat.le_trans ((Keep.refl h0 []).ext E101).1 st_102
  have c104 := (Keep.trans ((Keep.refl h0 []).ext E101) K102 (allS (Or.inr sz_b101) all0))
  rw [hPst]
  exact own_retP X102 (v := (some (.ref b101))) (Q := Q_bvB Z s r v9 v2 q hi lo h0 n0) (fun h => by rw [Bd.returns] at h; cases h) Bd.notSynchronized (fun fs hr => retOut X102 hx Bd.returns rfl (Or.inr (Or.inr (Or.inr (Or.inr ⟨rfl, rfl, rfl⟩)))) (dE 20 rfl) hr) (by decide) (by decide) ⟨_, rfl, N102, c104, sz_b101, A102, S102, _, _, st0, M102, V102⟩
def Q_ifB (Z : State) (s r v9 v2 : Int64) (q hi lo : Int32) (a1 : Addr) (h0 : Heap) (n0 : Nat) (v : Option Value) (h : Heap) (L : List Loc) : Prop := ∃ x : Addr, v = some (.ref x) ∧ Fr n0 L ∧ Keep h0 h [] ∧ h0.size ≤ x ∧ Exa Z h x "java/math/BigInteger" ∧ Fld Z h x "java/math/BigInteger" "signum" "I" (.int (1 : Int32)) ∧ ∃ (t : Addr) (k : ClassId), h0.size ≤ t ∧ Fld Z h x "java/math/BigInteger" "mag" "[I" (.ref t) ∧ Arv Z h t k .int (2 : Int32) [(.int hi), (.int lo)] (.int 0)
theorem rm_ifB (l : Launch) (Z : State) (a0 : Array Value) (hw : own_H a0 Z) (ws : List Jvm.Cond) (s r v9 v2 : Int64) (q hi lo : Int32) (a1 : Addr) (h0 : Heap) (n0 : Nat) (Z0 : n0 ≤ h0.size) (hB : own_VB s r v9 v2 q hi lo) (Ea1 : Exa Z h0 a1 "java/math/BigDecimal") (Ca1 : Fld Z h0 a1 "java/math/BigDecimal" "intCompact" "J" (.long v2)) (Sa1 : Fld Z h0 a1 "java/math/BigDecimal" "scale" "I" (.int (0 : Int32))) (Va1 : Fld Z h0 a1 "java/math/BigDecimal" "intVal" "Ljava/math/BigInteger;" .null) : own_MP l Mn6 jdk_17_method_99_code 1 (some (.object "java/math/BigInteger")) ws ({ frames := 4, cells := 2, slots := 8, locals := 53 } : Room) Z h0 #[(.ref a1)] (fun _ _ _ _ _ => True) (Q_ifB Z s r v9 v2 q hi lo a1 h0 n0) := by
  refine own_startP (plainFor_of_name own_pn_java_math_BigDecimal) fun p e s' m below meth c s₁ Bd hx hby hml hown0 X0 e0 hh0 hZ hK Pst hPst => ?_
  have dE := own_E hby own_D29
  have hown : s'.vm.findClass "java/math/BigDecimal" = some m.cls := hown0
  have hnm := (name_of_methodNamed Bd.named Bd.method).1
  have N0 := Fr.nil n0
  rw [own_ef_R_1 m a1]
  refine o_aloadN X0.here hx (dE 0 rfl) rfl rfl ?_
  refine p_getF X0 hx hZ hown (host := "") (Or.inl (g_ hw 100 rfl)) Via.refl e0 Va1 rfl (dE 1 rfl) fun T101 X101 e101 => ?_
  refine o_ifnonnullNo X101.here hx (dE 2 rfl) rfl ?_
  refine o_aloadN X101.here hx (dE 3 rfl) rfl rfl ?_
  refine p_getF X101 hx hZ hown (host := "") (Or.inl (g_ hw 60 rfl)) Via.refl e101 Ca1 rfl (dE 4 rfl) fun T102 X102 e102 => ?_
  refine own_cF X102 (Jvm.LawKit.callS X102 hx (y := Mn31) hown (mvT hZ (g_ hw 145 rfl)) (mvT hZ (g_ hw 146 rfl)) (mvT hZ (g_ hw 147 rfl)) (mvT hZ (g_ hw 148 rfl)) (by decide) (backOf (W := 0) (rm_bvB l Z a0 hw [] s r v9 v2 q hi lo h0 n0 Z0 hB) hZ (g_ hw 148 rfl) (g_ hw 147 rfl) (by decide) (by decide)) (g := (mkF m 11 #[.val (.ref a1)] [(.long v2)])) rfl (by rw [hml]; rfl) (argsL := [(.long v2)]) (rest := []) (lenOf own_pd14 rfl) rfl (by show 2 * 0 + _ ≤ _; exact Nat.le_of_eq rfl) (dE 5 rfl) (fun _ _ => ⟨rfl, e102, (by decide : 0 + 2 ≤ _), (by decide : 0 + 8 ≤ _)⟩)) fun v103 T103 L103 X103 hQ103 => ?_
  obtain ⟨x103, rfl, Nq103, K103, sx103, A103, S103, t103, k103, st_103, M103, V103⟩ := hQ103
  have N103 := Fr.app N0 Nq103
  have gn_x103 : n0 ≤ x103 := Nat.le_trans Z0 sx103
  have sz_x103 : h0.size ≤ x103 := Nat.le_trans (Keep.refl h0 []).1 sx103
  have gn_t103 : n0 ≤ t103 := Nat.le_trans Z0 st_103
  have sz_t103 : h0.size ≤ t103 := Nat.le_trans (Keep.refl h0 []).1 st_103
  show own_Go p e below Pst (T103.setTop (mkF m 14 #[.val (.ref a1)] [(.ref x103)]))
  have c104 := (Keep.trans (Keep.refl h0 []) K103 all0)
  rw [hPst]
  exact own_retP X103 (v := (some (.ref x103))) (Q := Q_ifB Z s r v9 v2 q hi lo a1 h0 n0) (fun h => by rw [Bd.returns] at h; cases h) Bd.notSynchronized (fun fs hr => retOut X103 hx Bd.returns rfl (Or.inr (Or.inr (Or.inr (Or.inr ⟨rfl, rfl, rfl⟩)))) (dE 6 rfl) hr) (by decide) (by decide) ⟨_, rfl, N103, c104, sz_x103, A103, S103, _, _, sz_t103, M103, V103⟩
def Q_teB (Z : State) (s r v9 v2 : Int64) (q hi lo : Int32) (a1 : Addr) (h0 : Heap) (n0 : Nat) (v : Option Value) (h : Heap) (L : List Loc) : Prop := ∃ x : Addr, v = some (.ref x) ∧ Fr n0 L ∧ Keep h0 h [] ∧ h0.size ≤ x ∧ Exa Z h x "java/math/BigInteger" ∧ Fld Z h x "java/math/BigInteger" "signum" "I" (.int (1 : Int32)) ∧ ∃ (t : Addr) (k : ClassId), h0.size ≤ t ∧ Fld Z h x "java/math/BigInteger" "mag" "[I" (.ref t) ∧ Arv Z h t k .int (2 : Int32) [(.int hi), (.int lo)] (.int 0)
theorem rm_teB (l : Launch) (Z : State) (a0 : Array Value) (hw : own_H a0 Z) (ws : List Jvm.Cond) (s r v9 v2 : Int64) (q hi lo : Int32) (a1 : Addr) (h0 : Heap) (n0 : Nat) (Z0 : n0 ≤ h0.size) (hB : own_VB s r v9 v2 q hi lo) (Ea1 : Exa Z h0 a1 "java/math/BigDecimal") (Ca1 : Fld Z h0 a1 "java/math/BigDecimal" "intCompact" "J" (.long v2)) (Sa1 : Fld Z h0 a1 "java/math/BigDecimal" "scale" "I" (.int (0 : Int32))) (Va1 : Fld Z h0 a1 "java/math/BigDecimal" "intVal" "Ljava/math/BigInteger;" .null) : own_MP l Mn7 jdk_17_method_81_code 1 (some (.object "java/math/BigInteger")) ws ({ frames := 5, cells := 2, slots := 8, locals := 65 } : Room) Z h0 #[(.ref a1)] (fun _ _ _ _ _ => True) (Q_teB Z s r v9 v2 q hi lo a1 h0 n0) := by
  refine own_startP (plainFor_of_name own_pn_java_math_BigDecimal) fun p e s' m below meth c s₁ Bd hx hby hml hown0 X0 e0 hh0 hZ hK Pst hPst => ?_
  have dE := own_E hby own_D27
  have hown : s'.vm.findClass "java/math/BigDecimal" = some m.cls := hown0
  have hnm := (name_of_methodNamed Bd.named Bd.method).1
  have N0 := Fr.nil n0
  rw [own_ef_R_1 m a1]
  refine o_aloadN X0.here hx (dE 0 rfl) rfl rfl ?_
  refine o_iconst X0.here hx (dE 1 rfl) (z := (0 : Int32)) rfl ?_
  refine o_bipush X0.here hx (dE 2 rfl) (z := (7 : Int32)) rfl ?_
  obtain ⟨cq101, kq101, q101a, q101b, q101c⟩ := isOf hZ e0 Ea1
  refine own_cP X0 (X0.virtualBack hx (y := Mn19) (z := Mn19) hown (mvT hZ (g_ hw 135 rfl)) (mvT hZ (g_ hw 136 rfl)) (notFace_of_selects (args := #[]) (mvT hZ (g_ hw 138 rfl))) (mvT hZ (g_ hw 138 rfl)) (mvT hZ (g_ hw 137 rfl)) (by decide) (backOf (W := 0) (rm_ss l Z a0 hw [] a1 h0 n0 Z0 Sa1) hZ (g_ hw 139 rfl) (g_ hw 45 rfl) (by decide) (by decide)) q101a q101c (g := (mkF m 4 #[.val (.ref a1)] [(.int (7 : Int32)), (.int (0 : Int32)), (.ref a1)])) rfl (by rw [hml]; rfl) (Steps.refl _) (argsL := [(.int (0 : Int32)), (.int (7 : Int32))]) (rest := []) (lenOf own_pd15 rfl) rfl (by show 2 * 0 + _ ≤ _; exact Nat.le_of_eq rfl) (dE 3 rfl) (fun _ _ => ⟨rfl, e0, (by decide : 0 + 0 ≤ _), (by decide : 0 + 0 ≤ _)⟩)) fun v101 T101 L101 X101 hQ101 => ?_
  obtain ⟨rfl, Nq101, e101⟩ := hQ101
  have N101 := Fr.app N0 Nq101
  show own_Go p e below Pst (T101.setTop (mkF m 7 #[.val (.ref a1)] [(.ref a1)]))
  obtain ⟨cq102, kq102, q102a, q102b, q102c⟩ := isOf hZ e101 Ea1
  refine own_cP X101 (X101.virtualBack hx (y := Mn6) (z := Mn6) hown (mvT hZ (g_ hw 140 rfl)) (mvT hZ (own_decl (g_ hw 141 rfl) (g_ hw 144 rfl))) (notFace_of_selects (args := #[]) (mvT hZ (g_ hw 143 rfl))) (mvT hZ (g_ hw 143 rfl)) (mvT hZ (g_ hw 141 rfl)) (by decide) (backOf (W := 0) (rm_ifB l Z a0 hw [] s r v9 v2 q hi lo a1 h0 n0 Z0 hB Ea1 Ca1 Sa1 Va1) hZ (g_ hw 144 rfl) (g_ hw 45 rfl) (by decide) (by decide)) q102a q102c (g := (mkF m 7 #[.val (.ref a1)] [(.ref a1)])) rfl (by rw [hml]; rfl) (Steps.refl _) (argsL := []) (rest := []) (lenOf own_pd16 rfl) rfl (by show 2 * 0 + _ ≤ _; exact Nat.le_of_eq rfl) (dE 4 rfl) (fun _ _ => ⟨rfl, e101, (by decide : 0 + 2 ≤ _), (by decide : 0 + 8 ≤ _)⟩)) fun v102 T102 L102 X102 hQ102 => ?_
  obtain ⟨x102, rfl, Nq102, K102, sx102, A102, S102, t102, k102, st_102, M102, V102⟩ := hQ102
  have N102 := Fr.app N101 Nq102
  have gn_x102 : n0 ≤ x102 := Nat.le_trans Z0 sx102
  have sz_x102 : h0.size ≤ x102 := Nat.le_trans (Keep.refl h0 []).1 sx102
  have gn_t102 : n0 ≤ t102 := Nat.le_trans Z0 st_102
  have sz_t102 : h0.size ≤ t102 := Nat.le_trans (Keep.refl h0 []).1 st_102
  show own_Go p e below Pst (T102.setTop (mkF m 10 #[.val (.ref a1)] [(.ref x102)]))
  have c103 := (Keep.trans (Keep.refl h0 []) K102 all0)
  rw [hPst]
  exact own_retP X102 (v := (some (.ref x102))) (Q := Q_teB Z s r v9 v2 q hi lo a1 h0 n0) (fun h => by rw [Bd.returns] at h; cases h) Bd.notSynchronized (fun fs hr => retOut X102 hx Bd.returns rfl (Or.inr (Or.inr (Or.inr (Or.inr ⟨rfl, rfl, rfl⟩)))) (dE 5 rfl) hr) (by decide) (by decide) ⟨_, rfl, N102, c103, sz_x102, A102, S102, _, _, sz_t102, M102, V102⟩
theorem own_pn_java_math_MutableBigInteger : plainName "java/math/MutableBigInteger" = true := by first | (simp [plainName, overriddenIn]; done) | decide +kernel
def Q_m0 (Z : State) (a1 : Addr) (u1 u2 u3 : Value) (h0 : Heap) (n0 : Nat) (v : Option Value) (h : Heap) (L : List Loc) : Prop := v = none ∧ Fr n0 L ∧ Keep h0 h [a1] ∧ ∃ (t : Addr) (k : ClassId), h0.size ≤ t ∧ Exa Z h a1 "java/math/MutableBigInteger" ∧ Fld Z h a1 "java/math/MutableBigInteger" "offset" "I" (.int (0 : Int32)) ∧ Fld Z h a1 "java/math/MutableBigInteger" "value" "[I" (.ref t) ∧ Fld Z h a1 "java/math/MutableBigInteger" "intLen" "I" (.int (0 : Int32)) ∧ Arv Z h t k .int (1 : Int32) [(.int 0)] (.int 0)
theorem rm_m0 (l : Launch) (Z : State) (a0 : Array Value) (hw : own_H a0 Z) (ws : List Jvm.Cond) (a1 : Addr) (u1 u2 u3 : Value) (h0 : Heap) (n0 : Nat) (Z0 : n0 ≤ h0.size) (E1 : Exa Z h0 a1 "java/math/MutableBigInteger") (g1 : n0 ≤ a1) (F1 : Fld Z h0 a1 "java/math/MutableBigInteger" "offset" "I" u1) (F2 : Fld Z h0 a1 "java/math/MutableBigInteger" "value" "[I" u2) (F3 : Fld Z h0 a1 "java/math/MutableBigInteger" "intLen" "I" u3) : own_MP l Mn20 jdk_2101_method_1_code 1 none ws ({ frames := 1, cells := 1, slots := 1, locals := 12 } : Room) Z h0 #[(.ref a1)] (fun _ _ _ _ _ => True) (Q_m0 Z a1 u1 u2 u3 h0 n0) := by
  refine own_startP (plainFor_of_name own_pn_java_math_MutableBigInteger) fun p e s m below meth c s₁ Bd hx hby hml hown0 X0 e0 hh0 hZ hK Pst hPst => ?_
  have dE := own_E hby own_D34
  have hown : s.vm.findClass "java/math/MutableBigInteger" = some m.cls := hown0
  have hnm := (name_of_methodNamed Bd.named Bd.method).1
  have N0 := Fr.nil n0
  rw [own_ef_R_1 m a1]
  refine o_aloadN X0.here hx (dE 0 rfl) rfl rfl ?_
  refine p_initO X0 hx hZ hown (g_ hw 182 rfl) (g_ hw 96 rfl) (g_ hw 97 rfl) e0 (by rw [hml]; rfl) rfl (dE 1 rfl) (by decide) (W := 0) (by show 2 * 0 + _ ≤ _; exact Nat.le_of_eq rfl) (by decide) fun T101 X101 e101 => ?_
  refine o_aloadN X101.here hx (dE 2 rfl) rfl rfl ?_
  refine o_iconst X101.here hx (dE 3 rfl) (z := (0 : Int32)) rfl ?_
  refine p_putF X101 hx hZ hown (host := "") (Or.inl (g_ hw 183 rfl)) Via.refl e101 F1 E1 (Or.inl (g_ hw 184 rfl)) (g_ hw 176 rfl) (ty := .int) (by decide) rfl rfl rfl (dE 4 rfl) fun T102 h102 X102 e102 W102 => ?_
  have Fw102 := Fld.same W102 F1
  have N102 := Fr.snoc X102 N0 g1
  refine o_aloadN X102.here hx (dE 5 rfl) rfl rfl ?_
  refine o_iconst X102.here hx (dE 6 rfl) (z := (1 : Int32)) rfl ?_
  have c104 := (Nat.le_trans Z0 (Keep.of_wr W102).1)
  have c105 := ((Keep.refl h0 [a1]).wr W102 (Or.inl (List.mem_of_getElem? (i := 0) rfl)))
  refine p_newP (aty := .int) X102 hx hZ (g_ hw 160 rfl) e102 (dE 7 rfl) rfl (by decide) (cap := 1) (by decide) (by decide) (by decide) (by decide) fun T103 h103 k103 b103 g103 X103 e103 E103 A103 => ?_
  have c106 := (E1.wr W102)
  have ne_a1_b103 : a1 ≠ b103 := Nat.ne_of_lt (Nat.lt_of_lt_of_le c106.lt (Nat.le_of_eq g103.symm))
  have gn_b103 : n0 ≤ b103 := Nat.le_trans c104 (Nat.le_of_eq g103.symm)
  have sz_b103 : h0.size ≤ b103 := Nat.le_trans c105.1 (Nat.le_of_eq g103.symm)
  have V103 : Arv Z h103 b103 k103 .int (1 : Int32) [(.int (0 : Int32))] (.int (0 : Int32)) := (Arv.new A103 (by decide)).pad (pad_rep [] (.int (0 : Int32)) 1)
  have c107 := (c106.ext E103)
  have c108 := ((F2.other W102 (Or.inr (slot_ne (Or.inl (g_ hw 186 rfl)) (Or.inl (g_ hw 184 rfl)) (by decide) (t := (.array .int)) (t' := .int) (by decide) (by decide)))).ext E103)
  refine p_putF X103 hx hZ hown (host := "") (Or.inl (g_ hw 185 rfl)) Via.refl e103 c108 c107 (Or.inl (g_ hw 186 rfl)) (g_ hw 176 rfl) (ty := (.array .int)) (by decide) rfl rfl rfl (dE 8 rfl) fun T109 h109 X109 e109 W109 => ?_
  have Fw109 := Fld.same W109 c108
  have N109 := Fr.snoc X109 N102 g1
  refine o_aloadN X109.here hx (dE 9 rfl) rfl rfl ?_
  refine o_iconst X109.here hx (dE 10 rfl) (z := (0 : Int32)) rfl ?_
  have c110 := (c107.wr W109)
  have c111 := (((F3.other W102 (Or.inr (slot_ne (Or.inl (g_ hw 188 rfl)) (Or.inl (g_ hw 184 rfl)) (by decide) (t := .int) (t' := .int) (by decide) (by decide)))).ext E103).other W109 (Or.inr (slot_ne (Or.inl (g_ hw 188 rfl)) (Or.inl (g_ hw 186 rfl)) (by decide) (t := .int) (t' := (.array .int)) (by decide) (by decide))))
  refine p_putF X109 hx hZ hown (host := "") (Or.inl (g_ hw 187 rfl)) Via.refl e109 c111 c110 (Or.inl (g_ hw 188 rfl)) (g_ hw 176 rfl) (ty := .int) (by decide) rfl rfl rfl (dE 11 rfl) fun T112 h112 X112 e112 W112 => ?_
  have Fw112 := Fld.same W112 c111
  have N112 := Fr.snoc X112 N109 g1
  have c113 := (((c105.ext E103).wr W109 (Or.inl (List.mem_of_getElem? (i := 0) rfl))).wr W112 (Or.inl (List.mem_of_getElem? (i := 0) rfl)))
  have c114 := (c110.wr W112)
  have c115 := (((Fw102.ext E103).other W109 (Or.inr (slot_ne (Or.inl (g_ hw 184 rfl)) (Or.inl (g_ hw 186 rfl)) (by decide) (t := .int) (t' := (.array .int)) (by decide) (by decide)))).other W112 (Or.inr (slot_ne (Or.inl (g_ hw 184 rfl)) (Or.inl (g_ hw 188 rfl)) (by decide) (t := .int) (t' := .int) (by decide) (by decide))))
  have c116 := (Fw109.other W112 (Or.inr (slot_ne (Or.inl (g_ hw 186 rfl)) (Or.inl (g_ hw 188 rfl)) (by decide) (t := (.array .int)) (t' := .int) (by decide) (by decide))))
  have c117 := ((V103.other W109 (Ne.symm ne_a1_b103)).other W112 (Ne.symm ne_a1_b103))
  rw [hPst]
  exact own_retP X112 (v := none) (Q := Q_m0 Z a1 u1 u2 u3 h0 n0) (fun _ => rfl) Bd.notSynchronized (fun fs hr => X112.returnOut hx Bd.returns (dE 12 rfl) hr) (by decide) (by decide) (by rw [e112]; exact ⟨rfl, N112, c113, _, _, sz_b103, c114, c115, c116, Fw112, c117⟩)
def Q_m1 (Z : State) (a1 a2 : Addr) (k : ClassId) (n : Int32) (vs : List Value) (u1 u2 u3 : Value) (h0 : Heap) (n0 : Nat) (v : Option Value) (h : Heap) (L : List Loc) : Prop := v = none ∧ Fr n0 L ∧ Keep h0 h [a1] ∧ Exa Z h a1 "java/math/MutableBigInteger" ∧ Fld Z h a1 "java/math/MutableBigInteger" "offset" "I" (.int (0 : Int32)) ∧ Fld Z h a1 "java/math/MutableBigInteger" "value" "[I" (.ref a2) ∧ Fld Z h a1 "java/math/MutableBigInteger" "intLen" "I" (.int n)
theorem rm_m1 (l : Launch) (Z : State) (a0 : Array Value) (hw : own_H a0 Z) (ws : List Jvm.Cond) (a1 a2 : Addr) (k : ClassId) (n : Int32) (vs : List Value) (u1 u2 u3 : Value) (h0 : Heap) (n0 : Nat) (Z0 : n0 ≤ h0.size) (E1 : Exa Z h0 a1 "java/math/MutableBigInteger") (g1 : n0 ≤ a1) (F1 : Fld Z h0 a1 "java/math/MutableBigInteger" "offset" "I" u1) (F2 : Fld Z h0 a1 "java/math/MutableBigInteger" "value" "[I" u2) (F3 : Fld Z h0 a1 "java/math/MutableBigInteger" "intLen" "I" u3) (A2 : Arv Z h0 a2 k .int n vs (.int 0)) : own_MP l Mn21 jdk_2101_method_3_code 2 none ws ({ frames := 1, cells := 0, slots := 0, locals := 12 } : Room) Z h0 #[(.ref a1), (.ref a2)] (fun _ _ _ _ _ => True) (Q_m1 Z a1 a2 k n vs u1 u2 u3 h0 n0) := by
  refine own_startP (plainFor_of_name own_pn_java_math_MutableBigInteger) fun p e s m below meth c s₁ Bd hx hby hml hown0 X0 e0 hh0 hZ hK Pst hPst => ?_
  have dE := own_E hby own_D35
  have hown : s.vm.findClass "java/math/MutableBigInteger" = some m.cls := hown0
  have hnm := (name_of_methodNamed Bd.named Bd.method).1
  have N0 := Fr.nil n0
  rw [own_ef_RR_2 m a1 a2]
  have ne2 : a2 ≠ a1 := Ne.symm (Exa.neArv E1 A2 (g_ hw 176 rfl))
  refine o_aloadN X0.here hx (dE 0 rfl) rfl rfl ?_
  refine p_initO X0 hx hZ hown (g_ hw 182 rfl) (g_ hw 96 rfl) (g_ hw 97 rfl) e0 (by rw [hml]; rfl) rfl (dE 1 rfl) (by decide) (W := 0) (by show 2 * 0 + _ ≤ _; exact Nat.le_of_eq rfl) (by decide) fun T101 X101 e101 => ?_
  refine o_aloadN X101.here hx (dE 2 rfl) rfl rfl ?_
  refine o_iconst X101.here hx (dE 3 rfl) (z := (0 : Int32)) rfl ?_
  refine p_putF X101 hx hZ hown (host := "") (Or.inl (g_ hw 183 rfl)) Via.refl e101 F1 E1 (Or.inl (g_ hw 184 rfl)) (g_ hw 176 rfl) (ty := .int) (by decide) rfl rfl rfl (dE 4 rfl) fun T102 h102 X102 e102 W102 => ?_
  have Fw102 := Fld.same W102 F1
  have N102 := Fr.snoc X102 N0 g1
  refine o_aloadN X102.here hx (dE 5 rfl) rfl rfl ?_
  refine o_aloadN X102.here hx (dE 6 rfl) rfl rfl ?_
  have c103 := (E1.wr W102)
  have c104 := (F2.other W102 (Or.inr (slot_ne (Or.inl (g_ hw 186 rfl)) (Or.inl (g_ hw 184 rfl)) (by decide) (t := (.array .int)) (t' := .int) (by decide) (by decide))))
  refine p_putF X102 hx hZ hown (host := "") (Or.inl (g_ hw 185 rfl)) Via.refl e102 c104 c103 (Or.inl (g_ hw 186 rfl)) (g_ hw 176 rfl) (ty := (.array .int)) (by decide) rfl rfl rfl (dE 7 rfl) fun T105 h105 X105 e105 W105 => ?_
  have Fw105 := Fld.same W105 c104
  have N105 := Fr.snoc X105 N102 g1
  refine o_aloadN X105.here hx (dE 8 rfl) rfl rfl ?_
  refine o_aloadN X105.here hx (dE 9 rfl) rfl rfl ?_
  have c106 := ((A2.other W102 ne2).other W105 ne2)
  obtain ⟨cl107, Ar107, -, S107, P107, -, -⟩ := id c106
  refine own_Go.of (S' := T105.setTop (mkF m 17 #[.val (.ref a1), .val (.ref a2)] [(.int n), (.ref a1)])) (fun tgt kst => X105.arraylength hx (by rw [e105]; exact Ar107.1) (State.isArrayOf_alike hZ.alike Ar107.2.1) (g := (mkF m 16 #[.val (.ref a1), .val (.ref a2)] [(.ref a2), (.ref a1)])) rfl rfl (dE 10 rfl) _ (by rw [len_of S107 P107]; exact kst)) ?_
  have c108 := (c103.wr W105)
  have c109 := ((F3.other W102 (Or.inr (slot_ne (Or.inl (g_ hw 188 rfl)) (Or.inl (g_ hw 184 rfl)) (by decide) (t := .int) (t' := .int) (by decide) (by decide)))).other W105 (Or.inr (slot_ne (Or.inl (g_ hw 188 rfl)) (Or.inl (g_ hw 186 rfl)) (by decide) (t := .int) (t' := (.array .int)) (by decide) (by decide))))
  refine p_putF X105 hx hZ hown (host := "") (Or.inl (g_ hw 187 rfl)) Via.refl e105 c109 c108 (Or.inl (g_ hw 188 rfl)) (g_ hw 176 rfl) (ty := .int) (by decide) rfl rfl rfl (dE 11 rfl) fun T110 h110 X110 e110 W110 => ?_
  have Fw110 := Fld.same W110 c109
  have N110 := Fr.snoc X110 N105 g1
  have c111 := ((((Keep.refl h0 [a1]).wr W102 (Or.inl (List.mem_of_getElem? (i := 0) rfl))).wr W105 (Or.inl (List.mem_of_getElem? (i := 0) rfl))).wr W110 (Or.inl (List.mem_of_getElem? (i := 0) rfl)))
  have c112 := (c108.wr W110)
  have c113 := ((Fw102.other W105 (Or.inr (slot_ne (Or.inl (g_ hw 184 rfl)) (Or.inl (g_ hw 186 rfl)) (by decide) (t := .int) (t' := (.array .int)) (by decide) (by decide)))).other W110 (Or.inr (slot_ne (Or.inl (g_ hw 184 rfl)) (Or.inl (g_ hw 188 rfl)) (by decide) (t := .int) (t' := .int) (by decide) (by decide))))
  have c114 := (Fw105.other W110 (Or.inr (slot_ne (Or.inl (g_ hw 186 rfl)) (Or.inl (g_ hw 188 rfl)) (by decide) (t := (.array .int)) (t' := .int) (by decide) (by decide))))
  rw [hPst]
  exact own_retP X110 (v := none) (Q := Q_m1 Z a1 a2 k n vs u1 u2 u3 h0 n0) (fun _ => rfl) Bd.notSynchronized (fun fs hr => X110.returnOut hx Bd.returns (dE 12 rfl) hr) (by decide) (by decide) (by rw [e110]; exact ⟨rfl, N110, c111, c112, c113, c114, Fw110⟩)
theorem own_f29 {s r v9 v2 : Int64} {q hi lo : Int32} (hV : own_VA s r v9 v2 q hi lo) : ¬ (lo + (-2147483648 : Int32)) < ((1000000000 : Int32) + (-2147483648 : Int32)) := by
  rcases hV with ⟨rfl, rfl, rfl, rfl, rfl, rfl, rfl⟩ | ⟨rfl, rfl, rfl, rfl, rfl, rfl, rfl⟩ <;> decide
theorem own_f30 {s r v9 v2 : Int64} {q hi lo : Int32} (hV : own_VA s r v9 v2 q hi lo) : ((1000000000 : Int32) + (-2147483648 : Int32)) < (lo + (-2147483648 : Int32)) := by
  rcases hV with ⟨rfl, rfl, rfl, rfl, rfl, rfl, rfl⟩ | ⟨rfl, rfl, rfl, rfl, rfl, rfl, rfl⟩ <;> decide
theorem own_ef_RR_8 (m : MethodId) (x0 : Addr) (x1 : Addr) : entryFrame m #[(.ref x0), (.ref x1)] 8 = mkF m 0 #[.val (.ref x0), .val (.ref x1), .unset, .unset, .unset, .unset, .unset, .unset] [] := by first | (simp [entryFrame, mkF, argsToLocals, Value.category]; done) | rfl
def Q_cpA (Z : State) (s r v9 v2 : Int64) (q hi lo : Int32) (a1 a2 t1 t2 : Addr) (k1 k2 : ClassId) (h0 : Heap) (n0 : Nat) (v : Option Value) (h : Heap) (L : List Loc) : Prop := v = some (.int (1 : Int32)) ∧ Fr n0 L ∧ h = h0
theorem rm_cpA (l : Launch) (Z : State) (a0 : Array Value) (hw : own_H a0 Z) (ws : List Jvm.Cond) (s r v9 v2 : Int64) (q hi lo : Int32) (a1 a2 t1 t2 : Addr) (k1 k2 : ClassId) (h0 : Heap) (n0 : Nat) (Z0 : n0 ≤ h0.size) (hA : own_VA s r v9 v2 q hi lo) (Ea1 : Exa Z h0 a1 "java/math/MutableBigInteger") (Oa1 : Fld Z h0 a1 "java/math/MutableBigInteger" "offset" "I" (.int (0 : Int32))) (Va1 : Fld Z h0 a1 "java/math/MutableBigInteger" "value" "[I" (.ref t1)) (Ia1 : Fld Z h0 a1 "java/math/MutableBigInteger" "intLen" "I" (.int (1 : Int32))) (Ea2 : Exa Z h0 a2 "java/math/MutableBigInteger") (Oa2 : Fld Z h0 a2 "java/math/MutableBigInteger" "offset" "I" (.int (0 : Int32))) (Va2 : Fld Z h0 a2 "java/math/MutableBigInteger" "value" "[I" (.ref t2)) (Ia2 : Fld Z h0 a2 "java/math/MutableBigInteger" "intLen" "I" (.int (1 : Int32))) (A1 : Arv Z h0 t1 k1 .int (1 : Int32) [(.int lo)] (.int 0)) (A5 : Arv Z h0 t2 k2 .int (1 : Int32) [(.int 1000000000)] (.int 0)) : own_MP l Mn8 jdk_2101_method_15_code 8 (some .int) ws ({ frames := 0, cells := 0, slots := 0, locals := 0 } : Room) Z h0 #[(.ref a1), (.ref a2)] (fun _ _ _ _ _ => True) (Q_cpA Z s r v9 v2 q hi lo a1 a2 t1 t2 k1 k2 h0 n0) := by
  refine own_startP (plainFor_of_name own_pn_java_math_MutableBigInteger) fun p e s' m below meth c s₁ Bd hx hby hml hown0 X0 e0 hh0 hZ hK Pst hPst => ?_
  have dE := own_E hby own_D38
  have hown : s'.vm.findClass "java/math/MutableBigInteger" = some m.cls := hown0
  have hnm := (name_of_methodNamed Bd.named Bd.method).1
  have N0 := Fr.nil n0
  rw [own_ef_RR_8 m a1 a2]
  refine o_aloadN X0.here hx (dE 0 rfl) rfl rfl ?_
  refine p_getF X0 hx hZ hown (host := "") (Or.inl (g_ hw 187 rfl)) Via.refl e0 Ia2 rfl (dE 1 rfl) fun T101 X101 e101 => ?_
  refine o_istoreN X101.here hx (dE 2 rfl) rfl (l' := #[.val (.ref a1), .val (.ref a2), .val (.int (1 : Int32)), .unset, .unset, .unset, .unset, .unset]) rfl ?_
  refine o_aloadN X101.here hx (dE 3 rfl) rfl rfl ?_
  refine p_getF X101 hx hZ hown (host := "") (Or.inl (g_ hw 187 rfl)) Via.refl e101 Ia1 rfl (dE 4 rfl) fun T102 X102 e102 => ?_
  refine o_iloadN X102.here hx (dE 5 rfl) rfl ?_
  refine o_icmpYes X102.here hx (pc0 := 10) (pc' := 15) rfl (dE 6 rfl) rfl (flt (by decide)).2.1 (by decide) (by decide) ?_
  refine o_aloadN X102.here hx (dE 7 rfl) rfl rfl ?_
  refine p_getF X102 hx hZ hown (host := "") (Or.inl (g_ hw 187 rfl)) Via.refl e102 Ia1 rfl (dE 8 rfl) fun T103 X103 e103 => ?_
  refine o_iloadN X103.here hx (dE 9 rfl) rfl ?_
  refine o_icmpYes X103.here hx (pc0 := 20) (pc' := 25) rfl (dE 10 rfl) rfl (flt (by decide)).2.2.2 (by decide) (by decide) ?_
  refine o_aloadN X103.here hx (dE 11 rfl) rfl rfl ?_
  refine p_getF X103 hx hZ hown (host := "") (Or.inl (g_ hw 185 rfl)) Via.refl e103 Va2 rfl (dE 12 rfl) fun T104 X104 e104 => ?_
  refine o_astoreN X104.here hx (dE 13 rfl) rfl rfl (l' := #[.val (.ref a1), .val (.ref a2), .val (.int (1 : Int32)), .val (.ref t2), .unset, .unset, .unset, .unset]) rfl ?_
  refine o_aloadN X104.here hx (dE 14 rfl) rfl rfl ?_
  refine p_getF X104 hx hZ hown (host := "") (Or.inl (g_ hw 183 rfl)) Via.refl e104 Oa1 rfl (dE 15 rfl) fun T105 X105 e105 => ?_
  refine o_istore X105.here hx (dE 16 rfl) rfl (l' := #[.val (.ref a1), .val (.ref a2), .val (.int (1 : Int32)), .val (.ref t2), .val (.int (0 : Int32)), .unset, .unset, .unset]) rfl ?_
  refine o_aloadN X105.here hx (dE 17 rfl) rfl rfl ?_
  refine p_getF X105 hx hZ hown (host := "") (Or.inl (g_ hw 183 rfl)) Via.refl e105 Oa2 rfl (dE 18 rfl) fun T106 X106 e106 => ?_
  refine o_istore X106.here hx (dE 19 rfl) rfl (l' := #[.val (.ref a1), .val (.ref a2), .val (.int (1 : Int32)), .val (.ref t2), .val (.int (0 : Int32)), .val (.int (0 : Int32)), .unset, .unset]) rfl ?_
  refine o_iload X106.here hx (dE 20 rfl) rfl ?_
  refine o_aloadN X106.here hx (dE 21 rfl) rfl rfl ?_
  refine p_getF X106 hx hZ hown (host := "") (Or.inl (g_ hw 187 rfl)) Via.refl e106 Ia1 rfl (dE 22 rfl) fun T107 X107 e107 => ?_
  refine o_aloadN X107.here hx (dE 23 rfl) rfl rfl ?_
  refine p_getF X107 hx hZ hown (host := "") (Or.inl (g_ hw 183 rfl)) Via.refl e107 Oa1 rfl (dE 24 rfl) fun T108 X108 e108 => ?_
  refine o_iadd X108.here hx (dE 25 rfl) rfl ?_
  refine o_icmpNo X108.here hx (dE 26 rfl) rfl (tlt (by decide)).2.1 ?_
  refine o_aloadN X108.here hx (dE 27 rfl) rfl rfl ?_
  refine p_getF X108 hx hZ hown (host := "") (Or.inl (g_ hw 185 rfl)) Via.refl e108 Va1 rfl (dE 28 rfl) fun T109 X109 e109 => ?_
  refine o_iload X109.here hx (dE 29 rfl) rfl ?_
  obtain ⟨cl110, Ar110, q110, S110, P110, H110, G110⟩ := id A1
  have hin110 : ¬ ((0 : Int32) < 0 ∨ cl110.slots.size ≤ ((0 : Int32)).toNatClampNeg) := inb_of S110 ⟨by decide, by decide⟩
  have hat110 : cl110.slots[((0 : Int32)).toNatClampNeg]? = some (.int lo) := Has.at H110 hin110 rfl
  refine own_Go.of (S' := T109.setTop (mkF m 63 #[.val (.ref a1), .val (.ref a2), .val (.int (1 : Int32)), .val (.ref t2), .val (.int (0 : Int32)), .val (.int (0 : Int32)), .unset, .unset] [(.int lo)])) (fun tgt kst => X109.iaload hx (j := (0 : Int32)) (v := (.int lo)) (by rw [e109]; exact Ar110.1) (State.isArrayOf_alike hZ.alike Ar110.2.1) Ar110.2.2 hin110 hat110 (g := (mkF m 62 #[.val (.ref a1), .val (.ref a2), .val (.int (1 : Int32)), .val (.ref t2), .val (.int (0 : Int32)), .val (.int (0 : Int32)), .unset, .unset] [(.int (0 : Int32)), (.ref t1)])) rfl rfl (dE 30 rfl) _ kst) ?_
  refine own_Go.of (S' := T109.setTop (mkF m 65 #[.val (.ref a1), .val (.ref a2), .val (.int (1 : Int32)), .val (.ref t2), .val (.int (0 : Int32)), .val (.int (0 : Int32)), .unset, .unset] [(.int (-2147483648 : Int32)), (.int lo)])) (fun tgt kst => X109.ldcInt hx hown (mvT hZ (g_ hw 207 rfl)) (g := (mkF m 63 #[.val (.ref a1), .val (.ref a2), .val (.int (1 : Int32)), .val (.ref t2), .val (.int (0 : Int32)), .val (.int (0 : Int32)), .unset, .unset] [(.int lo)])) rfl (dE 31 rfl) _ kst) ?_
  refine o_iadd X109.here hx (dE 32 rfl) rfl ?_
  refine o_istore X109.here hx (dE 33 rfl) rfl (l' := #[.val (.ref a1), .val (.ref a2), .val (.int (1 : Int32)), .val (.ref t2), .val (.int (0 : Int32)), .val (.int (0 : Int32)), .val (.int (lo + (-2147483648 : Int32))), .unset]) rfl ?_
  refine o_aloadN X109.here hx (dE 34 rfl) rfl rfl ?_
  refine o_iload X109.here hx (dE 35 rfl) rfl ?_
  obtain ⟨cl111, Ar111, q111, S111, P111, H111, G111⟩ := id A5
  have hin111 : ¬ ((0 : Int32) < 0 ∨ cl111.slots.size ≤ ((0 : Int32)).toNatClampNeg) := inb_of S111 ⟨by decide, by decide⟩
  have hat111 : cl111.slots[((0 : Int32)).toNatClampNeg]? = some (.int (1000000000 : Int32)) := Has.at H111 hin111 rfl
  refine own_Go.of (S' := T109.setTop (mkF m 72 #[.val (.ref a1), .val (.ref a2), .val (.int (1 : Int32)), .val (.ref t2), .val (.int (0 : Int32)), .val (.int (0 : Int32)), .val (.int (lo + (-2147483648 : Int32))), .unset] [(.int (1000000000 : Int32))])) (fun tgt kst => X109.iaload hx (j := (0 : Int32)) (v := (.int (1000000000 : Int32))) (by rw [e109]; exact Ar111.1) (State.isArrayOf_alike hZ.alike Ar111.2.1) Ar111.2.2 hin111 hat111 (g := (mkF m 71 #[.val (.ref a1), .val (.ref a2), .val (.int (1 : Int32)), .val (.ref t2), .val (.int (0 : Int32)), .val (.int (0 : Int32)), .val (.int (lo + (-2147483648 : Int32))), .unset] [(.int (0 : Int32)), (.ref t2)])) rfl rfl (dE 36 rfl) _ kst) ?_
  refine own_Go.of (S' := T109.setTop (mkF m 74 #[.val (.ref a1), .val (.ref a2), .val (.int (1 : Int32)), .val (.ref t2), .val (.int (0 : Int32)), .val (.int (0 : Int32)), .val (.int (lo + (-2147483648 : Int32))), .unset] [(.int (-2147483648 : Int32)), (.int (1000000000 : Int32))])) (fun tgt kst => X109.ldcInt hx hown (mvT hZ (g_ hw 207 rfl)) (g := (mkF m 72 #[.val (.ref a1), .val (.ref a2), .val (.int (1 : Int32)), .val (.ref t2), .val (.int (0 : Int32)), .val (.int (0 : Int32)), .val (.int (lo + (-2147483648 : Int32))), .unset] [(.int (1000000000 : Int32))])) rfl (dE 37 rfl) _ kst) ?_
  refine o_iadd X109.here hx (dE 38 rfl) rfl ?_
  refine o_istore X109.here hx (dE 39 rfl) rfl (l' := #[.val (.ref a1), .val (.ref a2), .val (.int (1 : Int32)), .val (.ref t2), .val (.int (0 : Int32)), .val (.int (0 : Int32)), .val (.int (lo + (-2147483648 : Int32))), .val (.int ((1000000000 : Int32) + (-2147483648 : Int32)))]) rfl ?_
  refine o_iload X109.here hx (dE 40 rfl) rfl ?_
  refine o_iload X109.here hx (dE 41 rfl) rfl ?_
  refine o_icmpYes X109.here hx (pc0 := 81) (pc' := 86) rfl (dE 42 rfl) rfl (flt (own_f29 hA)).2.1 (by decide) (by decide) ?_
  refine o_iload X109.here hx (dE 43 rfl) rfl ?_
  refine o_iload X109.here hx (dE 44 rfl) rfl ?_
  refine o_icmpNo X109.here hx (dE 45 rfl) rfl (tlt (own_f30 hA)).2.2.2 ?_
  refine o_iconst X109.here hx (dE 46 rfl) (z := (1 : Int32)) rfl ?_
  rw [hPst]
  exact own_retP X109 (v := (some (.int (1 : Int32)))) (Q := Q_cpA Z s r v9 v2 q hi lo a1 a2 t1 t2 k1 k2 h0 n0) (fun h => by rw [Bd.returns] at h; cases h) Bd.notSynchronized (fun fs hr => own_retI X109 hx Bd.returns (dE 47 rfl) hr) (by decide) (by decide) (by rw [e109]; exact ⟨rfl, N0, rfl⟩)
def Q_cpB (Z : State) (s r v9 v2 : Int64) (q hi lo : Int32) (a1 a2 t1 t2 : Addr) (k1 k2 : ClassId) (h0 : Heap) (n0 : Nat) (v : Option Value) (h : Heap) (L : List Loc) : Prop := v = some (.int (1 : Int32)) ∧ Fr n0 L ∧ h = h0
theorem rm_cpB (l : Launch) (Z : State) (a0 : Array Value) (hw : own_H a0 Z) (ws : List Jvm.Cond) (s r v9 v2 : Int64) (q hi lo : Int32) (a1 a2 t1 t2 : Addr) (k1 k2 : ClassId) (h0 : Heap) (n0 : Nat) (Z0 : n0 ≤ h0.size) (hB : own_VB s r v9 v2 q hi lo) (Ea1 : Exa Z h0 a1 "java/math/MutableBigInteger") (Oa1 : Fld Z h0 a1 "java/math/MutableBigInteger" "offset" "I" (.int (0 : Int32))) (Va1 : Fld Z h0 a1 "java/math/MutableBigInteger" "value" "[I" (.ref t1)) (Ia1 : Fld Z h0 a1 "java/math/MutableBigInteger" "intLen" "I" (.int (2 : Int32))) (Ea2 : Exa Z h0 a2 "java/math/MutableBigInteger") (Oa2 : Fld Z h0 a2 "java/math/MutableBigInteger" "offset" "I" (.int (0 : Int32))) (Va2 : Fld Z h0 a2 "java/math/MutableBigInteger" "value" "[I" (.ref t2)) (Ia2 : Fld Z h0 a2 "java/math/MutableBigInteger" "intLen" "I" (.int (1 : Int32))) (A1 : Arv Z h0 t1 k1 .int (2 : Int32) [(.int hi), (.int lo)] (.int 0)) (A5 : Arv Z h0 t2 k2 .int (1 : Int32) [(.int 1000000000)] (.int 0)) : own_MP l Mn8 jdk_2101_method_15_code 8 (some .int) ws ({ frames := 0, cells := 0, slots := 0, locals := 0 } : Room) Z h0 #[(.ref a1), (.ref a2)] (fun _ _ _ _ _ => True) (Q_cpB Z s r v9 v2 q hi lo a1 a2 t1 t2 k1 k2 h0 n0) := by
  refine own_startP (plainFor_of_name own_pn_java_math_MutableBigInteger) fun p e s' m below meth c s₁ Bd hx hby hml hown0 X0 e0 hh0 hZ hK Pst hPst => ?_
  have dE := own_E hby own_D38
  have hown : s'.vm.findClass "java/math/MutableBigInteger" = some m.cls := hown0
  have hnm := (name_of_methodNamed Bd.named Bd.method).1
  have N0 := Fr.nil n0
  rw [own_ef_RR_8 m a1 a2]
  refine o_aloadN X0.here hx (dE 0 rfl) rfl rfl ?_
  refine p_getF X0 hx hZ hown (host := "") (Or.inl (g_ hw 187 rfl)) Via.refl e0 Ia2 rfl (dE 1 rfl) fun T101 X101 e101 => ?_
  refine o_istoreN X101.here hx (dE 2 rfl) rfl (l' := #[.val (.ref a1), .val (.ref a2), .val (.int (1 : Int32)), .unset, .unset, .unset, .unset, .unset]) rfl ?_
  refine o_aloadN X101.here hx (dE 3 rfl) rfl rfl ?_
  refine p_getF X101 hx hZ hown (host := "") (Or.inl (g_ hw 187 rfl)) Via.refl e101 Ia1 rfl (dE 4 rfl) fun T102 X102 e102 => ?_
  refine o_iloadN X102.here hx (dE 5 rfl) rfl ?_
  refine o_icmpYes X102.here hx (pc0 := 10) (pc' := 15) rfl (dE 6 rfl) rfl (flt (by decide)).2.1 (by decide) (by decide) ?_
  refine o_aloadN X102.here hx (dE 7 rfl) rfl rfl ?_
  refine p_getF X102 hx hZ hown (host := "") (Or.inl (g_ hw 187 rfl)) Via.refl e102 Ia1 rfl (dE 8 rfl) fun T103 X103 e103 => ?_
  refine o_iloadN X103.here hx (dE 9 rfl) rfl ?_
  refine o_icmpNo X103.here hx (dE 10 rfl) rfl (tlt (by decide)).2.2.2 ?_
  refine o_iconst X103.here hx (dE 48 rfl) (z := (1 : Int32)) rfl ?_
  rw [hPst]
  exact own_retP X103 (v := (some (.int (1 : Int32)))) (Q := Q_cpB Z s r v9 v2 q hi lo a1 a2 t1 t2 k1 k2 h0 n0) (fun h => by rw [Bd.returns] at h; cases h) Bd.notSynchronized (fun fs hr => own_retI X103 hx Bd.returns (dE 49 rfl) hr) (by decide) (by decide) (by rw [e103]; exact ⟨rfl, N0, rfl⟩)
theorem own_ef_R_3 (m : MethodId) (x0 : Addr) : entryFrame m #[(.ref x0)] 3 = mkF m 0 #[.val (.ref x0), .unset, .unset] [] := by first | (simp [entryFrame, mkF, argsToLocals, Value.category]; done) | rfl
def Q_cl (Z : State) (a1 t1 : Addr) (k1 : ClassId) (h0 : Heap) (n0 : Nat) (v : Option Value) (h : Heap) (L : List Loc) : Prop := v = none ∧ Fr n0 L ∧ Keep h0 h [a1, t1] ∧ Exa Z h a1 "java/math/MutableBigInteger" ∧ Fld Z h a1 "java/math/MutableBigInteger" "offset" "I" (.int (0 : Int32)) ∧ Fld Z h a1 "java/math/MutableBigInteger" "value" "[I" (.ref t1) ∧ Fld Z h a1 "java/math/MutableBigInteger" "intLen" "I" (.int (0 : Int32)) ∧ Arv Z h t1 k1 .int (1 : Int32) [(.int 0)] (.int 0)
theorem rm_cl (l : Launch) (Z : State) (a0 : Array Value) (hw : own_H a0 Z) (ws : List Jvm.Cond) (a1 t1 : Addr) (k1 : ClassId) (h0 : Heap) (n0 : Nat) (Z0 : n0 ≤ h0.size) (Ea1 : Exa Z h0 a1 "java/math/MutableBigInteger") (Oa1 : Fld Z h0 a1 "java/math/MutableBigInteger" "offset" "I" (.int (0 : Int32))) (Va1 : Fld Z h0 a1 "java/math/MutableBigInteger" "value" "[I" (.ref t1)) (Ia1 : Fld Z h0 a1 "java/math/MutableBigInteger" "intLen" "I" (.int (0 : Int32))) (A1 : Arv Z h0 t1 k1 .int (1 : Int32) [(.int 0)] (.int 0)) (g1 : n0 ≤ a1) (g2 : n0 ≤ t1) : own_MP l Mn22 jdk_2101_method_13_code 3 none ws ({ frames := 0, cells := 0, slots := 0, locals := 0 } : Room) Z h0 #[(.ref a1)] (fun _ _ _ _ _ => True) (Q_cl Z a1 t1 k1 h0 n0) := by
  refine own_startP (plainFor_of_name own_pn_java_math_MutableBigInteger) fun p e s m below meth c s₁ Bd hx hby hml hown0 X0 e0 hh0 hZ hK Pst hPst => ?_
  have dE := own_E hby own_D39
  have hown : s.vm.findClass "java/math/MutableBigInteger" = some m.cls := hown0
  have hnm := (name_of_methodNamed Bd.named Bd.method).1
  have N0 := Fr.nil n0
  rw [own_ef_R_3 m a1]
  have ne1 : t1 ≠ a1 := Ne.symm (Exa.neArv Ea1 A1 (g_ hw 176 rfl))
  refine o_aloadN X0.here hx (dE 0 rfl) rfl rfl ?_
  refine o_aloadN X0.here hx (dE 1 rfl) rfl rfl ?_
  refine o_iconst X0.here hx (dE 2 rfl) (z := (0 : Int32)) rfl ?_
  refine o_dupX1 X0.here hx (dE 3 rfl) rfl rfl rfl ?_
  refine p_putF X0 hx hZ hown (host := "") (Or.inl (g_ hw 187 rfl)) Via.refl e0 Ia1 Ea1 (Or.inl (g_ hw 188 rfl)) (g_ hw 176 rfl) (ty := .int) (by decide) rfl rfl rfl (dE 4 rfl) fun T101 h101 X101 e101 W101 => ?_
  have Fw101 := Fld.same W101 Ia1
  have N101 := Fr.snoc X101 N0 g1
  have c102 := (Ea1.wr W101)
  have c103 := (Oa1.other W101 (Or.inr (slot_ne (Or.inl (g_ hw 184 rfl)) (Or.inl (g_ hw 188 rfl)) (by decide) (t := .int) (t' := .int) (by decide) (by decide))))
  refine p_putF X101 hx hZ hown (host := "") (Or.inl (g_ hw 183 rfl)) Via.refl e101 c103 c102 (Or.inl (g_ hw 184 rfl)) (g_ hw 176 rfl) (ty := .int) (by decide) rfl rfl rfl (dE 5 rfl) fun T104 h104 X104 e104 W104 => ?_
  have Fw104 := Fld.same W104 c103
  have N104 := Fr.snoc X104 N101 g1
  refine o_iconst X104.here hx (dE 6 rfl) (z := (0 : Int32)) rfl ?_
  refine o_istoreN X104.here hx (dE 7 rfl) rfl (l' := #[.val (.ref a1), .val (.int (0 : Int32)), .unset]) rfl ?_
  refine o_aloadN X104.here hx (dE 8 rfl) rfl rfl ?_
  have c105 := ((Va1.other W101 (Or.inr (slot_ne (Or.inl (g_ hw 186 rfl)) (Or.inl (g_ hw 188 rfl)) (by decide) (t := (.array .int)) (t' := .int) (by decide) (by decide)))).other W104 (Or.inr (slot_ne (Or.inl (g_ hw 186 rfl)) (Or.inl (g_ hw 184 rfl)) (by decide) (t := (.array .int)) (t' := .int) (by decide) (by decide))))
  refine p_getF X104 hx hZ hown (host := "") (Or.inl (g_ hw 185 rfl)) Via.refl e104 c105 rfl (dE 9 rfl) fun T106 X106 e106 => ?_
  have c107 := ((A1.other W101 ne1).other W104 ne1)
  obtain ⟨cl108, Ar108, -, S108, P108, -, -⟩ := id c107
  refine own_Go.of (S' := T106.setTop (mkF m 17 #[.val (.ref a1), .val (.int (0 : Int32)), .unset] [(.int (1 : Int32))])) (fun tgt kst => X106.arraylength hx (by rw [e106]; exact Ar108.1) (State.isArrayOf_alike hZ.alike Ar108.2.1) (g := (mkF m 16 #[.val (.ref a1), .val (.int (0 : Int32)), .unset] [(.ref t1)])) rfl rfl (dE 10 rfl) _ (by rw [len_of S108 P108]; exact kst)) ?_
  refine o_istoreN X106.here hx (dE 11 rfl) rfl (l' := #[.val (.ref a1), .val (.int (0 : Int32)), .val (.int (1 : Int32))]) rfl ?_
  refine o_iloadN X106.here hx (dE 12 rfl) rfl ?_
  refine o_iloadN X106.here hx (dE 13 rfl) rfl ?_
  refine o_icmpNo X106.here hx (dE 14 rfl) rfl (tlt (by decide)).2.1 ?_
  refine o_aloadN X106.here hx (dE 15 rfl) rfl rfl ?_
  refine p_getF X106 hx hZ hown (host := "") (Or.inl (g_ hw 185 rfl)) Via.refl e106 c105 rfl (dE 16 rfl) fun T109 X109 e109 => ?_
  refine o_iloadN X109.here hx (dE 17 rfl) rfl ?_
  refine o_iconst X109.here hx (dE 18 rfl) (z := (0 : Int32)) rfl ?_
  refine p_arI X109 hx hZ e109 c107 (0 : Int32) 0 ⟨by decide, by decide⟩ rfl (Nat.le_of_ble_eq_true rfl) rfl (dE 19 rfl) fun T110 h110 X110 e110 W110 V110 => ?_
  have N110 := Fr.snoc X110 N104 g2
  refine o_iinc X110.here hx (dE 20 rfl) rfl (l' := #[.val (.ref a1), .val (.int ((0 : Int32) + (1 : Int32))), .val (.int (1 : Int32))]) rfl ?_
  refine o_goto X110.here hx (pc0 := 33) (pc' := 18) rfl (dE 21 rfl) (by decide) (by decide) ?_
  refine o_iloadN X110.here hx (dE 12 rfl) rfl ?_
  refine o_iloadN X110.here hx (dE 13 rfl) rfl ?_
  rw [show ((0 : Int32) + (1 : Int32)) = (1 : Int32) from by decide]
  show own_Go p e below Pst (T110.setTop (mkF m 20 #[.val (.ref a1), .val (.int (1 : Int32)), .val (.int (1 : Int32))] [(.int (1 : Int32)), (.int ((0 : Int32) + (1 : Int32)))]))
  refine o_icmpYes X110.here hx (pc0 := 20) (pc' := 36) rfl (dE 14 rfl) rfl (flt (by decide)).2.1 (by decide) (by decide) ?_
  have c111 := ((((Keep.refl h0 [a1, t1]).wr W101 (Or.inl (List.mem_of_getElem? (i := 0) rfl))).wr W104 (Or.inl (List.mem_of_getElem? (i := 0) rfl))).wr W110 (Or.inl (List.mem_of_getElem? (i := 1) rfl)))
  have c112 := ((c102.wr W104).wr W110)
  have c113 := (Fw104.other W110 (Or.inl (Ne.symm ne1)))
  have c114 := (c105.other W110 (Or.inl (Ne.symm ne1)))
  have c115 := ((Fw101.other W104 (Or.inr (slot_ne (Or.inl (g_ hw 188 rfl)) (Or.inl (g_ hw 184 rfl)) (by decide) (t := .int) (t' := .int) (by decide) (by decide)))).other W110 (Or.inl (Ne.symm ne1)))
  rw [hPst]
  exact own_retP X110 (v := none) (Q := Q_cl Z a1 t1 k1 h0 n0) (fun _ => rfl) Bd.notSynchronized (fun fs hr => X110.returnOut hx Bd.returns (dE 22 rfl) hr) (by decide) (by decide) (by rw [e110]; exact ⟨rfl, N110, c111, c112, c113, c114, c115, V110⟩)
theorem own_pn_java_lang_Integer : plainName "java/lang/Integer" = true := by first | (simp [plainName, overriddenIn]; done) | decide +kernel
theorem own_ef_I_2 (m : MethodId) (x0 : Int32) : entryFrame m #[(.int x0)] 2 = mkF m 0 #[.val (.int x0), .unset] [] := by first | (simp [entryFrame, mkF, argsToLocals, Value.category]; done) | rfl
def Q_nlD (Z : State)  (h0 : Heap) (n0 : Nat) (v : Option Value) (h : Heap) (L : List Loc) : Prop := v = some (.int (2 : Int32)) ∧ Fr n0 L ∧ h = h0
theorem rm_nlD (l : Launch) (Z : State) (a0 : Array Value) (hw : own_H a0 Z) (ws : List Jvm.Cond)  (h0 : Heap) (n0 : Nat) (Z0 : n0 ≤ h0.size) : own_MP l Mn32 jdk_33_method_47_code 2 (some .int) ws ({ frames := 0, cells := 0, slots := 0, locals := 0 } : Room) Z h0 #[(.int (1000000000 : Int32))] (fun _ _ _ _ _ => True) (Q_nlD Z  h0 n0) := by
  refine own_startP (plainFor_of_name own_pn_java_lang_Integer) fun p e s m below meth c s₁ Bd hx hby hml hown0 X0 e0 hh0 hZ hK Pst hPst => ?_
  have dE := own_E hby own_D46
  have hown : s.vm.findClass "java/lang/Integer" = some m.cls := hown0
  have hnm := (name_of_methodNamed Bd.named Bd.method).1
  have N0 := Fr.nil n0
  rw [own_ef_I_2 m (1000000000 : Int32)]
  refine o_iloadN X0.here hx (dE 0 rfl) rfl ?_
  refine o_ifYes X0.here hx (pc0 := 1) (pc' := 15) rfl (dE 1 rfl) rfl ((if0 _ _).trans (tlt (by decide)).2.2.1) (by decide) (by decide) ?_
  refine o_bipush X0.here hx (dE 2 rfl) (z := (31 : Int32)) rfl ?_
  refine o_istoreN X0.here hx (dE 3 rfl) rfl (l' := #[.val (.int (1000000000 : Int32)), .val (.int (31 : Int32))]) rfl ?_
  refine o_iloadN X0.here hx (dE 4 rfl) rfl ?_
  refine own_Go.of (S' := s₁.setTop (mkF m 22 #[.val (.int (1000000000 : Int32)), .val (.int (31 : Int32))] [(.int (65536 : Int32)), (.int (1000000000 : Int32))])) (fun tgt kst => X0.ldcWInt hx hown (mvT hZ (g_ hw 251 rfl)) (g := (mkF m 19 #[.val (.int (1000000000 : Int32)), .val (.int (31 : Int32))] [(.int (1000000000 : Int32))])) rfl (dE 5 rfl) _ kst) ?_
  refine o_icmpNo X0.here hx (dE 6 rfl) rfl (flt (by decide)).1 ?_
  refine o_iinc X0.here hx (dE 7 rfl) rfl (l' := #[.val (.int (1000000000 : Int32)), .val (.int ((31 : Int32) + (-16 : Int32)))]) rfl ?_
  rw [show ((31 : Int32) + (-16 : Int32)) = (15 : Int32) from by decide]
  show own_Go p e below Pst (s₁.setTop (mkF m 28 #[.val (.int (1000000000 : Int32)), .val (.int (15 : Int32))] []))
  refine o_iloadN X0.here hx (dE 8 rfl) rfl ?_
  refine o_bipush X0.here hx (dE 9 rfl) (z := (16 : Int32)) rfl ?_
  refine o_iushr X0.here hx (dE 10 rfl) rfl ?_
  rw [show (((1000000000 : Int32).toUInt32 >>> ((16 : Int32) &&& 31).toUInt32).toInt32) = (15258 : Int32) from by decide]
  show own_Go p e below Pst (s₁.setTop (mkF m 32 #[.val (.int (1000000000 : Int32)), .val (.int (15 : Int32))] [(.int (15258 : Int32))]))
  refine o_istoreN X0.here hx (dE 11 rfl) rfl (l' := #[.val (.int (15258 : Int32)), .val (.int (15 : Int32))]) rfl ?_
  refine o_iloadN X0.here hx (dE 12 rfl) rfl ?_
  refine o_sipush X0.here hx (dE 13 rfl) (z := (256 : Int32)) rfl ?_
  refine o_icmpNo X0.here hx (dE 14 rfl) rfl (flt (by decide)).1 ?_
  refine o_iinc X0.here hx (dE 15 rfl) rfl (l' := #[.val (.int (15258 : Int32)), .val (.int ((15 : Int32) + (-8 : Int32)))]) rfl ?_
  rw [show ((15 : Int32) + (-8 : Int32)) = (7 : Int32) from by decide]
  show own_Go p e below Pst (s₁.setTop (mkF m 43 #[.val (.int (15258 : Int32)), .val (.int (7 : Int32))] []))
  refine o_iloadN X0.here hx (dE 16 rfl) rfl ?_
  refine o_bipush X0.here hx (dE 17 rfl) (z := (8 : Int32)) rfl ?_
  refine o_iushr X0.here hx (dE 18 rfl) rfl ?_
  rw [show (((15258 : Int32).toUInt32 >>> ((8 : Int32) &&& 31).toUInt32).toInt32) = (59 : Int32) from by decide]
  show own_Go p e below Pst (s₁.setTop (mkF m 47 #[.val (.int (15258 : Int32)), .val (.int (7 : Int32))] [(.int (59 : Int32))]))
  refine o_istoreN X0.here hx (dE 19 rfl) rfl (l' := #[.val (.int (59 : Int32)), .val (.int (7 : Int32))]) rfl ?_
  refine o_iloadN X0.here hx (dE 20 rfl) rfl ?_
  refine o_bipush X0.here hx (dE 21 rfl) (z := (16 : Int32)) rfl ?_
  refine o_icmpNo X0.here hx (dE 22 rfl) rfl (flt (by decide)).1 ?_
  refine o_iinc X0.here hx (dE 23 rfl) rfl (l' := #[.val (.int (59 : Int32)), .val (.int ((7 : Int32) + (-4 : Int32)))]) rfl ?_
  rw [show ((7 : Int32) + (-4 : Int32)) = (3 : Int32) from by decide]
  show own_Go p e below Pst (s₁.setTop (mkF m 57 #[.val (.int (59 : Int32)), .val (.int (3 : Int32))] []))
  refine o_iloadN X0.here hx (dE 24 rfl) rfl ?_
  refine o_iconst X0.here hx (dE 25 rfl) (z := (4 : Int32)) rfl ?_
  refine o_iushr X0.here hx (dE 26 rfl) rfl ?_
  rw [show (((59 : Int32).toUInt32 >>> ((4 : Int32) &&& 31).toUInt32).toInt32) = (3 : Int32) from by decide]
  show own_Go p e below Pst (s₁.setTop (mkF m 60 #[.val (.int (59 : Int32)), .val (.int (3 : Int32))] [(.int (3 : Int32))]))
  refine o_istoreN X0.here hx (dE 27 rfl) rfl (l' := #[.val (.int (3 : Int32)), .val (.int (3 : Int32))]) rfl ?_
  refine o_iloadN X0.here hx (dE 28 rfl) rfl ?_
  refine o_iconst X0.here hx (dE 29 rfl) (z := (4 : Int32)) rfl ?_
  refine o_icmpYes X0.here hx (pc0 := 63) (pc' := 73) rfl (dE 30 rfl) rfl (tlt (by decide)).1 (by decide) (by decide) ?_
  refine o_iloadN X0.here hx (dE 31 rfl) rfl ?_
  refine o_iloadN X0.here hx (dE 32 rfl) rfl ?_
  refine o_iconst X0.here hx (dE 33 rfl) (z := (1 : Int32)) rfl ?_
  refine o_iushr X0.here hx (dE 34 rfl) rfl ?_
  rw [show (((3 : Int32).toUInt32 >>> ((1 : Int32) &&& 31).toUInt32).toInt32) = (1 : Int32) from by decide]
  show own_Go p e below Pst (s₁.setTop (mkF m 77 #[.val (.int (3 : Int32)), .val (.int (3 : Int32))] [(.int (1 : Int32)), (.int (3 : Int32))]))
  refine o_isub X0.here hx (dE 35 rfl) rfl ?_
  rw [show ((3 : Int32) - (1 : Int32)) = (2 : Int32) from by decide]
  show own_Go p e below Pst (s₁.setTop (mkF m 78 #[.val (.int (3 : Int32)), .val (.int (3 : Int32))] [(.int (2 : Int32))]))
  rw [hPst]
  exact own_retP X0 (v := (some (.int (2 : Int32)))) (Q := Q_nlD Z  h0 n0) (fun h => by rw [Bd.returns] at h; cases h) Bd.notSynchronized (fun fs hr => own_retI X0 hx Bd.returns (dE 36 rfl) hr) (by decide) (by decide) (by rw [e0]; exact ⟨rfl, N0, rfl⟩)
def Q_nlQ (Z : State) (s r v9 v2 : Int64) (q hi lo : Int32) (h0 : Heap) (n0 : Nat) (v : Option Value) (h : Heap) (L : List Loc) : Prop := ∃ r0 : Int32, v = some (.int r0) ∧ Fr n0 L ∧ h = h0 ∧ ¬ (63 : Int32) < ((((1 : Int32) - (1 : Int32)) <<< ((5 : Int32) &&& 31)) + ((32 : Int32) - r0))
theorem rm_nlQ (l : Launch) (Z : State) (a0 : Array Value) (hw : own_H a0 Z) (ws : List Jvm.Cond) (s r v9 v2 : Int64) (q hi lo : Int32) (h0 : Heap) (n0 : Nat) (Z0 : n0 ≤ h0.size) (hV : own_V s r v9 v2 q hi lo) : own_MP l Mn32 jdk_33_method_47_code 2 (some .int) ws ({ frames := 0, cells := 0, slots := 0, locals := 0 } : Room) Z h0 #[(.int q)] (fun _ _ _ _ _ => True) (Q_nlQ Z s r v9 v2 q hi lo h0 n0) := by
  refine own_startP (plainFor_of_name own_pn_java_lang_Integer) fun p e s' m below meth c s₁ Bd hx hby hml hown0 X0 e0 hh0 hZ hK Pst hPst => ?_
  have dE := own_E hby own_D46
  have hown : s'.vm.findClass "java/lang/Integer" = some m.cls := hown0
  have hnm := (name_of_methodNamed Bd.named Bd.method).1
  have N0 := Fr.nil n0
  rw [own_ef_I_2 m q]
  rcases hV with (⟨rfl, rfl, rfl, rfl, rfl, rfl, rfl⟩ | ⟨rfl, rfl, rfl, rfl, rfl, rfl, rfl⟩) | (⟨rfl, rfl, rfl, rfl, rfl, rfl, rfl⟩ | ⟨rfl, rfl, rfl, rfl, rfl, rfl, rfl⟩ | ⟨rfl, rfl, rfl, rfl, rfl, rfl, rfl⟩ | ⟨rfl, rfl, rfl, rfl, rfl, rfl, rfl⟩ | ⟨rfl, rfl, rfl, rfl, rfl, rfl, rfl⟩ | ⟨rfl, rfl, rfl, rfl, rfl, rfl, rfl⟩ | ⟨rfl, rfl, rfl, rfl, rfl, rfl, rfl⟩ | ⟨rfl, rfl, rfl, rfl, rfl, rfl, rfl⟩ | ⟨rfl, rfl, rfl, rfl, rfl, rfl, rfl⟩ | ⟨rfl, rfl, rfl, rfl, rfl, rfl, rfl⟩)
  · refine o_iloadN X0.here hx (dE 0 rfl) rfl ?_
    refine o_ifYes X0.here hx (pc0 := 1) (pc' := 15) rfl (dE 1 rfl) rfl ((if0 _ _).trans (tlt (by decide)).2.2.1) (by decide) (by decide) ?_
    refine o_bipush X0.here hx (dE 2 rfl) (z := (31 : Int32)) rfl ?_
    refine o_istoreN X0.here hx (dE 3 rfl) rfl (l' := #[.val (.int (2 : Int32)), .val (.int (31 : Int32))]) rfl ?_
    refine o_iloadN X0.here hx (dE 4 rfl) rfl ?_
    refine own_Go.of (S' := s₁.setTop (mkF m 22 #[.val (.int (2 : Int32)), .val (.int (31 : Int32))] [(.int (65536 : Int32)), (.int (2 : Int32))])) (fun tgt kst => X0.ldcWInt hx hown (mvT hZ (g_ hw 251 rfl)) (g := (mkF m 19 #[.val (.int (2 : Int32)), .val (.int (31 : Int32))] [(.int (2 : Int32))])) rfl (dE 5 rfl) _ kst) ?_
    refine o_icmpYes X0.here hx (pc0 := 22) (pc' := 33) rfl (dE 6 rfl) rfl (tlt (by decide)).1 (by decide) (by decide) ?_
    refine o_iloadN X0.here hx (dE 12 rfl) rfl ?_
    refine o_sipush X0.here hx (dE 13 rfl) (z := (256 : Int32)) rfl ?_
    refine o_icmpYes X0.here hx (pc0 := 37) (pc' := 48) rfl (dE 14 rfl) rfl (tlt (by decide)).1 (by decide) (by decide) ?_
    refine o_iloadN X0.here hx (dE 20 rfl) rfl ?_
    refine o_bipush X0.here hx (dE 21 rfl) (z := (16 : Int32)) rfl ?_
    refine o_icmpYes X0.here hx (pc0 := 51) (pc' := 61) rfl (dE 22 rfl) rfl (tlt (by decide)).1 (by decide) (by decide) ?_
    refine o_iloadN X0.here hx (dE 28 rfl) rfl ?_
    refine o_iconst X0.here hx (dE 29 rfl) (z := (4 : Int32)) rfl ?_
    refine o_icmpYes X0.here hx (pc0 := 63) (pc' := 73) rfl (dE 30 rfl) rfl (tlt (by decide)).1 (by decide) (by decide) ?_
    refine o_iloadN X0.here hx (dE 31 rfl) rfl ?_
    refine o_iloadN X0.here hx (dE 32 rfl) rfl ?_
    refine o_iconst X0.here hx (dE 33 rfl) (z := (1 : Int32)) rfl ?_
    refine o_iushr X0.here hx (dE 34 rfl) rfl ?_
    rw [show (((2 : Int32).toUInt32 >>> ((1 : Int32) &&& 31).toUInt32).toInt32) = (1 : Int32) from by decide]
    show own_Go p e below Pst (s₁.setTop (mkF m 77 #[.val (.int (2 : Int32)), .val (.int (31 : Int32))] [(.int (1 : Int32)), (.int (31 : Int32))]))
    refine o_isub X0.here hx (dE 35 rfl) rfl ?_
    rw [show ((31 : Int32) - (1 : Int32)) = (30 : Int32) from by decide]
    show own_Go p e below Pst (s₁.setTop (mkF m 78 #[.val (.int (2 : Int32)), .val (.int (31 : Int32))] [(.int (30 : Int32))]))
    rw [hPst]
    exact own_retP X0 (v := (some (.int (30 : Int32)))) (Q := Q_nlQ Z (1 : Int64) (2 : Int64) (1000000000 : Int64) (2000000000 : Int64) (2 : Int32) (0 : Int32) (2000000000 : Int32) h0 n0) (fun h => by rw [Bd.returns] at h; cases h) Bd.notSynchronized (fun fs hr => own_retI X0 hx Bd.returns (dE 36 rfl) hr) (by decide) (by decide) (by rw [e0]; exact ⟨_, rfl, N0, rfl, by decide⟩)
  · refine o_iloadN X0.here hx (dE 0 rfl) rfl ?_
    refine o_ifYes X0.here hx (pc0 := 1) (pc' := 15) rfl (dE 1 rfl) rfl ((if0 _ _).trans (tlt (by decide)).2.2.1) (by decide) (by decide) ?_
    refine o_bipush X0.here hx (dE 2 rfl) (z := (31 : Int32)) rfl ?_
    refine o_istoreN X0.here hx (dE 3 rfl) rfl (l' := #[.val (.int (4 : Int32)), .val (.int (31 : Int32))]) rfl ?_
    refine o_iloadN X0.here hx (dE 4 rfl) rfl ?_
    refine own_Go.of (S' := s₁.setTop (mkF m 22 #[.val (.int (4 : Int32)), .val (.int (31 : Int32))] [(.int (65536 : Int32)), (.int (4 : Int32))])) (fun tgt kst => X0.ldcWInt hx hown (mvT hZ (g_ hw 251 rfl)) (g := (mkF m 19 #[.val (.int (4 : Int32)), .val (.int (31 : Int32))] [(.int (4 : Int32))])) rfl (dE 5 rfl) _ kst) ?_
    refine o_icmpYes X0.here hx (pc0 := 22) (pc' := 33) rfl (dE 6 rfl) rfl (tlt (by decide)).1 (by decide) (by decide) ?_
    refine o_iloadN X0.here hx (dE 12 rfl) rfl ?_
    refine o_sipush X0.here hx (dE 13 rfl) (z := (256 : Int32)) rfl ?_
    refine o_icmpYes X0.here hx (pc0 := 37) (pc' := 48) rfl (dE 14 rfl) rfl (tlt (by decide)).1 (by decide) (by decide) ?_
    refine o_iloadN X0.here hx (dE 20 rfl) rfl ?_
    refine o_bipush X0.here hx (dE 21 rfl) (z := (16 : Int32)) rfl ?_
    refine o_icmpYes X0.here hx (pc0 := 51) (pc' := 61) rfl (dE 22 rfl) rfl (tlt (by decide)).1 (by decide) (by decide) ?_
    refine o_iloadN X0.here hx (dE 28 rfl) rfl ?_
    refine o_iconst X0.here hx (dE 29 rfl) (z := (4 : Int32)) rfl ?_
    refine o_icmpNo X0.here hx (dE 30 rfl) rfl (flt (by decide)).1 ?_
    refine o_iinc X0.here hx (dE 37 rfl) rfl (l' := #[.val (.int (4 : Int32)), .val (.int ((31 : Int32) + (-2 : Int32)))]) rfl ?_
    rw [show ((31 : Int32) + (-2 : Int32)) = (29 : Int32) from by decide]
    show own_Go p e below Pst (s₁.setTop (mkF m 69 #[.val (.int (4 : Int32)), .val (.int (29 : Int32))] []))
    refine o_iloadN X0.here hx (dE 38 rfl) rfl ?_
    refine o_iconst X0.here hx (dE 39 rfl) (z := (2 : Int32)) rfl ?_
    refine o_iushr X0.here hx (dE 40 rfl) rfl ?_
    rw [show (((4 : Int32).toUInt32 >>> ((2 : Int32) &&& 31).toUInt32).toInt32) = (1 : Int32) from by decide]
    show own_Go p e below Pst (s₁.setTop (mkF m 72 #[.val (.int (4 : Int32)), .val (.int (29 : Int32))] [(.int (1 : Int32))]))
    refine o_istoreN X0.here hx (dE 41 rfl) rfl (l' := #[.val (.int (1 : Int32)), .val (.int (29 : Int32))]) rfl ?_
    refine o_iloadN X0.here hx (dE 31 rfl) rfl ?_
    refine o_iloadN X0.here hx (dE 32 rfl) rfl ?_
    refine o_iconst X0.here hx (dE 33 rfl) (z := (1 : Int32)) rfl ?_
    refine o_iushr X0.here hx (dE 34 rfl) rfl ?_
    rw [show (((1 : Int32).toUInt32 >>> ((1 : Int32) &&& 31).toUInt32).toInt32) = (0 : Int32) from by decide]
    show own_Go p e below Pst (s₁.setTop (mkF m 77 #[.val (.int (1 : Int32)), .val (.int (29 : Int32))] [(.int (0 : Int32)), (.int (29 : Int32))]))
    refine o_isub X0.here hx (dE 35 rfl) rfl ?_
    rw [show ((29 : Int32) - (0 : Int32)) = (29 : Int32) from by decide]
    show own_Go p e below Pst (s₁.setTop (mkF m 78 #[.val (.int (1 : Int32)), .val (.int (29 : Int32))] [(.int (29 : Int32))]))
    rw [hPst]
    exact own_retP X0 (v := (some (.int (29 : Int32)))) (Q := Q_nlQ Z (2 : Int64) (4 : Int64) (2000000000 : Int64) (4000000000 : Int64) (4 : Int32) (0 : Int32) (-294967296 : Int32) h0 n0) (fun h => by rw [Bd.returns] at h; cases h) Bd.notSynchronized (fun fs hr => own_retI X0 hx Bd.returns (dE 36 rfl) hr) (by decide) (by decide) (by rw [e0]; exact ⟨_, rfl, N0, rfl, by decide⟩)
  · refine o_iloadN X0.here hx (dE 0 rfl) rfl ?_
    refine o_ifYes X0.here hx (pc0 := 1) (pc' := 15) rfl (dE 1 rfl) rfl ((if0 _ _).trans (tlt (by decide)).2.2.1) (by decide) (by decide) ?_
    refine o_bipush X0.here hx (dE 2 rfl) (z := (31 : Int32)) rfl ?_
    refine o_istoreN X0.here hx (dE 3 rfl) rfl (l' := #[.val (.int (8 : Int32)), .val (.int (31 : Int32))]) rfl ?_
    refine o_iloadN X0.here hx (dE 4 rfl) rfl ?_
    refine own_Go.of (S' := s₁.setTop (mkF m 22 #[.val (.int (8 : Int32)), .val (.int (31 : Int32))] [(.int (65536 : Int32)), (.int (8 : Int32))])) (fun tgt kst => X0.ldcWInt hx hown (mvT hZ (g_ hw 251 rfl)) (g := (mkF m 19 #[.val (.int (8 : Int32)), .val (.int (31 : Int32))] [(.int (8 : Int32))])) rfl (dE 5 rfl) _ kst) ?_
    refine o_icmpYes X0.here hx (pc0 := 22) (pc' := 33) rfl (dE 6 rfl) rfl (tlt (by decide)).1 (by decide) (by decide) ?_
    refine o_iloadN X0.here hx (dE 12 rfl) rfl ?_
    refine o_sipush X0.here hx (dE 13 rfl) (z := (256 : Int32)) rfl ?_
    refine o_icmpYes X0.here hx (pc0 := 37) (pc' := 48) rfl (dE 14 rfl) rfl (tlt (by decide)).1 (by decide) (by decide) ?_
    refine o_iloadN X0.here hx (dE 20 rfl) rfl ?_
    refine o_bipush X0.here hx (dE 21 rfl) (z := (16 : Int32)) rfl ?_
    refine o_icmpYes X0.here hx (pc0 := 51) (pc' := 61) rfl (dE 22 rfl) rfl (tlt (by decide)).1 (by decide) (by decide) ?_
    refine o_iloadN X0.here hx (dE 28 rfl) rfl ?_
    refine o_iconst X0.here hx (dE 29 rfl) (z := (4 : Int32)) rfl ?_
    refine o_icmpNo X0.here hx (dE 30 rfl) rfl (flt (by decide)).1 ?_
    refine o_iinc X0.here hx (dE 37 rfl) rfl (l' := #[.val (.int (8 : Int32)), .val (.int ((31 : Int32) + (-2 : Int32)))]) rfl ?_
    rw [show ((31 : Int32) + (-2 : Int32)) = (29 : Int32) from by decide]
    show own_Go p e below Pst (s₁.setTop (mkF m 69 #[.val (.int (8 : Int32)), .val (.int (29 : Int32))] []))
    refine o_iloadN X0.here hx (dE 38 rfl) rfl ?_
    refine o_iconst X0.here hx (dE 39 rfl) (z := (2 : Int32)) rfl ?_
    refine o_iushr X0.here hx (dE 40 rfl) rfl ?_
    rw [show (((8 : Int32).toUInt32 >>> ((2 : Int32) &&& 31).toUInt32).toInt32) = (2 : Int32) from by decide]
    show own_Go p e below Pst (s₁.setTop (mkF m 72 #[.val (.int (8 : Int32)), .val (.int (29 : Int32))] [(.int (2 : Int32))]))
    refine o_istoreN X0.here hx (dE 41 rfl) rfl (l' := #[.val (.int (2 : Int32)), .val (.int (29 : Int32))]) rfl ?_
    refine o_iloadN X0.here hx (dE 31 rfl) rfl ?_
    refine o_iloadN X0.here hx (dE 32 rfl) rfl ?_
    refine o_iconst X0.here hx (dE 33 rfl) (z := (1 : Int32)) rfl ?_
    refine o_iushr X0.here hx (dE 34 rfl) rfl ?_
    rw [show (((2 : Int32).toUInt32 >>> ((1 : Int32) &&& 31).toUInt32).toInt32) = (1 : Int32) from by decide]
    show own_Go p e below Pst (s₁.setTop (mkF m 77 #[.val (.int (2 : Int32)), .val (.int (29 : Int32))] [(.int (1 : Int32)), (.int (29 : Int32))]))
    refine o_isub X0.here hx (dE 35 rfl) rfl ?_
    rw [show ((29 : Int32) - (1 : Int32)) = (28 : Int32) from by decide]
    show own_Go p e below Pst (s₁.setTop (mkF m 78 #[.val (.int (2 : Int32)), .val (.int (29 : Int32))] [(.int (28 : Int32))]))
    rw [hPst]
    exact own_retP X0 (v := (some (.int (28 : Int32)))) (Q := Q_nlQ Z (4 : Int64) (8 : Int64) (4000000000 : Int64) (8000000000 : Int64) (8 : Int32) (1 : Int32) (-589934592 : Int32) h0 n0) (fun h => by rw [Bd.returns] at h; cases h) Bd.notSynchronized (fun fs hr => own_retI X0 hx Bd.returns (dE 36 rfl) hr) (by decide) (by decide) (by rw [e0]; exact ⟨_, rfl, N0, rfl, by decide⟩)
  · refine o_iloadN X0.here hx (dE 0 rfl) rfl ?_
    refine o_ifYes X0.here hx (pc0 := 1) (pc' := 15) rfl (dE 1 rfl) rfl ((if0 _ _).trans (tlt (by decide)).2.2.1) (by decide) (by decide) ?_
    refine o_bipush X0.here hx (dE 2 rfl) (z := (31 : Int32)) rfl ?_
    refine o_istoreN X0.here hx (dE 3 rfl) rfl (l' := #[.val (.int (16 : Int32)), .val (.int (31 : Int32))]) rfl ?_
    refine o_iloadN X0.here hx (dE 4 rfl) rfl ?_
    refine own_Go.of (S' := s₁.setTop (mkF m 22 #[.val (.int (16 : Int32)), .val (.int (31 : Int32))] [(.int (65536 : Int32)), (.int (16 : Int32))])) (fun tgt kst => X0.ldcWInt hx hown (mvT hZ (g_ hw 251 rfl)) (g := (mkF m 19 #[.val (.int (16 : Int32)), .val (.int (31 : Int32))] [(.int (16 : Int32))])) rfl (dE 5 rfl) _ kst) ?_
    refine o_icmpYes X0.here hx (pc0 := 22) (pc' := 33) rfl (dE 6 rfl) rfl (tlt (by decide)).1 (by decide) (by decide) ?_
    refine o_iloadN X0.here hx (dE 12 rfl) rfl ?_
    refine o_sipush X0.here hx (dE 13 rfl) (z := (256 : Int32)) rfl ?_
    refine o_icmpYes X0.here hx (pc0 := 37) (pc' := 48) rfl (dE 14 rfl) rfl (tlt (by decide)).1 (by decide) (by decide) ?_
    refine o_iloadN X0.here hx (dE 20 rfl) rfl ?_
    refine o_bipush X0.here hx (dE 21 rfl) (z := (16 : Int32)) rfl ?_
    refine o_icmpNo X0.here hx (dE 22 rfl) rfl (flt (by decide)).1 ?_
    refine o_iinc X0.here hx (dE 23 rfl) rfl (l' := #[.val (.int (16 : Int32)), .val (.int ((31 : Int32) + (-4 : Int32)))]) rfl ?_
    rw [show ((31 : Int32) + (-4 : Int32)) = (27 : Int32) from by decide]
    show own_Go p e below Pst (s₁.setTop (mkF m 57 #[.val (.int (16 : Int32)), .val (.int (27 : Int32))] []))
    refine o_iloadN X0.here hx (dE 24 rfl) rfl ?_
    refine o_iconst X0.here hx (dE 25 rfl) (z := (4 : Int32)) rfl ?_
    refine o_iushr X0.here hx (dE 26 rfl) rfl ?_
    rw [show (((16 : Int32).toUInt32 >>> ((4 : Int32) &&& 31).toUInt32).toInt32) = (1 : Int32) from by decide]
    show own_Go p e below Pst (s₁.setTop (mkF m 60 #[.val (.int (16 : Int32)), .val (.int (27 : Int32))] [(.int (1 : Int32))]))
    refine o_istoreN X0.here hx (dE 27 rfl) rfl (l' := #[.val (.int (1 : Int32)), .val (.int (27 : Int32))]) rfl ?_
    refine o_iloadN X0.here hx (dE 28 rfl) rfl ?_
    refine o_iconst X0.here hx (dE 29 rfl) (z := (4 : Int32)) rfl ?_
    refine o_icmpYes X0.here hx (pc0 := 63) (pc' := 73) rfl (dE 30 rfl) rfl (tlt (by decide)).1 (by decide) (by decide) ?_
    refine o_iloadN X0.here hx (dE 31 rfl) rfl ?_
    refine o_iloadN X0.here hx (dE 32 rfl) rfl ?_
    refine o_iconst X0.here hx (dE 33 rfl) (z := (1 : Int32)) rfl ?_
    refine o_iushr X0.here hx (dE 34 rfl) rfl ?_
    rw [show (((1 : Int32).toUInt32 >>> ((1 : Int32) &&& 31).toUInt32).toInt32) = (0 : Int32) from by decide]
    show own_Go p e below Pst (s₁.setTop (mkF m 77 #[.val (.int (1 : Int32)), .val (.int (27 : Int32))] [(.int (0 : Int32)), (.int (27 : Int32))]))
    refine o_isub X0.here hx (dE 35 rfl) rfl ?_
    rw [show ((27 : Int32) - (0 : Int32)) = (27 : Int32) from by decide]
    show own_Go p e below Pst (s₁.setTop (mkF m 78 #[.val (.int (1 : Int32)), .val (.int (27 : Int32))] [(.int (27 : Int32))]))
    rw [hPst]
    exact own_retP X0 (v := (some (.int (27 : Int32)))) (Q := Q_nlQ Z (8 : Int64) (16 : Int64) (8000000000 : Int64) (16000000000 : Int64) (16 : Int32) (3 : Int32) (-1179869184 : Int32) h0 n0) (fun h => by rw [Bd.returns] at h; cases h) Bd.notSynchronized (fun fs hr => own_retI X0 hx Bd.returns (dE 36 rfl) hr) (by decide) (by decide) (by rw [e0]; exact ⟨_, rfl, N0, rfl, by decide⟩)
  · refine o_iloadN X0.here hx (dE 0 rfl) rfl ?_
    refine o_ifYes X0.here hx (pc0 := 1) (pc' := 15) rfl (dE 1 rfl) rfl ((if0 _ _).trans (tlt (by decide)).2.2.1) (by decide) (by decide) ?_
    refine o_bipush X0.here hx (dE 2 rfl) (z := (31 : Int32)) rfl ?_
    refine o_istoreN X0.here hx (dE 3 rfl) rfl (l' := #[.val (.int (32 : Int32)), .val (.int (31 : Int32))]) rfl ?_
    refine o_iloadN X0.here hx (dE 4 rfl) rfl ?_
    refine own_Go.of (S' := s₁.setTop (mkF m 22 #[.val (.int (32 : Int32)), .val (.int (31 : Int32))] [(.int (65536 : Int32)), (.int (32 : Int32))])) (fun tgt kst => X0.ldcWInt hx hown (mvT hZ (g_ hw 251 rfl)) (g := (mkF m 19 #[.val (.int (32 : Int32)), .val (.int (31 : Int32))] [(.int (32 : Int32))])) rfl (dE 5 rfl) _ kst) ?_
    refine o_icmpYes X0.here hx (pc0 := 22) (pc' := 33) rfl (dE 6 rfl) rfl (tlt (by decide)).1 (by decide) (by decide) ?_
    refine o_iloadN X0.here hx (dE 12 rfl) rfl ?_
    refine o_sipush X0.here hx (dE 13 rfl) (z := (256 : Int32)) rfl ?_
    refine o_icmpYes X0.here hx (pc0 := 37) (pc' := 48) rfl (dE 14 rfl) rfl (tlt (by decide)).1 (by decide) (by decide) ?_
    refine o_iloadN X0.here hx (dE 20 rfl) rfl ?_
    refine o_bipush X0.here hx (dE 21 rfl) (z := (16 : Int32)) rfl ?_
    refine o_icmpNo X0.here hx (dE 22 rfl) rfl (flt (by decide)).1 ?_
    refine o_iinc X0.here hx (dE 23 rfl) rfl (l' := #[.val (.int (32 : Int32)), .val (.int ((31 : Int32) + (-4 : Int32)))]) rfl ?_
    rw [show ((31 : Int32) + (-4 : Int32)) = (27 : Int32) from by decide]
    show own_Go p e below Pst (s₁.setTop (mkF m 57 #[.val (.int (32 : Int32)), .val (.int (27 : Int32))] []))
    refine o_iloadN X0.here hx (dE 24 rfl) rfl ?_
    refine o_iconst X0.here hx (dE 25 rfl) (z := (4 : Int32)) rfl ?_
    refine o_iushr X0.here hx (dE 26 rfl) rfl ?_
    rw [show (((32 : Int32).toUInt32 >>> ((4 : Int32) &&& 31).toUInt32).toInt32) = (2 : Int32) from by decide]
    show own_Go p e below Pst (s₁.setTop (mkF m 60 #[.val (.int (32 : Int32)), .val (.int (27 : Int32))] [(.int (2 : Int32))]))
    refine o_istoreN X0.here hx (dE 27 rfl) rfl (l' := #[.val (.int (2 : Int32)), .val (.int (27 : Int32))]) rfl ?_
    refine o_iloadN X0.here hx (dE 28 rfl) rfl ?_
    refine o_iconst X0.here hx (dE 29 rfl) (z := (4 : Int32)) rfl ?_
    refine o_icmpYes X0.here hx (pc0 := 63) (pc' := 73) rfl (dE 30 rfl) rfl (tlt (by decide)).1 (by decide) (by decide) ?_
    refine o_iloadN X0.here hx (dE 31 rfl) rfl ?_
    refine o_iloadN X0.here hx (dE 32 rfl) rfl ?_
    refine o_iconst X0.here hx (dE 33 rfl) (z := (1 : Int32)) rfl ?_
    refine o_iushr X0.here hx (dE 34 rfl) rfl ?_
    rw [show (((2 : Int32).toUInt32 >>> ((1 : Int32) &&& 31).toUInt32).toInt32) = (1 : Int32) from by decide]
    show own_Go p e below Pst (s₁.setTop (mkF m 77 #[.val (.int (2 : Int32)), .val (.int (27 : Int32))] [(.int (1 : Int32)), (.int (27 : Int32))]))
    refine o_isub X0.here hx (dE 35 rfl) rfl ?_
    rw [show ((27 : Int32) - (1 : Int32)) = (26 : Int32) from by decide]
    show own_Go p e below Pst (s₁.setTop (mkF m 78 #[.val (.int (2 : Int32)), .val (.int (27 : Int32))] [(.int (26 : Int32))]))
    rw [hPst]
    exact own_retP X0 (v := (some (.int (26 : Int32)))) (Q := Q_nlQ Z (16 : Int64) (32 : Int64) (16000000000 : Int64) (32000000000 : Int64) (32 : Int32) (7 : Int32) (1935228928 : Int32) h0 n0) (fun h => by rw [Bd.returns] at h; cases h) Bd.notSynchronized (fun fs hr => own_retI X0 hx Bd.returns (dE 36 rfl) hr) (by decide) (by decide) (by rw [e0]; exact ⟨_, rfl, N0, rfl, by decide⟩)
  · refine o_iloadN X0.here hx (dE 0 rfl) rfl ?_
    refine o_ifYes X0.here hx (pc0 := 1) (pc' := 15) rfl (dE 1 rfl) rfl ((if0 _ _).trans (tlt (by decide)).2.2.1) (by decide) (by decide) ?_
    refine o_bipush X0.here hx (dE 2 rfl) (z := (31 : Int32)) rfl ?_
    refine o_istoreN X0.here hx (dE 3 rfl) rfl (l' := #[.val (.int (64 : Int32)), .val (.int (31 : Int32))]) rfl ?_
    refine o_iloadN X0.here hx (dE 4 rfl) rfl ?_
    refine own_Go.of (S' := s₁.setTop (mkF m 22 #[.val (.int (64 : Int32)), .val (.int (31 : Int32))] [(.int (65536 : Int32)), (.int (64 : Int32))])) (fun tgt kst => X0.ldcWInt hx hown (mvT hZ (g_ hw 251 rfl)) (g := (mkF m 19 #[.val (.int (64 : Int32)), .val (.int (31 : Int32))] [(.int (64 : Int32))])) rfl (dE 5 rfl) _ kst) ?_
    refine o_icmpYes X0.here hx (pc0 := 22) (pc' := 33) rfl (dE 6 rfl) rfl (tlt (by decide)).1 (by decide) (by decide) ?_
    refine o_iloadN X0.here hx (dE 12 rfl) rfl ?_
    refine o_sipush X0.here hx (dE 13 rfl) (z := (256 : Int32)) rfl ?_
    refine o_icmpYes X0.here hx (pc0 := 37) (pc' := 48) rfl (dE 14 rfl) rfl (tlt (by decide)).1 (by decide) (by decide) ?_
    refine o_iloadN X0.here hx (dE 20 rfl) rfl ?_
    refine o_bipush X0.here hx (dE 21 rfl) (z := (16 : Int32)) rfl ?_
    refine o_icmpNo X0.here hx (dE 22 rfl) rfl (flt (by decide)).1 ?_
    refine o_iinc X0.here hx (dE 23 rfl) rfl (l' := #[.val (.int (64 : Int32)), .val (.int ((31 : Int32) + (-4 : Int32)))]) rfl ?_
    rw [show ((31 : Int32) + (-4 : Int32)) = (27 : Int32) from by decide]
    show own_Go p e below Pst (s₁.setTop (mkF m 57 #[.val (.int (64 : Int32)), .val (.int (27 : Int32))] []))
    refine o_iloadN X0.here hx (dE 24 rfl) rfl ?_
    refine o_iconst X0.here hx (dE 25 rfl) (z := (4 : Int32)) rfl ?_
    refine o_iushr X0.here hx (dE 26 rfl) rfl ?_
    rw [show (((64 : Int32).toUInt32 >>> ((4 : Int32) &&& 31).toUInt32).toInt32) = (4 : Int32) from by decide]
    show own_Go p e below Pst (s₁.setTop (mkF m 60 #[.val (.int (64 : Int32)), .val (.int (27 : Int32))] [(.int (4 : Int32))]))
    refine o_istoreN X0.here hx (dE 27 rfl) rfl (l' := #[.val (.int (4 : Int32)), .val (.int (27 : Int32))]) rfl ?_
    refine o_iloadN X0.here hx (dE 28 rfl) rfl ?_
    refine o_iconst X0.here hx (dE 29 rfl) (z := (4 : Int32)) rfl ?_
    refine o_icmpNo X0.here hx (dE 30 rfl) rfl (flt (by decide)).1 ?_
    refine o_iinc X0.here hx (dE 37 rfl) rfl (l' := #[.val (.int (4 : Int32)), .val (.int ((27 : Int32) + (-2 : Int32)))]) rfl ?_
    rw [show ((27 : Int32) + (-2 : Int32)) = (25 : Int32) from by decide]
    show own_Go p e below Pst (s₁.setTop (mkF m 69 #[.val (.int (4 : Int32)), .val (.int (25 : Int32))] []))
    refine o_iloadN X0.here hx (dE 38 rfl) rfl ?_
    refine o_iconst X0.here hx (dE 39 rfl) (z := (2 : Int32)) rfl ?_
    refine o_iushr X0.here hx (dE 40 rfl) rfl ?_
    rw [show (((4 : Int32).toUInt32 >>> ((2 : Int32) &&& 31).toUInt32).toInt32) = (1 : Int32) from by decide]
    show own_Go p e below Pst (s₁.setTop (mkF m 72 #[.val (.int (4 : Int32)), .val (.int (25 : Int32))] [(.int (1 : Int32))]))
    refine o_istoreN X0.here hx (dE 41 rfl) rfl (l' := #[.val (.int (1 : Int32)), .val (.int (25 : Int32))]) rfl ?_
    refine o_iloadN X0.here hx (dE 31 rfl) rfl ?_
    refine o_iloadN X0.here hx (dE 32 rfl) rfl ?_
    refine o_iconst X0.here hx (dE 33 rfl) (z := (1 : Int32)) rfl ?_
    refine o_iushr X0.here hx (dE 34 rfl) rfl ?_
    rw [show (((1 : Int32).toUInt32 >>> ((1 : Int32) &&& 31).toUInt32).toInt32) = (0 : Int32) from by decide]
    show own_Go p e below Pst (s₁.setTop (mkF m 77 #[.val (.int (1 : Int32)), .val (.int (25 : Int32))] [(.int (0 : Int32)), (.int (25 : Int32))]))
    refine o_isub X0.here hx (dE 35 rfl) rfl ?_
    rw [show ((25 : Int32) - (0 : Int32)) = (25 : Int32) from by decide]
    show own_Go p e below Pst (s₁.setTop (mkF m 78 #[.val (.int (1 : Int32)), .val (.int (25 : Int32))] [(.int (25 : Int32))]))
    rw [hPst]
    exact own_retP X0 (v := (some (.int (25 : Int32)))) (Q := Q_nlQ Z (32 : Int64) (64 : Int64) (32000000000 : Int64) (64000000000 : Int64) (64 : Int32) (14 : Int32) (-424509440 : Int32) h0 n0) (fun h => by rw [Bd.returns] at h; cases h) Bd.notSynchronized (fun fs hr => own_retI X0 hx Bd.returns (dE 36 rfl) hr) (by decide) (by decide) (by rw [e0]; exact ⟨_, rfl, N0, rfl, by decide⟩)
  · refine o_iloadN X0.here hx (dE 0 rfl) rfl ?_
    refine o_ifYes X0.here hx (pc0 := 1) (pc' := 15) rfl (dE 1 rfl) rfl ((if0 _ _).trans (tlt (by decide)).2.2.1) (by decide) (by decide) ?_
    refine o_bipush X0.here hx (dE 2 rfl) (z := (31 : Int32)) rfl ?_
    refine o_istoreN X0.here hx (dE 3 rfl) rfl (l' := #[.val (.int (128 : Int32)), .val (.int (31 : Int32))]) rfl ?_
    refine o_iloadN X0.here hx (dE 4 rfl) rfl ?_
    refine own_Go.of (S' := s₁.setTop (mkF m 22 #[.val (.int (128 : Int32)), .val (.int (31 : Int32))] [(.int (65536 : Int32)), (.int (128 : Int32))])) (fun tgt kst => X0.ldcWInt hx hown (mvT hZ (g_ hw 251 rfl)) (g := (mkF m 19 #[.val (.int (128 : Int32)), .val (.int (31 : Int32))] [(.int (128 : Int32))])) rfl (dE 5 rfl) _ kst) ?_
    refine o_icmpYes X0.here hx (pc0 := 22) (pc' := 33) rfl (dE 6 rfl) rfl (tlt (by decide)).1 (by decide) (by decide) ?_
    refine o_iloadN X0.here hx (dE 12 rfl) rfl ?_
    refine o_sipush X0.here hx (dE 13 rfl) (z := (256 : Int32)) rfl ?_
    refine o_icmpYes X0.here hx (pc0 := 37) (pc' := 48) rfl (dE 14 rfl) rfl (tlt (by decide)).1 (by decide) (by decide) ?_
    refine o_iloadN X0.here hx (dE 20 rfl) rfl ?_
    refine o_bipush X0.here hx (dE 21 rfl) (z := (16 : Int32)) rfl ?_
    refine o_icmpNo X0.here hx (dE 22 rfl) rfl (flt (by decide)).1 ?_
    refine o_iinc X0.here hx (dE 23 rfl) rfl (l' := #[.val (.int (128 : Int32)), .val (.int ((31 : Int32) + (-4 : Int32)))]) rfl ?_
    rw [show ((31 : Int32) + (-4 : Int32)) = (27 : Int32) from by decide]
    show own_Go p e below Pst (s₁.setTop (mkF m 57 #[.val (.int (128 : Int32)), .val (.int (27 : Int32))] []))
    refine o_iloadN X0.here hx (dE 24 rfl) rfl ?_
    refine o_iconst X0.here hx (dE 25 rfl) (z := (4 : Int32)) rfl ?_
    refine o_iushr X0.here hx (dE 26 rfl) rfl ?_
    rw [show (((128 : Int32).toUInt32 >>> ((4 : Int32) &&& 31).toUInt32).toInt32) = (8 : Int32) from by decide]
    show own_Go p e below Pst (s₁.setTop (mkF m 60 #[.val (.int (128 : Int32)), .val (.int (27 : Int32))] [(.int (8 : Int32))]))
    refine o_istoreN X0.here hx (dE 27 rfl) rfl (l' := #[.val (.int (8 : Int32)), .val (.int (27 : Int32))]) rfl ?_
    refine o_iloadN X0.here hx (dE 28 rfl) rfl ?_
    refine o_iconst X0.here hx (dE 29 rfl) (z := (4 : Int32)) rfl ?_
    refine o_icmpNo X0.here hx (dE 30 rfl) rfl (flt (by decide)).1 ?_
    refine o_iinc X0.here hx (dE 37 rfl) rfl (l' := #[.val (.int (8 : Int32)), .val (.int ((27 : Int32) + (-2 : Int32)))]) rfl ?_
    rw [show ((27 : Int32) + (-2 : Int32)) = (25 : Int32) from by decide]
    show own_Go p e below Pst (s₁.setTop (mkF m 69 #[.val (.int (8 : Int32)), .val (.int (25 : Int32))] []))
    refine o_iloadN X0.here hx (dE 38 rfl) rfl ?_
    refine o_iconst X0.here hx (dE 39 rfl) (z := (2 : Int32)) rfl ?_
    refine o_iushr X0.here hx (dE 40 rfl) rfl ?_
    rw [show (((8 : Int32).toUInt32 >>> ((2 : Int32) &&& 31).toUInt32).toInt32) = (2 : Int32) from by decide]
    show own_Go p e below Pst (s₁.setTop (mkF m 72 #[.val (.int (8 : Int32)), .val (.int (25 : Int32))] [(.int (2 : Int32))]))
    refine o_istoreN X0.here hx (dE 41 rfl) rfl (l' := #[.val (.int (2 : Int32)), .val (.int (25 : Int32))]) rfl ?_
    refine o_iloadN X0.here hx (dE 31 rfl) rfl ?_
    refine o_iloadN X0.here hx (dE 32 rfl) rfl ?_
    refine o_iconst X0.here hx (dE 33 rfl) (z := (1 : Int32)) rfl ?_
    refine o_iushr X0.here hx (dE 34 rfl) rfl ?_
    rw [show (((2 : Int32).toUInt32 >>> ((1 : Int32) &&& 31).toUInt32).toInt32) = (1 : Int32) from by decide]
    show own_Go p e below Pst (s₁.setTop (mkF m 77 #[.val (.int (2 : Int32)), .val (.int (25 : Int32))] [(.int (1 : Int32)), (.int (25 : Int32))]))
    refine o_isub X0.here hx (dE 35 rfl) rfl ?_
    rw [show ((25 : Int32) - (1 : Int32)) = (24 : Int32) from by decide]
    show own_Go p e below Pst (s₁.setTop (mkF m 78 #[.val (.int (2 : Int32)), .val (.int (25 : Int32))] [(.int (24 : Int32))]))
    rw [hPst]
    exact own_retP X0 (v := (some (.int (24 : Int32)))) (Q := Q_nlQ Z (64 : Int64) (128 : Int64) (64000000000 : Int64) (128000000000 : Int64) (128 : Int32) (29 : Int32) (-849018880 : Int32) h0 n0) (fun h => by rw [Bd.returns] at h; cases h) Bd.notSynchronized (fun fs hr => own_retI X0 hx Bd.returns (dE 36 rfl) hr) (by decide) (by decide) (by rw [e0]; exact ⟨_, rfl, N0, rfl, by decide⟩)
  · refine o_iloadN X0.here hx (dE 0 rfl) rfl ?_
    refine o_ifYes X0.here hx (pc0 := 1) (pc' := 15) rfl (dE 1 rfl) rfl ((if0 _ _).trans (tlt (by decide)).2.2.1) (by decide) (by decide) ?_
    refine o_bipush X0.here hx (dE 2 rfl) (z := (31 : Int32)) rfl ?_
    refine o_istoreN X0.here hx (dE 3 rfl) rfl (l' := #[.val (.int (256 : Int32)), .val (.int (31 : Int32))]) rfl ?_
    refine o_iloadN X0.here hx (dE 4 rfl) rfl ?_
    refine own_Go.of (S' := s₁.setTop (mkF m 22 #[.val (.int (256 : Int32)), .val (.int (31 : Int32))] [(.int (65536 : Int32)), (.int (256 : Int32))])) (fun tgt kst => X0.ldcWInt hx hown (mvT hZ (g_ hw 251 rfl)) (g := (mkF m 19 #[.val (.int (256 : Int32)), .val (.int (31 : Int32))] [(.int (256 : Int32))])) rfl (dE 5 rfl) _ kst) ?_
    refine o_icmpYes X0.here hx (pc0 := 22) (pc' := 33) rfl (dE 6 rfl) rfl (tlt (by decide)).1 (by decide) (by decide) ?_
    refine o_iloadN X0.here hx (dE 12 rfl) rfl ?_
    refine o_sipush X0.here hx (dE 13 rfl) (z := (256 : Int32)) rfl ?_
    refine o_icmpNo X0.here hx (dE 14 rfl) rfl (flt (by decide)).1 ?_
    refine o_iinc X0.here hx (dE 15 rfl) rfl (l' := #[.val (.int (256 : Int32)), .val (.int ((31 : Int32) + (-8 : Int32)))]) rfl ?_
    rw [show ((31 : Int32) + (-8 : Int32)) = (23 : Int32) from by decide]
    show own_Go p e below Pst (s₁.setTop (mkF m 43 #[.val (.int (256 : Int32)), .val (.int (23 : Int32))] []))
    refine o_iloadN X0.here hx (dE 16 rfl) rfl ?_
    refine o_bipush X0.here hx (dE 17 rfl) (z := (8 : Int32)) rfl ?_
    refine o_iushr X0.here hx (dE 18 rfl) rfl ?_
    rw [show (((256 : Int32).toUInt32 >>> ((8 : Int32) &&& 31).toUInt32).toInt32) = (1 : Int32) from by decide]
    show own_Go p e below Pst (s₁.setTop (mkF m 47 #[.val (.int (256 : Int32)), .val (.int (23 : Int32))] [(.int (1 : Int32))]))
    refine o_istoreN X0.here hx (dE 19 rfl) rfl (l' := #[.val (.int (1 : Int32)), .val (.int (23 : Int32))]) rfl ?_
    refine o_iloadN X0.here hx (dE 20 rfl) rfl ?_
    refine o_bipush X0.here hx (dE 21 rfl) (z := (16 : Int32)) rfl ?_
    refine o_icmpYes X0.here hx (pc0 := 51) (pc' := 61) rfl (dE 22 rfl) rfl (tlt (by decide)).1 (by decide) (by decide) ?_
    refine o_iloadN X0.here hx (dE 28 rfl) rfl ?_
    refine o_iconst X0.here hx (dE 29 rfl) (z := (4 : Int32)) rfl ?_
    refine o_icmpYes X0.here hx (pc0 := 63) (pc' := 73) rfl (dE 30 rfl) rfl (tlt (by decide)).1 (by decide) (by decide) ?_
    refine o_iloadN X0.here hx (dE 31 rfl) rfl ?_
    refine o_iloadN X0.here hx (dE 32 rfl) rfl ?_
    refine o_iconst X0.here hx (dE 33 rfl) (z := (1 : Int32)) rfl ?_
    refine o_iushr X0.here hx (dE 34 rfl) rfl ?_
    rw [show (((1 : Int32).toUInt32 >>> ((1 : Int32) &&& 31).toUInt32).toInt32) = (0 : Int32) from by decide]
    show own_Go p e below Pst (s₁.setTop (mkF m 77 #[.val (.int (1 : Int32)), .val (.int (23 : Int32))] [(.int (0 : Int32)), (.int (23 : Int32))]))
    refine o_isub X0.here hx (dE 35 rfl) rfl ?_
    rw [show ((23 : Int32) - (0 : Int32)) = (23 : Int32) from by decide]
    show own_Go p e below Pst (s₁.setTop (mkF m 78 #[.val (.int (1 : Int32)), .val (.int (23 : Int32))] [(.int (23 : Int32))]))
    rw [hPst]
    exact own_retP X0 (v := (some (.int (23 : Int32)))) (Q := Q_nlQ Z (128 : Int64) (256 : Int64) (128000000000 : Int64) (256000000000 : Int64) (256 : Int32) (59 : Int32) (-1698037760 : Int32) h0 n0) (fun h => by rw [Bd.returns] at h; cases h) Bd.notSynchronized (fun fs hr => own_retI X0 hx Bd.returns (dE 36 rfl) hr) (by decide) (by decide) (by rw [e0]; exact ⟨_, rfl, N0, rfl, by decide⟩)
  · refine o_iloadN X0.here hx (dE 0 rfl) rfl ?_
    refine o_ifYes X0.here hx (pc0 := 1) (pc' := 15) rfl (dE 1 rfl) rfl ((if0 _ _).trans (tlt (by decide)).2.2.1) (by decide) (by decide) ?_
    refine o_bipush X0.here hx (dE 2 rfl) (z := (31 : Int32)) rfl ?_
    refine o_istoreN X0.here hx (dE 3 rfl) rfl (l' := #[.val (.int (512 : Int32)), .val (.int (31 : Int32))]) rfl ?_
    refine o_iloadN X0.here hx (dE 4 rfl) rfl ?_
    refine own_Go.of (S' := s₁.setTop (mkF m 22 #[.val (.int (512 : Int32)), .val (.int (31 : Int32))] [(.int (65536 : Int32)), (.int (512 : Int32))])) (fun tgt kst => X0.ldcWInt hx hown (mvT hZ (g_ hw 251 rfl)) (g := (mkF m 19 #[.val (.int (512 : Int32)), .val (.int (31 : Int32))] [(.int (512 : Int32))])) rfl (dE 5 rfl) _ kst) ?_
    refine o_icmpYes X0.here hx (pc0 := 22) (pc' := 33) rfl (dE 6 rfl) rfl (tlt (by decide)).1 (by decide) (by decide) ?_
    refine o_iloadN X0.here hx (dE 12 rfl) rfl ?_
    refine o_sipush X0.here hx (dE 13 rfl) (z := (256 : Int32)) rfl ?_
    refine o_icmpNo X0.here hx (dE 14 rfl) rfl (flt (by decide)).1 ?_
    refine o_iinc X0.here hx (dE 15 rfl) rfl (l' := #[.val (.int (512 : Int32)), .val (.int ((31 : Int32) + (-8 : Int32)))]) rfl ?_
    rw [show ((31 : Int32) + (-8 : Int32)) = (23 : Int32) from by decide]
    show own_Go p e below Pst (s₁.setTop (mkF m 43 #[.val (.int (512 : Int32)), .val (.int (23 : Int32))] []))
    refine o_iloadN X0.here hx (dE 16 rfl) rfl ?_
    refine o_bipush X0.here hx (dE 17 rfl) (z := (8 : Int32)) rfl ?_
    refine o_iushr X0.here hx (dE 18 rfl) rfl ?_
    rw [show (((512 : Int32).toUInt32 >>> ((8 : Int32) &&& 31).toUInt32).toInt32) = (2 : Int32) from by decide]
    show own_Go p e below Pst (s₁.setTop (mkF m 47 #[.val (.int (512 : Int32)), .val (.int (23 : Int32))] [(.int (2 : Int32))]))
    refine o_istoreN X0.here hx (dE 19 rfl) rfl (l' := #[.val (.int (2 : Int32)), .val (.int (23 : Int32))]) rfl ?_
    refine o_iloadN X0.here hx (dE 20 rfl) rfl ?_
    refine o_bipush X0.here hx (dE 21 rfl) (z := (16 : Int32)) rfl ?_
    refine o_icmpYes X0.here hx (pc0 := 51) (pc' := 61) rfl (dE 22 rfl) rfl (tlt (by decide)).1 (by decide) (by decide) ?_
    refine o_iloadN X0.here hx (dE 28 rfl) rfl ?_
    refine o_iconst X0.here hx (dE 29 rfl) (z := (4 : Int32)) rfl ?_
    refine o_icmpYes X0.here hx (pc0 := 63) (pc' := 73) rfl (dE 30 rfl) rfl (tlt (by decide)).1 (by decide) (by decide) ?_
    refine o_iloadN X0.here hx (dE 31 rfl) rfl ?_
    refine o_iloadN X0.here hx (dE 32 rfl) rfl ?_
    refine o_iconst X0.here hx (dE 33 rfl) (z := (1 : Int32)) rfl ?_
    refine o_iushr X0.here hx (dE 34 rfl) rfl ?_
    rw [show (((2 : Int32).toUInt32 >>> ((1 : Int32) &&& 31).toUInt32).toInt32) = (1 : Int32) from by decide]
    show own_Go p e below Pst (s₁.setTop (mkF m 77 #[.val (.int (2 : Int32)), .val (.int (23 : Int32))] [(.int (1 : Int32)), (.int (23 : Int32))]))
    refine o_isub X0.here hx (dE 35 rfl) rfl ?_
    rw [show ((23 : Int32) - (1 : Int32)) = (22 : Int32) from by decide]
    show own_Go p e below Pst (s₁.setTop (mkF m 78 #[.val (.int (2 : Int32)), .val (.int (23 : Int32))] [(.int (22 : Int32))]))
    rw [hPst]
    exact own_retP X0 (v := (some (.int (22 : Int32)))) (Q := Q_nlQ Z (256 : Int64) (512 : Int64) (256000000000 : Int64) (512000000000 : Int64) (512 : Int32) (119 : Int32) (898891776 : Int32) h0 n0) (fun h => by rw [Bd.returns] at h; cases h) Bd.notSynchronized (fun fs hr => own_retI X0 hx Bd.returns (dE 36 rfl) hr) (by decide) (by decide) (by rw [e0]; exact ⟨_, rfl, N0, rfl, by decide⟩)
  · refine o_iloadN X0.here hx (dE 0 rfl) rfl ?_
    refine o_ifYes X0.here hx (pc0 := 1) (pc' := 15) rfl (dE 1 rfl) rfl ((if0 _ _).trans (tlt (by decide)).2.2.1) (by decide) (by decide) ?_
    refine o_bipush X0.here hx (dE 2 rfl) (z := (31 : Int32)) rfl ?_
    refine o_istoreN X0.here hx (dE 3 rfl) rfl (l' := #[.val (.int (1024 : Int32)), .val (.int (31 : Int32))]) rfl ?_
    refine o_iloadN X0.here hx (dE 4 rfl) rfl ?_
    refine own_Go.of (S' := s₁.setTop (mkF m 22 #[.val (.int (1024 : Int32)), .val (.int (31 : Int32))] [(.int (65536 : Int32)), (.int (1024 : Int32))])) (fun tgt kst => X0.ldcWInt hx hown (mvT hZ (g_ hw 251 rfl)) (g := (mkF m 19 #[.val (.int (1024 : Int32)), .val (.int (31 : Int32))] [(.int (1024 : Int32))])) rfl (dE 5 rfl) _ kst) ?_
    refine o_icmpYes X0.here hx (pc0 := 22) (pc' := 33) rfl (dE 6 rfl) rfl (tlt (by decide)).1 (by decide) (by decide) ?_
    refine o_iloadN X0.here hx (dE 12 rfl) rfl ?_
    refine o_sipush X0.here hx (dE 13 rfl) (z := (256 : Int32)) rfl ?_
    refine o_icmpNo X0.here hx (dE 14 rfl) rfl (flt (by decide)).1 ?_
    refine o_iinc X0.here hx (dE 15 rfl) rfl (l' := #[.val (.int (1024 : Int32)), .val (.int ((31 : Int32) + (-8 : Int32)))]) rfl ?_
    rw [show ((31 : Int32) + (-8 : Int32)) = (23 : Int32) from by decide]
    show own_Go p e below Pst (s₁.setTop (mkF m 43 #[.val (.int (1024 : Int32)), .val (.int (23 : Int32))] []))
    refine o_iloadN X0.here hx (dE 16 rfl) rfl ?_
    refine o_bipush X0.here hx (dE 17 rfl) (z := (8 : Int32)) rfl ?_
    refine o_iushr X0.here hx (dE 18 rfl) rfl ?_
    rw [show (((1024 : Int32).toUInt32 >>> ((8 : Int32) &&& 31).toUInt32).toInt32) = (4 : Int32) from by decide]
    show own_Go p e below Pst (s₁.setTop (mkF m 47 #[.val (.int (1024 : Int32)), .val (.int (23 : Int32))] [(.int (4 : Int32))]))
    refine o_istoreN X0.here hx (dE 19 rfl) rfl (l' := #[.val (.int (4 : Int32)), .val (.int (23 : Int32))]) rfl ?_
    refine o_iloadN X0.here hx (dE 20 rfl) rfl ?_
    refine o_bipush X0.here hx (dE 21 rfl) (z := (16 : Int32)) rfl ?_
    refine o_icmpYes X0.here hx (pc0 := 51) (pc' := 61) rfl (dE 22 rfl) rfl (tlt (by decide)).1 (by decide) (by decide) ?_
    refine o_iloadN X0.here hx (dE 28 rfl) rfl ?_
    refine o_iconst X0.here hx (dE 29 rfl) (z := (4 : Int32)) rfl ?_
    refine o_icmpNo X0.here hx (dE 30 rfl) rfl (flt (by decide)).1 ?_
    refine o_iinc X0.here hx (dE 37 rfl) rfl (l' := #[.val (.int (4 : Int32)), .val (.int ((23 : Int32) + (-2 : Int32)))]) rfl ?_
    rw [show ((23 : Int32) + (-2 : Int32)) = (21 : Int32) from by decide]
    show own_Go p e below Pst (s₁.setTop (mkF m 69 #[.val (.int (4 : Int32)), .val (.int (21 : Int32))] []))
    refine o_iloadN X0.here hx (dE 38 rfl) rfl ?_
    refine o_iconst X0.here hx (dE 39 rfl) (z := (2 : Int32)) rfl ?_
    refine o_iushr X0.here hx (dE 40 rfl) rfl ?_
    rw [show (((4 : Int32).toUInt32 >>> ((2 : Int32) &&& 31).toUInt32).toInt32) = (1 : Int32) from by decide]
    show own_Go p e below Pst (s₁.setTop (mkF m 72 #[.val (.int (4 : Int32)), .val (.int (21 : Int32))] [(.int (1 : Int32))]))
    refine o_istoreN X0.here hx (dE 41 rfl) rfl (l' := #[.val (.int (1 : Int32)), .val (.int (21 : Int32))]) rfl ?_
    refine o_iloadN X0.here hx (dE 31 rfl) rfl ?_
    refine o_iloadN X0.here hx (dE 32 rfl) rfl ?_
    refine o_iconst X0.here hx (dE 33 rfl) (z := (1 : Int32)) rfl ?_
    refine o_iushr X0.here hx (dE 34 rfl) rfl ?_
    rw [show (((1 : Int32).toUInt32 >>> ((1 : Int32) &&& 31).toUInt32).toInt32) = (0 : Int32) from by decide]
    show own_Go p e below Pst (s₁.setTop (mkF m 77 #[.val (.int (1 : Int32)), .val (.int (21 : Int32))] [(.int (0 : Int32)), (.int (21 : Int32))]))
    refine o_isub X0.here hx (dE 35 rfl) rfl ?_
    rw [show ((21 : Int32) - (0 : Int32)) = (21 : Int32) from by decide]
    show own_Go p e below Pst (s₁.setTop (mkF m 78 #[.val (.int (1 : Int32)), .val (.int (21 : Int32))] [(.int (21 : Int32))]))
    rw [hPst]
    exact own_retP X0 (v := (some (.int (21 : Int32)))) (Q := Q_nlQ Z (512 : Int64) (1024 : Int64) (512000000000 : Int64) (1024000000000 : Int64) (1024 : Int32) (238 : Int32) (1797783552 : Int32) h0 n0) (fun h => by rw [Bd.returns] at h; cases h) Bd.notSynchronized (fun fs hr => own_retI X0 hx Bd.returns (dE 36 rfl) hr) (by decide) (by decide) (by rw [e0]; exact ⟨_, rfl, N0, rfl, by decide⟩)
  · refine o_iloadN X0.here hx (dE 0 rfl) rfl ?_
    refine o_ifYes X0.here hx (pc0 := 1) (pc' := 15) rfl (dE 1 rfl) rfl ((if0 _ _).trans (tlt (by decide)).2.2.1) (by decide) (by decide) ?_
    refine o_bipush X0.here hx (dE 2 rfl) (z := (31 : Int32)) rfl ?_
    refine o_istoreN X0.here hx (dE 3 rfl) rfl (l' := #[.val (.int (2048 : Int32)), .val (.int (31 : Int32))]) rfl ?_
    refine o_iloadN X0.here hx (dE 4 rfl) rfl ?_
    refine own_Go.of (S' := s₁.setTop (mkF m 22 #[.val (.int (2048 : Int32)), .val (.int (31 : Int32))] [(.int (65536 : Int32)), (.int (2048 : Int32))])) (fun tgt kst => X0.ldcWInt hx hown (mvT hZ (g_ hw 251 rfl)) (g := (mkF m 19 #[.val (.int (2048 : Int32)), .val (.int (31 : Int32))] [(.int (2048 : Int32))])) rfl (dE 5 rfl) _ kst) ?_
    refine o_icmpYes X0.here hx (pc0 := 22) (pc' := 33) rfl (dE 6 rfl) rfl (tlt (by decide)).1 (by decide) (by decide) ?_
    refine o_iloadN X0.here hx (dE 12 rfl) rfl ?_
    refine o_sipush X0.here hx (dE 13 rfl) (z := (256 : Int32)) rfl ?_
    refine o_icmpNo X0.here hx (dE 14 rfl) rfl (flt (by decide)).1 ?_
    refine o_iinc X0.here hx (dE 15 rfl) rfl (l' := #[.val (.int (2048 : Int32)), .val (.int ((31 : Int32) + (-8 : Int32)))]) rfl ?_
    rw [show ((31 : Int32) + (-8 : Int32)) = (23 : Int32) from by decide]
    show own_Go p e below Pst (s₁.setTop (mkF m 43 #[.val (.int (2048 : Int32)), .val (.int (23 : Int32))] []))
    refine o_iloadN X0.here hx (dE 16 rfl) rfl ?_
    refine o_bipush X0.here hx (dE 17 rfl) (z := (8 : Int32)) rfl ?_
    refine o_iushr X0.here hx (dE 18 rfl) rfl ?_
    rw [show (((2048 : Int32).toUInt32 >>> ((8 : Int32) &&& 31).toUInt32).toInt32) = (8 : Int32) from by decide]
    show own_Go p e below Pst (s₁.setTop (mkF m 47 #[.val (.int (2048 : Int32)), .val (.int (23 : Int32))] [(.int (8 : Int32))]))
    refine o_istoreN X0.here hx (dE 19 rfl) rfl (l' := #[.val (.int (8 : Int32)), .val (.int (23 : Int32))]) rfl ?_
    refine o_iloadN X0.here hx (dE 20 rfl) rfl ?_
    refine o_bipush X0.here hx (dE 21 rfl) (z := (16 : Int32)) rfl ?_
    refine o_icmpYes X0.here hx (pc0 := 51) (pc' := 61) rfl (dE 22 rfl) rfl (tlt (by decide)).1 (by decide) (by decide) ?_
    refine o_iloadN X0.here hx (dE 28 rfl) rfl ?_
    refine o_iconst X0.here hx (dE 29 rfl) (z := (4 : Int32)) rfl ?_
    refine o_icmpNo X0.here hx (dE 30 rfl) rfl (flt (by decide)).1 ?_
    refine o_iinc X0.here hx (dE 37 rfl) rfl (l' := #[.val (.int (8 : Int32)), .val (.int ((23 : Int32) + (-2 : Int32)))]) rfl ?_
    rw [show ((23 : Int32) + (-2 : Int32)) = (21 : Int32) from by decide]
    show own_Go p e below Pst (s₁.setTop (mkF m 69 #[.val (.int (8 : Int32)), .val (.int (21 : Int32))] []))
    refine o_iloadN X0.here hx (dE 38 rfl) rfl ?_
    refine o_iconst X0.here hx (dE 39 rfl) (z := (2 : Int32)) rfl ?_
    refine o_iushr X0.here hx (dE 40 rfl) rfl ?_
    rw [show (((8 : Int32).toUInt32 >>> ((2 : Int32) &&& 31).toUInt32).toInt32) = (2 : Int32) from by decide]
    show own_Go p e below Pst (s₁.setTop (mkF m 72 #[.val (.int (8 : Int32)), .val (.int (21 : Int32))] [(.int (2 : Int32))]))
    refine o_istoreN X0.here hx (dE 41 rfl) rfl (l' := #[.val (.int (2 : Int32)), .val (.int (21 : Int32))]) rfl ?_
    refine o_iloadN X0.here hx (dE 31 rfl) rfl ?_
    refine o_iloadN X0.here hx (dE 32 rfl) rfl ?_
    refine o_iconst X0.here hx (dE 33 rfl) (z := (1 : Int32)) rfl ?_
    refine o_iushr X0.here hx (dE 34 rfl) rfl ?_
    rw [show (((2 : Int32).toUInt32 >>> ((1 : Int32) &&& 31).toUInt32).toInt32) = (1 : Int32) from by decide]
    show own_Go p e below Pst (s₁.setTop (mkF m 77 #[.val (.int (2 : Int32)), .val (.int (21 : Int32))] [(.int (1 : Int32)), (.int (21 : Int32))]))
    refine o_isub X0.here hx (dE 35 rfl) rfl ?_
    rw [show ((21 : Int32) - (1 : Int32)) = (20 : Int32) from by decide]
    show own_Go p e below Pst (s₁.setTop (mkF m 78 #[.val (.int (2 : Int32)), .val (.int (21 : Int32))] [(.int (20 : Int32))]))
    rw [hPst]
    exact own_retP X0 (v := (some (.int (20 : Int32)))) (Q := Q_nlQ Z (1024 : Int64) (2048 : Int64) (1024000000000 : Int64) (2048000000000 : Int64) (2048 : Int32) (476 : Int32) (-699400192 : Int32) h0 n0) (fun h => by rw [Bd.returns] at h; cases h) Bd.notSynchronized (fun fs hr => own_retI X0 hx Bd.returns (dE 36 rfl) hr) (by decide) (by decide) (by rw [e0]; exact ⟨_, rfl, N0, rfl, by decide⟩)
  · refine o_iloadN X0.here hx (dE 0 rfl) rfl ?_
    refine o_ifYes X0.here hx (pc0 := 1) (pc' := 15) rfl (dE 1 rfl) rfl ((if0 _ _).trans (tlt (by decide)).2.2.1) (by decide) (by decide) ?_
    refine o_bipush X0.here hx (dE 2 rfl) (z := (31 : Int32)) rfl ?_
    refine o_istoreN X0.here hx (dE 3 rfl) rfl (l' := #[.val (.int (4096 : Int32)), .val (.int (31 : Int32))]) rfl ?_
    refine o_iloadN X0.here hx (dE 4 rfl) rfl ?_
    refine own_Go.of (S' := s₁.setTop (mkF m 22 #[.val (.int (4096 : Int32)), .val (.int (31 : Int32))] [(.int (65536 : Int32)), (.int (4096 : Int32))])) (fun tgt kst => X0.ldcWInt hx hown (mvT hZ (g_ hw 251 rfl)) (g := (mkF m 19 #[.val (.int (4096 : Int32)), .val (.int (31 : Int32))] [(.int (4096 : Int32))])) rfl (dE 5 rfl) _ kst) ?_
    refine o_icmpYes X0.here hx (pc0 := 22) (pc' := 33) rfl (dE 6 rfl) rfl (tlt (by decide)).1 (by decide) (by decide) ?_
    refine o_iloadN X0.here hx (dE 12 rfl) rfl ?_
    refine o_sipush X0.here hx (dE 13 rfl) (z := (256 : Int32)) rfl ?_
    refine o_icmpNo X0.here hx (dE 14 rfl) rfl (flt (by decide)).1 ?_
    refine o_iinc X0.here hx (dE 15 rfl) rfl (l' := #[.val (.int (4096 : Int32)), .val (.int ((31 : Int32) + (-8 : Int32)))]) rfl ?_
    rw [show ((31 : Int32) + (-8 : Int32)) = (23 : Int32) from by decide]
    show own_Go p e below Pst (s₁.setTop (mkF m 43 #[.val (.int (4096 : Int32)), .val (.int (23 : Int32))] []))
    refine o_iloadN X0.here hx (dE 16 rfl) rfl ?_
    refine o_bipush X0.here hx (dE 17 rfl) (z := (8 : Int32)) rfl ?_
    refine o_iushr X0.here hx (dE 18 rfl) rfl ?_
    rw [show (((4096 : Int32).toUInt32 >>> ((8 : Int32) &&& 31).toUInt32).toInt32) = (16 : Int32) from by decide]
    show own_Go p e below Pst (s₁.setTop (mkF m 47 #[.val (.int (4096 : Int32)), .val (.int (23 : Int32))] [(.int (16 : Int32))]))
    refine o_istoreN X0.here hx (dE 19 rfl) rfl (l' := #[.val (.int (16 : Int32)), .val (.int (23 : Int32))]) rfl ?_
    refine o_iloadN X0.here hx (dE 20 rfl) rfl ?_
    refine o_bipush X0.here hx (dE 21 rfl) (z := (16 : Int32)) rfl ?_
    refine o_icmpNo X0.here hx (dE 22 rfl) rfl (flt (by decide)).1 ?_
    refine o_iinc X0.here hx (dE 23 rfl) rfl (l' := #[.val (.int (16 : Int32)), .val (.int ((23 : Int32) + (-4 : Int32)))]) rfl ?_
    rw [show ((23 : Int32) + (-4 : Int32)) = (19 : Int32) from by decide]
    show own_Go p e below Pst (s₁.setTop (mkF m 57 #[.val (.int (16 : Int32)), .val (.int (19 : Int32))] []))
    refine o_iloadN X0.here hx (dE 24 rfl) rfl ?_
    refine o_iconst X0.here hx (dE 25 rfl) (z := (4 : Int32)) rfl ?_
    refine o_iushr X0.here hx (dE 26 rfl) rfl ?_
    rw [show (((16 : Int32).toUInt32 >>> ((4 : Int32) &&& 31).toUInt32).toInt32) = (1 : Int32) from by decide]
    show own_Go p e below Pst (s₁.setTop (mkF m 60 #[.val (.int (16 : Int32)), .val (.int (19 : Int32))] [(.int (1 : Int32))]))
    refine o_istoreN X0.here hx (dE 27 rfl) rfl (l' := #[.val (.int (1 : Int32)), .val (.int (19 : Int32))]) rfl ?_
    refine o_iloadN X0.here hx (dE 28 rfl) rfl ?_
    refine o_iconst X0.here hx (dE 29 rfl) (z := (4 : Int32)) rfl ?_
    refine o_icmpYes X0.here hx (pc0 := 63) (pc' := 73) rfl (dE 30 rfl) rfl (tlt (by decide)).1 (by decide) (by decide) ?_
    refine o_iloadN X0.here hx (dE 31 rfl) rfl ?_
    refine o_iloadN X0.here hx (dE 32 rfl) rfl ?_
    refine o_iconst X0.here hx (dE 33 rfl) (z := (1 : Int32)) rfl ?_
    refine o_iushr X0.here hx (dE 34 rfl) rfl ?_
    rw [show (((1 : Int32).toUInt32 >>> ((1 : Int32) &&& 31).toUInt32).toInt32) = (0 : Int32) from by decide]
    show own_Go p e below Pst (s₁.setTop (mkF m 77 #[.val (.int (1 : Int32)), .val (.int (19 : Int32))] [(.int (0 : Int32)), (.int (19 : Int32))]))
    refine o_isub X0.here hx (dE 35 rfl) rfl ?_
    rw [show ((19 : Int32) - (0 : Int32)) = (19 : Int32) from by decide]
    show own_Go p e below Pst (s₁.setTop (mkF m 78 #[.val (.int (1 : Int32)), .val (.int (19 : Int32))] [(.int (19 : Int32))]))
    rw [hPst]
    exact own_retP X0 (v := (some (.int (19 : Int32)))) (Q := Q_nlQ Z (2048 : Int64) (4096 : Int64) (2048000000000 : Int64) (4096000000000 : Int64) (4096 : Int32) (953 : Int32) (-1398800384 : Int32) h0 n0) (fun h => by rw [Bd.returns] at h; cases h) Bd.notSynchronized (fun fs hr => own_retI X0 hx Bd.returns (dE 36 rfl) hr) (by decide) (by decide) (by rw [e0]; exact ⟨_, rfl, N0, rfl, by decide⟩)
theorem own_pd17 : parseMethodDescriptor "(I)I" = some ⟨[.int], some .int⟩ := by decide +kernel
def Q_blf (Z : State) (s r v9 v2 : Int64) (q hi lo : Int32) (h0 : Heap) (n0 : Nat) (v : Option Value) (h : Heap) (L : List Loc) : Prop := ∃ r0 : Int32, v = some (.int ((32 : Int32) - r0)) ∧ Fr n0 L ∧ h = h0 ∧ ¬ (63 : Int32) < ((((1 : Int32) - (1 : Int32)) <<< ((5 : Int32) &&& 31)) + ((32 : Int32) - r0))
theorem rm_blf (l : Launch) (Z : State) (a0 : Array Value) (hw : own_H a0 Z) (ws : List Jvm.Cond) (s r v9 v2 : Int64) (q hi lo : Int32) (h0 : Heap) (n0 : Nat) (Z0 : n0 ≤ h0.size) (hV : own_V s r v9 v2 q hi lo) : own_MP l Mn50 jdk_2097_method_74_code 1 (some .int) ws ({ frames := 1, cells := 0, slots := 0, locals := 14 } : Room) Z h0 #[(.int q)] (fun _ _ _ _ _ => True) (Q_blf Z s r v9 v2 q hi lo h0 n0) := by
  refine own_startP (plainFor_of_name own_pn_java_math_BigInteger) fun p e s' m below meth c s₁ Bd hx hby hml hown0 X0 e0 hh0 hZ hK Pst hPst => ?_
  have dE := own_E hby own_D45
  have hown : s'.vm.findClass "java/math/BigInteger" = some m.cls := hown0
  have hnm := (name_of_methodNamed Bd.named Bd.method).1
  have N0 := Fr.nil n0
  rw [own_ef_I_1 m q]
  refine o_bipush X0.here hx (dE 0 rfl) (z := (32 : Int32)) rfl ?_
  refine o_iloadN X0.here hx (dE 1 rfl) rfl ?_
  refine own_cF X0 (Jvm.LawKit.callS X0 hx (y := Mn32) hown (mvT hZ (g_ hw 247 rfl)) (mvT hZ (g_ hw 248 rfl)) (mvT hZ (g_ hw 249 rfl)) (mvT hZ (g_ hw 250 rfl)) (by decide) (backOf (W := 1) (rm_nlQ l Z a0 hw [] s r v9 v2 q hi lo h0 n0 Z0 hV) hZ (g_ hw 250 rfl) (g_ hw 249 rfl) (by decide) (by decide)) (g := (mkF m 3 #[.val (.int q)] [(.int q), (.int (32 : Int32))])) rfl (by rw [hml]; rfl) (argsL := [(.int q)]) (rest := [(.int (32 : Int32))]) (lenOf own_pd17 rfl) rfl (by show 2 * 0 + _ ≤ _; exact Nat.le_of_eq rfl) (dE 2 rfl) (fun _ _ => ⟨rfl, e0, (by decide : 0 + 0 ≤ _), (by decide : 0 + 0 ≤ _)⟩)) fun v101 T101 L101 X101 hQ101 => ?_
  obtain ⟨r0101, rfl, Nq101, e101, B101⟩ := hQ101
  have N101 := Fr.app N0 Nq101
  show own_Go p e below Pst (T101.setTop (mkF m 6 #[.val (.int q)] [(.int r0101), (.int (32 : Int32))]))
  refine o_isub X101.here hx (dE 3 rfl) rfl ?_
  rw [hPst]
  exact own_retP X101 (v := (some (.int ((32 : Int32) - r0101)))) (Q := Q_blf Z s r v9 v2 q hi lo h0 n0) (fun h => by rw [Bd.returns] at h; cases h) Bd.notSynchronized (fun fs hr => own_retI X101 hx Bd.returns (dE 4 rfl) hr) (by decide) (by decide) (by rw [e101]; exact ⟨_, rfl, N101, rfl, B101⟩)
theorem own_f31 {s r v9 v2 : Int64} {q hi lo : Int32} (hV : own_VB s r v9 v2 q hi lo) : ¬ q = 0 := by
  rcases hV with ⟨rfl, rfl, rfl, rfl, rfl, rfl, rfl⟩ | ⟨rfl, rfl, rfl, rfl, rfl, rfl, rfl⟩ | ⟨rfl, rfl, rfl, rfl, rfl, rfl, rfl⟩ | ⟨rfl, rfl, rfl, rfl, rfl, rfl, rfl⟩ | ⟨rfl, rfl, rfl, rfl, rfl, rfl, rfl⟩ | ⟨rfl, rfl, rfl, rfl, rfl, rfl, rfl⟩ | ⟨rfl, rfl, rfl, rfl, rfl, rfl, rfl⟩ | ⟨rfl, rfl, rfl, rfl, rfl, rfl, rfl⟩ | ⟨rfl, rfl, rfl, rfl, rfl, rfl, rfl⟩ | ⟨rfl, rfl, rfl, rfl, rfl, rfl, rfl⟩ <;> decide
theorem own_ef_R_4 (m : MethodId) (x0 : Addr) : entryFrame m #[(.ref x0)] 4 = mkF m 0 #[.val (.ref x0), .unset, .unset, .unset] [] := by first | (simp [entryFrame, mkF, argsToLocals, Value.category]; done) | rfl
def Q_nz (Z : State) (s r v9 v2 : Int64) (q hi lo : Int32) (a1 t1 : Addr) (k1 : ClassId) (h0 : Heap) (n0 : Nat) (v : Option Value) (h : Heap) (L : List Loc) : Prop := v = none ∧ Fr n0 L ∧ Keep h0 h [a1] ∧ Exa Z h a1 "java/math/MutableBigInteger" ∧ Fld Z h a1 "java/math/MutableBigInteger" "offset" "I" (.int (1 : Int32)) ∧ Fld Z h a1 "java/math/MutableBigInteger" "value" "[I" (.ref t1) ∧ Fld Z h a1 "java/math/MutableBigInteger" "intLen" "I" (.int (1 : Int32))
theorem rm_nz (l : Launch) (Z : State) (a0 : Array Value) (hw : own_H a0 Z) (ws : List Jvm.Cond) (s r v9 v2 : Int64) (q hi lo : Int32) (a1 t1 : Addr) (k1 : ClassId) (h0 : Heap) (n0 : Nat) (Z0 : n0 ≤ h0.size) (hB : own_VB s r v9 v2 q hi lo) (Ea1 : Exa Z h0 a1 "java/math/MutableBigInteger") (Oa1 : Fld Z h0 a1 "java/math/MutableBigInteger" "offset" "I" (.int (0 : Int32))) (Va1 : Fld Z h0 a1 "java/math/MutableBigInteger" "value" "[I" (.ref t1)) (Ia1 : Fld Z h0 a1 "java/math/MutableBigInteger" "intLen" "I" (.int (2 : Int32))) (A1 : Arv Z h0 t1 k1 .int (2 : Int32) [(.int 0), (.int q)] (.int 0)) (g1 : n0 ≤ a1) : own_MP l Mn39 jdk_2101_method_21_code 4 none ws ({ frames := 0, cells := 0, slots := 0, locals := 0 } : Room) Z h0 #[(.ref a1)] (fun _ _ _ _ _ => True) (Q_nz Z s r v9 v2 q hi lo a1 t1 k1 h0 n0) := by
  refine own_startP (plainFor_of_name own_pn_java_math_MutableBigInteger) fun p e s' m below meth c s₁ Bd hx hby hml hown0 X0 e0 hh0 hZ hK Pst hPst => ?_
  have dE := own_E hby own_D57
  have hown : s'.vm.findClass "java/math/MutableBigInteger" = some m.cls := hown0
  have hnm := (name_of_methodNamed Bd.named Bd.method).1
  have N0 := Fr.nil n0
  rw [own_ef_R_4 m a1]
  have nq_t1_a1 : t1 ≠ a1 := Ne.symm (Exa.neArv Ea1 A1 (g_ hw 176 rfl))
  refine o_aloadN X0.here hx (dE 0 rfl) rfl rfl ?_
  refine p_getF X0 hx hZ hown (host := "") (Or.inl (g_ hw 187 rfl)) Via.refl e0 Ia1 rfl (dE 1 rfl) fun T101 X101 e101 => ?_
  refine o_ifYes X101.here hx (pc0 := 4) (pc' := 13) rfl (dE 2 rfl) rfl ((if0 _ _).trans (feq (by decide)).2) (by decide) (by decide) ?_
  refine o_aloadN X101.here hx (dE 3 rfl) rfl rfl ?_
  refine p_getF X101 hx hZ hown (host := "") (Or.inl (g_ hw 183 rfl)) Via.refl e101 Oa1 rfl (dE 4 rfl) fun T102 X102 e102 => ?_
  refine o_istoreN X102.here hx (dE 5 rfl) rfl (l' := #[.val (.ref a1), .val (.int (0 : Int32)), .unset, .unset]) rfl ?_
  refine o_aloadN X102.here hx (dE 6 rfl) rfl rfl ?_
  refine p_getF X102 hx hZ hown (host := "") (Or.inl (g_ hw 185 rfl)) Via.refl e102 Va1 rfl (dE 7 rfl) fun T103 X103 e103 => ?_
  refine o_iloadN X103.here hx (dE 8 rfl) rfl ?_
  obtain ⟨cl104, Ar104, q104, S104, P104, H104, G104⟩ := id A1
  have hin104 : ¬ ((0 : Int32) < 0 ∨ cl104.slots.size ≤ ((0 : Int32)).toNatClampNeg) := inb_of S104 ⟨by decide, by decide⟩
  have hat104 : cl104.slots[((0 : Int32)).toNatClampNeg]? = some (.int (0 : Int32)) := Has.at H104 hin104 rfl
  refine own_Go.of (S' := T103.setTop (mkF m 24 #[.val (.ref a1), .val (.int (0 : Int32)), .unset, .unset] [(.int (0 : Int32))])) (fun tgt kst => X103.iaload hx (j := (0 : Int32)) (v := (.int (0 : Int32))) (by rw [e103]; exact Ar104.1) (State.isArrayOf_alike hZ.alike Ar104.2.1) Ar104.2.2 hin104 hat104 (g := (mkF m 23 #[.val (.ref a1), .val (.int (0 : Int32)), .unset, .unset] [(.int (0 : Int32)), (.ref t1)])) rfl rfl (dE 9 rfl) _ kst) ?_
  refine o_ifYes X103.here hx (pc0 := 24) (pc' := 28) rfl (dE 10 rfl) rfl ((if0 _ _).trans (teq rfl).1) (by decide) (by decide) ?_
  refine o_iloadN X103.here hx (dE 11 rfl) rfl ?_
  refine o_aloadN X103.here hx (dE 12 rfl) rfl rfl ?_
  refine p_getF X103 hx hZ hown (host := "") (Or.inl (g_ hw 187 rfl)) Via.refl e103 Ia1 rfl (dE 13 rfl) fun T105 X105 e105 => ?_
  refine o_iadd X105.here hx (dE 14 rfl) rfl ?_
  rw [show ((0 : Int32) + (2 : Int32)) = (2 : Int32) from by decide]
  show own_Go p e below Pst (T105.setTop (mkF m 34 #[.val (.ref a1), .val (.int (0 : Int32)), .unset, .unset] [(.int (2 : Int32))]))
  refine o_istoreN X105.here hx (dE 15 rfl) rfl (l' := #[.val (.ref a1), .val (.int (0 : Int32)), .val (.int (2 : Int32)), .unset]) rfl ?_
  refine o_iinc X105.here hx (dE 16 rfl) rfl (l' := #[.val (.ref a1), .val (.int ((0 : Int32) + (1 : Int32))), .val (.int (2 : Int32)), .unset]) rfl ?_
  rw [show ((0 : Int32) + (1 : Int32)) = (1 : Int32) from by decide]
  show own_Go p e below Pst (T105.setTop (mkF m 38 #[.val (.ref a1), .val (.int (1 : Int32)), .val (.int (2 : Int32)), .unset] []))
  refine o_iloadN X105.here hx (dE 17 rfl) rfl ?_
  refine o_iloadN X105.here hx (dE 18 rfl) rfl ?_
  refine o_icmpNo X105.here hx (dE 19 rfl) rfl (tlt (by decide)).2.1 ?_
  refine o_aloadN X105.here hx (dE 20 rfl) rfl rfl ?_
  refine p_getF X105 hx hZ hown (host := "") (Or.inl (g_ hw 185 rfl)) Via.refl e105 Va1 rfl (dE 21 rfl) fun T106 X106 e106 => ?_
  refine o_iloadN X106.here hx (dE 22 rfl) rfl ?_
  obtain ⟨cl107, Ar107, q107, S107, P107, H107, G107⟩ := id A1
  have hin107 : ¬ ((1 : Int32) < 0 ∨ cl107.slots.size ≤ ((1 : Int32)).toNatClampNeg) := inb_of S107 ⟨by decide, by decide⟩
  have hat107 : cl107.slots[((1 : Int32)).toNatClampNeg]? = some (.int q) := Has.at H107 hin107 rfl
  refine own_Go.of (S' := T106.setTop (mkF m 49 #[.val (.ref a1), .val (.int (1 : Int32)), .val (.int (2 : Int32)), .unset] [(.int q)])) (fun tgt kst => X106.iaload hx (j := (1 : Int32)) (v := (.int q)) (by rw [e106]; exact Ar107.1) (State.isArrayOf_alike hZ.alike Ar107.2.1) Ar107.2.2 hin107 hat107 (g := (mkF m 48 #[.val (.ref a1), .val (.int (1 : Int32)), .val (.int (2 : Int32)), .unset] [(.int (1 : Int32)), (.ref t1)])) rfl rfl (dE 23 rfl) _ kst) ?_
  refine o_ifNo X106.here hx (dE 24 rfl) rfl ((if0 _ _).trans (feq (own_f31 hB)).1) ?_
  refine o_iloadN X106.here hx (dE 25 rfl) rfl ?_
  refine o_aloadN X106.here hx (dE 26 rfl) rfl rfl ?_
  refine p_getF X106 hx hZ hown (host := "") (Or.inl (g_ hw 183 rfl)) Via.refl e106 Oa1 rfl (dE 27 rfl) fun T108 X108 e108 => ?_
  refine o_isub X108.here hx (dE 28 rfl) rfl ?_
  rw [show ((1 : Int32) - (0 : Int32)) = (1 : Int32) from by decide]
  show own_Go p e below Pst (T108.setTop (mkF m 58 #[.val (.ref a1), .val (.int (1 : Int32)), .val (.int (2 : Int32)), .unset] [(.int (1 : Int32))]))
  refine o_istoreN X108.here hx (dE 29 rfl) rfl (l' := #[.val (.ref a1), .val (.int (1 : Int32)), .val (.int (2 : Int32)), .val (.int (1 : Int32))]) rfl ?_
  refine o_aloadN X108.here hx (dE 30 rfl) rfl rfl ?_
  refine o_dup X108.here hx (dE 31 rfl) rfl rfl ?_
  refine p_getF X108 hx hZ hown (host := "") (Or.inl (g_ hw 187 rfl)) Via.refl e108 Ia1 rfl (dE 32 rfl) fun T109 X109 e109 => ?_
  refine o_iloadN X109.here hx (dE 33 rfl) rfl ?_
  refine o_isub X109.here hx (dE 34 rfl) rfl ?_
  rw [show ((2 : Int32) - (1 : Int32)) = (1 : Int32) from by decide]
  show own_Go p e below Pst (T109.setTop (mkF m 66 #[.val (.ref a1), .val (.int (1 : Int32)), .val (.int (2 : Int32)), .val (.int (1 : Int32))] [(.int (1 : Int32)), (.ref a1)]))
  refine p_putF X109 hx hZ hown (host := "") (Or.inl (g_ hw 187 rfl)) Via.refl e109 Ia1 Ea1 (Or.inl (g_ hw 188 rfl)) (g_ hw 176 rfl) (ty := .int) (by decide) rfl rfl rfl (dE 35 rfl) fun T110 h110 X110 e110 W110 => ?_
  have Fw110 := Fld.same W110 Ia1
  have N110 := Fr.snoc X110 N0 g1
  refine o_aloadN X110.here hx (dE 36 rfl) rfl rfl ?_
  refine o_aloadN X110.here hx (dE 37 rfl) rfl rfl ?_
  refine p_getF X110 hx hZ hown (host := "") (Or.inl (g_ hw 187 rfl)) Via.refl e110 Fw110 rfl (dE 38 rfl) fun T111 X111 e111 => ?_
  refine o_ifYes X111.here hx (pc0 := 74) (pc' := 81) rfl (dE 39 rfl) rfl ((if0 _ _).trans (feq (by decide)).2) (by decide) (by decide) ?_
  refine o_aloadN X111.here hx (dE 40 rfl) rfl rfl ?_
  have c112 := (Oa1.other W110 (Or.inr (slot_ne (Or.inl (g_ hw 184 rfl)) (Or.inl (g_ hw 188 rfl)) (by decide) (t := .int) (t' := .int) (by decide) (by decide))))
  refine p_getF X111 hx hZ hown (host := "") (Or.inl (g_ hw 183 rfl)) Via.refl e111 c112 rfl (dE 41 rfl) fun T113 X113 e113 => ?_
  refine o_iloadN X113.here hx (dE 42 rfl) rfl ?_
  refine o_iadd X113.here hx (dE 43 rfl) rfl ?_
  rw [show ((0 : Int32) + (1 : Int32)) = (1 : Int32) from by decide]
  show own_Go p e below Pst (T113.setTop (mkF m 87 #[.val (.ref a1), .val (.int (1 : Int32)), .val (.int (2 : Int32)), .val (.int (1 : Int32))] [(.int (1 : Int32)), (.ref a1)]))
  have c114 := (Ea1.wr W110)
  refine p_putF X113 hx hZ hown (host := "") (Or.inl (g_ hw 183 rfl)) Via.refl e113 c112 c114 (Or.inl (g_ hw 184 rfl)) (g_ hw 176 rfl) (ty := .int) (by decide) rfl rfl rfl (dE 44 rfl) fun T115 h115 X115 e115 W115 => ?_
  have Fw115 := Fld.same W115 c112
  have N115 := Fr.snoc X115 N110 g1
  have c116 := (((Keep.refl h0 [a1]).wr W110 (Or.inl (List.mem_of_getElem? (i := 0) rfl))).wr W115 (Or.inl (List.mem_of_getElem? (i := 0) rfl)))
  have c117 := (c114.wr W115)
  have c118 := ((Va1.other W110 (Or.inr (slot_ne (Or.inl (g_ hw 186 rfl)) (Or.inl (g_ hw 188 rfl)) (by decide) (t := (.array .int)) (t' := .int) (by decide) (by decide)))).other W115 (Or.inr (slot_ne (Or.inl (g_ hw 186 rfl)) (Or.inl (g_ hw 184 rfl)) (by decide) (t := (.array .int)) (t' := .int) (by decide) (by decide))))
  have c119 := (Fw110.other W115 (Or.inr (slot_ne (Or.inl (g_ hw 188 rfl)) (Or.inl (g_ hw 184 rfl)) (by decide) (t := .int) (t' := .int) (by decide) (by decide))))
  rw [hPst]
  exact own_retP X115 (v := none) (Q := Q_nz Z s r v9 v2 q hi lo a1 t1 k1 h0 n0) (fun _ => rfl) Bd.notSynchronized (fun fs hr => X115.returnOut hx Bd.returns (dE 45 rfl) hr) (by decide) (by decide) (by rw [e115]; exact ⟨rfl, N115, c116, c117, Fw115, c118, c119⟩)
theorem own_f32 {s r v9 v2 : Int64} {q hi lo : Int32} (hV : own_VA s r v9 v2 q hi lo) : ((lo.toInt64) &&& (4294967295 : Int64)) = v2 := by
  rcases hV with ⟨rfl, rfl, rfl, rfl, rfl, rfl, rfl⟩ | ⟨rfl, rfl, rfl, rfl, rfl, rfl, rfl⟩ <;> decide
theorem own_f33 {s r v9 v2 : Int64} {q hi lo : Int32} (hV : own_VA s r v9 v2 q hi lo) : ((v2 / (1000000000 : Int64)).toInt32) = q := by
  rcases hV with ⟨rfl, rfl, rfl, rfl, rfl, rfl, rfl⟩ | ⟨rfl, rfl, rfl, rfl, rfl, rfl, rfl⟩ <;> decide
theorem own_f34 {s r v9 v2 : Int64} {q hi lo : Int32} (hV : own_VA s r v9 v2 q hi lo) : ((v2 - ((q.toInt64) * (1000000000 : Int64))).toInt32) = 0 := by
  rcases hV with ⟨rfl, rfl, rfl, rfl, rfl, rfl, rfl⟩ | ⟨rfl, rfl, rfl, rfl, rfl, rfl, rfl⟩ <;> decide
theorem own_f35 {s r v9 v2 : Int64} {q hi lo : Int32} (hV : own_VA s r v9 v2 q hi lo) : ¬ q = 0 := by
  rcases hV with ⟨rfl, rfl, rfl, rfl, rfl, rfl, rfl⟩ | ⟨rfl, rfl, rfl, rfl, rfl, rfl, rfl⟩ <;> decide
theorem own_ef_RIR_15 (m : MethodId) (x0 : Addr) (x1 : Int32) (x2 : Addr) : entryFrame m #[(.ref x0), (.int x1), (.ref x2)] 15 = mkF m 0 #[.val (.ref x0), .val (.int x1), .val (.ref x2), .unset, .unset, .unset, .unset, .unset, .unset, .unset, .unset, .unset, .unset, .unset, .unset] [] := by first | (simp [entryFrame, mkF, argsToLocals, Value.category]; done) | rfl
def Q_dwA (Z : State) (s r v9 v2 : Int64) (q hi lo : Int32) (a1 a2 t1 t2 : Addr) (k1 k2 : ClassId) (h0 : Heap) (n0 : Nat) (v : Option Value) (h : Heap) (L : List Loc) : Prop := v = some (.int (0 : Int32)) ∧ Fr n0 L ∧ Keep h0 h [a2, t2] ∧ Exa Z h a2 "java/math/MutableBigInteger" ∧ Fld Z h a2 "java/math/MutableBigInteger" "offset" "I" (.int (0 : Int32)) ∧ Fld Z h a2 "java/math/MutableBigInteger" "value" "[I" (.ref t2) ∧ Fld Z h a2 "java/math/MutableBigInteger" "intLen" "I" (.int (1 : Int32)) ∧ Arv Z h t2 k2 .int (1 : Int32) [(.int q)] (.int 0)
theorem rm_dwA (l : Launch) (Z : State) (a0 : Array Value) (hw : own_H a0 Z) (ws : List Jvm.Cond) (s r v9 v2 : Int64) (q hi lo : Int32) (a1 a2 t1 t2 : Addr) (k1 k2 : ClassId) (h0 : Heap) (n0 : Nat) (Z0 : n0 ≤ h0.size) (hA : own_VA s r v9 v2 q hi lo) (Ea1 : Exa Z h0 a1 "java/math/MutableBigInteger") (Oa1 : Fld Z h0 a1 "java/math/MutableBigInteger" "offset" "I" (.int (0 : Int32))) (Va1 : Fld Z h0 a1 "java/math/MutableBigInteger" "value" "[I" (.ref t1)) (Ia1 : Fld Z h0 a1 "java/math/MutableBigInteger" "intLen" "I" (.int (1 : Int32))) (Ea2 : Exa Z h0 a2 "java/math/MutableBigInteger") (Oa2 : Fld Z h0 a2 "java/math/MutableBigInteger" "offset" "I" (.int (0 : Int32))) (Va2 : Fld Z h0 a2 "java/math/MutableBigInteger" "value" "[I" (.ref t2)) (Ia2 : Fld Z h0 a2 "java/math/MutableBigInteger" "intLen" "I" (.int (0 : Int32))) (A1 : Arv Z h0 t1 k1 .int (1 : Int32) [(.int lo)] (.int 0)) (A2 : Arv Z h0 t2 k2 .int (1 : Int32) [(.int 0)] (.int 0)) (g2 : n0 ≤ a2) (gt : n0 ≤ t2) (ne : a1 ≠ a2) (net : t1 ≠ t2) : own_MP l Mn9 jdk_2101_method_53_code 15 (some .int) ws ({ frames := 0, cells := 0, slots := 0, locals := 0 } : Room) Z h0 #[(.ref a1), (.int (1000000000 : Int32)), (.ref a2)] (fun _ _ _ _ _ => True) (Q_dwA Z s r v9 v2 q hi lo a1 a2 t1 t2 k1 k2 h0 n0) := by
  refine own_startP (plainFor_of_name own_pn_java_math_MutableBigInteger) fun p e s' m below meth c s₁ Bd hx hby hml hown0 X0 e0 hh0 hZ hK Pst hPst => ?_
  have dE := own_E hby own_D40
  have hown : s'.vm.findClass "java/math/MutableBigInteger" = some m.cls := hown0
  have hnm := (name_of_methodNamed Bd.named Bd.method).1
  have N0 := Fr.nil n0
  rw [own_ef_RIR_15 m a1 (1000000000 : Int32) a2]
  have nq_t1_a2 : t1 ≠ a2 := Ne.symm (Exa.neArv Ea2 A1 (g_ hw 176 rfl))
  have nq_t2_a2 : t2 ≠ a2 := Ne.symm (Exa.neArv Ea2 A2 (g_ hw 176 rfl))
  have nq_t2_a1 : t2 ≠ a1 := Ne.symm (Exa.neArv Ea1 A2 (g_ hw 176 rfl))
  refine o_iloadN X0.here hx (dE 0 rfl) rfl ?_
  refine o_i2l X0.here hx (dE 1 rfl) rfl ?_
  refine own_Go.of (S' := s₁.setTop (mkF m 5 #[.val (.ref a1), .val (.int (1000000000 : Int32)), .val (.ref a2), .unset, .unset, .unset, .unset, .unset, .unset, .unset, .unset, .unset, .unset, .unset, .unset] [(.long (4294967295 : Int64)), (.long ((1000000000 : Int32).toInt64))])) (fun tgt kst => X0.ldc2Long hx hown (mvT hZ (g_ hw 218 rfl)) (g := (mkF m 2 #[.val (.ref a1), .val (.int (1000000000 : Int32)), .val (.ref a2), .unset, .unset, .unset, .unset, .unset, .unset, .unset, .unset, .unset, .unset, .unset, .unset] [(.long ((1000000000 : Int32).toInt64))])) rfl (dE 2 rfl) _ kst) ?_
  refine o_land X0.here hx (dE 3 rfl) rfl ?_
  rw [show (((1000000000 : Int32).toInt64) &&& (4294967295 : Int64)) = (1000000000 : Int64) from by decide]
  show own_Go p e below Pst (s₁.setTop (mkF m 6 #[.val (.ref a1), .val (.int (1000000000 : Int32)), .val (.ref a2), .unset, .unset, .unset, .unset, .unset, .unset, .unset, .unset, .unset, .unset, .unset, .unset] [(.long (1000000000 : Int64))]))
  refine o_lstoreN X0.here hx (dE 4 rfl) rfl (l' := #[.val (.ref a1), .val (.int (1000000000 : Int32)), .val (.ref a2), .val (.long (1000000000 : Int64)), .second, .unset, .unset, .unset, .unset, .unset, .unset, .unset, .unset, .unset, .unset]) rfl ?_
  refine o_aloadN X0.here hx (dE 5 rfl) rfl rfl ?_
  refine p_getF X0 hx hZ hown (host := "") (Or.inl (g_ hw 187 rfl)) Via.refl e0 Ia1 rfl (dE 6 rfl) fun T101 X101 e101 => ?_
  refine o_iconst X101.here hx (dE 7 rfl) (z := (1 : Int32)) rfl ?_
  refine o_icmpNo X101.here hx (dE 8 rfl) rfl (teq rfl).2 ?_
  refine o_aloadN X101.here hx (dE 9 rfl) rfl rfl ?_
  refine p_getF X101 hx hZ hown (host := "") (Or.inl (g_ hw 185 rfl)) Via.refl e101 Va1 rfl (dE 10 rfl) fun T102 X102 e102 => ?_
  refine o_aloadN X102.here hx (dE 11 rfl) rfl rfl ?_
  refine p_getF X102 hx hZ hown (host := "") (Or.inl (g_ hw 183 rfl)) Via.refl e102 Oa1 rfl (dE 12 rfl) fun T103 X103 e103 => ?_
  obtain ⟨cl104, Ar104, q104, S104, P104, H104, G104⟩ := id A1
  have hin104 : ¬ ((0 : Int32) < 0 ∨ cl104.slots.size ≤ ((0 : Int32)).toNatClampNeg) := inb_of S104 ⟨by decide, by decide⟩
  have hat104 : cl104.slots[((0 : Int32)).toNatClampNeg]? = some (.int lo) := Has.at H104 hin104 rfl
  refine own_Go.of (S' := T103.setTop (mkF m 24 #[.val (.ref a1), .val (.int (1000000000 : Int32)), .val (.ref a2), .val (.long (1000000000 : Int64)), .second, .unset, .unset, .unset, .unset, .unset, .unset, .unset, .unset, .unset, .unset] [(.int lo)])) (fun tgt kst => X103.iaload hx (j := (0 : Int32)) (v := (.int lo)) (by rw [e103]; exact Ar104.1) (State.isArrayOf_alike hZ.alike Ar104.2.1) Ar104.2.2 hin104 hat104 (g := (mkF m 23 #[.val (.ref a1), .val (.int (1000000000 : Int32)), .val (.ref a2), .val (.long (1000000000 : Int64)), .second, .unset, .unset, .unset, .unset, .unset, .unset, .unset, .unset, .unset, .unset] [(.int (0 : Int32)), (.ref t1)])) rfl rfl (dE 13 rfl) _ kst) ?_
  refine o_i2l X103.here hx (dE 14 rfl) rfl ?_
  refine own_Go.of (S' := T103.setTop (mkF m 28 #[.val (.ref a1), .val (.int (1000000000 : Int32)), .val (.ref a2), .val (.long (1000000000 : Int64)), .second, .unset, .unset, .unset, .unset, .unset, .unset, .unset, .unset, .unset, .unset] [(.long (4294967295 : Int64)), (.long (lo.toInt64))])) (fun tgt kst => X103.ldc2Long hx hown (mvT hZ (g_ hw 218 rfl)) (g := (mkF m 25 #[.val (.ref a1), .val (.int (1000000000 : Int32)), .val (.ref a2), .val (.long (1000000000 : Int64)), .second, .unset, .unset, .unset, .unset, .unset, .unset, .unset, .unset, .unset, .unset] [(.long (lo.toInt64))])) rfl (dE 15 rfl) _ kst) ?_
  refine o_land X103.here hx (dE 16 rfl) rfl ?_
  rw [(own_f32 hA)]
  show own_Go p e below Pst (T103.setTop (mkF m 29 #[.val (.ref a1), .val (.int (1000000000 : Int32)), .val (.ref a2), .val (.long (1000000000 : Int64)), .second, .unset, .unset, .unset, .unset, .unset, .unset, .unset, .unset, .unset, .unset] [(.long v2)]))
  refine o_lstore X103.here hx (dE 17 rfl) rfl (l' := #[.val (.ref a1), .val (.int (1000000000 : Int32)), .val (.ref a2), .val (.long (1000000000 : Int64)), .second, .val (.long v2), .second, .unset, .unset, .unset, .unset, .unset, .unset, .unset, .unset]) rfl ?_
  refine o_lload X103.here hx (dE 18 rfl) rfl ?_
  refine o_lloadN X103.here hx (dE 19 rfl) rfl ?_
  refine o_ldiv X103.here hx (dE 20 rfl) rfl (by decide) ?_
  refine o_l2i X103.here hx (dE 21 rfl) rfl ?_
  rw [(own_f33 hA)]
  show own_Go p e below Pst (T103.setTop (mkF m 36 #[.val (.ref a1), .val (.int (1000000000 : Int32)), .val (.ref a2), .val (.long (1000000000 : Int64)), .second, .val (.long v2), .second, .unset, .unset, .unset, .unset, .unset, .unset, .unset, .unset] [(.int q)]))
  refine o_istore X103.here hx (dE 22 rfl) rfl (l' := #[.val (.ref a1), .val (.int (1000000000 : Int32)), .val (.ref a2), .val (.long (1000000000 : Int64)), .second, .val (.long v2), .second, .val (.int q), .unset, .unset, .unset, .unset, .unset, .unset, .unset]) rfl ?_
  refine o_lload X103.here hx (dE 23 rfl) rfl ?_
  refine o_iload X103.here hx (dE 24 rfl) rfl ?_
  refine o_i2l X103.here hx (dE 25 rfl) rfl ?_
  refine o_lloadN X103.here hx (dE 26 rfl) rfl ?_
  refine o_lmul X103.here hx (dE 27 rfl) rfl ?_
  refine o_lsub X103.here hx (dE 28 rfl) rfl ?_
  refine o_l2i X103.here hx (dE 29 rfl) rfl ?_
  rw [(own_f34 hA)]
  show own_Go p e below Pst (T103.setTop (mkF m 47 #[.val (.ref a1), .val (.int (1000000000 : Int32)), .val (.ref a2), .val (.long (1000000000 : Int64)), .second, .val (.long v2), .second, .val (.int q), .unset, .unset, .unset, .unset, .unset, .unset, .unset] [(.int (0 : Int32))]))
  refine o_istore X103.here hx (dE 30 rfl) rfl (l' := #[.val (.ref a1), .val (.int (1000000000 : Int32)), .val (.ref a2), .val (.long (1000000000 : Int64)), .second, .val (.long v2), .second, .val (.int q), .val (.int (0 : Int32)), .unset, .unset, .unset, .unset, .unset, .unset]) rfl ?_
  refine o_aloadN X103.here hx (dE 31 rfl) rfl rfl ?_
  refine p_getF X103 hx hZ hown (host := "") (Or.inl (g_ hw 185 rfl)) Via.refl e103 Va2 rfl (dE 32 rfl) fun T105 X105 e105 => ?_
  refine o_iconst X105.here hx (dE 33 rfl) (z := (0 : Int32)) rfl ?_
  refine o_iload X105.here hx (dE 34 rfl) rfl ?_
  refine p_arI X105 hx hZ e105 A2 (0 : Int32) 0 ⟨by decide, by decide⟩ rfl (Nat.le_of_ble_eq_true rfl) rfl (dE 35 rfl) fun T106 h106 X106 e106 W106 V106 => ?_
  have N106 := Fr.snoc X106 N0 gt
  refine o_aloadN X106.here hx (dE 36 rfl) rfl rfl ?_
  refine o_iload X106.here hx (dE 37 rfl) rfl ?_
  refine o_ifYes X106.here hx (pc0 := 60) (pc' := 67) rfl (dE 38 rfl) rfl ((if0 _ _).trans (feq (own_f35 hA)).2) (by decide) (by decide) ?_
  refine o_iconst X106.here hx (dE 39 rfl) (z := (1 : Int32)) rfl ?_
  have c107 := (Ea2.wr W106)
  have c108 := (Ia2.other W106 (Or.inl (Ne.symm nq_t2_a2)))
  refine p_putF X106 hx hZ hown (host := "") (Or.inl (g_ hw 187 rfl)) Via.refl e106 c108 c107 (Or.inl (g_ hw 188 rfl)) (g_ hw 176 rfl) (ty := .int) (by decide) rfl rfl rfl (dE 40 rfl) fun T109 h109 X109 e109 W109 => ?_
  have Fw109 := Fld.same W109 c108
  have N109 := Fr.snoc X109 N106 g2
  refine o_aloadN X109.here hx (dE 41 rfl) rfl rfl ?_
  refine o_iconst X109.here hx (dE 42 rfl) (z := (0 : Int32)) rfl ?_
  have c110 := (c107.wr W109)
  have c111 := ((Oa2.other W106 (Or.inl (Ne.symm nq_t2_a2))).other W109 (Or.inr (slot_ne (Or.inl (g_ hw 184 rfl)) (Or.inl (g_ hw 188 rfl)) (by decide) (t := .int) (t' := .int) (by decide) (by decide))))
  refine p_putF X109 hx hZ hown (host := "") (Or.inl (g_ hw 183 rfl)) Via.refl e109 c111 c110 (Or.inl (g_ hw 184 rfl)) (g_ hw 176 rfl) (ty := .int) (by decide) rfl rfl rfl (dE 43 rfl) fun T112 h112 X112 e112 W112 => ?_
  have Fw112 := Fld.same W112 c111
  have N112 := Fr.snoc X112 N109 g2
  refine o_iload X112.here hx (dE 44 rfl) rfl ?_
  have c113 := ((((Keep.refl h0 [a2, t2]).wr W106 (Or.inl (List.mem_of_getElem? (i := 1) rfl))).wr W109 (Or.inl (List.mem_of_getElem? (i := 0) rfl))).wr W112 (Or.inl (List.mem_of_getElem? (i := 0) rfl)))
  have c114 := (c110.wr W112)
  have c115 := (((Va2.other W106 (Or.inl (Ne.symm nq_t2_a2))).other W109 (Or.inr (slot_ne (Or.inl (g_ hw 186 rfl)) (Or.inl (g_ hw 188 rfl)) (by decide) (t := (.array .int)) (t' := .int) (by decide) (by decide)))).other W112 (Or.inr (slot_ne (Or.inl (g_ hw 186 rfl)) (Or.inl (g_ hw 184 rfl)) (by decide) (t := (.array .int)) (t' := .int) (by decide) (by decide))))
  have c116 := (Fw109.other W112 (Or.inr (slot_ne (Or.inl (g_ hw 188 rfl)) (Or.inl (g_ hw 184 rfl)) (by decide) (t := .int) (t' := .int) (by decide) (by decide))))
  have c117 := ((V106.other W109 nq_t2_a2).other W112 nq_t2_a2)
  rw [hPst]
  exact own_retP X112 (v := (some (.int (0 : Int32)))) (Q := Q_dwA Z s r v9 v2 q hi lo a1 a2 t1 t2 k1 k2 h0 n0) (fun h => by rw [Bd.returns] at h; cases h) Bd.notSynchronized (fun fs hr => own_retI X112 hx Bd.returns (dE 45 rfl) hr) (by decide) (by decide) (by rw [e112]; exact ⟨rfl, N112, c113, c114, Fw112, c115, c116, c117⟩)
theorem own_f36 {s r v9 v2 : Int64} {q hi lo : Int32} (hV : own_VB s r v9 v2 q hi lo) : (lcmpW ((hi.toInt64) &&& (4294967295 : Int64)) (1000000000 : Int64)) < 0 := by
  rcases hV with ⟨rfl, rfl, rfl, rfl, rfl, rfl, rfl⟩ | ⟨rfl, rfl, rfl, rfl, rfl, rfl, rfl⟩ | ⟨rfl, rfl, rfl, rfl, rfl, rfl, rfl⟩ | ⟨rfl, rfl, rfl, rfl, rfl, rfl, rfl⟩ | ⟨rfl, rfl, rfl, rfl, rfl, rfl, rfl⟩ | ⟨rfl, rfl, rfl, rfl, rfl, rfl, rfl⟩ | ⟨rfl, rfl, rfl, rfl, rfl, rfl, rfl⟩ | ⟨rfl, rfl, rfl, rfl, rfl, rfl, rfl⟩ | ⟨rfl, rfl, rfl, rfl, rfl, rfl, rfl⟩ | ⟨rfl, rfl, rfl, rfl, rfl, rfl, rfl⟩ <;> decide
theorem own_f37 {s r v9 v2 : Int64} {q hi lo : Int32} (hV : own_VB s r v9 v2 q hi lo) : ((((hi.toInt64) &&& (4294967295 : Int64)) <<< ((32 : Int32) &&& 0x3f).toInt64) ||| ((lo.toInt64) &&& (4294967295 : Int64))) = v2 := by
  rcases hV with ⟨rfl, rfl, rfl, rfl, rfl, rfl, rfl⟩ | ⟨rfl, rfl, rfl, rfl, rfl, rfl, rfl⟩ | ⟨rfl, rfl, rfl, rfl, rfl, rfl, rfl⟩ | ⟨rfl, rfl, rfl, rfl, rfl, rfl, rfl⟩ | ⟨rfl, rfl, rfl, rfl, rfl, rfl, rfl⟩ | ⟨rfl, rfl, rfl, rfl, rfl, rfl, rfl⟩ | ⟨rfl, rfl, rfl, rfl, rfl, rfl, rfl⟩ | ⟨rfl, rfl, rfl, rfl, rfl, rfl, rfl⟩ | ⟨rfl, rfl, rfl, rfl, rfl, rfl, rfl⟩ | ⟨rfl, rfl, rfl, rfl, rfl, rfl, rfl⟩ <;> decide
theorem own_f38 {s r v9 v2 : Int64} {q hi lo : Int32} (hV : own_VB s r v9 v2 q hi lo) : ¬ (lcmpW v2 (0 : Int64)) < 0 := by
  rcases hV with ⟨rfl, rfl, rfl, rfl, rfl, rfl, rfl⟩ | ⟨rfl, rfl, rfl, rfl, rfl, rfl, rfl⟩ | ⟨rfl, rfl, rfl, rfl, rfl, rfl, rfl⟩ | ⟨rfl, rfl, rfl, rfl, rfl, rfl, rfl⟩ | ⟨rfl, rfl, rfl, rfl, rfl, rfl, rfl⟩ | ⟨rfl, rfl, rfl, rfl, rfl, rfl, rfl⟩ | ⟨rfl, rfl, rfl, rfl, rfl, rfl, rfl⟩ | ⟨rfl, rfl, rfl, rfl, rfl, rfl, rfl⟩ | ⟨rfl, rfl, rfl, rfl, rfl, rfl, rfl⟩ | ⟨rfl, rfl, rfl, rfl, rfl, rfl, rfl⟩ <;> decide
theorem own_f39 {s r v9 v2 : Int64} {q hi lo : Int32} (hV : own_VB s r v9 v2 q hi lo) : ((v2 / (1000000000 : Int64)).toInt32) = q := by
  rcases hV with ⟨rfl, rfl, rfl, rfl, rfl, rfl, rfl⟩ | ⟨rfl, rfl, rfl, rfl, rfl, rfl, rfl⟩ | ⟨rfl, rfl, rfl, rfl, rfl, rfl, rfl⟩ | ⟨rfl, rfl, rfl, rfl, rfl, rfl, rfl⟩ | ⟨rfl, rfl, rfl, rfl, rfl, rfl, rfl⟩ | ⟨rfl, rfl, rfl, rfl, rfl, rfl, rfl⟩ | ⟨rfl, rfl, rfl, rfl, rfl, rfl, rfl⟩ | ⟨rfl, rfl, rfl, rfl, rfl, rfl, rfl⟩ | ⟨rfl, rfl, rfl, rfl, rfl, rfl, rfl⟩ | ⟨rfl, rfl, rfl, rfl, rfl, rfl, rfl⟩ <;> decide
theorem own_f40 {s r v9 v2 : Int64} {q hi lo : Int32} (hV : own_VB s r v9 v2 q hi lo) : ((v2 - ((q.toInt64) * (1000000000 : Int64))).toInt32) = 0 := by
  rcases hV with ⟨rfl, rfl, rfl, rfl, rfl, rfl, rfl⟩ | ⟨rfl, rfl, rfl, rfl, rfl, rfl, rfl⟩ | ⟨rfl, rfl, rfl, rfl, rfl, rfl, rfl⟩ | ⟨rfl, rfl, rfl, rfl, rfl, rfl, rfl⟩ | ⟨rfl, rfl, rfl, rfl, rfl, rfl, rfl⟩ | ⟨rfl, rfl, rfl, rfl, rfl, rfl, rfl⟩ | ⟨rfl, rfl, rfl, rfl, rfl, rfl, rfl⟩ | ⟨rfl, rfl, rfl, rfl, rfl, rfl, rfl⟩ | ⟨rfl, rfl, rfl, rfl, rfl, rfl, rfl⟩ | ⟨rfl, rfl, rfl, rfl, rfl, rfl, rfl⟩ <;> decide
def Q_dwB (Z : State) (s r v9 v2 : Int64) (q hi lo : Int32) (a1 a2 t1 t2 : Addr) (k1 k2 : ClassId) (h0 : Heap) (n0 : Nat) (v : Option Value) (h : Heap) (L : List Loc) : Prop := v = some (.int (0 : Int32)) ∧ Fr n0 L ∧ Keep h0 h [a2] ∧ ∃ (t : Addr) (k : ClassId), h0.size ≤ t ∧ Exa Z h a2 "java/math/MutableBigInteger" ∧ Fld Z h a2 "java/math/MutableBigInteger" "offset" "I" (.int (1 : Int32)) ∧ Fld Z h a2 "java/math/MutableBigInteger" "value" "[I" (.ref t) ∧ Fld Z h a2 "java/math/MutableBigInteger" "intLen" "I" (.int (1 : Int32)) ∧ Arv Z h t k .int (2 : Int32) [(.int 0), (.int q)] (.int 0)
theorem rm_dwB (l : Launch) (Z : State) (a0 : Array Value) (hw : own_H a0 Z) (ws : List Jvm.Cond) (s r v9 v2 : Int64) (q hi lo : Int32) (a1 a2 t1 t2 : Addr) (k1 k2 : ClassId) (h0 : Heap) (n0 : Nat) (Z0 : n0 ≤ h0.size) (hB : own_VB s r v9 v2 q hi lo) (Ea1 : Exa Z h0 a1 "java/math/MutableBigInteger") (Oa1 : Fld Z h0 a1 "java/math/MutableBigInteger" "offset" "I" (.int (0 : Int32))) (Va1 : Fld Z h0 a1 "java/math/MutableBigInteger" "value" "[I" (.ref t1)) (Ia1 : Fld Z h0 a1 "java/math/MutableBigInteger" "intLen" "I" (.int (2 : Int32))) (Ea2 : Exa Z h0 a2 "java/math/MutableBigInteger") (Oa2 : Fld Z h0 a2 "java/math/MutableBigInteger" "offset" "I" (.int (0 : Int32))) (Va2 : Fld Z h0 a2 "java/math/MutableBigInteger" "value" "[I" (.ref t2)) (Ia2 : Fld Z h0 a2 "java/math/MutableBigInteger" "intLen" "I" (.int (0 : Int32))) (A1 : Arv Z h0 t1 k1 .int (2 : Int32) [(.int hi), (.int lo)] (.int 0)) (A2 : Arv Z h0 t2 k2 .int (1 : Int32) [(.int 0)] (.int 0)) (g2 : n0 ≤ a2) (gt : n0 ≤ t2) (ne : a1 ≠ a2) (net : t1 ≠ t2) : own_MP l Mn9 jdk_2101_method_53_code 15 (some .int) ws ({ frames := 1, cells := 1, slots := 2, locals := 15 } : Room) Z h0 #[(.ref a1), (.int (1000000000 : Int32)), (.ref a2)] (fun _ _ _ _ _ => True) (Q_dwB Z s r v9 v2 q hi lo a1 a2 t1 t2 k1 k2 h0 n0) := by
  refine own_startP (plainFor_of_name own_pn_java_math_MutableBigInteger) fun p e s' m below meth c s₁ Bd hx hby hml hown0 X0 e0 hh0 hZ hK Pst hPst => ?_
  have dE := own_E hby own_D40
  have hown : s'.vm.findClass "java/math/MutableBigInteger" = some m.cls := hown0
  have hnm := (name_of_methodNamed Bd.named Bd.method).1
  have N0 := Fr.nil n0
  rw [own_ef_RIR_15 m a1 (1000000000 : Int32) a2]
  have nq_t1_a2 : t1 ≠ a2 := Ne.symm (Exa.neArv Ea2 A1 (g_ hw 176 rfl))
  have nq_t2_a2 : t2 ≠ a2 := Ne.symm (Exa.neArv Ea2 A2 (g_ hw 176 rfl))
  have nq_t2_a1 : t2 ≠ a1 := Ne.symm (Exa.neArv Ea1 A2 (g_ hw 176 rfl))
  refine o_iloadN X0.here hx (dE 0 rfl) rfl ?_
  refine o_i2l X0.here hx (dE 1 rfl) rfl ?_
  refine own_Go.of (S' := s₁.setTop (mkF m 5 #[.val (.ref a1), .val (.int (1000000000 : Int32)), .val (.ref a2), .unset, .unset, .unset, .unset, .unset, .unset, .unset, .unset, .unset, .unset, .unset, .unset] [(.long (4294967295 : Int64)), (.long ((1000000000 : Int32).toInt64))])) (fun tgt kst => X0.ldc2Long hx hown (mvT hZ (g_ hw 218 rfl)) (g := (mkF m 2 #[.val (.ref a1), .val (.int (1000000000 : Int32)), .val (.ref a2), .unset, .unset, .unset, .unset, .unset, .unset, .unset, .unset, .unset, .unset, .unset, .unset] [(.long ((1000000000 : Int32).toInt64))])) rfl (dE 2 rfl) _ kst) ?_
  refine o_land X0.here hx (dE 3 rfl) rfl ?_
  rw [show (((1000000000 : Int32).toInt64) &&& (4294967295 : Int64)) = (1000000000 : Int64) from by decide]
  show own_Go p e below Pst (s₁.setTop (mkF m 6 #[.val (.ref a1), .val (.int (1000000000 : Int32)), .val (.ref a2), .unset, .unset, .unset, .unset, .unset, .unset, .unset, .unset, .unset, .unset, .unset, .unset] [(.long (1000000000 : Int64))]))
  refine o_lstoreN X0.here hx (dE 4 rfl) rfl (l' := #[.val (.ref a1), .val (.int (1000000000 : Int32)), .val (.ref a2), .val (.long (1000000000 : Int64)), .second, .unset, .unset, .unset, .unset, .unset, .unset, .unset, .unset, .unset, .unset]) rfl ?_
  refine o_aloadN X0.here hx (dE 5 rfl) rfl rfl ?_
  refine p_getF X0 hx hZ hown (host := "") (Or.inl (g_ hw 187 rfl)) Via.refl e0 Ia1 rfl (dE 6 rfl) fun T101 X101 e101 => ?_
  refine o_iconst X101.here hx (dE 7 rfl) (z := (1 : Int32)) rfl ?_
  refine o_icmpYes X101.here hx (pc0 := 12) (pc' := 79) rfl (dE 8 rfl) rfl (feq (by decide)).2 (by decide) (by decide) ?_
  refine o_aloadN X101.here hx (dE 46 rfl) rfl rfl ?_
  refine p_getF X101 hx hZ hown (host := "") (Or.inl (g_ hw 185 rfl)) Via.refl e101 Va2 rfl (dE 47 rfl) fun T102 X102 e102 => ?_
  obtain ⟨cl103, Ar103, -, S103, P103, -, -⟩ := id A2
  refine own_Go.of (S' := T102.setTop (mkF m 84 #[.val (.ref a1), .val (.int (1000000000 : Int32)), .val (.ref a2), .val (.long (1000000000 : Int64)), .second, .unset, .unset, .unset, .unset, .unset, .unset, .unset, .unset, .unset, .unset] [(.int (1 : Int32))])) (fun tgt kst => X102.arraylength hx (by rw [e102]; exact Ar103.1) (State.isArrayOf_alike hZ.alike Ar103.2.1) (g := (mkF m 83 #[.val (.ref a1), .val (.int (1000000000 : Int32)), .val (.ref a2), .val (.long (1000000000 : Int64)), .second, .unset, .unset, .unset, .unset, .unset, .unset, .unset, .unset, .unset, .unset] [(.ref t2)])) rfl rfl (dE 48 rfl) _ (by rw [len_of S103 P103]; exact kst)) ?_
  refine o_aloadN X102.here hx (dE 49 rfl) rfl rfl ?_
  refine p_getF X102 hx hZ hown (host := "") (Or.inl (g_ hw 187 rfl)) Via.refl e102 Ia1 rfl (dE 50 rfl) fun T104 X104 e104 => ?_
  refine o_icmpNo X104.here hx (dE 51 rfl) rfl (tlt (by decide)).2.1 ?_
  refine o_aloadN X104.here hx (dE 52 rfl) rfl rfl ?_
  refine o_aloadN X104.here hx (dE 53 rfl) rfl rfl ?_
  refine p_getF X104 hx hZ hown (host := "") (Or.inl (g_ hw 187 rfl)) Via.refl e104 Ia1 rfl (dE 54 rfl) fun T105 X105 e105 => ?_
  refine p_newP (aty := .int) X105 hx hZ (g_ hw 160 rfl) e105 (dE 55 rfl) rfl (by decide) (cap := 2) (by decide) (by decide) (by decide) (by decide) fun T106 h106 k106 b106 g106 X106 e106 E106 A106 => ?_
  have ne_a1_b106 : a1 ≠ b106 := Nat.ne_of_lt (Nat.lt_of_lt_of_le Ea1.lt (Nat.le_of_eq g106.symm))
  have ne_a2_b106 : a2 ≠ b106 := Nat.ne_of_lt (Nat.lt_of_lt_of_le Ea2.lt (Nat.le_of_eq g106.symm))
  have ne_t1_b106 : t1 ≠ b106 := Nat.ne_of_lt (Nat.lt_of_lt_of_le A1.lt (Nat.le_of_eq g106.symm))
  have ne_t2_b106 : t2 ≠ b106 := Nat.ne_of_lt (Nat.lt_of_lt_of_le A2.lt (Nat.le_of_eq g106.symm))
  have gn_b106 : n0 ≤ b106 := Nat.le_trans Z0 (Nat.le_of_eq g106.symm)
  have sz_b106 : h0.size ≤ b106 := Nat.le_trans (Keep.refl h0 [a2]).1 (Nat.le_of_eq g106.symm)
  have V106 : Arv Z h106 b106 k106 .int (2 : Int32) [(.int (0 : Int32)), (.int (0 : Int32))] (.int (0 : Int32)) := (Arv.new A106 (by decide)).pad (pad_rep [] (.int (0 : Int32)) 2)
  have c107 := (Ea2.ext E106)
  have c108 := (Va2.ext E106)
  refine p_putF X106 hx hZ hown (host := "") (Or.inl (g_ hw 185 rfl)) Via.refl e106 c108 c107 (Or.inl (g_ hw 186 rfl)) (g_ hw 176 rfl) (ty := (.array .int)) (by decide) rfl rfl rfl (dE 56 rfl) fun T109 h109 X109 e109 W109 => ?_
  have Fw109 := Fld.same W109 c108
  have N109 := Fr.snoc X109 N0 g2
  refine o_aloadN X109.here hx (dE 57 rfl) rfl rfl ?_
  refine o_iconst X109.here hx (dE 58 rfl) (z := (0 : Int32)) rfl ?_
  have c110 := (c107.wr W109)
  have c111 := ((Oa2.ext E106).other W109 (Or.inr (slot_ne (Or.inl (g_ hw 184 rfl)) (Or.inl (g_ hw 186 rfl)) (by decide) (t := .int) (t' := (.array .int)) (by decide) (by decide))))
  refine p_putF X109 hx hZ hown (host := "") (Or.inl (g_ hw 183 rfl)) Via.refl e109 c111 c110 (Or.inl (g_ hw 184 rfl)) (g_ hw 176 rfl) (ty := .int) (by decide) rfl rfl rfl (dE 59 rfl) fun T112 h112 X112 e112 W112 => ?_
  have Fw112 := Fld.same W112 c111
  have N112 := Fr.snoc X112 N109 g2
  refine o_aloadN X112.here hx (dE 60 rfl) rfl rfl ?_
  refine o_aloadN X112.here hx (dE 61 rfl) rfl rfl ?_
  have c113 := (((Ia1.ext E106).other W109 (Or.inl ne)).other W112 (Or.inl ne))
  refine p_getF X112 hx hZ hown (host := "") (Or.inl (g_ hw 187 rfl)) Via.refl e112 c113 rfl (dE 62 rfl) fun T114 X114 e114 => ?_
  have c115 := (c110.wr W112)
  have c116 := (((Ia2.ext E106).other W109 (Or.inr (slot_ne (Or.inl (g_ hw 188 rfl)) (Or.inl (g_ hw 186 rfl)) (by decide) (t := .int) (t' := (.array .int)) (by decide) (by decide)))).other W112 (Or.inr (slot_ne (Or.inl (g_ hw 188 rfl)) (Or.inl (g_ hw 184 rfl)) (by decide) (t := .int) (t' := .int) (by decide) (by decide))))
  refine p_putF X114 hx hZ hown (host := "") (Or.inl (g_ hw 187 rfl)) Via.refl e114 c116 c115 (Or.inl (g_ hw 188 rfl)) (g_ hw 176 rfl) (ty := .int) (by decide) rfl rfl rfl (dE 63 rfl) fun T117 h117 X117 e117 W117 => ?_
  have Fw117 := Fld.same W117 c116
  have N117 := Fr.snoc X117 N112 g2
  refine o_iloadN X117.here hx (dE 64 rfl) rfl ?_
  have c119 := (Nat.le_trans (Nat.le_trans (Nat.le_trans (Nat.le_trans Z0 E106.1) (Keep.of_wr W109).1) (Keep.of_wr W112).1) (Keep.of_wr W117).1)
  refine own_cF X117 (Jvm.LawKit.callS X117 hx (y := Mn32) hown (mvT hZ (g_ hw 296 rfl)) (mvT hZ (g_ hw 248 rfl)) (mvT hZ (g_ hw 249 rfl)) (mvT hZ (g_ hw 250 rfl)) (by decide) (backOf (W := 0) (rm_nlD l Z a0 hw []  h117 n0 c119 ) hZ (g_ hw 250 rfl) (g_ hw 249 rfl) (by decide) (by decide)) (g := (mkF m 115 #[.val (.ref a1), .val (.int (1000000000 : Int32)), .val (.ref a2), .val (.long (1000000000 : Int64)), .second, .unset, .unset, .unset, .unset, .unset, .unset, .unset, .unset, .unset, .unset] [(.int (1000000000 : Int32))])) rfl (by rw [hml]; rfl) (argsL := [(.int (1000000000 : Int32))]) (rest := []) (lenOf own_pd17 rfl) rfl (by show 2 * 0 + _ ≤ _; exact Nat.le_of_eq rfl) (dE 65 rfl) (fun _ _ => ⟨rfl, e117, (by decide : 1 + 0 ≤ _), (by decide : 2 + 0 ≤ _)⟩)) fun v118 T118 L118 X118 hQ118 => ?_
  obtain ⟨rfl, Nq118, e118⟩ := hQ118
  have N118 := Fr.app N117 Nq118
  show own_Go p e below Pst (T118.setTop (mkF m 118 #[.val (.ref a1), .val (.int (1000000000 : Int32)), .val (.ref a2), .val (.long (1000000000 : Int64)), .second, .unset, .unset, .unset, .unset, .unset, .unset, .unset, .unset, .unset, .unset] [(.int (2 : Int32))]))
  refine o_istore X118.here hx (dE 66 rfl) rfl (l' := #[.val (.ref a1), .val (.int (1000000000 : Int32)), .val (.ref a2), .val (.long (1000000000 : Int64)), .second, .val (.int (2 : Int32)), .unset, .unset, .unset, .unset, .unset, .unset, .unset, .unset, .unset]) rfl ?_
  refine o_aloadN X118.here hx (dE 67 rfl) rfl rfl ?_
  have c120 := ((((Va1.ext E106).other W109 (Or.inl ne)).other W112 (Or.inl ne)).other W117 (Or.inl ne))
  refine p_getF X118 hx hZ hown (host := "") (Or.inl (g_ hw 185 rfl)) Via.refl e118 c120 rfl (dE 68 rfl) fun T121 X121 e121 => ?_
  refine o_aloadN X121.here hx (dE 69 rfl) rfl rfl ?_
  have c122 := ((((Oa1.ext E106).other W109 (Or.inl ne)).other W112 (Or.inl ne)).other W117 (Or.inl ne))
  refine p_getF X121 hx hZ hown (host := "") (Or.inl (g_ hw 183 rfl)) Via.refl e121 c122 rfl (dE 70 rfl) fun T123 X123 e123 => ?_
  have c124 := ((((A1.ext E106).other W109 nq_t1_a2).other W112 nq_t1_a2).other W117 nq_t1_a2)
  obtain ⟨cl125, Ar125, q125, S125, P125, H125, G125⟩ := id c124
  have hin125 : ¬ ((0 : Int32) < 0 ∨ cl125.slots.size ≤ ((0 : Int32)).toNatClampNeg) := inb_of S125 ⟨by decide, by decide⟩
  have hat125 : cl125.slots[((0 : Int32)).toNatClampNeg]? = some (.int hi) := Has.at H125 hin125 rfl
  refine own_Go.of (S' := T123.setTop (mkF m 129 #[.val (.ref a1), .val (.int (1000000000 : Int32)), .val (.ref a2), .val (.long (1000000000 : Int64)), .second, .val (.int (2 : Int32)), .unset, .unset, .unset, .unset, .unset, .unset, .unset, .unset, .unset] [(.int hi)])) (fun tgt kst => X123.iaload hx (j := (0 : Int32)) (v := (.int hi)) (by rw [e123]; exact Ar125.1) (State.isArrayOf_alike hZ.alike Ar125.2.1) Ar125.2.2 hin125 hat125 (g := (mkF m 128 #[.val (.ref a1), .val (.int (1000000000 : Int32)), .val (.ref a2), .val (.long (1000000000 : Int64)), .second, .val (.int (2 : Int32)), .unset, .unset, .unset, .unset, .unset, .unset, .unset, .unset, .unset] [(.int (0 : Int32)), (.ref t1)])) rfl rfl (dE 71 rfl) _ kst) ?_
  refine o_istore X123.here hx (dE 72 rfl) rfl (l' := #[.val (.ref a1), .val (.int (1000000000 : Int32)), .val (.ref a2), .val (.long (1000000000 : Int64)), .second, .val (.int (2 : Int32)), .val (.int hi), .unset, .unset, .unset, .unset, .unset, .unset, .unset, .unset]) rfl ?_
  refine o_iload X123.here hx (dE 73 rfl) rfl ?_
  refine o_i2l X123.here hx (dE 74 rfl) rfl ?_
  refine own_Go.of (S' := T123.setTop (mkF m 137 #[.val (.ref a1), .val (.int (1000000000 : Int32)), .val (.ref a2), .val (.long (1000000000 : Int64)), .second, .val (.int (2 : Int32)), .val (.int hi), .unset, .unset, .unset, .unset, .unset, .unset, .unset, .unset] [(.long (4294967295 : Int64)), (.long (hi.toInt64))])) (fun tgt kst => X123.ldc2Long hx hown (mvT hZ (g_ hw 218 rfl)) (g := (mkF m 134 #[.val (.ref a1), .val (.int (1000000000 : Int32)), .val (.ref a2), .val (.long (1000000000 : Int64)), .second, .val (.int (2 : Int32)), .val (.int hi), .unset, .unset, .unset, .unset, .unset, .unset, .unset, .unset] [(.long (hi.toInt64))])) rfl (dE 75 rfl) _ kst) ?_
  refine o_land X123.here hx (dE 76 rfl) rfl ?_
  refine o_lstore X123.here hx (dE 77 rfl) rfl (l' := #[.val (.ref a1), .val (.int (1000000000 : Int32)), .val (.ref a2), .val (.long (1000000000 : Int64)), .second, .val (.int (2 : Int32)), .val (.int hi), .val (.long ((hi.toInt64) &&& (4294967295 : Int64))), .second, .unset, .unset, .unset, .unset, .unset, .unset]) rfl ?_
  refine o_lload X123.here hx (dE 78 rfl) rfl ?_
  refine o_lloadN X123.here hx (dE 79 rfl) rfl ?_
  refine o_lcmp X123.here hx (dE 80 rfl) rfl ?_
  refine o_ifNo X123.here hx (dE 81 rfl) rfl ((if0 _ _).trans (tlt (own_f36 hB)).2.1) ?_
  refine o_aloadN X123.here hx (dE 82 rfl) rfl rfl ?_
  have c126 := ((Fw109.other W112 (Or.inr (slot_ne (Or.inl (g_ hw 186 rfl)) (Or.inl (g_ hw 184 rfl)) (by decide) (t := (.array .int)) (t' := .int) (by decide) (by decide)))).other W117 (Or.inr (slot_ne (Or.inl (g_ hw 186 rfl)) (Or.inl (g_ hw 188 rfl)) (by decide) (t := (.array .int)) (t' := .int) (by decide) (by decide))))
  refine p_getF X123 hx hZ hown (host := "") (Or.inl (g_ hw 185 rfl)) Via.refl e123 c126 rfl (dE 83 rfl) fun T127 X127 e127 => ?_
  refine o_iconst X127.here hx (dE 84 rfl) (z := (0 : Int32)) rfl ?_
  refine o_iconst X127.here hx (dE 85 rfl) (z := (0 : Int32)) rfl ?_
  have c128 := (((V106.other W109 (Ne.symm ne_a2_b106)).other W112 (Ne.symm ne_a2_b106)).other W117 (Ne.symm ne_a2_b106))
  refine p_arI X127 hx hZ e127 c128 (0 : Int32) 0 ⟨by decide, by decide⟩ rfl (Nat.le_of_ble_eq_true rfl) rfl (dE 86 rfl) fun T129 h129 X129 e129 W129 V129 => ?_
  have N129 := Fr.snoc X129 N118 gn_b106
  refine o_goto X129.here hx (pc0 := 154) (pc' := 192) rfl (dE 87 rfl) (by decide) (by decide) ?_
  refine o_aloadN X129.here hx (dE 88 rfl) rfl rfl ?_
  have c130 := ((c113.other W117 (Or.inl ne)).other W129 (Or.inl ne_a1_b106))
  refine p_getF X129 hx hZ hown (host := "") (Or.inl (g_ hw 187 rfl)) Via.refl e129 c130 rfl (dE 89 rfl) fun T131 X131 e131 => ?_
  refine o_istore X131.here hx (dE 90 rfl) rfl (l' := #[.val (.ref a1), .val (.int (1000000000 : Int32)), .val (.ref a2), .val (.long (1000000000 : Int64)), .second, .val (.int (2 : Int32)), .val (.int hi), .val (.long ((hi.toInt64) &&& (4294967295 : Int64))), .second, .val (.int (2 : Int32)), .unset, .unset, .unset, .unset, .unset]) rfl ?_
  refine o_iinc X131.here hx (dE 91 rfl) rfl (l' := #[.val (.ref a1), .val (.int (1000000000 : Int32)), .val (.ref a2), .val (.long (1000000000 : Int64)), .second, .val (.int (2 : Int32)), .val (.int hi), .val (.long ((hi.toInt64) &&& (4294967295 : Int64))), .second, .val (.int ((2 : Int32) + (-1 : Int32))), .unset, .unset, .unset, .unset, .unset]) rfl ?_
  rw [show ((2 : Int32) + (-1 : Int32)) = (1 : Int32) from by decide]
  show own_Go p e below Pst (T131.setTop (mkF m 201 #[.val (.ref a1), .val (.int (1000000000 : Int32)), .val (.ref a2), .val (.long (1000000000 : Int64)), .second, .val (.int (2 : Int32)), .val (.int hi), .val (.long ((hi.toInt64) &&& (4294967295 : Int64))), .second, .val (.int (1 : Int32)), .unset, .unset, .unset, .unset, .unset] []))
  refine o_iload X131.here hx (dE 92 rfl) rfl ?_
  refine o_ifNo X131.here hx (dE 93 rfl) rfl ((if0 _ _).trans (tlt (by decide)).2.2.2) ?_
  refine o_lload X131.here hx (dE 94 rfl) rfl ?_
  refine o_bipush X131.here hx (dE 95 rfl) (z := (32 : Int32)) rfl ?_
  refine o_lshl X131.here hx (dE 96 rfl) rfl ?_
  refine o_aloadN X131.here hx (dE 97 rfl) rfl rfl ?_
  have c132 := (c120.other W129 (Or.inl ne_a1_b106))
  refine p_getF X131 hx hZ hown (host := "") (Or.inl (g_ hw 185 rfl)) Via.refl e131 c132 rfl (dE 98 rfl) fun T133 X133 e133 => ?_
  refine o_aloadN X133.here hx (dE 99 rfl) rfl rfl ?_
  have c134 := (c122.other W129 (Or.inl ne_a1_b106))
  refine p_getF X133 hx hZ hown (host := "") (Or.inl (g_ hw 183 rfl)) Via.refl e133 c134 rfl (dE 100 rfl) fun T135 X135 e135 => ?_
  refine o_aloadN X135.here hx (dE 101 rfl) rfl rfl ?_
  refine p_getF X135 hx hZ hown (host := "") (Or.inl (g_ hw 187 rfl)) Via.refl e135 c130 rfl (dE 102 rfl) fun T136 X136 e136 => ?_
  refine o_iadd X136.here hx (dE 103 rfl) rfl ?_
  refine o_iload X136.here hx (dE 104 rfl) rfl ?_
  refine o_isub X136.here hx (dE 105 rfl) rfl ?_
  rw [show (((0 : Int32) + (2 : Int32)) - (1 : Int32)) = (1 : Int32) from by decide]
  show own_Go p e below Pst (T136.setTop (mkF m 227 #[.val (.ref a1), .val (.int (1000000000 : Int32)), .val (.ref a2), .val (.long (1000000000 : Int64)), .second, .val (.int (2 : Int32)), .val (.int hi), .val (.long ((hi.toInt64) &&& (4294967295 : Int64))), .second, .val (.int (1 : Int32)), .unset, .unset, .unset, .unset, .unset] [(.int (1 : Int32)), (.ref t1), (.long (((hi.toInt64) &&& (4294967295 : Int64)) <<< ((32 : Int32) &&& 0x3f).toInt64))]))
  have c137 := (c124.other W129 ne_t1_b106)
  obtain ⟨cl138, Ar138, q138, S138, P138, H138, G138⟩ := id c137
  have hin138 : ¬ ((1 : Int32) < 0 ∨ cl138.slots.size ≤ ((1 : Int32)).toNatClampNeg) := inb_of S138 ⟨by decide, by decide⟩
  have hat138 : cl138.slots[((1 : Int32)).toNatClampNeg]? = some (.int lo) := Has.at H138 hin138 rfl
  refine own_Go.of (S' := T136.setTop (mkF m 228 #[.val (.ref a1), .val (.int (1000000000 : Int32)), .val (.ref a2), .val (.long (1000000000 : Int64)), .second, .val (.int (2 : Int32)), .val (.int hi), .val (.long ((hi.toInt64) &&& (4294967295 : Int64))), .second, .val (.int (1 : Int32)), .unset, .unset, .unset, .unset, .unset] [(.int lo), (.long (((hi.toInt64) &&& (4294967295 : Int64)) <<< ((32 : Int32) &&& 0x3f).toInt64))])) (fun tgt kst => X136.iaload hx (j := (1 : Int32)) (v := (.int lo)) (by rw [e136]; exact Ar138.1) (State.isArrayOf_alike hZ.alike Ar138.2.1) Ar138.2.2 hin138 hat138 (g := (mkF m 227 #[.val (.ref a1), .val (.int (1000000000 : Int32)), .val (.ref a2), .val (.long (1000000000 : Int64)), .second, .val (.int (2 : Int32)), .val (.int hi), .val (.long ((hi.toInt64) &&& (4294967295 : Int64))), .second, .val (.int (1 : Int32)), .unset, .unset, .unset, .unset, .unset] [(.int (1 : Int32)), (.ref t1), (.long (((hi.toInt64) &&& (4294967295 : Int64)) <<< ((32 : Int32) &&& 0x3f).toInt64))])) rfl rfl (dE 106 rfl) _ kst) ?_
  refine o_i2l X136.here hx (dE 107 rfl) rfl ?_
  refine own_Go.of (S' := T136.setTop (mkF m 232 #[.val (.ref a1), .val (.int (1000000000 : Int32)), .val (.ref a2), .val (.long (1000000000 : Int64)), .second, .val (.int (2 : Int32)), .val (.int hi), .val (.long ((hi.toInt64) &&& (4294967295 : Int64))), .second, .val (.int (1 : Int32)), .unset, .unset, .unset, .unset, .unset] [(.long (4294967295 : Int64)), (.long (lo.toInt64)), (.long (((hi.toInt64) &&& (4294967295 : Int64)) <<< ((32 : Int32) &&& 0x3f).toInt64))])) (fun tgt kst => X136.ldc2Long hx hown (mvT hZ (g_ hw 218 rfl)) (g := (mkF m 229 #[.val (.ref a1), .val (.int (1000000000 : Int32)), .val (.ref a2), .val (.long (1000000000 : Int64)), .second, .val (.int (2 : Int32)), .val (.int hi), .val (.long ((hi.toInt64) &&& (4294967295 : Int64))), .second, .val (.int (1 : Int32)), .unset, .unset, .unset, .unset, .unset] [(.long (lo.toInt64)), (.long (((hi.toInt64) &&& (4294967295 : Int64)) <<< ((32 : Int32) &&& 0x3f).toInt64))])) rfl (dE 108 rfl) _ kst) ?_
  refine o_land X136.here hx (dE 109 rfl) rfl ?_
  refine o_lor X136.here hx (dE 110 rfl) rfl ?_
  rw [(own_f37 hB)]
  show own_Go p e below Pst (T136.setTop (mkF m 234 #[.val (.ref a1), .val (.int (1000000000 : Int32)), .val (.ref a2), .val (.long (1000000000 : Int64)), .second, .val (.int (2 : Int32)), .val (.int hi), .val (.long ((hi.toInt64) &&& (4294967295 : Int64))), .second, .val (.int (1 : Int32)), .unset, .unset, .unset, .unset, .unset] [(.long v2)]))
  refine o_lstore X136.here hx (dE 111 rfl) rfl (l' := #[.val (.ref a1), .val (.int (1000000000 : Int32)), .val (.ref a2), .val (.long (1000000000 : Int64)), .second, .val (.int (2 : Int32)), .val (.int hi), .val (.long ((hi.toInt64) &&& (4294967295 : Int64))), .second, .val (.int (1 : Int32)), .val (.long v2), .second, .unset, .unset, .unset]) rfl ?_
  refine o_lload X136.here hx (dE 112 rfl) rfl ?_
  refine o_lconst X136.here hx (dE 113 rfl) (z := (0 : Int64)) rfl ?_
  refine o_lcmp X136.here hx (dE 114 rfl) rfl ?_
  refine o_ifNo X136.here hx (dE 115 rfl) rfl ((if0 _ _).trans (flt (own_f38 hB)).1) ?_
  refine o_lload X136.here hx (dE 116 rfl) rfl ?_
  refine o_lloadN X136.here hx (dE 117 rfl) rfl ?_
  refine o_ldiv X136.here hx (dE 118 rfl) rfl (by decide) ?_
  refine o_l2i X136.here hx (dE 119 rfl) rfl ?_
  rw [(own_f39 hB)]
  show own_Go p e below Pst (T136.setTop (mkF m 248 #[.val (.ref a1), .val (.int (1000000000 : Int32)), .val (.ref a2), .val (.long (1000000000 : Int64)), .second, .val (.int (2 : Int32)), .val (.int hi), .val (.long ((hi.toInt64) &&& (4294967295 : Int64))), .second, .val (.int (1 : Int32)), .val (.long v2), .second, .unset, .unset, .unset] [(.int q)]))
  refine o_istore X136.here hx (dE 120 rfl) rfl (l' := #[.val (.ref a1), .val (.int (1000000000 : Int32)), .val (.ref a2), .val (.long (1000000000 : Int64)), .second, .val (.int (2 : Int32)), .val (.int hi), .val (.long ((hi.toInt64) &&& (4294967295 : Int64))), .second, .val (.int (1 : Int32)), .val (.long v2), .second, .val (.int q), .unset, .unset]) rfl ?_
  refine o_lload X136.here hx (dE 121 rfl) rfl ?_
  refine o_iload X136.here hx (dE 122 rfl) rfl ?_
  refine o_i2l X136.here hx (dE 123 rfl) rfl ?_
  refine o_lloadN X136.here hx (dE 124 rfl) rfl ?_
  refine o_lmul X136.here hx (dE 125 rfl) rfl ?_
  refine o_lsub X136.here hx (dE 126 rfl) rfl ?_
  refine o_l2i X136.here hx (dE 127 rfl) rfl ?_
  rw [(own_f40 hB)]
  show own_Go p e below Pst (T136.setTop (mkF m 259 #[.val (.ref a1), .val (.int (1000000000 : Int32)), .val (.ref a2), .val (.long (1000000000 : Int64)), .second, .val (.int (2 : Int32)), .val (.int hi), .val (.long ((hi.toInt64) &&& (4294967295 : Int64))), .second, .val (.int (1 : Int32)), .val (.long v2), .second, .val (.int q), .unset, .unset] [(.int (0 : Int32))]))
  refine o_istore X136.here hx (dE 128 rfl) rfl (l' := #[.val (.ref a1), .val (.int (1000000000 : Int32)), .val (.ref a2), .val (.long (1000000000 : Int64)), .second, .val (.int (2 : Int32)), .val (.int (0 : Int32)), .val (.long ((hi.toInt64) &&& (4294967295 : Int64))), .second, .val (.int (1 : Int32)), .val (.long v2), .second, .val (.int q), .unset, .unset]) rfl ?_
  refine o_goto X136.here hx (pc0 := 261) (pc' := 289) rfl (dE 129 rfl) (by decide) (by decide) ?_
  refine o_aloadN X136.here hx (dE 130 rfl) rfl rfl ?_
  have c139 := (c126.other W129 (Or.inl ne_a2_b106))
  refine p_getF X136 hx hZ hown (host := "") (Or.inl (g_ hw 185 rfl)) Via.refl e136 c139 rfl (dE 131 rfl) fun T140 X140 e140 => ?_
  refine o_aloadN X140.here hx (dE 132 rfl) rfl rfl ?_
  refine p_getF X140 hx hZ hown (host := "") (Or.inl (g_ hw 187 rfl)) Via.refl e140 c130 rfl (dE 133 rfl) fun T141 X141 e141 => ?_
  refine o_iload X141.here hx (dE 134 rfl) rfl ?_
  refine o_isub X141.here hx (dE 135 rfl) rfl ?_
  rw [show ((2 : Int32) - (1 : Int32)) = (1 : Int32) from by decide]
  show own_Go p e below Pst (T141.setTop (mkF m 300 #[.val (.ref a1), .val (.int (1000000000 : Int32)), .val (.ref a2), .val (.long (1000000000 : Int64)), .second, .val (.int (2 : Int32)), .val (.int (0 : Int32)), .val (.long ((hi.toInt64) &&& (4294967295 : Int64))), .second, .val (.int (1 : Int32)), .val (.long v2), .second, .val (.int q), .unset, .unset] [(.int (1 : Int32)), (.ref b106)]))
  refine o_iload X141.here hx (dE 136 rfl) rfl ?_
  refine p_arI X141 hx hZ e141 V129 (1 : Int32) 1 ⟨by decide, by decide⟩ rfl (Nat.le_of_ble_eq_true rfl) rfl (dE 137 rfl) fun T142 h142 X142 e142 W142 V142 => ?_
  have N142 := Fr.snoc X142 N129 gn_b106
  refine o_iload X142.here hx (dE 138 rfl) rfl ?_
  refine o_i2l X142.here hx (dE 139 rfl) rfl ?_
  refine own_Go.of (S' := T142.setTop (mkF m 309 #[.val (.ref a1), .val (.int (1000000000 : Int32)), .val (.ref a2), .val (.long (1000000000 : Int64)), .second, .val (.int (2 : Int32)), .val (.int (0 : Int32)), .val (.long ((hi.toInt64) &&& (4294967295 : Int64))), .second, .val (.int (1 : Int32)), .val (.long v2), .second, .val (.int q), .unset, .unset] [(.long (4294967295 : Int64)), (.long ((0 : Int32).toInt64))])) (fun tgt kst => X142.ldc2Long hx hown (mvT hZ (g_ hw 218 rfl)) (g := (mkF m 306 #[.val (.ref a1), .val (.int (1000000000 : Int32)), .val (.ref a2), .val (.long (1000000000 : Int64)), .second, .val (.int (2 : Int32)), .val (.int (0 : Int32)), .val (.long ((hi.toInt64) &&& (4294967295 : Int64))), .second, .val (.int (1 : Int32)), .val (.long v2), .second, .val (.int q), .unset, .unset] [(.long ((0 : Int32).toInt64))])) rfl (dE 140 rfl) _ kst) ?_
  refine o_land X142.here hx (dE 141 rfl) rfl ?_
  refine o_lstore X142.here hx (dE 142 rfl) rfl (l' := #[.val (.ref a1), .val (.int (1000000000 : Int32)), .val (.ref a2), .val (.long (1000000000 : Int64)), .second, .val (.int (2 : Int32)), .val (.int (0 : Int32)), .val (.long (((0 : Int32).toInt64) &&& (4294967295 : Int64))), .second, .val (.int (1 : Int32)), .val (.long v2), .second, .val (.int q), .unset, .unset]) rfl ?_
  refine o_goto X142.here hx (pc0 := 312) (pc' := 198) rfl (dE 143 rfl) (by decide) (by decide) ?_
  refine o_iinc X142.here hx (dE 91 rfl) rfl (l' := #[.val (.ref a1), .val (.int (1000000000 : Int32)), .val (.ref a2), .val (.long (1000000000 : Int64)), .second, .val (.int (2 : Int32)), .val (.int (0 : Int32)), .val (.long (((0 : Int32).toInt64) &&& (4294967295 : Int64))), .second, .val (.int ((1 : Int32) + (-1 : Int32))), .val (.long v2), .second, .val (.int q), .unset, .unset]) rfl ?_
  rw [show ((1 : Int32) + (-1 : Int32)) = (0 : Int32) from by decide]
  show own_Go p e below Pst (T142.setTop (mkF m 201 #[.val (.ref a1), .val (.int (1000000000 : Int32)), .val (.ref a2), .val (.long (1000000000 : Int64)), .second, .val (.int (2 : Int32)), .val (.int (0 : Int32)), .val (.long (((0 : Int32).toInt64) &&& (4294967295 : Int64))), .second, .val (.int (0 : Int32)), .val (.long v2), .second, .val (.int q), .unset, .unset] []))
  refine o_iload X142.here hx (dE 92 rfl) rfl ?_
  refine o_ifYes X142.here hx (pc0 := 203) (pc' := 315) rfl (dE 93 rfl) rfl ((if0 _ _).trans (flt (by decide)).2.2.2) (by decide) (by decide) ?_
  refine o_aloadN X142.here hx (dE 144 rfl) rfl rfl ?_
  have c143 := (((c115.wr W117).wr W129).wr W142)
  have c144 := (((Fw112.other W117 (Or.inr (slot_ne (Or.inl (g_ hw 184 rfl)) (Or.inl (g_ hw 188 rfl)) (by decide) (t := .int) (t' := .int) (by decide) (by decide)))).other W129 (Or.inl ne_a2_b106)).other W142 (Or.inl ne_a2_b106))
  have c145 := (c139.other W142 (Or.inl ne_a2_b106))
  have c146 := ((Fw117.other W129 (Or.inl ne_a2_b106)).other W142 (Or.inl ne_a2_b106))
  have c148 := (Nat.le_trans (Nat.le_trans c119 (Keep.of_wr W129).1) (Keep.of_wr W142).1)
  obtain ⟨cq147, kq147, q147a, q147b, q147c⟩ := isOf hZ e142 c143
  refine own_cP X142 (X142.virtualBack hx (y := Mn39) (z := Mn39) hown (mvT hZ (g_ hw 297 rfl)) (mvT hZ (g_ hw 298 rfl)) (notFace_of_selects (args := #[]) (mvT hZ (g_ hw 300 rfl))) (mvT hZ (g_ hw 300 rfl)) (mvT hZ (g_ hw 299 rfl)) (by decide) (backOf (W := 0) (rm_nz l Z a0 hw [] s r v9 v2 q hi lo a2 b106 k106 h142 n0 c148 hB c143 c144 c145 c146 V142 g2) hZ (g_ hw 301 rfl) (g_ hw 177 rfl) (by decide) (by decide)) q147a q147c (g := (mkF m 316 #[.val (.ref a1), .val (.int (1000000000 : Int32)), .val (.ref a2), .val (.long (1000000000 : Int64)), .second, .val (.int (2 : Int32)), .val (.int (0 : Int32)), .val (.long (((0 : Int32).toInt64) &&& (4294967295 : Int64))), .second, .val (.int (0 : Int32)), .val (.long v2), .second, .val (.int q), .unset, .unset] [(.ref a2)])) rfl (by rw [hml]; rfl) (Steps.refl _) (argsL := []) (rest := []) (lenOf own_pd1 rfl) rfl (by show 2 * 0 + _ ≤ _; exact Nat.le_of_eq rfl) (dE 145 rfl) (fun _ _ => ⟨rfl, e142, (by decide : 1 + 0 ≤ _), (by decide : 2 + 0 ≤ _)⟩)) fun v147 T147 L147 X147 hQ147 => ?_
  obtain ⟨rfl, Nq147, K147, E147, O147, V147, I147⟩ := hQ147
  have N147 := Fr.app N142 Nq147
  show own_Go p e below Pst (T147.setTop (mkF m 319 #[.val (.ref a1), .val (.int (1000000000 : Int32)), .val (.ref a2), .val (.long (1000000000 : Int64)), .second, .val (.int (2 : Int32)), .val (.int (0 : Int32)), .val (.long (((0 : Int32).toInt64) &&& (4294967295 : Int64))), .second, .val (.int (0 : Int32)), .val (.long v2), .second, .val (.int q), .unset, .unset] []))
  refine o_iload X147.here hx (dE 146 rfl) rfl ?_
  refine o_ifNo X147.here hx (dE 147 rfl) rfl ((if0 _ _).trans (tlt (by decide)).2.2.2) ?_
  refine o_iload X147.here hx (dE 148 rfl) rfl ?_
  refine o_iloadN X147.here hx (dE 149 rfl) rfl ?_
  refine own_Go.of (S' := T147.setTop (mkF m 328 #[.val (.ref a1), .val (.int (1000000000 : Int32)), .val (.ref a2), .val (.long (1000000000 : Int64)), .second, .val (.int (2 : Int32)), .val (.int (0 : Int32)), .val (.long (((0 : Int32).toInt64) &&& (4294967295 : Int64))), .second, .val (.int (0 : Int32)), .val (.long v2), .second, .val (.int q), .unset, .unset] [(.int ((0 : Int32) % (1000000000 : Int32)))])) (fun tgt kst => iremM X147 hx rfl (dE 150 rfl) rfl (by decide) kst) ?_
  rw [show ((0 : Int32) % (1000000000 : Int32)) = (0 : Int32) from by decide]
  show own_Go p e below Pst (T147.setTop (mkF m 328 #[.val (.ref a1), .val (.int (1000000000 : Int32)), .val (.ref a2), .val (.long (1000000000 : Int64)), .second, .val (.int (2 : Int32)), .val (.int (0 : Int32)), .val (.long (((0 : Int32).toInt64) &&& (4294967295 : Int64))), .second, .val (.int (0 : Int32)), .val (.long v2), .second, .val (.int q), .unset, .unset] [(.int (0 : Int32))]))
  have c149 := (Keep.trans (((((((Keep.refl h0 [a2]).ext E106).wr W109 (Or.inl (List.mem_of_getElem? (i := 0) rfl))).wr W112 (Or.inl (List.mem_of_getElem? (i := 0) rfl))).wr W117 (Or.inl (List.mem_of_getElem? (i := 0) rfl))).wr W129 (Or.inr sz_b106)).wr W142 (Or.inr sz_b106)) K147 (allS (Or.inl (List.mem_of_getElem? (i := 0) rfl)) all0))
  have c150 := (V142.keep K147 (ninS (Ne.symm ne_a2_b106) nin0))
  rw [hPst]
  exact own_retP X147 (v := (some (.int (0 : Int32)))) (Q := Q_dwB Z s r v9 v2 q hi lo a1 a2 t1 t2 k1 k2 h0 n0) (fun h => by rw [Bd.returns] at h; cases h) Bd.notSynchronized (fun fs hr => own_retI X147 hx Bd.returns (dE 151 rfl) hr) (by decide) (by decide) ⟨rfl, N147, c149, _, _, sz_b106, E147, O147, V147, I147, c150⟩
theorem own_pd18 : parseMethodDescriptor "(Ljava/math/MutableBigInteger;)I" = some ⟨[(.object "java/math/MutableBigInteger")], some .int⟩ := by decide +kernel
theorem own_pd19 : parseMethodDescriptor "(ILjava/math/MutableBigInteger;)I" = some ⟨[.int, (.object "java/math/MutableBigInteger")], some .int⟩ := by decide +kernel
theorem own_ef_RRRI_8 (m : MethodId) (x0 : Addr) (x1 : Addr) (x2 : Addr) (x3 : Int32) : entryFrame m #[(.ref x0), (.ref x1), (.ref x2), (.int x3)] 8 = mkF m 0 #[.val (.ref x0), .val (.ref x1), .val (.ref x2), .val (.int x3), .unset, .unset, .unset, .unset] [] := by first | (simp [entryFrame, mkF, argsToLocals, Value.category]; done) | rfl
def Q_dkA (Z : State) (s r v9 v2 : Int64) (q hi lo : Int32) (a1 a2 a3 t1 t2 t3 : Addr) (k1 k2 k3 : ClassId) (h0 : Heap) (n0 : Nat) (v : Option Value) (h : Heap) (L : List Loc) : Prop := ∃ x : Addr, v = some (.ref x) ∧ Fr n0 L ∧ Keep h0 h [a3, t3] ∧ h0.size ≤ x ∧ Exa Z h x "java/math/MutableBigInteger" ∧ Fld Z h x "java/math/MutableBigInteger" "intLen" "I" (.int (0 : Int32)) ∧ Exa Z h a3 "java/math/MutableBigInteger" ∧ Fld Z h a3 "java/math/MutableBigInteger" "offset" "I" (.int (0 : Int32)) ∧ Fld Z h a3 "java/math/MutableBigInteger" "value" "[I" (.ref t3) ∧ Fld Z h a3 "java/math/MutableBigInteger" "intLen" "I" (.int (1 : Int32)) ∧ Arv Z h t3 k3 .int (1 : Int32) [(.int q)] (.int 0)
theorem rm_dkA (l : Launch) (Z : State) (a0 : Array Value) (hw : own_H a0 Z) (ws : List Jvm.Cond) (s r v9 v2 : Int64) (q hi lo : Int32) (a1 a2 a3 t1 t2 t3 : Addr) (k1 k2 k3 : ClassId) (h0 : Heap) (n0 : Nat) (Z0 : n0 ≤ h0.size) (hA : own_VA s r v9 v2 q hi lo) (Ea1 : Exa Z h0 a1 "java/math/MutableBigInteger") (Oa1 : Fld Z h0 a1 "java/math/MutableBigInteger" "offset" "I" (.int (0 : Int32))) (Va1 : Fld Z h0 a1 "java/math/MutableBigInteger" "value" "[I" (.ref t1)) (Ia1 : Fld Z h0 a1 "java/math/MutableBigInteger" "intLen" "I" (.int (1 : Int32))) (Ea2 : Exa Z h0 a2 "java/math/MutableBigInteger") (Oa2 : Fld Z h0 a2 "java/math/MutableBigInteger" "offset" "I" (.int (0 : Int32))) (Va2 : Fld Z h0 a2 "java/math/MutableBigInteger" "value" "[I" (.ref t2)) (Ia2 : Fld Z h0 a2 "java/math/MutableBigInteger" "intLen" "I" (.int (1 : Int32))) (Ea3 : Exa Z h0 a3 "java/math/MutableBigInteger") (Oa3 : Fld Z h0 a3 "java/math/MutableBigInteger" "offset" "I" (.int (0 : Int32))) (Va3 : Fld Z h0 a3 "java/math/MutableBigInteger" "value" "[I" (.ref t3)) (Ia3 : Fld Z h0 a3 "java/math/MutableBigInteger" "intLen" "I" (.int (0 : Int32))) (A1 : Arv Z h0 t1 k1 .int (1 : Int32) [(.int lo)] (.int 0)) (A5 : Arv Z h0 t2 k2 .int (1 : Int32) [(.int 1000000000)] (.int 0)) (A3 : Arv Z h0 t3 k3 .int (1 : Int32) [(.int 0)] (.int 0)) (g3 : n0 ≤ a3) (gt : n0 ≤ t3) (ne1 : a1 ≠ a3) (ne2 : a2 ≠ a3) (nt1 : t1 ≠ t3) (nt2 : t2 ≠ t3) : own_MP l Mn10 jdk_2101_method_57_code 8 (some (.object "java/math/MutableBigInteger")) ws ({ frames := 2, cells := 2, slots := 4, locals := 26 } : Room) Z h0 #[(.ref a1), (.ref a2), (.ref a3), (.int (1 : Int32))] (fun _ _ _ _ _ => True) (Q_dkA Z s r v9 v2 q hi lo a1 a2 a3 t1 t2 t3 k1 k2 k3 h0 n0) := by
  refine own_startP (plainFor_of_name own_pn_java_math_MutableBigInteger) fun p e s' m below meth c s₁ Bd hx hby hml hown0 X0 e0 hh0 hZ hK Pst hPst => ?_
  have dE := own_E hby own_D37
  have hown : s'.vm.findClass "java/math/MutableBigInteger" = some m.cls := hown0
  have hnm := (name_of_methodNamed Bd.named Bd.method).1
  have N0 := Fr.nil n0
  rw [own_ef_RRRI_8 m a1 a2 a3 (1 : Int32)]
  have nq_t1_a3 : t1 ≠ a3 := Ne.symm (Exa.neArv Ea3 A1 (g_ hw 176 rfl))
  have nq_t2_a3 : t2 ≠ a3 := Ne.symm (Exa.neArv Ea3 A5 (g_ hw 176 rfl))
  have nq_t3_a3 : t3 ≠ a3 := Ne.symm (Exa.neArv Ea3 A3 (g_ hw 176 rfl))
  have nr_a1 : a1 ≠ t3 := Exa.neArv Ea1 A3 (g_ hw 176 rfl)
  have nr_a2 : a2 ≠ t3 := Exa.neArv Ea2 A3 (g_ hw 176 rfl)
  refine o_aloadN X0.here hx (dE 0 rfl) rfl rfl ?_
  refine p_getF X0 hx hZ hown (host := "") (Or.inl (g_ hw 187 rfl)) Via.refl e0 Ia2 rfl (dE 1 rfl) fun T101 X101 e101 => ?_
  refine o_ifYes X101.here hx (pc0 := 4) (pc' := 17) rfl (dE 2 rfl) rfl ((if0 _ _).trans (feq (by decide)).2) (by decide) (by decide) ?_
  refine o_aloadN X101.here hx (dE 3 rfl) rfl rfl ?_
  refine p_getF X101 hx hZ hown (host := "") (Or.inl (g_ hw 187 rfl)) Via.refl e101 Ia1 rfl (dE 4 rfl) fun T102 X102 e102 => ?_
  refine o_ifYes X102.here hx (pc0 := 21) (pc' := 50) rfl (dE 5 rfl) rfl ((if0 _ _).trans (feq (by decide)).2) (by decide) (by decide) ?_
  refine o_aloadN X102.here hx (dE 6 rfl) rfl rfl ?_
  refine o_aloadN X102.here hx (dE 7 rfl) rfl rfl ?_
  obtain ⟨cq103, kq103, q103a, q103b, q103c⟩ := isOf hZ e102 Ea1
  refine own_cP X102 (X102.virtualBack hx (y := Mn8) (z := Mn8) hown (mvT hZ (g_ hw 202 rfl)) (mvT hZ (g_ hw 203 rfl)) (notFace_of_selects (args := #[]) (mvT hZ (g_ hw 205 rfl))) (mvT hZ (g_ hw 205 rfl)) (mvT hZ (g_ hw 204 rfl)) (by decide) (backOf (W := 0) (rm_cpA l Z a0 hw [] s r v9 v2 q hi lo a1 a2 t1 t2 k1 k2 h0 n0 Z0 hA Ea1 Oa1 Va1 Ia1 Ea2 Oa2 Va2 Ia2 A1 A5) hZ (g_ hw 206 rfl) (g_ hw 177 rfl) (by decide) (by decide)) q103a q103c (g := (mkF m 52 #[.val (.ref a1), .val (.ref a2), .val (.ref a3), .val (.int (1 : Int32)), .unset, .unset, .unset, .unset] [(.ref a2), (.ref a1)])) rfl (by rw [hml]; rfl) (Steps.refl _) (argsL := [(.ref a2)]) (rest := []) (lenOf own_pd18 rfl) rfl (by show 2 * 0 + _ ≤ _; exact Nat.le_of_eq rfl) (dE 8 rfl) (fun _ _ => ⟨rfl, e102, (by decide : 0 + 0 ≤ _), (by decide : 0 + 0 ≤ _)⟩)) fun v103 T103 L103 X103 hQ103 => ?_
  obtain ⟨rfl, Nq103, e103⟩ := hQ103
  have N103 := Fr.app N0 Nq103
  show own_Go p e below Pst (T103.setTop (mkF m 55 #[.val (.ref a1), .val (.ref a2), .val (.ref a3), .val (.int (1 : Int32)), .unset, .unset, .unset, .unset] [(.int (1 : Int32))]))
  refine o_istore X103.here hx (dE 9 rfl) rfl (l' := #[.val (.ref a1), .val (.ref a2), .val (.ref a3), .val (.int (1 : Int32)), .val (.int (1 : Int32)), .unset, .unset, .unset]) rfl ?_
  refine o_iload X103.here hx (dE 10 rfl) rfl ?_
  refine o_ifYes X103.here hx (pc0 := 59) (pc' := 89) rfl (dE 11 rfl) rfl ((if0 _ _).trans (flt (by decide)).2.1) (by decide) (by decide) ?_
  refine o_iload X103.here hx (dE 12 rfl) rfl ?_
  refine o_ifYes X103.here hx (pc0 := 91) (pc' := 127) rfl (dE 13 rfl) rfl ((if0 _ _).trans (feq (by decide)).2) (by decide) (by decide) ?_
  refine o_aloadN X103.here hx (dE 14 rfl) rfl rfl ?_
  obtain ⟨cq104, kq104, q104a, q104b, q104c⟩ := isOf hZ e103 Ea3
  refine own_cP X103 (X103.virtualBack hx (y := Mn22) (z := Mn22) hown (mvT hZ (g_ hw 208 rfl)) (mvT hZ (g_ hw 209 rfl)) (notFace_of_selects (args := #[]) (mvT hZ (g_ hw 211 rfl))) (mvT hZ (g_ hw 211 rfl)) (mvT hZ (g_ hw 210 rfl)) (by decide) (backOf (W := 0) (rm_cl l Z a0 hw [] a3 t3 k3 h0 n0 Z0 Ea3 Oa3 Va3 Ia3 A3 g3 gt) hZ (g_ hw 212 rfl) (g_ hw 177 rfl) (by decide) (by decide)) q104a q104c (g := (mkF m 128 #[.val (.ref a1), .val (.ref a2), .val (.ref a3), .val (.int (1 : Int32)), .val (.int (1 : Int32)), .unset, .unset, .unset] [(.ref a3)])) rfl (by rw [hml]; rfl) (Steps.refl _) (argsL := []) (rest := []) (lenOf own_pd1 rfl) rfl (by show 2 * 0 + _ ≤ _; exact Nat.le_of_eq rfl) (dE 15 rfl) (fun _ _ => ⟨rfl, e103, (by decide : 0 + 0 ≤ _), (by decide : 0 + 0 ≤ _)⟩)) fun v104 T104 L104 X104 hQ104 => ?_
  obtain ⟨rfl, Nq104, K104, E104, O104, V104, I104, A104⟩ := hQ104
  have N104 := Fr.app N103 Nq104
  show own_Go p e below Pst (T104.setTop (mkF m 131 #[.val (.ref a1), .val (.ref a2), .val (.ref a3), .val (.int (1 : Int32)), .val (.int (1 : Int32)), .unset, .unset, .unset] []))
  refine o_aloadN X104.here hx (dE 16 rfl) rfl rfl ?_
  have c105 := (Ia2.keep K104 (ninS ne2 (ninS nr_a2 nin0)))
  refine p_getF X104 hx hZ hown (host := "") (Or.inl (g_ hw 187 rfl)) Via.refl rfl c105 rfl (dE 17 rfl) fun T106 X106 e106 => ?_
  refine o_iconst X106.here hx (dE 18 rfl) (z := (1 : Int32)) rfl ?_
  refine o_icmpNo X106.here hx (dE 19 rfl) rfl (teq rfl).2 ?_
  refine o_aloadN X106.here hx (dE 20 rfl) rfl rfl ?_
  refine o_aloadN X106.here hx (dE 21 rfl) rfl rfl ?_
  have c107 := (Va2.keep K104 (ninS ne2 (ninS nr_a2 nin0)))
  refine p_getF X106 hx hZ hown (host := "") (Or.inl (g_ hw 185 rfl)) Via.refl e106 c107 rfl (dE 22 rfl) fun T108 X108 e108 => ?_
  refine o_aloadN X108.here hx (dE 23 rfl) rfl rfl ?_
  have c109 := (Oa2.keep K104 (ninS ne2 (ninS nr_a2 nin0)))
  refine p_getF X108 hx hZ hown (host := "") (Or.inl (g_ hw 183 rfl)) Via.refl e108 c109 rfl (dE 24 rfl) fun T110 X110 e110 => ?_
  have c111 := (A5.keep K104 (ninS nq_t2_a3 (ninS nt2 nin0)))
  obtain ⟨cl112, Ar112, q112, S112, P112, H112, G112⟩ := id c111
  have hin112 : ¬ ((0 : Int32) < 0 ∨ cl112.slots.size ≤ ((0 : Int32)).toNatClampNeg) := inb_of S112 ⟨by decide, by decide⟩
  have hat112 : cl112.slots[((0 : Int32)).toNatClampNeg]? = some (.int (1000000000 : Int32)) := Has.at H112 hin112 rfl
  refine own_Go.of (S' := T110.setTop (mkF m 149 #[.val (.ref a1), .val (.ref a2), .val (.ref a3), .val (.int (1 : Int32)), .val (.int (1 : Int32)), .unset, .unset, .unset] [(.int (1000000000 : Int32)), (.ref a1)])) (fun tgt kst => X110.iaload hx (j := (0 : Int32)) (v := (.int (1000000000 : Int32))) (by rw [e110]; exact Ar112.1) (State.isArrayOf_alike hZ.alike Ar112.2.1) Ar112.2.2 hin112 hat112 (g := (mkF m 148 #[.val (.ref a1), .val (.ref a2), .val (.ref a3), .val (.int (1 : Int32)), .val (.int (1 : Int32)), .unset, .unset, .unset] [(.int (0 : Int32)), (.ref t2), (.ref a1)])) rfl rfl (dE 25 rfl) _ kst) ?_
  refine o_aloadN X110.here hx (dE 26 rfl) rfl rfl ?_
  have c113 := (Ea1.keep K104)
  have c114 := (Oa1.keep K104 (ninS ne1 (ninS nr_a1 nin0)))
  have c115 := (Va1.keep K104 (ninS ne1 (ninS nr_a1 nin0)))
  have c116 := (Ia1.keep K104 (ninS ne1 (ninS nr_a1 nin0)))
  have c117 := (A1.keep K104 (ninS nq_t1_a3 (ninS nt1 nin0)))
  have c119 := (Nat.le_trans Z0 K104.1)
  obtain ⟨cq118, kq118, q118a, q118b, q118c⟩ := isOf hZ e110 c113
  refine own_cP X110 (X110.virtualBack hx (y := Mn9) (z := Mn9) hown (mvT hZ (g_ hw 213 rfl)) (mvT hZ (g_ hw 214 rfl)) (notFace_of_selects (args := #[]) (mvT hZ (g_ hw 216 rfl))) (mvT hZ (g_ hw 216 rfl)) (mvT hZ (g_ hw 215 rfl)) (by decide) (backOf (W := 0) (rm_dwA l Z a0 hw [] s r v9 v2 q hi lo a1 a3 t1 t3 k1 k3 T104.heap n0 c119 hA c113 c114 c115 c116 E104 O104 V104 I104 c117 A104 g3 gt ne1 nt1) hZ (g_ hw 217 rfl) (g_ hw 177 rfl) (by decide) (by decide)) q118a q118c (g := (mkF m 150 #[.val (.ref a1), .val (.ref a2), .val (.ref a3), .val (.int (1 : Int32)), .val (.int (1 : Int32)), .unset, .unset, .unset] [(.ref a3), (.int (1000000000 : Int32)), (.ref a1)])) rfl (by rw [hml]; rfl) (Steps.refl _) (argsL := [(.int (1000000000 : Int32)), (.ref a3)]) (rest := []) (lenOf own_pd19 rfl) rfl (by show 2 * 0 + _ ≤ _; exact Nat.le_of_eq rfl) (dE 27 rfl) (fun _ _ => ⟨rfl, e110, (by decide : 0 + 0 ≤ _), (by decide : 0 + 0 ≤ _)⟩)) fun v118 T118 L118 X118 hQ118 => ?_
  obtain ⟨rfl, Nq118, K118, E118, O118, V118, I118, A118⟩ := hQ118
  have N118 := Fr.app N104 Nq118
  show own_Go p e below Pst (T118.setTop (mkF m 153 #[.val (.ref a1), .val (.ref a2), .val (.ref a3), .val (.int (1 : Int32)), .val (.int (1 : Int32)), .unset, .unset, .unset] [(.int (0 : Int32))]))
  refine o_istore X118.here hx (dE 28 rfl) rfl (l' := #[.val (.ref a1), .val (.ref a2), .val (.ref a3), .val (.int (1 : Int32)), .val (.int (1 : Int32)), .val (.int (0 : Int32)), .unset, .unset]) rfl ?_
  refine o_iloadN X118.here hx (dE 29 rfl) rfl ?_
  refine o_ifNo X118.here hx (dE 30 rfl) rfl ((if0 _ _).trans (feq (by decide)).1) ?_
  refine o_iload X118.here hx (dE 31 rfl) rfl ?_
  refine o_ifNo X118.here hx (dE 32 rfl) rfl ((if0 _ _).trans (teq rfl).2) ?_
  have c121 := (Nat.le_trans c119 K118.1)
  have c122 := (Keep.trans (Keep.trans (Keep.refl h0 [a3, t3]) K104 (allS (Or.inl (List.mem_of_getElem? (i := 0) rfl)) (allS (Or.inl (List.mem_of_getElem? (i := 1) rfl)) all0))) K118 (allS (Or.inl (List.mem_of_getElem? (i := 0) rfl)) (allS (Or.inl (List.mem_of_getElem? (i := 1) rfl)) all0)))
  refine p_newO X118 hx hZ hown (g_ hw 219 rfl) (g_ hw 176 rfl) (g_ hw 177 rfl) rfl (dE 33 rfl) (by decide) (by decide) fun T120 h120 b120 g120 X120 e120 E120 A120 D120 U120 => ?_
  have c123 := (c113.keep K118)
  have ne_a1_b120 : a1 ≠ b120 := Nat.ne_of_lt (Nat.lt_of_lt_of_le c123.lt (Nat.le_of_eq g120.symm))
  have c124 := ((Ea2.keep K104).keep K118)
  have ne_a2_b120 : a2 ≠ b120 := Nat.ne_of_lt (Nat.lt_of_lt_of_le c124.lt (Nat.le_of_eq g120.symm))
  have ne_a3_b120 : a3 ≠ b120 := Nat.ne_of_lt (Nat.lt_of_lt_of_le E118.lt (Nat.le_of_eq g120.symm))
  have c125 := (c117.keep K118 (ninS nq_t1_a3 (ninS nt1 nin0)))
  have ne_t1_b120 : t1 ≠ b120 := Nat.ne_of_lt (Nat.lt_of_lt_of_le c125.lt (Nat.le_of_eq g120.symm))
  have c126 := (c111.keep K118 (ninS nq_t2_a3 (ninS nt2 nin0)))
  have ne_t2_b120 : t2 ≠ b120 := Nat.ne_of_lt (Nat.lt_of_lt_of_le c126.lt (Nat.le_of_eq g120.symm))
  have ne_t3_b120 : t3 ≠ b120 := Nat.ne_of_lt (Nat.lt_of_lt_of_le A118.lt (Nat.le_of_eq g120.symm))
  have gn_b120 : n0 ≤ b120 := Nat.le_trans c121 (Nat.le_of_eq g120.symm)
  have sz_b120 : h0.size ≤ b120 := Nat.le_trans c122.1 (Nat.le_of_eq g120.symm)
  have f120_offset : Fld Z h120 b120 "java/math/MutableBigInteger" "offset" "I" (.int (0 : Int32)) := D120 (Or.inl (g_ hw 184 rfl)) (ty := .int) (by decide)
  have f120_value : Fld Z h120 b120 "java/math/MutableBigInteger" "value" "[I" .null := D120 (Or.inl (g_ hw 186 rfl)) (ty := (.array .int)) (by decide)
  have f120_intLen : Fld Z h120 b120 "java/math/MutableBigInteger" "intLen" "I" (.int (0 : Int32)) := D120 (Or.inl (g_ hw 188 rfl)) (ty := .int) (by decide)
  refine o_dup X120.here hx (dE 34 rfl) rfl rfl ?_
  have c128 := (Nat.le_trans c121 E120.1)
  refine own_cP X120 (X120.specialBack hx (y := Mn20) rfl hown (mvT hZ (g_ hw 220 rfl)) (mvT hZ (g_ hw 179 rfl)) (mvT hZ (g_ hw 181 rfl)) (by decide) (backOf (W := 1) (rm_m0 l Z a0 hw [] b120 (.int 0) .null (.int 0) h120 n0 c128 A120 gn_b120 f120_offset f120_value f120_intLen) hZ (g_ hw 181 rfl) (g_ hw 177 rfl) (by decide) (by decide)) (g := (mkF m 168 #[.val (.ref a1), .val (.ref a2), .val (.ref a3), .val (.int (1 : Int32)), .val (.int (1 : Int32)), .val (.int (0 : Int32)), .unset, .unset] [(.ref b120), (.ref b120)])) rfl (by rw [hml]; rfl) (Steps.refl _) (a := b120) (argsL := []) (rest := [(.ref b120)]) (lenOf own_pd1 rfl) rfl (by show 2 * 0 + _ ≤ _; exact Nat.le_of_eq rfl) (dE 35 rfl) (fun _ _ => ⟨rfl, e120, (by decide : 1 + 1 ≤ _), (by decide : 3 + 1 ≤ _)⟩)) fun v127 T127 L127 X127 hQ127 => ?_
  obtain ⟨rfl, Nq127, K127, t127, k127, st_127, E127, O127, V127, I127, A127⟩ := hQ127
  have N127 := Fr.app N118 Nq127
  show own_Go p e below Pst (T127.setTop (mkF m 171 #[.val (.ref a1), .val (.ref a2), .val (.ref a3), .val (.int (1 : Int32)), .val (.int (1 : Int32)), .val (.int (0 : Int32)), .unset, .unset] [(.ref b120)]))
  have c129 := (Keep.trans (c122.ext E120) K127 (allS (Or.inr sz_b120) all0))
  have c130 := ((E118.ext E120).keep K127)
  have c131 := ((O118.ext E120).keep K127 (ninS ne_a3_b120 nin0))
  have c132 := ((V118.ext E120).keep K127 (ninS ne_a3_b120 nin0))
  have c133 := ((I118.ext E120).keep K127 (ninS ne_a3_b120 nin0))
  have c134 := ((A118.ext E120).keep K127 (ninS ne_t3_b120 nin0))
  rw [hPst]
  exact own_retP X127 (v := (some (.ref b120))) (Q := Q_dkA Z s r v9 v2 q hi lo a1 a2 a3 t1 t2 t3 k1 k2 k3 h0 n0) (fun h => by rw [Bd.returns] at h; cases h) Bd.notSynchronized (fun fs hr => retOut X127 hx Bd.returns rfl (Or.inr (Or.inr (Or.inr (Or.inr ⟨rfl, rfl, rfl⟩)))) (dE 36 rfl) hr) (by decide) (by decide) ⟨_, rfl, N127, c129, sz_b120, E127, I127, c130, c131, c132, c133, c134⟩
theorem own_pd20 : parseMethodDescriptor "(Ljava/math/MutableBigInteger;Ljava/math/MutableBigInteger;Z)Ljava/math/MutableBigInteger;" = some ⟨[(.object "java/math/MutableBigInteger"), (.object "java/math/MutableBigInteger"), .boolean], some (.object "java/math/MutableBigInteger")⟩ := by decide +kernel
theorem own_ef_RRR_3 (m : MethodId) (x0 : Addr) (x1 : Addr) (x2 : Addr) : entryFrame m #[(.ref x0), (.ref x1), (.ref x2)] 3 = mkF m 0 #[.val (.ref x0), .val (.ref x1), .val (.ref x2)] [] := by first | (simp [entryFrame, mkF, argsToLocals, Value.category]; done) | rfl
def Q_djA (Z : State) (s r v9 v2 : Int64) (q hi lo : Int32) (a1 a2 a3 t1 t2 t3 : Addr) (k1 k2 k3 : ClassId) (h0 : Heap) (n0 : Nat) (v : Option Value) (h : Heap) (L : List Loc) : Prop := ∃ x : Addr, v = some (.ref x) ∧ Fr n0 L ∧ Keep h0 h [a3, t3] ∧ h0.size ≤ x ∧ Exa Z h x "java/math/MutableBigInteger" ∧ Fld Z h x "java/math/MutableBigInteger" "intLen" "I" (.int (0 : Int32)) ∧ Exa Z h a3 "java/math/MutableBigInteger" ∧ Fld Z h a3 "java/math/MutableBigInteger" "offset" "I" (.int (0 : Int32)) ∧ Fld Z h a3 "java/math/MutableBigInteger" "value" "[I" (.ref t3) ∧ Fld Z h a3 "java/math/MutableBigInteger" "intLen" "I" (.int (1 : Int32)) ∧ Arv Z h t3 k3 .int (1 : Int32) [(.int q)] (.int 0)
theorem rm_djA (l : Launch) (Z : State) (a0 : Array Value) (hw : own_H a0 Z) (ws : List Jvm.Cond) (s r v9 v2 : Int64) (q hi lo : Int32) (a1 a2 a3 t1 t2 t3 : Addr) (k1 k2 k3 : ClassId) (h0 : Heap) (n0 : Nat) (Z0 : n0 ≤ h0.size) (hA : own_VA s r v9 v2 q hi lo) (Ea1 : Exa Z h0 a1 "java/math/MutableBigInteger") (Oa1 : Fld Z h0 a1 "java/math/MutableBigInteger" "offset" "I" (.int (0 : Int32))) (Va1 : Fld Z h0 a1 "java/math/MutableBigInteger" "value" "[I" (.ref t1)) (Ia1 : Fld Z h0 a1 "java/math/MutableBigInteger" "intLen" "I" (.int (1 : Int32))) (Ea2 : Exa Z h0 a2 "java/math/MutableBigInteger") (Oa2 : Fld Z h0 a2 "java/math/MutableBigInteger" "offset" "I" (.int (0 : Int32))) (Va2 : Fld Z h0 a2 "java/math/MutableBigInteger" "value" "[I" (.ref t2)) (Ia2 : Fld Z h0 a2 "java/math/MutableBigInteger" "intLen" "I" (.int (1 : Int32))) (Ea3 : Exa Z h0 a3 "java/math/MutableBigInteger") (Oa3 : Fld Z h0 a3 "java/math/MutableBigInteger" "offset" "I" (.int (0 : Int32))) (Va3 : Fld Z h0 a3 "java/math/MutableBigInteger" "value" "[I" (.ref t3)) (Ia3 : Fld Z h0 a3 "java/math/MutableBigInteger" "intLen" "I" (.int (0 : Int32))) (A1 : Arv Z h0 t1 k1 .int (1 : Int32) [(.int lo)] (.int 0)) (A5 : Arv Z h0 t2 k2 .int (1 : Int32) [(.int 1000000000)] (.int 0)) (A3 : Arv Z h0 t3 k3 .int (1 : Int32) [(.int 0)] (.int 0)) (g3 : n0 ≤ a3) (gt : n0 ≤ t3) (ne1 : a1 ≠ a3) (ne2 : a2 ≠ a3) (nt1 : t1 ≠ t3) (nt2 : t2 ≠ t3) : own_MP l Mn11 jdk_2101_method_56_code 3 (some (.object "java/math/MutableBigInteger")) ws ({ frames := 3, cells := 2, slots := 4, locals := 45 } : Room) Z h0 #[(.ref a1), (.ref a2), (.ref a3)] (fun _ _ _ _ _ => True) (Q_djA Z s r v9 v2 q hi lo a1 a2 a3 t1 t2 t3 k1 k2 k3 h0 n0) := by
  refine own_startP (plainFor_of_name own_pn_java_math_MutableBigInteger) fun p e s' m below meth c s₁ Bd hx hby hml hown0 X0 e0 hh0 hZ hK Pst hPst => ?_
  have dE := own_E hby own_D36
  have hown : s'.vm.findClass "java/math/MutableBigInteger" = some m.cls := hown0
  have hnm := (name_of_methodNamed Bd.named Bd.method).1
  have N0 := Fr.nil n0
  rw [own_ef_RRR_3 m a1 a2 a3]
  refine o_aloadN X0.here hx (dE 0 rfl) rfl rfl ?_
  refine o_aloadN X0.here hx (dE 1 rfl) rfl rfl ?_
  refine o_aloadN X0.here hx (dE 2 rfl) rfl rfl ?_
  refine o_iconst X0.here hx (dE 3 rfl) (z := (1 : Int32)) rfl ?_
  obtain ⟨cq101, kq101, q101a, q101b, q101c⟩ := isOf hZ e0 Ea1
  refine own_cP X0 (X0.virtualBack hx (y := Mn10) (z := Mn10) hown (mvT hZ (g_ hw 197 rfl)) (mvT hZ (g_ hw 198 rfl)) (notFace_of_selects (args := #[]) (mvT hZ (g_ hw 200 rfl))) (mvT hZ (g_ hw 200 rfl)) (mvT hZ (g_ hw 199 rfl)) (by decide) (backOf (W := 0) (rm_dkA l Z a0 hw [] s r v9 v2 q hi lo a1 a2 a3 t1 t2 t3 k1 k2 k3 h0 n0 Z0 hA Ea1 Oa1 Va1 Ia1 Ea2 Oa2 Va2 Ia2 Ea3 Oa3 Va3 Ia3 A1 A5 A3 g3 gt ne1 ne2 nt1 nt2) hZ (g_ hw 201 rfl) (g_ hw 177 rfl) (by decide) (by decide)) q101a q101c (g := (mkF m 4 #[.val (.ref a1), .val (.ref a2), .val (.ref a3)] [(.int (1 : Int32)), (.ref a3), (.ref a2), (.ref a1)])) rfl (by rw [hml]; rfl) (Steps.refl _) (argsL := [(.ref a2), (.ref a3), (.int (1 : Int32))]) (rest := []) (lenOf own_pd20 rfl) rfl (by show 2 * 0 + _ ≤ _; exact Nat.le_of_eq rfl) (dE 4 rfl) (fun _ _ => ⟨rfl, e0, (by decide : 0 + 2 ≤ _), (by decide : 0 + 4 ≤ _)⟩)) fun v101 T101 L101 X101 hQ101 => ?_
  obtain ⟨x101, rfl, Nq101, K101, sx101, B101, J101, E101, O101, V101, I101, A101⟩ := hQ101
  have N101 := Fr.app N0 Nq101
  have gn_x101 : n0 ≤ x101 := Nat.le_trans Z0 sx101
  have sz_x101 : h0.size ≤ x101 := Nat.le_trans (Keep.refl h0 [a3, t3]).1 sx101
  show own_Go p e below Pst (T101.setTop (mkF m 7 #[.val (.ref a1), .val (.ref a2), .val (.ref a3)] [(.ref x101)]))
  have c102 := (Keep.trans (Keep.refl h0 [a3, t3]) K101 (allS (Or.inl (List.mem_of_getElem? (i := 0) rfl)) (allS (Or.inl (List.mem_of_getElem? (i := 1) rfl)) all0)))
  rw [hPst]
  exact own_retP X101 (v := (some (.ref x101))) (Q := Q_djA Z s r v9 v2 q hi lo a1 a2 a3 t1 t2 t3 k1 k2 k3 h0 n0) (fun h => by rw [Bd.returns] at h; cases h) Bd.notSynchronized (fun fs hr => retOut X101 hx Bd.returns rfl (Or.inr (Or.inr (Or.inr (Or.inr ⟨rfl, rfl, rfl⟩)))) (dE 5 rfl) hr) (by decide) (by decide) ⟨_, rfl, N101, c102, sx101, B101, J101, E101, O101, V101, I101, A101⟩
def Q_dkB (Z : State) (s r v9 v2 : Int64) (q hi lo : Int32) (a1 a2 a3 t1 t2 t3 : Addr) (k1 k2 k3 : ClassId) (h0 : Heap) (n0 : Nat) (v : Option Value) (h : Heap) (L : List Loc) : Prop := ∃ x : Addr, v = some (.ref x) ∧ Fr n0 L ∧ Keep h0 h [a3, t3] ∧ h0.size ≤ x ∧ Exa Z h x "java/math/MutableBigInteger" ∧ Fld Z h x "java/math/MutableBigInteger" "intLen" "I" (.int (0 : Int32)) ∧ ∃ (t : Addr) (k : ClassId), h0.size ≤ t ∧ Exa Z h a3 "java/math/MutableBigInteger" ∧ Fld Z h a3 "java/math/MutableBigInteger" "offset" "I" (.int (1 : Int32)) ∧ Fld Z h a3 "java/math/MutableBigInteger" "value" "[I" (.ref t) ∧ Fld Z h a3 "java/math/MutableBigInteger" "intLen" "I" (.int (1 : Int32)) ∧ Arv Z h t k .int (2 : Int32) [(.int 0), (.int q)] (.int 0)
theorem rm_dkB (l : Launch) (Z : State) (a0 : Array Value) (hw : own_H a0 Z) (ws : List Jvm.Cond) (s r v9 v2 : Int64) (q hi lo : Int32) (a1 a2 a3 t1 t2 t3 : Addr) (k1 k2 k3 : ClassId) (h0 : Heap) (n0 : Nat) (Z0 : n0 ≤ h0.size) (hB : own_VB s r v9 v2 q hi lo) (Ea1 : Exa Z h0 a1 "java/math/MutableBigInteger") (Oa1 : Fld Z h0 a1 "java/math/MutableBigInteger" "offset" "I" (.int (0 : Int32))) (Va1 : Fld Z h0 a1 "java/math/MutableBigInteger" "value" "[I" (.ref t1)) (Ia1 : Fld Z h0 a1 "java/math/MutableBigInteger" "intLen" "I" (.int (2 : Int32))) (Ea2 : Exa Z h0 a2 "java/math/MutableBigInteger") (Oa2 : Fld Z h0 a2 "java/math/MutableBigInteger" "offset" "I" (.int (0 : Int32))) (Va2 : Fld Z h0 a2 "java/math/MutableBigInteger" "value" "[I" (.ref t2)) (Ia2 : Fld Z h0 a2 "java/math/MutableBigInteger" "intLen" "I" (.int (1 : Int32))) (Ea3 : Exa Z h0 a3 "java/math/MutableBigInteger") (Oa3 : Fld Z h0 a3 "java/math/MutableBigInteger" "offset" "I" (.int (0 : Int32))) (Va3 : Fld Z h0 a3 "java/math/MutableBigInteger" "value" "[I" (.ref t3)) (Ia3 : Fld Z h0 a3 "java/math/MutableBigInteger" "intLen" "I" (.int (0 : Int32))) (A1 : Arv Z h0 t1 k1 .int (2 : Int32) [(.int hi), (.int lo)] (.int 0)) (A5 : Arv Z h0 t2 k2 .int (1 : Int32) [(.int 1000000000)] (.int 0)) (A3 : Arv Z h0 t3 k3 .int (1 : Int32) [(.int 0)] (.int 0)) (g3 : n0 ≤ a3) (gt : n0 ≤ t3) (ne1 : a1 ≠ a3) (ne2 : a2 ≠ a3) (nt1 : t1 ≠ t3) (nt2 : t2 ≠ t3) : own_MP l Mn10 jdk_2101_method_57_code 8 (some (.object "java/math/MutableBigInteger")) ws ({ frames := 2, cells := 3, slots := 6, locals := 41 } : Room) Z h0 #[(.ref a1), (.ref a2), (.ref a3), (.int (1 : Int32))] (fun _ _ _ _ _ => True) (Q_dkB Z s r v9 v2 q hi lo a1 a2 a3 t1 t2 t3 k1 k2 k3 h0 n0) := by
  refine own_startP (plainFor_of_name own_pn_java_math_MutableBigInteger) fun p e s' m below meth c s₁ Bd hx hby hml hown0 X0 e0 hh0 hZ hK Pst hPst => ?_
  have dE := own_E hby own_D37
  have hown : s'.vm.findClass "java/math/MutableBigInteger" = some m.cls := hown0
  have hnm := (name_of_methodNamed Bd.named Bd.method).1
  have N0 := Fr.nil n0
  rw [own_ef_RRRI_8 m a1 a2 a3 (1 : Int32)]
  have nq_t1_a3 : t1 ≠ a3 := Ne.symm (Exa.neArv Ea3 A1 (g_ hw 176 rfl))
  have nq_t2_a3 : t2 ≠ a3 := Ne.symm (Exa.neArv Ea3 A5 (g_ hw 176 rfl))
  have nq_t3_a3 : t3 ≠ a3 := Ne.symm (Exa.neArv Ea3 A3 (g_ hw 176 rfl))
  have nr_a1 : a1 ≠ t3 := Exa.neArv Ea1 A3 (g_ hw 176 rfl)
  have nr_a2 : a2 ≠ t3 := Exa.neArv Ea2 A3 (g_ hw 176 rfl)
  refine o_aloadN X0.here hx (dE 0 rfl) rfl rfl ?_
  refine p_getF X0 hx hZ hown (host := "") (Or.inl (g_ hw 187 rfl)) Via.refl e0 Ia2 rfl (dE 1 rfl) fun T101 X101 e101 => ?_
  refine o_ifYes X101.here hx (pc0 := 4) (pc' := 17) rfl (dE 2 rfl) rfl ((if0 _ _).trans (feq (by decide)).2) (by decide) (by decide) ?_
  refine o_aloadN X101.here hx (dE 3 rfl) rfl rfl ?_
  refine p_getF X101 hx hZ hown (host := "") (Or.inl (g_ hw 187 rfl)) Via.refl e101 Ia1 rfl (dE 4 rfl) fun T102 X102 e102 => ?_
  refine o_ifYes X102.here hx (pc0 := 21) (pc' := 50) rfl (dE 5 rfl) rfl ((if0 _ _).trans (feq (by decide)).2) (by decide) (by decide) ?_
  refine o_aloadN X102.here hx (dE 6 rfl) rfl rfl ?_
  refine o_aloadN X102.here hx (dE 7 rfl) rfl rfl ?_
  obtain ⟨cq103, kq103, q103a, q103b, q103c⟩ := isOf hZ e102 Ea1
  refine own_cP X102 (X102.virtualBack hx (y := Mn8) (z := Mn8) hown (mvT hZ (g_ hw 202 rfl)) (mvT hZ (g_ hw 203 rfl)) (notFace_of_selects (args := #[]) (mvT hZ (g_ hw 205 rfl))) (mvT hZ (g_ hw 205 rfl)) (mvT hZ (g_ hw 204 rfl)) (by decide) (backOf (W := 0) (rm_cpB l Z a0 hw [] s r v9 v2 q hi lo a1 a2 t1 t2 k1 k2 h0 n0 Z0 hB Ea1 Oa1 Va1 Ia1 Ea2 Oa2 Va2 Ia2 A1 A5) hZ (g_ hw 206 rfl) (g_ hw 177 rfl) (by decide) (by decide)) q103a q103c (g := (mkF m 52 #[.val (.ref a1), .val (.ref a2), .val (.ref a3), .val (.int (1 : Int32)), .unset, .unset, .unset, .unset] [(.ref a2), (.ref a1)])) rfl (by rw [hml]; rfl) (Steps.refl _) (argsL := [(.ref a2)]) (rest := []) (lenOf own_pd18 rfl) rfl (by show 2 * 0 + _ ≤ _; exact Nat.le_of_eq rfl) (dE 8 rfl) (fun _ _ => ⟨rfl, e102, (by decide : 0 + 0 ≤ _), (by decide : 0 + 0 ≤ _)⟩)) fun v103 T103 L103 X103 hQ103 => ?_
  obtain ⟨rfl, Nq103, e103⟩ := hQ103
  have N103 := Fr.app N0 Nq103
  show own_Go p e below Pst (T103.setTop (mkF m 55 #[.val (.ref a1), .val (.ref a2), .val (.ref a3), .val (.int (1 : Int32)), .unset, .unset, .unset, .unset] [(.int (1 : Int32))]))
  refine o_istore X103.here hx (dE 9 rfl) rfl (l' := #[.val (.ref a1), .val (.ref a2), .val (.ref a3), .val (.int (1 : Int32)), .val (.int (1 : Int32)), .unset, .unset, .unset]) rfl ?_
  refine o_iload X103.here hx (dE 10 rfl) rfl ?_
  refine o_ifYes X103.here hx (pc0 := 59) (pc' := 89) rfl (dE 11 rfl) rfl ((if0 _ _).trans (flt (by decide)).2.1) (by decide) (by decide) ?_
  refine o_iload X103.here hx (dE 12 rfl) rfl ?_
  refine o_ifYes X103.here hx (pc0 := 91) (pc' := 127) rfl (dE 13 rfl) rfl ((if0 _ _).trans (feq (by decide)).2) (by decide) (by decide) ?_
  refine o_aloadN X103.here hx (dE 14 rfl) rfl rfl ?_
  obtain ⟨cq104, kq104, q104a, q104b, q104c⟩ := isOf hZ e103 Ea3
  refine own_cP X103 (X103.virtualBack hx (y := Mn22) (z := Mn22) hown (mvT hZ (g_ hw 208 rfl)) (mvT hZ (g_ hw 209 rfl)) (notFace_of_selects (args := #[]) (mvT hZ (g_ hw 211 rfl))) (mvT hZ (g_ hw 211 rfl)) (mvT hZ (g_ hw 210 rfl)) (by decide) (backOf (W := 0) (rm_cl l Z a0 hw [] a3 t3 k3 h0 n0 Z0 Ea3 Oa3 Va3 Ia3 A3 g3 gt) hZ (g_ hw 212 rfl) (g_ hw 177 rfl) (by decide) (by decide)) q104a q104c (g := (mkF m 128 #[.val (.ref a1), .val (.ref a2), .val (.ref a3), .val (.int (1 : Int32)), .val (.int (1 : Int32)), .unset, .unset, .unset] [(.ref a3)])) rfl (by rw [hml]; rfl) (Steps.refl _) (argsL := []) (rest := []) (lenOf own_pd1 rfl) rfl (by show 2 * 0 + _ ≤ _; exact Nat.le_of_eq rfl) (dE 15 rfl) (fun _ _ => ⟨rfl, e103, (by decide : 0 + 0 ≤ _), (by decide : 0 + 0 ≤ _)⟩)) fun v104 T104 L104 X104 hQ104 => ?_
  obtain ⟨rfl, Nq104, K104, E104, O104, V104, I104, A104⟩ := hQ104
  have N104 := Fr.app N103 Nq104
  show own_Go p e below Pst (T104.setTop (mkF m 131 #[.val (.ref a1), .val (.ref a2), .val (.ref a3), .val (.int (1 : Int32)), .val (.int (1 : Int32)), .unset, .unset, .unset] []))
  refine o_aloadN X104.here hx (dE 16 rfl) rfl rfl ?_
  have c105 := (Ia2.keep K104 (ninS ne2 (ninS nr_a2 nin0)))
  refine p_getF X104 hx hZ hown (host := "") (Or.inl (g_ hw 187 rfl)) Via.refl rfl c105 rfl (dE 17 rfl) fun T106 X106 e106 => ?_
  refine o_iconst X106.here hx (dE 18 rfl) (z := (1 : Int32)) rfl ?_
  refine o_icmpNo X106.here hx (dE 19 rfl) rfl (teq rfl).2 ?_
  refine o_aloadN X106.here hx (dE 20 rfl) rfl rfl ?_
  refine o_aloadN X106.here hx (dE 21 rfl) rfl rfl ?_
  have c107 := (Va2.keep K104 (ninS ne2 (ninS nr_a2 nin0)))
  refine p_getF X106 hx hZ hown (host := "") (Or.inl (g_ hw 185 rfl)) Via.refl e106 c107 rfl (dE 22 rfl) fun T108 X108 e108 => ?_
  refine o_aloadN X108.here hx (dE 23 rfl) rfl rfl ?_
  have c109 := (Oa2.keep K104 (ninS ne2 (ninS nr_a2 nin0)))
  refine p_getF X108 hx hZ hown (host := "") (Or.inl (g_ hw 183 rfl)) Via.refl e108 c109 rfl (dE 24 rfl) fun T110 X110 e110 => ?_
  have c111 := (A5.keep K104 (ninS nq_t2_a3 (ninS nt2 nin0)))
  obtain ⟨cl112, Ar112, q112, S112, P112, H112, G112⟩ := id c111
  have hin112 : ¬ ((0 : Int32) < 0 ∨ cl112.slots.size ≤ ((0 : Int32)).toNatClampNeg) := inb_of S112 ⟨by decide, by decide⟩
  have hat112 : cl112.slots[((0 : Int32)).toNatClampNeg]? = some (.int (1000000000 : Int32)) := Has.at H112 hin112 rfl
  refine own_Go.of (S' := T110.setTop (mkF m 149 #[.val (.ref a1), .val (.ref a2), .val (.ref a3), .val (.int (1 : Int32)), .val (.int (1 : Int32)), .unset, .unset, .unset] [(.int (1000000000 : Int32)), (.ref a1)])) (fun tgt kst => X110.iaload hx (j := (0 : Int32)) (v := (.int (1000000000 : Int32))) (by rw [e110]; exact Ar112.1) (State.isArrayOf_alike hZ.alike Ar112.2.1) Ar112.2.2 hin112 hat112 (g := (mkF m 148 #[.val (.ref a1), .val (.ref a2), .val (.ref a3), .val (.int (1 : Int32)), .val (.int (1 : Int32)), .unset, .unset, .unset] [(.int (0 : Int32)), (.ref t2), (.ref a1)])) rfl rfl (dE 25 rfl) _ kst) ?_
  refine o_aloadN X110.here hx (dE 26 rfl) rfl rfl ?_
  have c113 := (Ea1.keep K104)
  have c114 := (Oa1.keep K104 (ninS ne1 (ninS nr_a1 nin0)))
  have c115 := (Va1.keep K104 (ninS ne1 (ninS nr_a1 nin0)))
  have c116 := (Ia1.keep K104 (ninS ne1 (ninS nr_a1 nin0)))
  have c117 := (A1.keep K104 (ninS nq_t1_a3 (ninS nt1 nin0)))
  have c119 := (Nat.le_trans Z0 K104.1)
  obtain ⟨cq118, kq118, q118a, q118b, q118c⟩ := isOf hZ e110 c113
  refine own_cP X110 (X110.virtualBack hx (y := Mn9) (z := Mn9) hown (mvT hZ (g_ hw 213 rfl)) (mvT hZ (g_ hw 214 rfl)) (notFace_of_selects (args := #[]) (mvT hZ (g_ hw 216 rfl))) (mvT hZ (g_ hw 216 rfl)) (mvT hZ (g_ hw 215 rfl)) (by decide) (backOf (W := 0) (rm_dwB l Z a0 hw [] s r v9 v2 q hi lo a1 a3 t1 t3 k1 k3 T104.heap n0 c119 hB c113 c114 c115 c116 E104 O104 V104 I104 c117 A104 g3 gt ne1 nt1) hZ (g_ hw 217 rfl) (g_ hw 177 rfl) (by decide) (by decide)) q118a q118c (g := (mkF m 150 #[.val (.ref a1), .val (.ref a2), .val (.ref a3), .val (.int (1 : Int32)), .val (.int (1 : Int32)), .unset, .unset, .unset] [(.ref a3), (.int (1000000000 : Int32)), (.ref a1)])) rfl (by rw [hml]; rfl) (Steps.refl _) (argsL := [(.int (1000000000 : Int32)), (.ref a3)]) (rest := []) (lenOf own_pd19 rfl) rfl (by show 2 * 0 + _ ≤ _; exact Nat.le_of_eq rfl) (dE 27 rfl) (fun _ _ => ⟨rfl, e110, (by decide : 0 + 1 ≤ _), (by decide : 0 + 2 ≤ _)⟩)) fun v118 T118 L118 X118 hQ118 => ?_
  obtain ⟨rfl, Nq118, K118, t118, k118, st_118, E118, O118, V118, I118, A118⟩ := hQ118
  have N118 := Fr.app N104 Nq118
  have ne_a1_t118 : a1 ≠ t118 := Nat.ne_of_lt (Nat.lt_of_lt_of_le c113.lt st_118)
  have c120 := (Ea2.keep K104)
  have ne_a2_t118 : a2 ≠ t118 := Nat.ne_of_lt (Nat.lt_of_lt_of_le c120.lt st_118)
  have ne_a3_t118 : a3 ≠ t118 := Nat.ne_of_lt (Nat.lt_of_lt_of_le E104.lt st_118)
  have ne_t1_t118 : t1 ≠ t118 := Nat.ne_of_lt (Nat.lt_of_lt_of_le c117.lt st_118)
  have ne_t2_t118 : t2 ≠ t118 := Nat.ne_of_lt (Nat.lt_of_lt_of_le c111.lt st_118)
  have ne_t3_t118 : t3 ≠ t118 := Nat.ne_of_lt (Nat.lt_of_lt_of_le A104.lt st_118)
  have gn_t118 : n0 ≤ t118 := Nat.le_trans c119 st_118
  have c121 := (Keep.trans (Keep.refl h0 [a3, t3]) K104 (allS (Or.inl (List.mem_of_getElem? (i := 0) rfl)) (allS (Or.inl (List.mem_of_getElem? (i := 1) rfl)) all0)))
  have sz_t118 : h0.size ≤ t118 := Nat.le_trans c121.1 st_118
  show own_Go p e below Pst (T118.setTop (mkF m 153 #[.val (.ref a1), .val (.ref a2), .val (.ref a3), .val (.int (1 : Int32)), .val (.int (1 : Int32)), .unset, .unset, .unset] [(.int (0 : Int32))]))
  refine o_istore X118.here hx (dE 28 rfl) rfl (l' := #[.val (.ref a1), .val (.ref a2), .val (.ref a3), .val (.int (1 : Int32)), .val (.int (1 : Int32)), .val (.int (0 : Int32)), .unset, .unset]) rfl ?_
  refine o_iloadN X118.here hx (dE 29 rfl) rfl ?_
  refine o_ifNo X118.here hx (dE 30 rfl) rfl ((if0 _ _).trans (feq (by decide)).1) ?_
  refine o_iload X118.here hx (dE 31 rfl) rfl ?_
  refine o_ifNo X118.here hx (dE 32 rfl) rfl ((if0 _ _).trans (teq rfl).2) ?_
  have c123 := (Nat.le_trans c119 K118.1)
  have c124 := (Keep.trans c121 K118 (allS (Or.inl (List.mem_of_getElem? (i := 0) rfl)) all0))
  refine p_newO X118 hx hZ hown (g_ hw 219 rfl) (g_ hw 176 rfl) (g_ hw 177 rfl) rfl (dE 33 rfl) (by decide) (by decide) fun T122 h122 b122 g122 X122 e122 E122 A122 D122 U122 => ?_
  have c125 := (c113.keep K118)
  have ne_a1_b122 : a1 ≠ b122 := Nat.ne_of_lt (Nat.lt_of_lt_of_le c125.lt (Nat.le_of_eq g122.symm))
  have c126 := (c120.keep K118)
  have ne_a2_b122 : a2 ≠ b122 := Nat.ne_of_lt (Nat.lt_of_lt_of_le c126.lt (Nat.le_of_eq g122.symm))
  have ne_a3_b122 : a3 ≠ b122 := Nat.ne_of_lt (Nat.lt_of_lt_of_le E118.lt (Nat.le_of_eq g122.symm))
  have c127 := (c117.keep K118 (ninS nq_t1_a3 nin0))
  have ne_t1_b122 : t1 ≠ b122 := Nat.ne_of_lt (Nat.lt_of_lt_of_le c127.lt (Nat.le_of_eq g122.symm))
  have c128 := (c111.keep K118 (ninS nq_t2_a3 nin0))
  have ne_t2_b122 : t2 ≠ b122 := Nat.ne_of_lt (Nat.lt_of_lt_of_le c128.lt (Nat.le_of_eq g122.symm))
  have c129 := (A104.keep K118 (ninS nq_t3_a3 nin0))
  have ne_t3_b122 : t3 ≠ b122 := Nat.ne_of_lt (Nat.lt_of_lt_of_le c129.lt (Nat.le_of_eq g122.symm))
  have ne_t118_b122 : t118 ≠ b122 := Nat.ne_of_lt (Nat.lt_of_lt_of_le A118.lt (Nat.le_of_eq g122.symm))
  have gn_b122 : n0 ≤ b122 := Nat.le_trans c123 (Nat.le_of_eq g122.symm)
  have sz_b122 : h0.size ≤ b122 := Nat.le_trans c124.1 (Nat.le_of_eq g122.symm)
  have f122_offset : Fld Z h122 b122 "java/math/MutableBigInteger" "offset" "I" (.int (0 : Int32)) := D122 (Or.inl (g_ hw 184 rfl)) (ty := .int) (by decide)
  have f122_value : Fld Z h122 b122 "java/math/MutableBigInteger" "value" "[I" .null := D122 (Or.inl (g_ hw 186 rfl)) (ty := (.array .int)) (by decide)
  have f122_intLen : Fld Z h122 b122 "java/math/MutableBigInteger" "intLen" "I" (.int (0 : Int32)) := D122 (Or.inl (g_ hw 188 rfl)) (ty := .int) (by decide)
  refine o_dup X122.here hx (dE 34 rfl) rfl rfl ?_
  have c131 := (Nat.le_trans c123 E122.1)
  refine own_cP X122 (X122.specialBack hx (y := Mn20) rfl hown (mvT hZ (g_ hw 220 rfl)) (mvT hZ (g_ hw 179 rfl)) (mvT hZ (g_ hw 181 rfl)) (by decide) (backOf (W := 1) (rm_m0 l Z a0 hw [] b122 (.int 0) .null (.int 0) h122 n0 c131 A122 gn_b122 f122_offset f122_value f122_intLen) hZ (g_ hw 181 rfl) (g_ hw 177 rfl) (by decide) (by decide)) (g := (mkF m 168 #[.val (.ref a1), .val (.ref a2), .val (.ref a3), .val (.int (1 : Int32)), .val (.int (1 : Int32)), .val (.int (0 : Int32)), .unset, .unset] [(.ref b122), (.ref b122)])) rfl (by rw [hml]; rfl) (Steps.refl _) (a := b122) (argsL := []) (rest := [(.ref b122)]) (lenOf own_pd1 rfl) rfl (by show 2 * 0 + _ ≤ _; exact Nat.le_of_eq rfl) (dE 35 rfl) (fun _ _ => ⟨rfl, e122, (by decide : 2 + 1 ≤ _), (by decide : 5 + 1 ≤ _)⟩)) fun v130 T130 L130 X130 hQ130 => ?_
  obtain ⟨rfl, Nq130, K130, t130, k130, st_130, E130, O130, V130, I130, A130⟩ := hQ130
  have N130 := Fr.app N118 Nq130
  show own_Go p e below Pst (T130.setTop (mkF m 171 #[.val (.ref a1), .val (.ref a2), .val (.ref a3), .val (.int (1 : Int32)), .val (.int (1 : Int32)), .val (.int (0 : Int32)), .unset, .unset] [(.ref b122)]))
  have c132 := (Keep.trans (c124.ext E122) K130 (allS (Or.inr sz_b122) all0))
  have c133 := ((E118.ext E122).keep K130)
  have c134 := ((O118.ext E122).keep K130 (ninS ne_a3_b122 nin0))
  have c135 := ((V118.ext E122).keep K130 (ninS ne_a3_b122 nin0))
  have c136 := ((I118.ext E122).keep K130 (ninS ne_a3_b122 nin0))
  have c137 := ((A118.ext E122).keep K130 (ninS ne_t118_b122 nin0))
  rw [hPst]
  exact own_retP X130 (v := (some (.ref b122))) (Q := Q_dkB Z s r v9 v2 q hi lo a1 a2 a3 t1 t2 t3 k1 k2 k3 h0 n0) (fun h => by rw [Bd.returns] at h; cases h) Bd.notSynchronized (fun fs hr => retOut X130 hx Bd.returns rfl (Or.inr (Or.inr (Or.inr (Or.inr ⟨rfl, rfl, rfl⟩)))) (dE 36 rfl) hr) (by decide) (by decide) ⟨_, rfl, N130, c132, sz_b122, E130, I130, _, _, sz_t118, c133, c134, c135, c136, c137⟩
def Q_djB (Z : State) (s r v9 v2 : Int64) (q hi lo : Int32) (a1 a2 a3 t1 t2 t3 : Addr) (k1 k2 k3 : ClassId) (h0 : Heap) (n0 : Nat) (v : Option Value) (h : Heap) (L : List Loc) : Prop := ∃ x : Addr, v = some (.ref x) ∧ Fr n0 L ∧ Keep h0 h [a3, t3] ∧ h0.size ≤ x ∧ Exa Z h x "java/math/MutableBigInteger" ∧ Fld Z h x "java/math/MutableBigInteger" "intLen" "I" (.int (0 : Int32)) ∧ ∃ (t : Addr) (k : ClassId), h0.size ≤ t ∧ Exa Z h a3 "java/math/MutableBigInteger" ∧ Fld Z h a3 "java/math/MutableBigInteger" "offset" "I" (.int (1 : Int32)) ∧ Fld Z h a3 "java/math/MutableBigInteger" "value" "[I" (.ref t) ∧ Fld Z h a3 "java/math/MutableBigInteger" "intLen" "I" (.int (1 : Int32)) ∧ Arv Z h t k .int (2 : Int32) [(.int 0), (.int q)] (.int 0)
theorem rm_djB (l : Launch) (Z : State) (a0 : Array Value) (hw : own_H a0 Z) (ws : List Jvm.Cond) (s r v9 v2 : Int64) (q hi lo : Int32) (a1 a2 a3 t1 t2 t3 : Addr) (k1 k2 k3 : ClassId) (h0 : Heap) (n0 : Nat) (Z0 : n0 ≤ h0.size) (hB : own_VB s r v9 v2 q hi lo) (Ea1 : Exa Z h0 a1 "java/math/MutableBigInteger") (Oa1 : Fld Z h0 a1 "java/math/MutableBigInteger" "offset" "I" (.int (0 : Int32))) (Va1 : Fld Z h0 a1 "java/math/MutableBigInteger" "value" "[I" (.ref t1)) (Ia1 : Fld Z h0 a1 "java/math/MutableBigInteger" "intLen" "I" (.int (2 : Int32))) (Ea2 : Exa Z h0 a2 "java/math/MutableBigInteger") (Oa2 : Fld Z h0 a2 "java/math/MutableBigInteger" "offset" "I" (.int (0 : Int32))) (Va2 : Fld Z h0 a2 "java/math/MutableBigInteger" "value" "[I" (.ref t2)) (Ia2 : Fld Z h0 a2 "java/math/MutableBigInteger" "intLen" "I" (.int (1 : Int32))) (Ea3 : Exa Z h0 a3 "java/math/MutableBigInteger") (Oa3 : Fld Z h0 a3 "java/math/MutableBigInteger" "offset" "I" (.int (0 : Int32))) (Va3 : Fld Z h0 a3 "java/math/MutableBigInteger" "value" "[I" (.ref t3)) (Ia3 : Fld Z h0 a3 "java/math/MutableBigInteger" "intLen" "I" (.int (0 : Int32))) (A1 : Arv Z h0 t1 k1 .int (2 : Int32) [(.int hi), (.int lo)] (.int 0)) (A5 : Arv Z h0 t2 k2 .int (1 : Int32) [(.int 1000000000)] (.int 0)) (A3 : Arv Z h0 t3 k3 .int (1 : Int32) [(.int 0)] (.int 0)) (g3 : n0 ≤ a3) (gt : n0 ≤ t3) (ne1 : a1 ≠ a3) (ne2 : a2 ≠ a3) (nt1 : t1 ≠ t3) (nt2 : t2 ≠ t3) : own_MP l Mn11 jdk_2101_method_56_code 3 (some (.object "java/math/MutableBigInteger")) ws ({ frames := 3, cells := 3, slots := 6, locals := 60 } : Room) Z h0 #[(.ref a1), (.ref a2), (.ref a3)] (fun _ _ _ _ _ => True) (Q_djB Z s r v9 v2 q hi lo a1 a2 a3 t1 t2 t3 k1 k2 k3 h0 n0) := by
  refine own_startP (plainFor_of_name own_pn_java_math_MutableBigInteger) fun p e s' m below meth c s₁ Bd hx hby hml hown0 X0 e0 hh0 hZ hK Pst hPst => ?_
  have dE := own_E hby own_D36
  have hown : s'.vm.findClass "java/math/MutableBigInteger" = some m.cls := hown0
  have hnm := (name_of_methodNamed Bd.named Bd.method).1
  have N0 := Fr.nil n0
  rw [own_ef_RRR_3 m a1 a2 a3]
  refine o_aloadN X0.here hx (dE 0 rfl) rfl rfl ?_
  refine o_aloadN X0.here hx (dE 1 rfl) rfl rfl ?_
  refine o_aloadN X0.here hx (dE 2 rfl) rfl rfl ?_
  refine o_iconst X0.here hx (dE 3 rfl) (z := (1 : Int32)) rfl ?_
  obtain ⟨cq101, kq101, q101a, q101b, q101c⟩ := isOf hZ e0 Ea1
  refine own_cP X0 (X0.virtualBack hx (y := Mn10) (z := Mn10) hown (mvT hZ (g_ hw 197 rfl)) (mvT hZ (g_ hw 198 rfl)) (notFace_of_selects (args := #[]) (mvT hZ (g_ hw 200 rfl))) (mvT hZ (g_ hw 200 rfl)) (mvT hZ (g_ hw 199 rfl)) (by decide) (backOf (W := 0) (rm_dkB l Z a0 hw [] s r v9 v2 q hi lo a1 a2 a3 t1 t2 t3 k1 k2 k3 h0 n0 Z0 hB Ea1 Oa1 Va1 Ia1 Ea2 Oa2 Va2 Ia2 Ea3 Oa3 Va3 Ia3 A1 A5 A3 g3 gt ne1 ne2 nt1 nt2) hZ (g_ hw 201 rfl) (g_ hw 177 rfl) (by decide) (by decide)) q101a q101c (g := (mkF m 4 #[.val (.ref a1), .val (.ref a2), .val (.ref a3)] [(.int (1 : Int32)), (.ref a3), (.ref a2), (.ref a1)])) rfl (by rw [hml]; rfl) (Steps.refl _) (argsL := [(.ref a2), (.ref a3), (.int (1 : Int32))]) (rest := []) (lenOf own_pd20 rfl) rfl (by show 2 * 0 + _ ≤ _; exact Nat.le_of_eq rfl) (dE 4 rfl) (fun _ _ => ⟨rfl, e0, (by decide : 0 + 3 ≤ _), (by decide : 0 + 6 ≤ _)⟩)) fun v101 T101 L101 X101 hQ101 => ?_
  obtain ⟨x101, rfl, Nq101, K101, sx101, B101, J101, t101, k101, st_101, E101, O101, V101, I101, A101⟩ := hQ101
  have N101 := Fr.app N0 Nq101
  have gn_x101 : n0 ≤ x101 := Nat.le_trans Z0 sx101
  have sz_x101 : h0.size ≤ x101 := Nat.le_trans (Keep.refl h0 [a3, t3]).1 sx101
  show own_Go p e below Pst (T101.setTop (mkF m 7 #[.val (.ref a1), .val (.ref a2), .val (.ref a3)] [(.ref x101)]))
  have c102 := (Keep.trans (Keep.refl h0 [a3, t3]) K101 (allS (Or.inl (List.mem_of_getElem? (i := 0) rfl)) (allS (Or.inl (List.mem_of_getElem? (i := 1) rfl)) all0)))
  rw [hPst]
  exact own_retP X101 (v := (some (.ref x101))) (Q := Q_djB Z s r v9 v2 q hi lo a1 a2 a3 t1 t2 t3 k1 k2 k3 h0 n0) (fun h => by rw [Bd.returns] at h; cases h) Bd.notSynchronized (fun fs hr => retOut X101 hx Bd.returns rfl (Or.inr (Or.inr (Or.inr (Or.inr ⟨rfl, rfl, rfl⟩)))) (dE 5 rfl) hr) (by decide) (by decide) ⟨_, rfl, N101, c102, sx101, B101, J101, _, _, st_101, E101, O101, V101, I101, A101⟩
theorem own_pn_java_util_Arrays : plainName "java/util/Arrays" = true := by first | (simp [plainName, overriddenIn]; done) | decide +kernel
theorem own_ef_II_2 (m : MethodId) (x0 : Int32) (x1 : Int32) : entryFrame m #[(.int x0), (.int x1)] 2 = mkF m 0 #[.val (.int x0), .val (.int x1)] [] := by first | (simp [entryFrame, mkF, argsToLocals, Value.category]; done) | rfl
def Q_ck (Z : State) (x y : Int32) (h0 : Heap) (n0 : Nat) (v : Option Value) (h : Heap) (L : List Loc) : Prop := v = none ∧ Fr n0 L ∧ h = h0
theorem rm_ck (l : Launch) (Z : State) (a0 : Array Value) (hw : own_H a0 Z) (ws : List Jvm.Cond) (x y : Int32) (h0 : Heap) (n0 : Nat) (Z0 : n0 ≤ h0.size) (hh : ¬ y < x) : own_MP l Mn51 jdk_65_method_131_code 2 none ws ({ frames := 0, cells := 0, slots := 0, locals := 0 } : Room) Z h0 #[(.int x), (.int y)] (fun _ _ _ _ _ => True) (Q_ck Z x y h0 n0) := by
  refine own_startP (plainFor_of_name own_pn_java_util_Arrays) fun p e s m below meth c s₁ Bd hx hby hml hown0 X0 e0 hh0 hZ hK Pst hPst => ?_
  have dE := own_E hby own_D60
  have hown : s.vm.findClass "java/util/Arrays" = some m.cls := hown0
  have hnm := (name_of_methodNamed Bd.named Bd.method).1
  have N0 := Fr.nil n0
  rw [own_ef_II_2 m x y]
  refine o_iloadN X0.here hx (dE 0 rfl) rfl ?_
  refine o_iloadN X0.here hx (dE 1 rfl) rfl ?_
  refine o_icmpYes X0.here hx (pc0 := 2) (pc' := 37) rfl (dE 2 rfl) rfl (flt hh).2.1 (by decide) (by decide) ?_
  rw [hPst]
  exact own_retP X0 (v := none) (Q := Q_ck Z x y h0 n0) (fun _ => rfl) Bd.notSynchronized (fun fs hr => X0.returnOut hx Bd.returns (dE 3 rfl) hr) (by decide) (by decide) (by rw [e0]; exact ⟨rfl, N0, rfl⟩)
def Q_min (Z : State) (x y : Int32) (h0 : Heap) (n0 : Nat) (v : Option Value) (h : Heap) (L : List Loc) : Prop := v = some (.int x) ∧ Fr n0 L ∧ h = h0
theorem rm_min (l : Launch) (Z : State) (a0 : Array Value) (hw : own_H a0 Z) (ws : List Jvm.Cond) (x y : Int32) (h0 : Heap) (n0 : Nat) (Z0 : n0 ≤ h0.size) (hh : ¬ y < x) : own_MP l Mn52 jdk_29_method_69_code 2 (some .int) ws ({ frames := 0, cells := 0, slots := 0, locals := 0 } : Room) Z h0 #[(.int x), (.int y)] (fun _ _ _ _ _ => True) (Q_min Z x y h0 n0) := by
  refine own_startP (Jvm.Free.JP.mathPlain rfl (by decide +kernel)) fun p e s m below meth c s₁ Bd hx hby hml hown0 X0 e0 hh0 hZ hK Pst hPst => ?_
  have dE := own_E hby own_D61
  have hown : s.vm.findClass "java/lang/Math" = some m.cls := hown0
  have hnm := (name_of_methodNamed Bd.named Bd.method).1
  have N0 := Fr.nil n0
  rw [own_ef_II_2 m x y]
  refine o_iloadN X0.here hx (dE 0 rfl) rfl ?_
  refine o_iloadN X0.here hx (dE 1 rfl) rfl ?_
  refine o_icmpNo X0.here hx (dE 2 rfl) rfl (flt hh).2.2.1 ?_
  refine o_iloadN X0.here hx (dE 3 rfl) rfl ?_
  refine o_goto X0.here hx (pc0 := 6) (pc' := 10) rfl (dE 4 rfl) (by decide) (by decide) ?_
  rw [hPst]
  exact own_retP X0 (v := (some (.int x))) (Q := Q_min Z x y h0 n0) (fun h => by rw [Bd.returns] at h; cases h) Bd.notSynchronized (fun fs hr => own_retI X0 hx Bd.returns (dE 5 rfl) hr) (by decide) (by decide) (by rw [e0]; exact ⟨rfl, N0, rfl⟩)
theorem own_pd21 : parseMethodDescriptor "(II)V" = some ⟨[.int, .int], none⟩ := by decide +kernel
theorem own_pd22 : parseMethodDescriptor "(II)I" = some ⟨[.int, .int], some .int⟩ := by decide +kernel
theorem own_ef_RII_5 (m : MethodId) (x0 : Addr) (x1 : Int32) (x2 : Int32) : entryFrame m #[(.ref x0), (.int x1), (.int x2)] 5 = mkF m 0 #[.val (.ref x0), .val (.int x1), .val (.int x2), .unset, .unset] [] := by first | (simp [entryFrame, mkF, argsToLocals, Value.category]; done) | rfl
def Q_cri (Z : State) (q : Int32) (t1 : Addr) (k1 : ClassId) (h0 : Heap) (n0 : Nat) (v : Option Value) (h : Heap) (L : List Loc) : Prop := ∃ b : Addr, v = some (.ref b) ∧ Fr n0 L ∧ Keep h0 h [] ∧ h0.size ≤ b ∧ ∃ k : ClassId, Arv Z h b k .int (1 : Int32) [(.int q)] (.int 0)
theorem rm_cri (l : Launch) (Z : State) (a0 : Array Value) (hw : own_H a0 Z) (ws : List Jvm.Cond) (q : Int32) (t1 : Addr) (k1 : ClassId) (h0 : Heap) (n0 : Nat) (Z0 : n0 ≤ h0.size) (A1 : Arv Z h0 t1 k1 .int (2 : Int32) [(.int 0), (.int q)] (.int 0)) : own_MP l Mn53 jdk_65_method_137_code 5 (some (.array .int)) ws ({ frames := 1, cells := 1, slots := 1, locals := 24 } : Room) Z h0 #[(.ref t1), (.int (1 : Int32)), (.int (2 : Int32))] (fun _ _ _ _ _ => True) (Q_cri Z q t1 k1 h0 n0) := by
  refine own_startP (plainFor_of_name own_pn_java_util_Arrays) fun p e s m below meth c s₁ Bd hx hby hml hown0 X0 e0 hh0 hZ hK Pst hPst => ?_
  have dE := own_E hby own_D59
  have hown : s.vm.findClass "java/util/Arrays" = some m.cls := hown0
  have hnm := (name_of_methodNamed Bd.named Bd.method).1
  have N0 := Fr.nil n0
  rw [own_ef_RII_5 m t1 (1 : Int32) (2 : Int32)]
  refine o_iloadN X0.here hx (dE 0 rfl) rfl ?_
  refine o_iloadN X0.here hx (dE 1 rfl) rfl ?_
  refine own_cF X0 (Jvm.LawKit.callS X0 hx (y := Mn51) hown (mvT hZ (g_ hw 309 rfl)) (mvT hZ (g_ hw 310 rfl)) (mvT hZ (g_ hw 304 rfl)) (mvT hZ (g_ hw 311 rfl)) (by decide) (backOf (W := 0) (rm_ck l Z a0 hw [] (1 : Int32) (2 : Int32) h0 n0 Z0 (by decide)) hZ (g_ hw 311 rfl) (g_ hw 304 rfl) (by decide) (by decide)) (g := (mkF m 2 #[.val (.ref t1), .val (.int (1 : Int32)), .val (.int (2 : Int32)), .unset, .unset] [(.int (2 : Int32)), (.int (1 : Int32))])) rfl (by rw [hml]; rfl) (argsL := [(.int (1 : Int32)), (.int (2 : Int32))]) (rest := []) (lenOf own_pd21 rfl) rfl (by show 2 * 0 + _ ≤ _; exact Nat.le_of_eq rfl) (dE 2 rfl) (fun _ _ => ⟨rfl, e0, (by decide : 0 + 0 ≤ _), (by decide : 0 + 0 ≤ _)⟩)) fun v101 T101 L101 X101 hQ101 => ?_
  obtain ⟨rfl, Nq101, e101⟩ := hQ101
  have N101 := Fr.app N0 Nq101
  show own_Go p e below Pst (T101.setTop (mkF m 5 #[.val (.ref t1), .val (.int (1 : Int32)), .val (.int (2 : Int32)), .unset, .unset] []))
  refine o_iloadN X101.here hx (dE 3 rfl) rfl ?_
  refine o_iloadN X101.here hx (dE 4 rfl) rfl ?_
  refine o_isub X101.here hx (dE 5 rfl) rfl ?_
  rw [show ((2 : Int32) - (1 : Int32)) = (1 : Int32) from by decide]
  show own_Go p e below Pst (T101.setTop (mkF m 8 #[.val (.ref t1), .val (.int (1 : Int32)), .val (.int (2 : Int32)), .unset, .unset] [(.int (1 : Int32))]))
  refine o_istoreN X101.here hx (dE 6 rfl) rfl (l' := #[.val (.ref t1), .val (.int (1 : Int32)), .val (.int (2 : Int32)), .val (.int (1 : Int32)), .unset]) rfl ?_
  refine o_iloadN X101.here hx (dE 7 rfl) rfl ?_
  refine p_newP (aty := .int) X101 hx hZ (g_ hw 160 rfl) e101 (dE 8 rfl) rfl (by decide) (cap := 1) (by decide) (by decide) (by decide) (by decide) fun T102 h102 k102 b102 g102 X102 e102 E102 A102 => ?_
  have ne_t1_b102 : t1 ≠ b102 := Nat.ne_of_lt (Nat.lt_of_lt_of_le A1.lt (Nat.le_of_eq g102.symm))
  have gn_b102 : n0 ≤ b102 := Nat.le_trans Z0 (Nat.le_of_eq g102.symm)
  have sz_b102 : h0.size ≤ b102 := Nat.le_trans (Keep.refl h0 []).1 (Nat.le_of_eq g102.symm)
  have V102 : Arv Z h102 b102 k102 .int (1 : Int32) [(.int (0 : Int32))] (.int (0 : Int32)) := (Arv.new A102 (by decide)).pad (pad_rep [] (.int (0 : Int32)) 1)
  refine o_astore X102.here hx (dE 9 rfl) rfl rfl (l' := #[.val (.ref t1), .val (.int (1 : Int32)), .val (.int (2 : Int32)), .val (.int (1 : Int32)), .val (.ref b102)]) rfl ?_
  refine o_aloadN X102.here hx (dE 10 rfl) rfl rfl ?_
  refine o_iloadN X102.here hx (dE 11 rfl) rfl ?_
  refine o_aload X102.here hx (dE 12 rfl) rfl rfl ?_
  refine o_iconst X102.here hx (dE 13 rfl) (z := (0 : Int32)) rfl ?_
  refine o_aloadN X102.here hx (dE 14 rfl) rfl rfl ?_
  have c103 := (A1.ext E102)
  obtain ⟨cl104, Ar104, -, S104, P104, -, -⟩ := id c103
  refine own_Go.of (S' := T102.setTop (mkF m 21 #[.val (.ref t1), .val (.int (1 : Int32)), .val (.int (2 : Int32)), .val (.int (1 : Int32)), .val (.ref b102)] [(.int (2 : Int32)), (.int (0 : Int32)), (.ref b102), (.int (1 : Int32)), (.ref t1)])) (fun tgt kst => X102.arraylength hx (by rw [e102]; exact Ar104.1) (State.isArrayOf_alike hZ.alike Ar104.2.1) (g := (mkF m 20 #[.val (.ref t1), .val (.int (1 : Int32)), .val (.int (2 : Int32)), .val (.int (1 : Int32)), .val (.ref b102)] [(.ref t1), (.int (0 : Int32)), (.ref b102), (.int (1 : Int32)), (.ref t1)])) rfl rfl (dE 15 rfl) _ (by rw [len_of S104 P104]; exact kst)) ?_
  refine o_iloadN X102.here hx (dE 16 rfl) rfl ?_
  refine o_isub X102.here hx (dE 17 rfl) rfl ?_
  rw [show ((2 : Int32) - (1 : Int32)) = (1 : Int32) from by decide]
  show own_Go p e below Pst (T102.setTop (mkF m 23 #[.val (.ref t1), .val (.int (1 : Int32)), .val (.int (2 : Int32)), .val (.int (1 : Int32)), .val (.ref b102)] [(.int (1 : Int32)), (.int (0 : Int32)), (.ref b102), (.int (1 : Int32)), (.ref t1)]))
  refine o_iloadN X102.here hx (dE 18 rfl) rfl ?_
  have c106 := (Nat.le_trans Z0 E102.1)
  refine own_cF X102 (Jvm.LawKit.callS X102 hx (y := Mn52) hown (mvT hZ (g_ hw 312 rfl)) (mvT hZ (g_ hw 313 rfl)) (mvT hZ (g_ hw 120 rfl)) (mvT hZ (g_ hw 314 rfl)) (by decide) (backOf (W := 4) (rm_min l Z a0 hw [] (1 : Int32) (1 : Int32) h102 n0 c106 (by decide)) hZ (g_ hw 314 rfl) (g_ hw 120 rfl) (by decide) (by decide)) (g := (mkF m 24 #[.val (.ref t1), .val (.int (1 : Int32)), .val (.int (2 : Int32)), .val (.int (1 : Int32)), .val (.ref b102)] [(.int (1 : Int32)), (.int (1 : Int32)), (.int (0 : Int32)), (.ref b102), (.int (1 : Int32)), (.ref t1)])) rfl (by rw [hml]; rfl) (argsL := [(.int (1 : Int32)), (.int (1 : Int32))]) (rest := [(.int (0 : Int32)), (.ref b102), (.int (1 : Int32)), (.ref t1)]) (lenOf own_pd22 rfl) rfl (by show 2 * 0 + _ ≤ _; exact Nat.le_of_eq rfl) (dE 19 rfl) (fun _ _ => ⟨rfl, e102, (by decide : 1 + 0 ≤ _), (by decide : 1 + 0 ≤ _)⟩)) fun v105 T105 L105 X105 hQ105 => ?_
  obtain ⟨rfl, Nq105, e105⟩ := hQ105
  have N105 := Fr.app N101 Nq105
  show own_Go p e below Pst (T105.setTop (mkF m 27 #[.val (.ref t1), .val (.int (1 : Int32)), .val (.int (2 : Int32)), .val (.int (1 : Int32)), .val (.ref b102)] [(.int (1 : Int32)), (.int (0 : Int32)), (.ref b102), (.int (1 : Int32)), (.ref t1)]))
  obtain ⟨T107, h107, L107, X107, e107, N107, K107, V107r, st107⟩ := cpA X105 hx hZ hown (g_ hw 315 rfl) (g_ hw 318 rfl) (g_ hw 316 rfl) (g_ hw 317 rfl) e105 c103 V102 (Or.inl ⟨rfl, rfl⟩) (by decide) (by decide) (by decide) (by decide) (by decide) (us := [(.int q)]) rfl (by decide) N105 gn_b102 (g := (mkF m 27 #[.val (.ref t1), .val (.int (1 : Int32)), .val (.int (2 : Int32)), .val (.int (1 : Int32)), .val (.ref b102)] [(.int (1 : Int32)), (.int (0 : Int32)), (.ref b102), (.int (1 : Int32)), (.ref t1)])) rfl (by rw [hml]; rfl) rfl (dE 20 rfl) (by decide) (W := 0) (by show 2 * 0 + _ ≤ _; exact Nat.le_of_eq rfl) (by decide)
  have V107 : Arv Z h107 b102 k102 .int (1 : Int32) [(.int q)] (.int (0 : Int32)) := V107r
  refine own_Go.of st107 ?_
  show own_Go p e below Pst (T107.setTop (mkF m 30 #[.val (.ref t1), .val (.int (1 : Int32)), .val (.int (2 : Int32)), .val (.int (1 : Int32)), .val (.ref b102)] []))
  refine o_aload X107.here hx (dE 21 rfl) rfl rfl ?_
  have c108 := (Keep.trans ((Keep.refl h0 []).ext E102) K107 (allS (Or.inr sz_b102) all0))
  rw [hPst]
  exact own_retP X107 (v := (some (.ref b102))) (Q := Q_cri Z q t1 k1 h0 n0) (fun h => by rw [Bd.returns] at h; cases h) Bd.notSynchronized (fun fs hr => retOut X107 hx Bd.returns rfl (Or.inr (Or.inr (Or.inr (Or.inr ⟨rfl, rfl, rfl⟩)))) (dE 22 rfl) hr) (by decide) (by decide) (by rw [e107]; exact ⟨_, rfl, N107, c108, sz_b102, _, V107⟩)
theorem own_pd23 : parseMethodDescriptor "([III)[I" = some ⟨[(.array .int), .int, .int], some (.array .int)⟩ := by decide +kernel
theorem own_ef_RII_3 (m : MethodId) (x0 : Addr) (x1 : Int32) (x2 : Int32) : entryFrame m #[(.ref x0), (.int x1), (.int x2)] 3 = mkF m 0 #[.val (.ref x0), .val (.int x1), .val (.int x2)] [] := by first | (simp [entryFrame, mkF, argsToLocals, Value.category]; done) | rfl
def Q_crg (Z : State) (q : Int32) (t1 : Addr) (k1 : ClassId) (h0 : Heap) (n0 : Nat) (v : Option Value) (h : Heap) (L : List Loc) : Prop := ∃ b : Addr, v = some (.ref b) ∧ Fr n0 L ∧ Keep h0 h [] ∧ h0.size ≤ b ∧ ∃ k : ClassId, Arv Z h b k .int (1 : Int32) [(.int q)] (.int 0)
theorem rm_crg (l : Launch) (Z : State) (a0 : Array Value) (hw : own_H a0 Z) (ws : List Jvm.Cond) (q : Int32) (t1 : Addr) (k1 : ClassId) (h0 : Heap) (n0 : Nat) (Z0 : n0 ≤ h0.size) (A1 : Arv Z h0 t1 k1 .int (2 : Int32) [(.int 0), (.int q)] (.int 0)) : own_MP l Mn54 jdk_65_method_136_code 3 (some (.array .int)) ws ({ frames := 2, cells := 1, slots := 1, locals := 40 } : Room) Z h0 #[(.ref t1), (.int (1 : Int32)), (.int (2 : Int32))] (fun _ _ _ _ _ => True) (Q_crg Z q t1 k1 h0 n0) := by
  refine own_startP (plainFor_of_name own_pn_java_util_Arrays) fun p e s m below meth c s₁ Bd hx hby hml hown0 X0 e0 hh0 hZ hK Pst hPst => ?_
  have dE := own_E hby own_D58
  have hown : s.vm.findClass "java/util/Arrays" = some m.cls := hown0
  have hnm := (name_of_methodNamed Bd.named Bd.method).1
  have N0 := Fr.nil n0
  rw [own_ef_RII_3 m t1 (1 : Int32) (2 : Int32)]
  refine o_iloadN X0.here hx (dE 0 rfl) rfl ?_
  refine o_ifYes X0.here hx (pc0 := 1) (pc' := 10) rfl (dE 1 rfl) rfl ((if0 _ _).trans (feq (by decide)).2) (by decide) (by decide) ?_
  refine o_aloadN X0.here hx (dE 2 rfl) rfl rfl ?_
  refine o_iloadN X0.here hx (dE 3 rfl) rfl ?_
  refine o_iloadN X0.here hx (dE 4 rfl) rfl ?_
  refine own_cF X0 (Jvm.LawKit.callS X0 hx (y := Mn53) hown (mvT hZ (g_ hw 306 rfl)) (mvT hZ (g_ hw 307 rfl)) (mvT hZ (g_ hw 304 rfl)) (mvT hZ (g_ hw 308 rfl)) (by decide) (backOf (W := 0) (rm_cri l Z a0 hw [] q t1 k1 h0 n0 Z0 A1) hZ (g_ hw 308 rfl) (g_ hw 304 rfl) (by decide) (by decide)) (g := (mkF m 13 #[.val (.ref t1), .val (.int (1 : Int32)), .val (.int (2 : Int32))] [(.int (2 : Int32)), (.int (1 : Int32)), (.ref t1)])) rfl (by rw [hml]; rfl) (argsL := [(.ref t1), (.int (1 : Int32)), (.int (2 : Int32))]) (rest := []) (lenOf own_pd23 rfl) rfl (by show 2 * 0 + _ ≤ _; exact Nat.le_of_eq rfl) (dE 5 rfl) (fun _ _ => ⟨rfl, e0, (by decide : 0 + 1 ≤ _), (by decide : 0 + 1 ≤ _)⟩)) fun v101 T101 L101 X101 hQ101 => ?_
  obtain ⟨b101, rfl, Nq101, K101, sb101, k101, V101⟩ := hQ101
  have N101 := Fr.app N0 Nq101
  have gn_b101 : n0 ≤ b101 := Nat.le_trans Z0 sb101
  have sz_b101 : h0.size ≤ b101 := Nat.le_trans (Keep.refl h0 []).1 sb101
  show own_Go p e below Pst (T101.setTop (mkF m 16 #[.val (.ref t1), .val (.int (1 : Int32)), .val (.int (2 : Int32))] [(.ref b101)]))
  have c102 := (Keep.trans (Keep.refl h0 []) K101 all0)
  rw [hPst]
  exact own_retP X101 (v := (some (.ref b101))) (Q := Q_crg Z q t1 k1 h0 n0) (fun h => by rw [Bd.returns] at h; cases h) Bd.notSynchronized (fun fs hr => retOut X101 hx Bd.returns rfl (Or.inr (Or.inr (Or.inr (Or.inr ⟨rfl, rfl, rfl⟩)))) (dE 6 rfl) hr) (by decide) (by decide) ⟨_, rfl, N101, c102, sz_b101, _, V101⟩
def Q_fi (Z : State) (q : Int32) (t1 : Addr) (k1 : ClassId) (h0 : Heap) (n0 : Nat) (v : Option Value) (h : Heap) (L : List Loc) : Prop := v = none ∧ Fr n0 L ∧ Keep h0 h [t1]
theorem rm_fi (l : Launch) (Z : State) (a0 : Array Value) (hw : own_H a0 Z) (ws : List Jvm.Cond) (q : Int32) (t1 : Addr) (k1 : ClassId) (h0 : Heap) (n0 : Nat) (Z0 : n0 ≤ h0.size) (A1 : Arv Z h0 t1 k1 .int (2 : Int32) [(.int 0), (.int q)] (.int 0)) (gt : n0 ≤ t1) : own_MP l Mn55 jdk_65_method_103_code 4 none ws ({ frames := 0, cells := 0, slots := 0, locals := 0 } : Room) Z h0 #[(.ref t1), (.int (0 : Int32))] (fun _ _ _ _ _ => True) (Q_fi Z q t1 k1 h0 n0) := by
  refine own_startP (plainFor_of_name own_pn_java_util_Arrays) fun p e s m below meth c s₁ Bd hx hby hml hown0 X0 e0 hh0 hZ hK Pst hPst => ?_
  have dE := own_E hby own_D62
  have hown : s.vm.findClass "java/util/Arrays" = some m.cls := hown0
  have hnm := (name_of_methodNamed Bd.named Bd.method).1
  have N0 := Fr.nil n0
  rw [own_ef_RI_4 m t1 (0 : Int32)]
  refine o_iconst X0.here hx (dE 0 rfl) (z := (0 : Int32)) rfl ?_
  refine o_istoreN X0.here hx (dE 1 rfl) rfl (l' := #[.val (.ref t1), .val (.int (0 : Int32)), .val (.int (0 : Int32)), .unset]) rfl ?_
  refine o_aloadN X0.here hx (dE 2 rfl) rfl rfl ?_
  obtain ⟨cl101, Ar101, -, S101, P101, -, -⟩ := id A1
  refine own_Go.of (S' := s₁.setTop (mkF m 4 #[.val (.ref t1), .val (.int (0 : Int32)), .val (.int (0 : Int32)), .unset] [(.int (2 : Int32))])) (fun tgt kst => X0.arraylength hx (by rw [e0]; exact Ar101.1) (State.isArrayOf_alike hZ.alike Ar101.2.1) (g := (mkF m 3 #[.val (.ref t1), .val (.int (0 : Int32)), .val (.int (0 : Int32)), .unset] [(.ref t1)])) rfl rfl (dE 3 rfl) _ (by rw [len_of S101 P101]; exact kst)) ?_
  refine o_istoreN X0.here hx (dE 4 rfl) rfl (l' := #[.val (.ref t1), .val (.int (0 : Int32)), .val (.int (0 : Int32)), .val (.int (2 : Int32))]) rfl ?_
  refine o_iloadN X0.here hx (dE 5 rfl) rfl ?_
  refine o_iloadN X0.here hx (dE 6 rfl) rfl ?_
  refine o_icmpNo X0.here hx (dE 7 rfl) rfl (tlt (by decide)).2.1 ?_
  refine o_aloadN X0.here hx (dE 8 rfl) rfl rfl ?_
  refine o_iloadN X0.here hx (dE 9 rfl) rfl ?_
  refine o_iloadN X0.here hx (dE 10 rfl) rfl ?_
  refine p_arI X0 hx hZ e0 A1 (0 : Int32) 0 ⟨by decide, by decide⟩ rfl (Nat.le_of_ble_eq_true rfl) rfl (dE 11 rfl) fun T102 h102 X102 e102 W102 V102 => ?_
  have N102 := Fr.snoc X102 N0 gt
  refine o_iinc X102.here hx (dE 12 rfl) rfl (l' := #[.val (.ref t1), .val (.int (0 : Int32)), .val (.int ((0 : Int32) + (1 : Int32))), .val (.int (2 : Int32))]) rfl ?_
  rw [show ((0 : Int32) + (1 : Int32)) = (1 : Int32) from by decide]
  show own_Go p e below Pst (T102.setTop (mkF m 17 #[.val (.ref t1), .val (.int (0 : Int32)), .val (.int (1 : Int32)), .val (.int (2 : Int32))] []))
  refine o_goto X102.here hx (pc0 := 17) (pc' := 5) rfl (dE 13 rfl) (by decide) (by decide) ?_
  refine o_iloadN X102.here hx (dE 5 rfl) rfl ?_
  refine o_iloadN X102.here hx (dE 6 rfl) rfl ?_
  refine o_icmpNo X102.here hx (dE 7 rfl) rfl (tlt (by decide)).2.1 ?_
  refine o_aloadN X102.here hx (dE 8 rfl) rfl rfl ?_
  refine o_iloadN X102.here hx (dE 9 rfl) rfl ?_
  refine o_iloadN X102.here hx (dE 10 rfl) rfl ?_
  refine p_arI X102 hx hZ e102 V102 (1 : Int32) 1 ⟨by decide, by decide⟩ rfl (Nat.le_of_ble_eq_true rfl) rfl (dE 11 rfl) fun T103 h103 X103 e103 W103 V103 => ?_
  have N103 := Fr.snoc X103 N102 gt
  refine o_iinc X103.here hx (dE 12 rfl) rfl (l' := #[.val (.ref t1), .val (.int (0 : Int32)), .val (.int ((1 : Int32) + (1 : Int32))), .val (.int (2 : Int32))]) rfl ?_
  rw [show ((1 : Int32) + (1 : Int32)) = (2 : Int32) from by decide]
  show own_Go p e below Pst (T103.setTop (mkF m 17 #[.val (.ref t1), .val (.int (0 : Int32)), .val (.int (2 : Int32)), .val (.int (2 : Int32))] []))
  refine o_goto X103.here hx (pc0 := 17) (pc' := 5) rfl (dE 13 rfl) (by decide) (by decide) ?_
  refine o_iloadN X103.here hx (dE 5 rfl) rfl ?_
  refine o_iloadN X103.here hx (dE 6 rfl) rfl ?_
  refine o_icmpYes X103.here hx (pc0 := 7) (pc' := 20) rfl (dE 7 rfl) rfl (flt (by decide)).2.1 (by decide) (by decide) ?_
  have c104 := (((Keep.refl h0 [t1]).wr W102 (Or.inl (List.mem_of_getElem? (i := 0) rfl))).wr W103 (Or.inl (List.mem_of_getElem? (i := 0) rfl)))
  rw [hPst]
  exact own_retP X103 (v := none) (Q := Q_fi Z q t1 k1 h0 n0) (fun _ => rfl) Bd.notSynchronized (fun fs hr => X103.returnOut hx Bd.returns (dE 14 rfl) hr) (by decide) (by decide) (by rw [e103]; exact ⟨rfl, N103, c104⟩)
theorem own_ef_R_2 (m : MethodId) (x0 : Addr) : entryFrame m #[(.ref x0)] 2 = mkF m 0 #[.val (.ref x0), .unset] [] := by first | (simp [entryFrame, mkF, argsToLocals, Value.category]; done) | rfl
def Q_gmA (Z : State) (q : Int32) (a1 t1 : Addr) (k1 : ClassId) (h0 : Heap) (n0 : Nat) (v : Option Value) (h : Heap) (L : List Loc) : Prop := v = some (.ref t1) ∧ Fr n0 L ∧ h = h0
theorem rm_gmA (l : Launch) (Z : State) (a0 : Array Value) (hw : own_H a0 Z) (ws : List Jvm.Cond) (q : Int32) (a1 t1 : Addr) (k1 : ClassId) (h0 : Heap) (n0 : Nat) (Z0 : n0 ≤ h0.size) (Ea1 : Exa Z h0 a1 "java/math/MutableBigInteger") (Oa1 : Fld Z h0 a1 "java/math/MutableBigInteger" "offset" "I" (.int (0 : Int32))) (Va1 : Fld Z h0 a1 "java/math/MutableBigInteger" "value" "[I" (.ref t1)) (Ia1 : Fld Z h0 a1 "java/math/MutableBigInteger" "intLen" "I" (.int (1 : Int32))) (A1 : Arv Z h0 t1 k1 .int (1 : Int32) [(.int q)] (.int 0)) : own_MP l Mn12 jdk_2101_method_7_code 2 (some (.array .int)) ws ({ frames := 0, cells := 0, slots := 0, locals := 0 } : Room) Z h0 #[(.ref a1)] (fun _ _ _ _ _ => True) (Q_gmA Z q a1 t1 k1 h0 n0) := by
  refine own_startP (plainFor_of_name own_pn_java_math_MutableBigInteger) fun p e s m below meth c s₁ Bd hx hby hml hown0 X0 e0 hh0 hZ hK Pst hPst => ?_
  have dE := own_E hby own_D42
  have hown : s.vm.findClass "java/math/MutableBigInteger" = some m.cls := hown0
  have hnm := (name_of_methodNamed Bd.named Bd.method).1
  have N0 := Fr.nil n0
  rw [own_ef_R_2 m a1]
  refine o_aloadN X0.here hx (dE 0 rfl) rfl rfl ?_
  refine p_getF X0 hx hZ hown (host := "") (Or.inl (g_ hw 183 rfl)) Via.refl e0 Oa1 rfl (dE 1 rfl) fun T101 X101 e101 => ?_
  refine o_ifNo X101.here hx (dE 2 rfl) rfl ((if0 _ _).trans (flt (by decide)).2.2.1) ?_
  refine o_aloadN X101.here hx (dE 3 rfl) rfl rfl ?_
  refine p_getF X101 hx hZ hown (host := "") (Or.inl (g_ hw 185 rfl)) Via.refl e101 Va1 rfl (dE 4 rfl) fun T102 X102 e102 => ?_
  obtain ⟨cl103, Ar103, -, S103, P103, -, -⟩ := id A1
  refine own_Go.of (S' := T102.setTop (mkF m 12 #[.val (.ref a1), .unset] [(.int (1 : Int32))])) (fun tgt kst => X102.arraylength hx (by rw [e102]; exact Ar103.1) (State.isArrayOf_alike hZ.alike Ar103.2.1) (g := (mkF m 11 #[.val (.ref a1), .unset] [(.ref t1)])) rfl rfl (dE 5 rfl) _ (by rw [len_of S103 P103]; exact kst)) ?_
  refine o_aloadN X102.here hx (dE 6 rfl) rfl rfl ?_
  refine p_getF X102 hx hZ hown (host := "") (Or.inl (g_ hw 187 rfl)) Via.refl e102 Ia1 rfl (dE 7 rfl) fun T104 X104 e104 => ?_
  refine o_icmpYes X104.here hx (pc0 := 16) (pc' := 64) rfl (dE 8 rfl) rfl (teq rfl).1 (by decide) (by decide) ?_
  refine o_aloadN X104.here hx (dE 9 rfl) rfl rfl ?_
  refine p_getF X104 hx hZ hown (host := "") (Or.inl (g_ hw 185 rfl)) Via.refl e104 Va1 rfl (dE 10 rfl) fun T105 X105 e105 => ?_
  rw [hPst]
  exact own_retP X105 (v := (some (.ref t1))) (Q := Q_gmA Z q a1 t1 k1 h0 n0) (fun h => by rw [Bd.returns] at h; cases h) Bd.notSynchronized (fun fs hr => retOut X105 hx Bd.returns rfl (Or.inr (Or.inr (Or.inr (Or.inr ⟨rfl, rfl, rfl⟩)))) (dE 11 rfl) hr) (by decide) (by decide) (by rw [e105]; exact ⟨rfl, N0, rfl⟩)
theorem own_pd24 : parseMethodDescriptor "([II)V" = some ⟨[(.array .int), .int], none⟩ := by decide +kernel
def Q_gmB (Z : State) (q : Int32) (a1 t1 : Addr) (k1 : ClassId) (h0 : Heap) (n0 : Nat) (v : Option Value) (h : Heap) (L : List Loc) : Prop := ∃ b : Addr, v = some (.ref b) ∧ Fr n0 L ∧ Keep h0 h [a1, t1] ∧ h0.size ≤ b ∧ ∃ k : ClassId, Arv Z h b k .int (1 : Int32) [(.int q)] (.int 0)
theorem rm_gmB (l : Launch) (Z : State) (a0 : Array Value) (hw : own_H a0 Z) (ws : List Jvm.Cond) (q : Int32) (a1 t1 : Addr) (k1 : ClassId) (h0 : Heap) (n0 : Nat) (Z0 : n0 ≤ h0.size) (Ea1 : Exa Z h0 a1 "java/math/MutableBigInteger") (Oa1 : Fld Z h0 a1 "java/math/MutableBigInteger" "offset" "I" (.int (1 : Int32))) (Va1 : Fld Z h0 a1 "java/math/MutableBigInteger" "value" "[I" (.ref t1)) (Ia1 : Fld Z h0 a1 "java/math/MutableBigInteger" "intLen" "I" (.int (1 : Int32))) (A1 : Arv Z h0 t1 k1 .int (2 : Int32) [(.int 0), (.int q)] (.int 0)) (g1 : n0 ≤ a1) (gt : n0 ≤ t1) : own_MP l Mn12 jdk_2101_method_7_code 2 (some (.array .int)) ws ({ frames := 3, cells := 1, slots := 1, locals := 54 } : Room) Z h0 #[(.ref a1)] (fun _ _ _ _ _ => True) (Q_gmB Z q a1 t1 k1 h0 n0) := by
  refine own_startP (plainFor_of_name own_pn_java_math_MutableBigInteger) fun p e s m below meth c s₁ Bd hx hby hml hown0 X0 e0 hh0 hZ hK Pst hPst => ?_
  have dE := own_E hby own_D42
  have hown : s.vm.findClass "java/math/MutableBigInteger" = some m.cls := hown0
  have hnm := (name_of_methodNamed Bd.named Bd.method).1
  have N0 := Fr.nil n0
  rw [own_ef_R_2 m a1]
  have nr1 : a1 ≠ t1 := Exa.neArv Ea1 A1 (g_ hw 176 rfl)
  refine o_aloadN X0.here hx (dE 0 rfl) rfl rfl ?_
  refine p_getF X0 hx hZ hown (host := "") (Or.inl (g_ hw 183 rfl)) Via.refl e0 Oa1 rfl (dE 1 rfl) fun T101 X101 e101 => ?_
  refine o_ifYes X101.here hx (pc0 := 4) (pc' := 19) rfl (dE 2 rfl) rfl ((if0 _ _).trans (tlt (by decide)).2.2.1) (by decide) (by decide) ?_
  refine o_aloadN X101.here hx (dE 12 rfl) rfl rfl ?_
  refine p_getF X101 hx hZ hown (host := "") (Or.inl (g_ hw 185 rfl)) Via.refl e101 Va1 rfl (dE 13 rfl) fun T102 X102 e102 => ?_
  refine o_aloadN X102.here hx (dE 14 rfl) rfl rfl ?_
  refine p_getF X102 hx hZ hown (host := "") (Or.inl (g_ hw 183 rfl)) Via.refl e102 Oa1 rfl (dE 15 rfl) fun T103 X103 e103 => ?_
  refine o_aloadN X103.here hx (dE 16 rfl) rfl rfl ?_
  refine p_getF X103 hx hZ hown (host := "") (Or.inl (g_ hw 183 rfl)) Via.refl e103 Oa1 rfl (dE 17 rfl) fun T104 X104 e104 => ?_
  refine o_aloadN X104.here hx (dE 18 rfl) rfl rfl ?_
  refine p_getF X104 hx hZ hown (host := "") (Or.inl (g_ hw 187 rfl)) Via.refl e104 Ia1 rfl (dE 19 rfl) fun T105 X105 e105 => ?_
  refine o_iadd X105.here hx (dE 20 rfl) rfl ?_
  rw [show ((1 : Int32) + (1 : Int32)) = (2 : Int32) from by decide]
  show own_Go p e below Pst (T105.setTop (mkF m 36 #[.val (.ref a1), .unset] [(.int (2 : Int32)), (.int (1 : Int32)), (.ref t1)]))
  refine own_cF X105 (Jvm.LawKit.callS X105 hx (y := Mn54) hown (mvT hZ (g_ hw 302 rfl)) (mvT hZ (g_ hw 303 rfl)) (mvT hZ (g_ hw 304 rfl)) (mvT hZ (g_ hw 305 rfl)) (by decide) (backOf (W := 0) (rm_crg l Z a0 hw [] q t1 k1 h0 n0 Z0 A1) hZ (g_ hw 305 rfl) (g_ hw 304 rfl) (by decide) (by decide)) (g := (mkF m 36 #[.val (.ref a1), .unset] [(.int (2 : Int32)), (.int (1 : Int32)), (.ref t1)])) rfl (by rw [hml]; rfl) (argsL := [(.ref t1), (.int (1 : Int32)), (.int (2 : Int32))]) (rest := []) (lenOf own_pd23 rfl) rfl (by show 2 * 0 + _ ≤ _; exact Nat.le_of_eq rfl) (dE 21 rfl) (fun _ _ => ⟨rfl, e105, (by decide : 0 + 1 ≤ _), (by decide : 0 + 1 ≤ _)⟩)) fun v106 T106 L106 X106 hQ106 => ?_
  obtain ⟨b106, rfl, Nq106, K106, sb106, k106, V106⟩ := hQ106
  have N106 := Fr.app N0 Nq106
  have ne_a1_b106 : a1 ≠ b106 := Nat.ne_of_lt (Nat.lt_of_lt_of_le Ea1.lt sb106)
  have ne_t1_b106 : t1 ≠ b106 := Nat.ne_of_lt (Nat.lt_of_lt_of_le A1.lt sb106)
  have gn_b106 : n0 ≤ b106 := Nat.le_trans Z0 sb106
  have sz_b106 : h0.size ≤ b106 := Nat.le_trans (Keep.refl h0 [a1, t1]).1 sb106
  show own_Go p e below Pst (T106.setTop (mkF m 39 #[.val (.ref a1), .unset] [(.ref b106)]))
  refine o_astoreN X106.here hx (dE 22 rfl) rfl rfl (l' := #[.val (.ref a1), .val (.ref b106)]) rfl ?_
  refine o_aloadN X106.here hx (dE 23 rfl) rfl rfl ?_
  have c107 := (Va1.keep K106 nin0)
  refine p_getF X106 hx hZ hown (host := "") (Or.inl (g_ hw 185 rfl)) Via.refl rfl c107 rfl (dE 24 rfl) fun T108 X108 e108 => ?_
  refine o_iconst X108.here hx (dE 25 rfl) (z := (0 : Int32)) rfl ?_
  have c109 := (A1.keep K106 nin0)
  have c111 := (Nat.le_trans Z0 K106.1)
  refine own_cF X108 (Jvm.LawKit.callS X108 hx (y := Mn55) hown (mvT hZ (g_ hw 319 rfl)) (mvT hZ (g_ hw 320 rfl)) (mvT hZ (g_ hw 304 rfl)) (mvT hZ (g_ hw 321 rfl)) (by decide) (backOf (W := 0) (rm_fi l Z a0 hw [] q t1 k1 T106.heap n0 c111 c109 gt) hZ (g_ hw 321 rfl) (g_ hw 304 rfl) (by decide) (by decide)) (g := (mkF m 45 #[.val (.ref a1), .val (.ref b106)] [(.int (0 : Int32)), (.ref t1)])) rfl (by rw [hml]; rfl) (argsL := [(.ref t1), (.int (0 : Int32))]) (rest := []) (lenOf own_pd24 rfl) rfl (by show 2 * 0 + _ ≤ _; exact Nat.le_of_eq rfl) (dE 26 rfl) (fun _ _ => ⟨rfl, e108, (by decide : 1 + 0 ≤ _), (by decide : 1 + 0 ≤ _)⟩)) fun v110 T110 L110 X110 hQ110 => ?_
  obtain ⟨rfl, Nq110, K110⟩ := hQ110
  have N110 := Fr.app N106 Nq110
  show own_Go p e below Pst (T110.setTop (mkF m 48 #[.val (.ref a1), .val (.ref b106)] []))
  refine o_aloadN X110.here hx (dE 27 rfl) rfl rfl ?_
  refine o_iconst X110.here hx (dE 28 rfl) (z := (0 : Int32)) rfl ?_
  have c112 := ((Ea1.keep K106).keep K110)
  have c113 := ((Oa1.keep K106 nin0).keep K110 (ninS nr1 nin0))
  refine p_putF X110 hx hZ hown (host := "") (Or.inl (g_ hw 183 rfl)) Via.refl rfl c113 c112 (Or.inl (g_ hw 184 rfl)) (g_ hw 176 rfl) (ty := .int) (by decide) rfl rfl rfl (dE 29 rfl) fun T114 h114 X114 e114 W114 => ?_
  have Fw114 := Fld.same W114 c113
  have N114 := Fr.snoc X114 N110 g1
  refine o_aloadN X114.here hx (dE 30 rfl) rfl rfl ?_
  refine o_aloadN X114.here hx (dE 31 rfl) rfl rfl ?_
  have c115 := ((V106.keep K110 (ninS (Ne.symm ne_t1_b106) nin0)).other W114 (Ne.symm ne_a1_b106))
  obtain ⟨cl116, Ar116, -, S116, P116, -, -⟩ := id c115
  refine own_Go.of (S' := T114.setTop (mkF m 56 #[.val (.ref a1), .val (.ref b106)] [(.int (1 : Int32)), (.ref a1)])) (fun tgt kst => X114.arraylength hx (by rw [e114]; exact Ar116.1) (State.isArrayOf_alike hZ.alike Ar116.2.1) (g := (mkF m 55 #[.val (.ref a1), .val (.ref b106)] [(.ref b106), (.ref a1)])) rfl rfl (dE 32 rfl) _ (by rw [len_of S116 P116]; exact kst)) ?_
  have c117 := (c112.wr W114)
  have c118 := (((Ia1.keep K106 nin0).keep K110 (ninS nr1 nin0)).other W114 (Or.inr (slot_ne (Or.inl (g_ hw 188 rfl)) (Or.inl (g_ hw 184 rfl)) (by decide) (t := .int) (t' := .int) (by decide) (by decide))))
  refine p_putF X114 hx hZ hown (host := "") (Or.inl (g_ hw 187 rfl)) Via.refl e114 c118 c117 (Or.inl (g_ hw 188 rfl)) (g_ hw 176 rfl) (ty := .int) (by decide) rfl rfl rfl (dE 33 rfl) fun T119 h119 X119 e119 W119 => ?_
  have Fw119 := Fld.same W119 c118
  have N119 := Fr.snoc X119 N114 g1
  refine o_aloadN X119.here hx (dE 34 rfl) rfl rfl ?_
  refine o_aloadN X119.here hx (dE 35 rfl) rfl rfl ?_
  have c120 := (c117.wr W119)
  have c121 := (((c107.keep K110 (ninS nr1 nin0)).other W114 (Or.inr (slot_ne (Or.inl (g_ hw 186 rfl)) (Or.inl (g_ hw 184 rfl)) (by decide) (t := (.array .int)) (t' := .int) (by decide) (by decide)))).other W119 (Or.inr (slot_ne (Or.inl (g_ hw 186 rfl)) (Or.inl (g_ hw 188 rfl)) (by decide) (t := (.array .int)) (t' := .int) (by decide) (by decide))))
  refine p_putF X119 hx hZ hown (host := "") (Or.inl (g_ hw 185 rfl)) Via.refl e119 c121 c120 (Or.inl (g_ hw 186 rfl)) (g_ hw 176 rfl) (ty := (.array .int)) (by decide) rfl rfl rfl (dE 36 rfl) fun T122 h122 X122 e122 W122 => ?_
  have Fw122 := Fld.same W122 c121
  have N122 := Fr.snoc X122 N119 g1
  refine o_aloadN X122.here hx (dE 9 rfl) rfl rfl ?_
  refine p_getF X122 hx hZ hown (host := "") (Or.inl (g_ hw 185 rfl)) Via.refl e122 Fw122 rfl (dE 10 rfl) fun T123 X123 e123 => ?_
  have c124 := ((((Keep.trans (Keep.trans (Keep.refl h0 [a1, t1]) K106 all0) K110 (allS (Or.inl (List.mem_of_getElem? (i := 1) rfl)) all0)).wr W114 (Or.inl (List.mem_of_getElem? (i := 0) rfl))).wr W119 (Or.inl (List.mem_of_getElem? (i := 0) rfl))).wr W122 (Or.inl (List.mem_of_getElem? (i := 0) rfl)))
  have c125 := ((c115.other W119 (Ne.symm ne_a1_b106)).other W122 (Ne.symm ne_a1_b106))
  rw [hPst]
  exact own_retP X123 (v := (some (.ref b106))) (Q := Q_gmB Z q a1 t1 k1 h0 n0) (fun h => by rw [Bd.returns] at h; cases h) Bd.notSynchronized (fun fs hr => retOut X123 hx Bd.returns rfl (Or.inr (Or.inr (Or.inr (Or.inr ⟨rfl, rfl, rfl⟩)))) (dE 11 rfl) hr) (by decide) (by decide) (by rw [e123]; exact ⟨_, rfl, N122, c124, sz_b106, _, c125⟩)
theorem own_ef_RRI_3 (m : MethodId) (x0 : Addr) (x1 : Addr) (x2 : Int32) : entryFrame m #[(.ref x0), (.ref x1), (.int x2)] 3 = mkF m 0 #[.val (.ref x0), .val (.ref x1), .val (.int x2)] [] := by first | (simp [entryFrame, mkF, argsToLocals, Value.category]; done) | rfl
def Q_bim (Z : State) (a1 t1 : Addr) (k1 : ClassId) (vs : List Value) (u1 u2 : Value) (h0 : Heap) (n0 : Nat) (v : Option Value) (h : Heap) (L : List Loc) : Prop := v = none ∧ Fr n0 L ∧ Keep h0 h [a1] ∧ Exa Z h a1 "java/math/BigInteger" ∧ Fld Z h a1 "java/math/BigInteger" "signum" "I" (.int (1 : Int32)) ∧ Fld Z h a1 "java/math/BigInteger" "mag" "[I" (.ref t1) ∧ Fld Z h a1 "java/math/BigInteger" "bitLengthPlusOne" "I" (.int (0 : Int32))
theorem rm_bim (l : Launch) (Z : State) (a0 : Array Value) (hw : own_H a0 Z) (ws : List Jvm.Cond) (a1 t1 : Addr) (k1 : ClassId) (vs : List Value) (u1 u2 : Value) (h0 : Heap) (n0 : Nat) (Z0 : n0 ≤ h0.size) (E1 : Exa Z h0 a1 "java/math/BigInteger") (g1 : n0 ≤ a1) (F1 : Fld Z h0 a1 "java/math/BigInteger" "signum" "I" u1) (F2 : Fld Z h0 a1 "java/math/BigInteger" "mag" "[I" u2) (F3 : Fld Z h0 a1 "java/math/BigInteger" "bitLengthPlusOne" "I" (.int (0 : Int32))) (A1 : Arv Z h0 t1 k1 .int (1 : Int32) vs (.int 0)) : own_MP l Mn40 jdk_2097_method_25_code 3 none ws ({ frames := 2, cells := 0, slots := 0, locals := 24 } : Room) Z h0 #[(.ref a1), (.ref t1), (.int (1 : Int32))] (fun _ _ _ _ _ => True) (Q_bim Z a1 t1 k1 vs u1 u2 h0 n0) := by
  refine own_startP (plainFor_of_name own_pn_java_math_BigInteger) fun p e s m below meth c s₁ Bd hx hby hml hown0 X0 e0 hh0 hZ hK Pst hPst => ?_
  have dE := own_E hby own_D43
  have hown : s.vm.findClass "java/math/BigInteger" = some m.cls := hown0
  have hnm := (name_of_methodNamed Bd.named Bd.method).1
  have N0 := Fr.nil n0
  rw [own_ef_RRI_3 m a1 t1 (1 : Int32)]
  have nq_t1_a1 : t1 ≠ a1 := Ne.symm (Exa.neArv E1 A1 (g_ hw 151 rfl))
  refine o_aloadN X0.here hx (dE 0 rfl) rfl rfl ?_
  refine own_cP X0 (X0.specialBack hx (y := Mn15) rfl hown (mvT hZ (g_ hw 156 rfl)) (mvT hZ (g_ hw 90 rfl)) (mvT hZ (g_ hw 94 rfl)) (by decide) (backOf (W := 0) (rm_num l Z a0 hw [] a1 h0 n0 Z0 ) hZ (g_ hw 94 rfl) (g_ hw 93 rfl) (by decide) (by decide)) (g := (mkF m 1 #[.val (.ref a1), .val (.ref t1), .val (.int (1 : Int32))] [(.ref a1)])) rfl (by rw [hml]; rfl) (Steps.refl _) (a := a1) (argsL := []) (rest := []) (lenOf own_pd1 rfl) rfl (by show 2 * 0 + _ ≤ _; exact Nat.le_of_eq rfl) (dE 1 rfl) (fun _ _ => ⟨rfl, e0, (by decide : 0 + 0 ≤ _), (by decide : 0 + 0 ≤ _)⟩)) fun v101 T101 L101 X101 hQ101 => ?_
  obtain ⟨rfl, Nq101, e101⟩ := hQ101
  have N101 := Fr.app N0 Nq101
  show own_Go p e below Pst (T101.setTop (mkF m 4 #[.val (.ref a1), .val (.ref t1), .val (.int (1 : Int32))] []))
  refine o_aloadN X101.here hx (dE 2 rfl) rfl rfl ?_
  refine o_aloadN X101.here hx (dE 3 rfl) rfl rfl ?_
  obtain ⟨cl102, Ar102, -, S102, P102, -, -⟩ := id A1
  refine own_Go.of (S' := T101.setTop (mkF m 7 #[.val (.ref a1), .val (.ref t1), .val (.int (1 : Int32))] [(.int (1 : Int32)), (.ref a1)])) (fun tgt kst => X101.arraylength hx (by rw [e101]; exact Ar102.1) (State.isArrayOf_alike hZ.alike Ar102.2.1) (g := (mkF m 6 #[.val (.ref a1), .val (.ref t1), .val (.int (1 : Int32))] [(.ref t1), (.ref a1)])) rfl rfl (dE 4 rfl) _ (by rw [len_of S102 P102]; exact kst)) ?_
  refine o_ifYes X101.here hx (pc0 := 7) (pc' := 14) rfl (dE 5 rfl) rfl ((if0 _ _).trans (feq (by decide)).2) (by decide) (by decide) ?_
  refine o_iloadN X101.here hx (dE 6 rfl) rfl ?_
  refine p_putF X101 hx hZ hown (host := "") (Or.inl (g_ hw 158 rfl)) Via.refl e101 F1 E1 (Or.inr ⟨(g_ hw 159 rfl), rfl, hnm⟩) (g_ hw 151 rfl) (ty := .int) (by decide) rfl rfl rfl (dE 7 rfl) fun T103 h103 X103 e103 W103 => ?_
  have Fw103 := Fld.same W103 F1
  have N103 := Fr.snoc X103 N101 g1
  refine o_aloadN X103.here hx (dE 8 rfl) rfl rfl ?_
  refine o_aloadN X103.here hx (dE 9 rfl) rfl rfl ?_
  have c104 := (E1.wr W103)
  have c105 := (F2.other W103 (Or.inr (slot_ne (Or.inr (g_ hw 162 rfl)) (Or.inr (g_ hw 159 rfl)) (by decide) (t := (.array .int)) (t' := .int) (by decide) (by decide))))
  refine p_putF X103 hx hZ hown (host := "") (Or.inl (g_ hw 161 rfl)) Via.refl e103 c105 c104 (Or.inr ⟨(g_ hw 162 rfl), rfl, hnm⟩) (g_ hw 151 rfl) (ty := (.array .int)) (by decide) rfl rfl rfl (dE 10 rfl) fun T106 h106 X106 e106 W106 => ?_
  have Fw106 := Fld.same W106 c105
  have N106 := Fr.snoc X106 N103 g1
  refine o_aloadN X106.here hx (dE 11 rfl) rfl rfl ?_
  refine p_getF X106 hx hZ hown (host := "") (Or.inl (g_ hw 161 rfl)) Via.refl e106 Fw106 rfl (dE 12 rfl) fun T107 X107 e107 => ?_
  have c108 := ((A1.other W103 nq_t1_a1).other W106 nq_t1_a1)
  obtain ⟨cl109, Ar109, -, S109, P109, -, -⟩ := id c108
  refine own_Go.of (S' := T107.setTop (mkF m 28 #[.val (.ref a1), .val (.ref t1), .val (.int (1 : Int32))] [(.int (1 : Int32))])) (fun tgt kst => X107.arraylength hx (by rw [e107]; exact Ar109.1) (State.isArrayOf_alike hZ.alike Ar109.2.1) (g := (mkF m 27 #[.val (.ref a1), .val (.ref t1), .val (.int (1 : Int32))] [(.ref t1)])) rfl rfl (dE 13 rfl) _ (by rw [len_of S109 P109]; exact kst)) ?_
  refine own_Go.of (S' := T107.setTop (mkF m 30 #[.val (.ref a1), .val (.ref t1), .val (.int (1 : Int32))] [(.int (67108864 : Int32)), (.int (1 : Int32))])) (fun tgt kst => X107.ldcInt hx hown (mvT hZ (g_ hw 235 rfl)) (g := (mkF m 28 #[.val (.ref a1), .val (.ref t1), .val (.int (1 : Int32))] [(.int (1 : Int32))])) rfl (dE 14 rfl) _ kst) ?_
  refine o_icmpYes X107.here hx (pc0 := 30) (pc' := 37) rfl (dE 15 rfl) rfl (tlt (by decide)).1 (by decide) (by decide) ?_
  have c110 := (((Keep.refl h0 [a1]).wr W103 (Or.inl (List.mem_of_getElem? (i := 0) rfl))).wr W106 (Or.inl (List.mem_of_getElem? (i := 0) rfl)))
  have c111 := (c104.wr W106)
  have c112 := (Fw103.other W106 (Or.inr (slot_ne (Or.inr (g_ hw 159 rfl)) (Or.inr (g_ hw 162 rfl)) (by decide) (t := .int) (t' := (.array .int)) (by decide) (by decide))))
  have c113 := ((F3.other W103 (Or.inr (slot_ne (Or.inl (g_ hw 243 rfl)) (Or.inr (g_ hw 159 rfl)) (by decide) (t := .int) (t' := .int) (by decide) (by decide)))).other W106 (Or.inr (slot_ne (Or.inl (g_ hw 243 rfl)) (Or.inr (g_ hw 162 rfl)) (by decide) (t := .int) (t' := (.array .int)) (by decide) (by decide))))
  rw [hPst]
  exact own_retP X107 (v := none) (Q := Q_bim Z a1 t1 k1 vs u1 u2 h0 n0) (fun _ => rfl) Bd.notSynchronized (fun fs hr => X107.returnOut hx Bd.returns (dE 16 rfl) hr) (by decide) (by decide) (by rw [e107]; exact ⟨rfl, N106, c110, c111, c112, Fw106, c113⟩)
theorem own_pd25 : parseMethodDescriptor "()[I" = some ⟨[], some (.array .int)⟩ := by decide +kernel
theorem own_ef_RI_2 (m : MethodId) (x0 : Addr) (x1 : Int32) : entryFrame m #[(.ref x0), (.int x1)] 2 = mkF m 0 #[.val (.ref x0), .val (.int x1)] [] := by first | (simp [entryFrame, mkF, argsToLocals, Value.category]; done) | rfl
def Q_tbA (Z : State) (q : Int32) (a1 t1 : Addr) (k1 : ClassId) (h0 : Heap) (n0 : Nat) (v : Option Value) (h : Heap) (L : List Loc) : Prop := ∃ x : Addr, v = some (.ref x) ∧ Fr n0 L ∧ Keep h0 h [] ∧ h0.size ≤ x ∧ ∃ (t : Addr) (k : ClassId), Exa Z h x "java/math/BigInteger" ∧ Fld Z h x "java/math/BigInteger" "signum" "I" (.int (1 : Int32)) ∧ Fld Z h x "java/math/BigInteger" "mag" "[I" (.ref t) ∧ Fld Z h x "java/math/BigInteger" "bitLengthPlusOne" "I" (.int (0 : Int32)) ∧ Arv Z h t k .int (1 : Int32) [(.int q)] (.int 0)
theorem rm_tbA (l : Launch) (Z : State) (a0 : Array Value) (hw : own_H a0 Z) (ws : List Jvm.Cond) (q : Int32) (a1 t1 : Addr) (k1 : ClassId) (h0 : Heap) (n0 : Nat) (Z0 : n0 ≤ h0.size) (Ea1 : Exa Z h0 a1 "java/math/MutableBigInteger") (Oa1 : Fld Z h0 a1 "java/math/MutableBigInteger" "offset" "I" (.int (0 : Int32))) (Va1 : Fld Z h0 a1 "java/math/MutableBigInteger" "value" "[I" (.ref t1)) (Ia1 : Fld Z h0 a1 "java/math/MutableBigInteger" "intLen" "I" (.int (1 : Int32))) (A1 : Arv Z h0 t1 k1 .int (1 : Int32) [(.int q)] (.int 0)) : own_MP l Mn4 jdk_2101_method_9_code 2 (some (.object "java/math/BigInteger")) ws ({ frames := 3, cells := 1, slots := 6, locals := 39 } : Room) Z h0 #[(.ref a1), (.int (1 : Int32))] (fun _ _ _ _ _ => True) (Q_tbA Z q a1 t1 k1 h0 n0) := by
  refine own_startP (plainFor_of_name own_pn_java_math_MutableBigInteger) fun p e s m below meth c s₁ Bd hx hby hml hown0 X0 e0 hh0 hZ hK Pst hPst => ?_
  have dE := own_E hby own_D41
  have hown : s.vm.findClass "java/math/MutableBigInteger" = some m.cls := hown0
  have hnm := (name_of_methodNamed Bd.named Bd.method).1
  have N0 := Fr.nil n0
  rw [own_ef_RI_2 m a1 (1 : Int32)]
  refine o_aloadN X0.here hx (dE 0 rfl) rfl rfl ?_
  refine p_getF X0 hx hZ hown (host := "") (Or.inl (g_ hw 187 rfl)) Via.refl e0 Ia1 rfl (dE 1 rfl) fun T101 X101 e101 => ?_
  refine o_ifNo X101.here hx (dE 2 rfl) rfl ((if0 _ _).trans (feq (by decide)).1) ?_
  refine o_iloadN X101.here hx (dE 3 rfl) rfl ?_
  refine o_ifYes X101.here hx (pc0 := 8) (pc' := 15) rfl (dE 4 rfl) rfl ((if0 _ _).trans (feq (by decide)).2) (by decide) (by decide) ?_
  refine p_newO X101 hx hZ hown (g_ hw 226 rfl) (g_ hw 151 rfl) (g_ hw 147 rfl) e101 (dE 5 rfl) (by decide) (by decide) fun T102 h102 b102 g102 X102 e102 E102 A102 D102 U102 => ?_
  have ne_a1_b102 : a1 ≠ b102 := Nat.ne_of_lt (Nat.lt_of_lt_of_le Ea1.lt (Nat.le_of_eq g102.symm))
  have ne_t1_b102 : t1 ≠ b102 := Nat.ne_of_lt (Nat.lt_of_lt_of_le A1.lt (Nat.le_of_eq g102.symm))
  have gn_b102 : n0 ≤ b102 := Nat.le_trans Z0 (Nat.le_of_eq g102.symm)
  have sz_b102 : h0.size ≤ b102 := Nat.le_trans (Keep.refl h0 []).1 (Nat.le_of_eq g102.symm)
  have f102_signum : Fld Z h102 b102 "java/math/BigInteger" "signum" "I" (.int (0 : Int32)) := D102 (Or.inr (g_ hw 159 rfl)) (ty := .int) (by decide)
  have f102_mag : Fld Z h102 b102 "java/math/BigInteger" "mag" "[I" .null := D102 (Or.inr (g_ hw 162 rfl)) (ty := (.array .int)) (by decide)
  have f102_bitLengthPlusOne : Fld Z h102 b102 "java/math/BigInteger" "bitLengthPlusOne" "I" (.int (0 : Int32)) := D102 (Or.inl (g_ hw 243 rfl)) (ty := .int) (by decide)
  refine o_dup X102.here hx (dE 6 rfl) rfl rfl ?_
  refine o_aloadN X102.here hx (dE 7 rfl) rfl rfl ?_
  have c103 := (Ea1.ext E102)
  have c104 := (Oa1.ext E102)
  have c105 := (Va1.ext E102)
  have c106 := (Ia1.ext E102)
  have c107 := (A1.ext E102)
  have c109 := (Nat.le_trans Z0 E102.1)
  obtain ⟨cq108, kq108, q108a, q108b, q108c⟩ := isOf hZ e102 c103
  refine own_cP X102 (X102.virtualBack hx (y := Mn12) (z := Mn12) hown (mvT hZ (g_ hw 227 rfl)) (mvT hZ (own_decl (g_ hw 228 rfl) (g_ hw 231 rfl))) (notFace_of_selects (args := #[]) (mvT hZ (g_ hw 230 rfl))) (mvT hZ (g_ hw 230 rfl)) (mvT hZ (g_ hw 228 rfl)) (by decide) (backOf (W := 2) (rm_gmA l Z a0 hw [] q a1 t1 k1 h102 n0 c109 c103 c104 c105 c106 c107) hZ (g_ hw 231 rfl) (g_ hw 177 rfl) (by decide) (by decide)) q108a q108c (g := (mkF m 20 #[.val (.ref a1), .val (.int (1 : Int32))] [(.ref a1), (.ref b102), (.ref b102)])) rfl (by rw [hml]; rfl) (Steps.refl _) (argsL := []) (rest := [(.ref b102), (.ref b102)]) (lenOf own_pd25 rfl) rfl (by show 2 * 0 + _ ≤ _; exact Nat.le_of_eq rfl) (dE 8 rfl) (fun _ _ => ⟨rfl, e102, (by decide : 1 + 0 ≤ _), (by decide : 6 + 0 ≤ _)⟩)) fun v108 T108 L108 X108 hQ108 => ?_
  obtain ⟨rfl, Nq108, e108⟩ := hQ108
  have N108 := Fr.app N0 Nq108
  show own_Go p e below Pst (T108.setTop (mkF m 23 #[.val (.ref a1), .val (.int (1 : Int32))] [(.ref t1), (.ref b102), (.ref b102)]))
  refine o_iloadN X108.here hx (dE 9 rfl) rfl ?_
  refine own_cP X108 (X108.specialBack hx (y := Mn40) rfl hown (mvT hZ (g_ hw 232 rfl)) (mvT hZ (g_ hw 233 rfl)) (mvT hZ (g_ hw 234 rfl)) (by decide) (backOf (W := 1) (rm_bim l Z a0 hw [] b102 t1 k1 [(.int q)] (.int 0) .null h102 n0 c109 A102 gn_b102 f102_signum f102_mag f102_bitLengthPlusOne c107) hZ (g_ hw 234 rfl) (g_ hw 147 rfl) (by decide) (by decide)) (g := (mkF m 24 #[.val (.ref a1), .val (.int (1 : Int32))] [(.int (1 : Int32)), (.ref t1), (.ref b102), (.ref b102)])) rfl (by rw [hml]; rfl) (Steps.refl _) (a := b102) (argsL := [(.ref t1), (.int (1 : Int32))]) (rest := [(.ref b102)]) (lenOf own_pd24 rfl) rfl (by show 2 * 0 + _ ≤ _; exact Nat.le_of_eq rfl) (dE 10 rfl) (fun _ _ => ⟨rfl, e108, (by decide : 1 + 0 ≤ _), (by decide : 6 + 0 ≤ _)⟩)) fun v110 T110 L110 X110 hQ110 => ?_
  obtain ⟨rfl, Nq110, K110, A110, S110, M110, P110⟩ := hQ110
  have N110 := Fr.app N108 Nq110
  show own_Go p e below Pst (T110.setTop (mkF m 27 #[.val (.ref a1), .val (.int (1 : Int32))] [(.ref b102)]))
  have c111 := (Keep.trans ((Keep.refl h0 []).ext E102) K110 (allS (Or.inr sz_b102) all0))
  have c112 := (c107.keep K110 (ninS ne_t1_b102 nin0))
  rw [hPst]
  exact own_retP X110 (v := (some (.ref b102))) (Q := Q_tbA Z q a1 t1 k1 h0 n0) (fun h => by rw [Bd.returns] at h; cases h) Bd.notSynchronized (fun fs hr => retOut X110 hx Bd.returns rfl (Or.inr (Or.inr (Or.inr (Or.inr ⟨rfl, rfl, rfl⟩)))) (dE 11 rfl) hr) (by decide) (by decide) ⟨_, rfl, N110, c111, sz_b102, _, _, A110, S110, M110, P110, c112⟩
def Q_tbB (Z : State) (q : Int32) (a1 t1 : Addr) (k1 : ClassId) (h0 : Heap) (n0 : Nat) (v : Option Value) (h : Heap) (L : List Loc) : Prop := ∃ x : Addr, v = some (.ref x) ∧ Fr n0 L ∧ Keep h0 h [a1, t1] ∧ h0.size ≤ x ∧ ∃ (t : Addr) (k : ClassId), Exa Z h x "java/math/BigInteger" ∧ Fld Z h x "java/math/BigInteger" "signum" "I" (.int (1 : Int32)) ∧ Fld Z h x "java/math/BigInteger" "mag" "[I" (.ref t) ∧ Fld Z h x "java/math/BigInteger" "bitLengthPlusOne" "I" (.int (0 : Int32)) ∧ Arv Z h t k .int (1 : Int32) [(.int q)] (.int 0)
theorem rm_tbB (l : Launch) (Z : State) (a0 : Array Value) (hw : own_H a0 Z) (ws : List Jvm.Cond) (q : Int32) (a1 t1 : Addr) (k1 : ClassId) (h0 : Heap) (n0 : Nat) (Z0 : n0 ≤ h0.size) (Ea1 : Exa Z h0 a1 "java/math/MutableBigInteger") (Oa1 : Fld Z h0 a1 "java/math/MutableBigInteger" "offset" "I" (.int (1 : Int32))) (Va1 : Fld Z h0 a1 "java/math/MutableBigInteger" "value" "[I" (.ref t1)) (Ia1 : Fld Z h0 a1 "java/math/MutableBigInteger" "intLen" "I" (.int (1 : Int32))) (A1 : Arv Z h0 t1 k1 .int (2 : Int32) [(.int 0), (.int q)] (.int 0)) (g1 : n0 ≤ a1) (gt : n0 ≤ t1) : own_MP l Mn4 jdk_2101_method_9_code 2 (some (.object "java/math/BigInteger")) ws ({ frames := 4, cells := 2, slots := 7, locals := 69 } : Room) Z h0 #[(.ref a1), (.int (1 : Int32))] (fun _ _ _ _ _ => True) (Q_tbB Z q a1 t1 k1 h0 n0) := by
  refine own_startP (plainFor_of_name own_pn_java_math_MutableBigInteger) fun p e s m below meth c s₁ Bd hx hby hml hown0 X0 e0 hh0 hZ hK Pst hPst => ?_
  have dE := own_E hby own_D41
  have hown : s.vm.findClass "java/math/MutableBigInteger" = some m.cls := hown0
  have hnm := (name_of_methodNamed Bd.named Bd.method).1
  have N0 := Fr.nil n0
  rw [own_ef_RI_2 m a1 (1 : Int32)]
  refine o_aloadN X0.here hx (dE 0 rfl) rfl rfl ?_
  refine p_getF X0 hx hZ hown (host := "") (Or.inl (g_ hw 187 rfl)) Via.refl e0 Ia1 rfl (dE 1 rfl) fun T101 X101 e101 => ?_
  refine o_ifNo X101.here hx (dE 2 rfl) rfl ((if0 _ _).trans (feq (by decide)).1) ?_
  refine o_iloadN X101.here hx (dE 3 rfl) rfl ?_
  refine o_ifYes X101.here hx (pc0 := 8) (pc' := 15) rfl (dE 4 rfl) rfl ((if0 _ _).trans (feq (by decide)).2) (by decide) (by decide) ?_
  refine p_newO X101 hx hZ hown (g_ hw 226 rfl) (g_ hw 151 rfl) (g_ hw 147 rfl) e101 (dE 5 rfl) (by decide) (by decide) fun T102 h102 b102 g102 X102 e102 E102 A102 D102 U102 => ?_
  have ne_a1_b102 : a1 ≠ b102 := Nat.ne_of_lt (Nat.lt_of_lt_of_le Ea1.lt (Nat.le_of_eq g102.symm))
  have ne_t1_b102 : t1 ≠ b102 := Nat.ne_of_lt (Nat.lt_of_lt_of_le A1.lt (Nat.le_of_eq g102.symm))
  have gn_b102 : n0 ≤ b102 := Nat.le_trans Z0 (Nat.le_of_eq g102.symm)
  have sz_b102 : h0.size ≤ b102 := Nat.le_trans (Keep.refl h0 [a1, t1]).1 (Nat.le_of_eq g102.symm)
  have f102_signum : Fld Z h102 b102 "java/math/BigInteger" "signum" "I" (.int (0 : Int32)) := D102 (Or.inr (g_ hw 159 rfl)) (ty := .int) (by decide)
  have f102_mag : Fld Z h102 b102 "java/math/BigInteger" "mag" "[I" .null := D102 (Or.inr (g_ hw 162 rfl)) (ty := (.array .int)) (by decide)
  have f102_bitLengthPlusOne : Fld Z h102 b102 "java/math/BigInteger" "bitLengthPlusOne" "I" (.int (0 : Int32)) := D102 (Or.inl (g_ hw 243 rfl)) (ty := .int) (by decide)
  refine o_dup X102.here hx (dE 6 rfl) rfl rfl ?_
  refine o_aloadN X102.here hx (dE 7 rfl) rfl rfl ?_
  have c103 := (Ea1.ext E102)
  have c104 := (Oa1.ext E102)
  have c105 := (Va1.ext E102)
  have c106 := (Ia1.ext E102)
  have c107 := (A1.ext E102)
  have c109 := (Nat.le_trans Z0 E102.1)
  obtain ⟨cq108, kq108, q108a, q108b, q108c⟩ := isOf hZ e102 c103
  refine own_cP X102 (X102.virtualBack hx (y := Mn12) (z := Mn12) hown (mvT hZ (g_ hw 227 rfl)) (mvT hZ (own_decl (g_ hw 228 rfl) (g_ hw 231 rfl))) (notFace_of_selects (args := #[]) (mvT hZ (g_ hw 230 rfl))) (mvT hZ (g_ hw 230 rfl)) (mvT hZ (g_ hw 228 rfl)) (by decide) (backOf (W := 2) (rm_gmB l Z a0 hw [] q a1 t1 k1 h102 n0 c109 c103 c104 c105 c106 c107 g1 gt) hZ (g_ hw 231 rfl) (g_ hw 177 rfl) (by decide) (by decide)) q108a q108c (g := (mkF m 20 #[.val (.ref a1), .val (.int (1 : Int32))] [(.ref a1), (.ref b102), (.ref b102)])) rfl (by rw [hml]; rfl) (Steps.refl _) (argsL := []) (rest := [(.ref b102), (.ref b102)]) (lenOf own_pd25 rfl) rfl (by show 2 * 0 + _ ≤ _; exact Nat.le_of_eq rfl) (dE 8 rfl) (fun _ _ => ⟨rfl, e102, (by decide : 1 + 1 ≤ _), (by decide : 6 + 1 ≤ _)⟩)) fun v108 T108 L108 X108 hQ108 => ?_
  obtain ⟨b108, rfl, Nq108, K108, sb108, k108, V108⟩ := hQ108
  have N108 := Fr.app N0 Nq108
  have ne_a1_b108 : a1 ≠ b108 := Nat.ne_of_lt (Nat.lt_of_lt_of_le c103.lt sb108)
  have ne_t1_b108 : t1 ≠ b108 := Nat.ne_of_lt (Nat.lt_of_lt_of_le c107.lt sb108)
  have ne_b102_b108 : b102 ≠ b108 := Nat.ne_of_lt (Nat.lt_of_lt_of_le A102.lt sb108)
  have gn_b108 : n0 ≤ b108 := Nat.le_trans c109 sb108
  have c110 := ((Keep.refl h0 [a1, t1]).ext E102)
  have sz_b108 : h0.size ≤ b108 := Nat.le_trans c110.1 sb108
  show own_Go p e below Pst (T108.setTop (mkF m 23 #[.val (.ref a1), .val (.int (1 : Int32))] [(.ref b108), (.ref b102), (.ref b102)]))
  refine o_iloadN X108.here hx (dE 9 rfl) rfl ?_
  have c111 := (A102.keep K108)
  have c112 := (f102_signum.keep K108 (ninS (Ne.symm ne_a1_b102) (ninS (Ne.symm ne_t1_b102) nin0)))
  have c113 := (f102_mag.keep K108 (ninS (Ne.symm ne_a1_b102) (ninS (Ne.symm ne_t1_b102) nin0)))
  have c114 := (f102_bitLengthPlusOne.keep K108 (ninS (Ne.symm ne_a1_b102) (ninS (Ne.symm ne_t1_b102) nin0)))
  have c116 := (Nat.le_trans c109 K108.1)
  refine own_cP X108 (X108.specialBack hx (y := Mn40) rfl hown (mvT hZ (g_ hw 232 rfl)) (mvT hZ (g_ hw 233 rfl)) (mvT hZ (g_ hw 234 rfl)) (by decide) (backOf (W := 1) (rm_bim l Z a0 hw [] b102 b108 k108 [(.int q)] (.int 0) .null T108.heap n0 c116 c111 gn_b102 c112 c113 c114 V108) hZ (g_ hw 234 rfl) (g_ hw 147 rfl) (by decide) (by decide)) (g := (mkF m 24 #[.val (.ref a1), .val (.int (1 : Int32))] [(.int (1 : Int32)), (.ref b108), (.ref b102), (.ref b102)])) rfl (by rw [hml]; rfl) (Steps.refl _) (a := b102) (argsL := [(.ref b108), (.int (1 : Int32))]) (rest := [(.ref b102)]) (lenOf own_pd24 rfl) rfl (by show 2 * 0 + _ ≤ _; exact Nat.le_of_eq rfl) (dE 10 rfl) (fun _ _ => ⟨rfl, rfl, (by decide : 2 + 0 ≤ _), (by decide : 7 + 0 ≤ _)⟩)) fun v115 T115 L115 X115 hQ115 => ?_
  obtain ⟨rfl, Nq115, K115, A115, S115, M115, P115⟩ := hQ115
  have N115 := Fr.app N108 Nq115
  show own_Go p e below Pst (T115.setTop (mkF m 27 #[.val (.ref a1), .val (.int (1 : Int32))] [(.ref b102)]))
  have c117 := (Keep.trans (Keep.trans c110 K108 (allS (Or.inl (List.mem_of_getElem? (i := 0) rfl)) (allS (Or.inl (List.mem_of_getElem? (i := 1) rfl)) all0))) K115 (allS (Or.inr sz_b102) all0))
  have c118 := (V108.keep K115 (ninS (Ne.symm ne_b102_b108) nin0))
  rw [hPst]
  exact own_retP X115 (v := (some (.ref b102))) (Q := Q_tbB Z q a1 t1 k1 h0 n0) (fun h => by rw [Bd.returns] at h; cases h) Bd.notSynchronized (fun fs hr => retOut X115 hx Bd.returns rfl (Or.inr (Or.inr (Or.inr (Or.inr ⟨rfl, rfl, rfl⟩)))) (dE 11 rfl) hr) (by decide) (by decide) ⟨_, rfl, N115, c117, sz_b102, _, _, A115, S115, M115, P115, c118⟩
def Q_tbZ (Z : State) (o : Nat → Addr) (kc : Nat → ClassId) (a1 : Addr) (h0 : Heap) (n0 : Nat) (v : Option Value) (h : Heap) (L : List Loc) : Prop := v = some (.ref (o 6)) ∧ Fr n0 L ∧ h = h0
theorem rm_tbZ (l : Launch) (Z : State) (a0 : Array Value) (hw : own_H a0 Z) (ws : List Jvm.Cond) (o : Nat → Addr) (kc : Nat → ClassId) (a1 : Addr) (h0 : Heap) (n0 : Nat) (Z0 : n0 ≤ h0.size) (O : Old Z n0 h0) (G : own_G Z o kc) (I1 : Fld Z h0 a1 "java/math/MutableBigInteger" "intLen" "I" (.int (0 : Int32))) : own_MP l Mn4 jdk_2101_method_9_code 2 (some (.object "java/math/BigInteger")) ws ({ frames := 0, cells := 0, slots := 0, locals := 0 } : Room) Z h0 #[(.ref a1), (.int (1 : Int32))] (fun _ _ _ _ _ => True) (Q_tbZ Z o kc a1 h0 n0) := by
  refine own_startP (plainFor_of_name own_pn_java_math_MutableBigInteger) fun p e s m below meth c s₁ Bd hx hby hml hown0 X0 e0 hh0 hZ hK Pst hPst => ?_
  have dE := own_E hby own_D41
  have hown : s.vm.findClass "java/math/MutableBigInteger" = some m.cls := hown0
  have hnm := (name_of_methodNamed Bd.named Bd.method).1
  have N0 := Fr.nil n0
  rw [own_ef_RI_2 m a1 (1 : Int32)]
  refine o_aloadN X0.here hx (dE 0 rfl) rfl rfl ?_
  refine p_getF X0 hx hZ hown (host := "") (Or.inl (g_ hw 187 rfl)) Via.refl e0 I1 rfl (dE 1 rfl) fun T101 X101 e101 => ?_
  refine o_ifYes X101.here hx (pc0 := 4) (pc' := 11) rfl (dE 2 rfl) rfl ((if0 _ _).trans (teq rfl).1) (by decide) (by decide) ?_
  refine p_getS2 X101 hx hZ hown (host := "") (Or.inl (g_ hw 236 rfl)) Via.refl e101 (G.2.2.2.2.2.2.2.2.2.2.2.2.2.1.ext O.2) (dE 12 rfl) fun T102 X102 e102 => ?_
  rw [hPst]
  exact own_retP X102 (v := (some (.ref (o 6)))) (Q := Q_tbZ Z o kc a1 h0 n0) (fun h => by rw [Bd.returns] at h; cases h) Bd.notSynchronized (fun fs hr => retOut X102 hx Bd.returns rfl (Or.inr (Or.inr (Or.inr (Or.inr ⟨rfl, rfl, rfl⟩)))) (dE 13 rfl) hr) (by decide) (by decide) (by rw [e102]; exact ⟨rfl, N0, rfl⟩)
theorem own_pd26 : parseMethodDescriptor "([I)V" = some ⟨[(.array .int)], none⟩ := by decide +kernel
theorem own_pd27 : parseMethodDescriptor "(Ljava/math/MutableBigInteger;Ljava/math/MutableBigInteger;)Ljava/math/MutableBigInteger;" = some ⟨[(.object "java/math/MutableBigInteger"), (.object "java/math/MutableBigInteger")], some (.object "java/math/MutableBigInteger")⟩ := by decide +kernel
theorem own_pd28 : parseMethodDescriptor "(I)Ljava/math/BigInteger;" = some ⟨[.int], some (.object "java/math/BigInteger")⟩ := by decide +kernel
theorem own_ef_RR_7 (m : MethodId) (x0 : Addr) (x1 : Addr) : entryFrame m #[(.ref x0), (.ref x1)] 7 = mkF m 0 #[.val (.ref x0), .val (.ref x1), .unset, .unset, .unset, .unset, .unset] [] := by first | (simp [entryFrame, mkF, argsToLocals, Value.category]; done) | rfl
def Q_rkA (Z : State) (s r v9 v2 : Int64) (q hi lo : Int32) (o : Nat → Addr) (kc : Nat → ClassId) (a1 t1 : Addr) (k1 : ClassId) (h0 : Heap) (n0 : Nat) (v : Option Value) (h : Heap) (L : List Loc) : Prop := ∃ b : Addr, v = some (.ref b) ∧ Fr n0 L ∧ Keep h0 h [] ∧ h0.size ≤ b ∧ ∃ (kb : ClassId) (x t : Addr) (k : ClassId), Arv Z h b kb (.object "java/math/BigInteger") (2 : Int32) [(.ref x), (.ref (o 6))] .null ∧ h0.size ≤ x ∧ Exa Z h x "java/math/BigInteger" ∧ Fld Z h x "java/math/BigInteger" "signum" "I" (.int (1 : Int32)) ∧ Fld Z h x "java/math/BigInteger" "mag" "[I" (.ref t) ∧ Fld Z h x "java/math/BigInteger" "bitLengthPlusOne" "I" (.int (0 : Int32)) ∧ Arv Z h t k .int (1 : Int32) [(.int q)] (.int 0)
theorem rm_rkA (l : Launch) (Z : State) (a0 : Array Value) (hw : own_H a0 Z) (ws : List Jvm.Cond) (s r v9 v2 : Int64) (q hi lo : Int32) (o : Nat → Addr) (kc : Nat → ClassId) (a1 t1 : Addr) (k1 : ClassId) (h0 : Heap) (n0 : Nat) (Z0 : n0 ≤ h0.size) (O : Old Z n0 h0) (G : own_G Z o kc) (hA : own_VA s r v9 v2 q hi lo) (E1 : Exa Z h0 a1 "java/math/BigInteger") (G1 : Fld Z h0 a1 "java/math/BigInteger" "signum" "I" (.int (1 : Int32))) (M1 : Fld Z h0 a1 "java/math/BigInteger" "mag" "[I" (.ref t1)) (A1 : Arv Z h0 t1 k1 .int (1 : Int32) [(.int lo)] (.int 0)) : own_MP l Mn13 jdk_2097_method_64_code 7 (some (.array (.object "java/math/BigInteger"))) ws ({ frames := 4, cells := 8, slots := 22, locals := 59 } : Room) Z h0 #[(.ref a1), (.ref (o 4))] (fun _ _ _ _ _ => True) (Q_rkA Z s r v9 v2 q hi lo o kc a1 t1 k1 h0 n0) := by
  refine own_startP (plainFor_of_name own_pn_java_math_BigInteger) fun p e s' m below meth c s₁ Bd hx hby hml hown0 X0 e0 hh0 hZ hK Pst hPst => ?_
  have dE := own_E hby own_D33
  have hown : s'.vm.findClass "java/math/BigInteger" = some m.cls := hown0
  have hnm := (name_of_methodNamed Bd.named Bd.method).1
  have N0 := Fr.nil n0
  rw [own_ef_RR_7 m a1 (o 4)]
  refine o_iconst X0.here hx (dE 0 rfl) (z := (2 : Int32)) rfl ?_
  refine p_newR X0 hx hZ hown (g_ hw 150 rfl) (g_ hw 174 rfl) e0 (dE 1 rfl) rfl (by decide) (cap := 2) (by decide) (by decide) (by decide) (by decide) fun T101 h101 k101 b101 g101 X101 e101 E101 A101 Ov101 => ?_
  have ne_t1_b101 : t1 ≠ b101 := Nat.ne_of_lt (Nat.lt_of_lt_of_le A1.lt (Nat.le_of_eq g101.symm))
  have ne_a1_b101 : a1 ≠ b101 := Nat.ne_of_lt (Nat.lt_of_lt_of_le E1.lt (Nat.le_of_eq g101.symm))
  have c102 := (G.2.2.2.2.2.2.2.2.2.1).ext O.2
  have ne__o_4__b101 : (o 4) ≠ b101 := Nat.ne_of_lt (Nat.lt_of_lt_of_le c102.lt (Nat.le_of_eq g101.symm))
  have c103 := (G.2.2.2.2.2.2.2.2.2.2.2.2.1).ext O.2
  have ne__o_5__b101 : (o 5) ≠ b101 := Nat.ne_of_lt (Nat.lt_of_lt_of_le c103.lt (Nat.le_of_eq g101.symm))
  have c104 := (G.2.2.2.2.2.2.2.2.2.2.2.2.2.2.1).ext O.2
  have ne__o_6__b101 : (o 6) ≠ b101 := Nat.ne_of_lt (Nat.lt_of_lt_of_le c104.lt (Nat.le_of_eq g101.symm))
  have gn_b101 : n0 ≤ b101 := Nat.le_trans Z0 (Nat.le_of_eq g101.symm)
  have sz_b101 : h0.size ≤ b101 := Nat.le_trans (Keep.refl h0 []).1 (Nat.le_of_eq g101.symm)
  have V101 : Arv Z h101 b101 k101 (.object "java/math/BigInteger") (2 : Int32) [.null, .null] .null := (Arv.new A101 (by decide)).pad (pad_rep [] .null 2)
  refine o_astoreN X101.here hx (dE 2 rfl) rfl rfl (l' := #[.val (.ref a1), .val (.ref (o 4)), .val (.ref b101), .unset, .unset, .unset, .unset]) rfl ?_
  have c106 := (Nat.le_trans Z0 E101.1)
  have c107 := ((Keep.refl h0 []).ext E101)
  refine p_newO X101 hx hZ hown (g_ hw 175 rfl) (g_ hw 176 rfl) (g_ hw 177 rfl) e101 (dE 3 rfl) (by decide) (by decide) fun T105 h105 b105 g105 X105 e105 E105 A105 D105 U105 => ?_
  have c108 := (A1.ext E101)
  have ne_t1_b105 : t1 ≠ b105 := Nat.ne_of_lt (Nat.lt_of_lt_of_le c108.lt (Nat.le_of_eq g105.symm))
  have c109 := (E1.ext E101)
  have ne_a1_b105 : a1 ≠ b105 := Nat.ne_of_lt (Nat.lt_of_lt_of_le c109.lt (Nat.le_of_eq g105.symm))
  have c111 := (O.ext E101)
  have c110 := (G.2.2.2.2.2.2.2.2.2.1).ext c111.2
  have ne__o_4__b105 : (o 4) ≠ b105 := Nat.ne_of_lt (Nat.lt_of_lt_of_le c110.lt (Nat.le_of_eq g105.symm))
  have c112 := (G.2.2.2.2.2.2.2.2.2.2.2.2.1).ext c111.2
  have ne__o_5__b105 : (o 5) ≠ b105 := Nat.ne_of_lt (Nat.lt_of_lt_of_le c112.lt (Nat.le_of_eq g105.symm))
  have c113 := (G.2.2.2.2.2.2.2.2.2.2.2.2.2.2.1).ext c111.2
  have ne__o_6__b105 : (o 6) ≠ b105 := Nat.ne_of_lt (Nat.lt_of_lt_of_le c113.lt (Nat.le_of_eq g105.symm))
  have ne_b101_b105 : b101 ≠ b105 := Nat.ne_of_lt (Nat.lt_of_lt_of_le V101.lt (Nat.le_of_eq g105.symm))
  have gn_b105 : n0 ≤ b105 := Nat.le_trans c106 (Nat.le_of_eq g105.symm)
  have sz_b105 : h0.size ≤ b105 := Nat.le_trans c107.1 (Nat.le_of_eq g105.symm)
  have f105_offset : Fld Z h105 b105 "java/math/MutableBigInteger" "offset" "I" (.int (0 : Int32)) := D105 (Or.inl (g_ hw 184 rfl)) (ty := .int) (by decide)
  have f105_value : Fld Z h105 b105 "java/math/MutableBigInteger" "value" "[I" .null := D105 (Or.inl (g_ hw 186 rfl)) (ty := (.array .int)) (by decide)
  have f105_intLen : Fld Z h105 b105 "java/math/MutableBigInteger" "intLen" "I" (.int (0 : Int32)) := D105 (Or.inl (g_ hw 188 rfl)) (ty := .int) (by decide)
  refine o_dup X105.here hx (dE 4 rfl) rfl rfl ?_
  have c115 := (Nat.le_trans c106 E105.1)
  refine own_cP X105 (X105.specialBack hx (y := Mn20) rfl hown (mvT hZ (g_ hw 178 rfl)) (mvT hZ (g_ hw 179 rfl)) (mvT hZ (g_ hw 181 rfl)) (by decide) (backOf (W := 1) (rm_m0 l Z a0 hw [] b105 (.int 0) .null (.int 0) h105 n0 c115 A105 gn_b105 f105_offset f105_value f105_intLen) hZ (g_ hw 181 rfl) (g_ hw 177 rfl) (by decide) (by decide)) (g := (mkF m 9 #[.val (.ref a1), .val (.ref (o 4)), .val (.ref b101), .unset, .unset, .unset, .unset] [(.ref b105), (.ref b105)])) rfl (by rw [hml]; rfl) (Steps.refl _) (a := b105) (argsL := []) (rest := [(.ref b105)]) (lenOf own_pd1 rfl) rfl (by show 2 * 0 + _ ≤ _; exact Nat.le_of_eq rfl) (dE 5 rfl) (fun _ _ => ⟨rfl, e105, (by decide : 2 + 1 ≤ _), (by decide : 5 + 1 ≤ _)⟩)) fun v114 T114 L114 X114 hQ114 => ?_
  obtain ⟨rfl, Nq114, K114, t114, k114, st_114, E114, O114, V114, I114, A114⟩ := hQ114
  have N114 := Fr.app N0 Nq114
  have c116 := (c108.ext E105)
  have ne_t1_t114 : t1 ≠ t114 := Nat.ne_of_lt (Nat.lt_of_lt_of_le c116.lt st_114)
  have c117 := (c109.ext E105)
  have ne_a1_t114 : a1 ≠ t114 := Nat.ne_of_lt (Nat.lt_of_lt_of_le c117.lt st_114)
  have c119 := (c111.ext E105)
  have c118 := (G.2.2.2.2.2.2.2.2.2.1).ext c119.2
  have ne__o_4__t114 : (o 4) ≠ t114 := Nat.ne_of_lt (Nat.lt_of_lt_of_le c118.lt st_114)
  have c120 := (G.2.2.2.2.2.2.2.2.2.2.2.2.1).ext c119.2
  have ne__o_5__t114 : (o 5) ≠ t114 := Nat.ne_of_lt (Nat.lt_of_lt_of_le c120.lt st_114)
  have c121 := (G.2.2.2.2.2.2.2.2.2.2.2.2.2.2.1).ext c119.2
  have ne__o_6__t114 : (o 6) ≠ t114 := Nat.ne_of_lt (Nat.lt_of_lt_of_le c121.lt st_114)
  have c122 := (V101.ext E105)
  have ne_b101_t114 : b101 ≠ t114 := Nat.ne_of_lt (Nat.lt_of_lt_of_le c122.lt st_114)
  have ne_b105_t114 : b105 ≠ t114 := Nat.ne_of_lt (Nat.lt_of_lt_of_le A105.lt st_114)
  have gn_t114 : n0 ≤ t114 := Nat.le_trans c115 st_114
  have c123 := (c107.ext E105)
  have sz_t114 : h0.size ≤ t114 := Nat.le_trans c123.1 st_114
  show own_Go p e below Pst (T114.setTop (mkF m 12 #[.val (.ref a1), .val (.ref (o 4)), .val (.ref b101), .unset, .unset, .unset, .unset] [(.ref b105)]))
  refine o_astoreN X114.here hx (dE 6 rfl) rfl rfl (l' := #[.val (.ref a1), .val (.ref (o 4)), .val (.ref b101), .val (.ref b105), .unset, .unset, .unset]) rfl ?_
  have c125 := (Nat.le_trans c115 K114.1)
  have c126 := (Keep.trans c123 K114 (allS (Or.inr sz_b105) all0))
  refine p_newO X114 hx hZ hown (g_ hw 175 rfl) (g_ hw 176 rfl) (g_ hw 177 rfl) rfl (dE 7 rfl) (by decide) (by decide) fun T124 h124 b124 g124 X124 e124 E124 A124 D124 U124 => ?_
  have c127 := (c116.keep K114 (ninS ne_t1_b105 nin0))
  have ne_t1_b124 : t1 ≠ b124 := Nat.ne_of_lt (Nat.lt_of_lt_of_le c127.lt (Nat.le_of_eq g124.symm))
  have c128 := (c117.keep K114)
  have ne_a1_b124 : a1 ≠ b124 := Nat.ne_of_lt (Nat.lt_of_lt_of_le c128.lt (Nat.le_of_eq g124.symm))
  have c130 := (c119.keep K114 (allS gn_b105 all0))
  have c129 := (G.2.2.2.2.2.2.2.2.2.1).ext c130.2
  have ne__o_4__b124 : (o 4) ≠ b124 := Nat.ne_of_lt (Nat.lt_of_lt_of_le c129.lt (Nat.le_of_eq g124.symm))
  have c131 := (G.2.2.2.2.2.2.2.2.2.2.2.2.1).ext c130.2
  have ne__o_5__b124 : (o 5) ≠ b124 := Nat.ne_of_lt (Nat.lt_of_lt_of_le c131.lt (Nat.le_of_eq g124.symm))
  have c132 := (G.2.2.2.2.2.2.2.2.2.2.2.2.2.2.1).ext c130.2
  have ne__o_6__b124 : (o 6) ≠ b124 := Nat.ne_of_lt (Nat.lt_of_lt_of_le c132.lt (Nat.le_of_eq g124.symm))
  have c133 := (c122.keep K114 (ninS ne_b101_b105 nin0))
  have ne_b101_b124 : b101 ≠ b124 := Nat.ne_of_lt (Nat.lt_of_lt_of_le c133.lt (Nat.le_of_eq g124.symm))
  have ne_b105_b124 : b105 ≠ b124 := Nat.ne_of_lt (Nat.lt_of_lt_of_le E114.lt (Nat.le_of_eq g124.symm))
  have ne_t114_b124 : t114 ≠ b124 := Nat.ne_of_lt (Nat.lt_of_lt_of_le A114.lt (Nat.le_of_eq g124.symm))
  have gn_b124 : n0 ≤ b124 := Nat.le_trans c125 (Nat.le_of_eq g124.symm)
  have sz_b124 : h0.size ≤ b124 := Nat.le_trans c126.1 (Nat.le_of_eq g124.symm)
  have f124_offset : Fld Z h124 b124 "java/math/MutableBigInteger" "offset" "I" (.int (0 : Int32)) := D124 (Or.inl (g_ hw 184 rfl)) (ty := .int) (by decide)
  have f124_value : Fld Z h124 b124 "java/math/MutableBigInteger" "value" "[I" .null := D124 (Or.inl (g_ hw 186 rfl)) (ty := (.array .int)) (by decide)
  have f124_intLen : Fld Z h124 b124 "java/math/MutableBigInteger" "intLen" "I" (.int (0 : Int32)) := D124 (Or.inl (g_ hw 188 rfl)) (ty := .int) (by decide)
  refine o_dup X124.here hx (dE 8 rfl) rfl rfl ?_
  refine o_aloadN X124.here hx (dE 9 rfl) rfl rfl ?_
  have c134 := ((((M1.ext E101).ext E105).keep K114 (ninS ne_a1_b105 nin0)).ext E124)
  refine p_getF X124 hx hZ hown (host := "") (Or.inl (g_ hw 161 rfl)) Via.refl e124 c134 rfl (dE 10 rfl) fun T135 X135 e135 => ?_
  have c136 := (c127.ext E124)
  have c138 := (Nat.le_trans c125 E124.1)
  refine own_cP X135 (X135.specialBack hx (y := Mn21) rfl hown (mvT hZ (g_ hw 189 rfl)) (mvT hZ (g_ hw 190 rfl)) (mvT hZ (g_ hw 191 rfl)) (by decide) (backOf (W := 1) (rm_m1 l Z a0 hw [] b124 t1 k1 (1 : Int32) [(.int lo)] (.int 0) .null (.int 0) h124 n0 c138 A124 gn_b124 f124_offset f124_value f124_intLen c136) hZ (g_ hw 191 rfl) (g_ hw 177 rfl) (by decide) (by decide)) (g := (mkF m 21 #[.val (.ref a1), .val (.ref (o 4)), .val (.ref b101), .val (.ref b105), .unset, .unset, .unset] [(.ref t1), (.ref b124), (.ref b124)])) rfl (by rw [hml]; rfl) (Steps.refl _) (a := b124) (argsL := [(.ref t1)]) (rest := [(.ref b124)]) (lenOf own_pd26 rfl) rfl (by show 2 * 0 + _ ≤ _; exact Nat.le_of_eq rfl) (dE 11 rfl) (fun _ _ => ⟨rfl, e135, (by decide : 4 + 0 ≤ _), (by decide : 9 + 0 ≤ _)⟩)) fun v137 T137 L137 X137 hQ137 => ?_
  obtain ⟨rfl, Nq137, K137, E137, O137, V137, I137⟩ := hQ137
  have N137 := Fr.app N114 Nq137
  show own_Go p e below Pst (T137.setTop (mkF m 24 #[.val (.ref a1), .val (.ref (o 4)), .val (.ref b101), .val (.ref b105), .unset, .unset, .unset] [(.ref b124)]))
  refine o_astore X137.here hx (dE 12 rfl) rfl rfl (l' := #[.val (.ref a1), .val (.ref (o 4)), .val (.ref b101), .val (.ref b105), .val (.ref b124), .unset, .unset]) rfl ?_
  have c140 := (Nat.le_trans c138 K137.1)
  have c141 := (Keep.trans (c126.ext E124) K137 (allS (Or.inr sz_b124) all0))
  refine p_newO X137 hx hZ hown (g_ hw 175 rfl) (g_ hw 176 rfl) (g_ hw 177 rfl) rfl (dE 13 rfl) (by decide) (by decide) fun T139 h139 b139 g139 X139 e139 E139 A139 D139 U139 => ?_
  have c142 := (c136.keep K137 (ninS ne_t1_b124 nin0))
  have ne_t1_b139 : t1 ≠ b139 := Nat.ne_of_lt (Nat.lt_of_lt_of_le c142.lt (Nat.le_of_eq g139.symm))
  have c143 := ((c128.ext E124).keep K137)
  have ne_a1_b139 : a1 ≠ b139 := Nat.ne_of_lt (Nat.lt_of_lt_of_le c143.lt (Nat.le_of_eq g139.symm))
  have c145 := ((c130.ext E124).keep K137 (allS gn_b124 all0))
  have c144 := (G.2.2.2.2.2.2.2.2.2.1).ext c145.2
  have ne__o_4__b139 : (o 4) ≠ b139 := Nat.ne_of_lt (Nat.lt_of_lt_of_le c144.lt (Nat.le_of_eq g139.symm))
  have c146 := (G.2.2.2.2.2.2.2.2.2.2.2.2.1).ext c145.2
  have ne__o_5__b139 : (o 5) ≠ b139 := Nat.ne_of_lt (Nat.lt_of_lt_of_le c146.lt (Nat.le_of_eq g139.symm))
  have c147 := (G.2.2.2.2.2.2.2.2.2.2.2.2.2.2.1).ext c145.2
  have ne__o_6__b139 : (o 6) ≠ b139 := Nat.ne_of_lt (Nat.lt_of_lt_of_le c147.lt (Nat.le_of_eq g139.symm))
  have c148 := ((c133.ext E124).keep K137 (ninS ne_b101_b124 nin0))
  have ne_b101_b139 : b101 ≠ b139 := Nat.ne_of_lt (Nat.lt_of_lt_of_le c148.lt (Nat.le_of_eq g139.symm))
  have c149 := ((E114.ext E124).keep K137)
  have ne_b105_b139 : b105 ≠ b139 := Nat.ne_of_lt (Nat.lt_of_lt_of_le c149.lt (Nat.le_of_eq g139.symm))
  have c150 := ((A114.ext E124).keep K137 (ninS ne_t114_b124 nin0))
  have ne_t114_b139 : t114 ≠ b139 := Nat.ne_of_lt (Nat.lt_of_lt_of_le c150.lt (Nat.le_of_eq g139.symm))
  have ne_b124_b139 : b124 ≠ b139 := Nat.ne_of_lt (Nat.lt_of_lt_of_le E137.lt (Nat.le_of_eq g139.symm))
  have gn_b139 : n0 ≤ b139 := Nat.le_trans c140 (Nat.le_of_eq g139.symm)
  have sz_b139 : h0.size ≤ b139 := Nat.le_trans c141.1 (Nat.le_of_eq g139.symm)
  have f139_offset : Fld Z h139 b139 "java/math/MutableBigInteger" "offset" "I" (.int (0 : Int32)) := D139 (Or.inl (g_ hw 184 rfl)) (ty := .int) (by decide)
  have f139_value : Fld Z h139 b139 "java/math/MutableBigInteger" "value" "[I" .null := D139 (Or.inl (g_ hw 186 rfl)) (ty := (.array .int)) (by decide)
  have f139_intLen : Fld Z h139 b139 "java/math/MutableBigInteger" "intLen" "I" (.int (0 : Int32)) := D139 (Or.inl (g_ hw 188 rfl)) (ty := .int) (by decide)
  refine o_dup X139.here hx (dE 14 rfl) rfl rfl ?_
  refine o_aloadN X139.here hx (dE 15 rfl) rfl rfl ?_
  have c152 := (c145.ext E139)
  have c151 := (G.2.2.2.2.2.2.2.2.2.2.2.1).ext c152.2
  refine p_getF X139 hx hZ hown (host := "") (Or.inl (g_ hw 161 rfl)) Via.refl e139 c151 rfl (dE 16 rfl) fun T153 X153 e153 => ?_
  have c154 := (G.2.2.2.2.2.2.2.2.2.2.2.2.1).ext c152.2
  have c156 := (Nat.le_trans c140 E139.1)
  refine own_cP X153 (X153.specialBack hx (y := Mn21) rfl hown (mvT hZ (g_ hw 189 rfl)) (mvT hZ (g_ hw 190 rfl)) (mvT hZ (g_ hw 191 rfl)) (by decide) (backOf (W := 1) (rm_m1 l Z a0 hw [] b139 (o 5) (kc 5) (1 : Int32) [(.int 1000000000)] (.int 0) .null (.int 0) h139 n0 c156 A139 gn_b139 f139_offset f139_value f139_intLen c154) hZ (g_ hw 191 rfl) (g_ hw 177 rfl) (by decide) (by decide)) (g := (mkF m 34 #[.val (.ref a1), .val (.ref (o 4)), .val (.ref b101), .val (.ref b105), .val (.ref b124), .unset, .unset] [(.ref (o 5)), (.ref b139), (.ref b139)])) rfl (by rw [hml]; rfl) (Steps.refl _) (a := b139) (argsL := [(.ref (o 5))]) (rest := [(.ref b139)]) (lenOf own_pd26 rfl) rfl (by show 2 * 0 + _ ≤ _; exact Nat.le_of_eq rfl) (dE 17 rfl) (fun _ _ => ⟨rfl, e153, (by decide : 5 + 0 ≤ _), (by decide : 12 + 0 ≤ _)⟩)) fun v155 T155 L155 X155 hQ155 => ?_
  obtain ⟨rfl, Nq155, K155, E155, O155, V155, I155⟩ := hQ155
  have N155 := Fr.app N137 Nq155
  show own_Go p e below Pst (T155.setTop (mkF m 37 #[.val (.ref a1), .val (.ref (o 4)), .val (.ref b101), .val (.ref b105), .val (.ref b124), .unset, .unset] [(.ref b139)]))
  refine o_astore X155.here hx (dE 18 rfl) rfl rfl (l' := #[.val (.ref a1), .val (.ref (o 4)), .val (.ref b101), .val (.ref b105), .val (.ref b124), .val (.ref b139), .unset]) rfl ?_
  refine o_aload X155.here hx (dE 19 rfl) rfl rfl ?_
  refine o_aload X155.here hx (dE 20 rfl) rfl rfl ?_
  refine o_aloadN X155.here hx (dE 21 rfl) rfl rfl ?_
  have c157 := ((E137.ext E139).keep K155)
  have c158 := ((O137.ext E139).keep K155 (ninS ne_b124_b139 nin0))
  have c159 := ((V137.ext E139).keep K155 (ninS ne_b124_b139 nin0))
  have c160 := ((I137.ext E139).keep K155 (ninS ne_b124_b139 nin0))
  have c161 := ((c149.ext E139).keep K155)
  have c162 := ((((O114.ext E124).keep K137 (ninS ne_b105_b124 nin0)).ext E139).keep K155 (ninS ne_b105_b139 nin0))
  have c163 := ((((V114.ext E124).keep K137 (ninS ne_b105_b124 nin0)).ext E139).keep K155 (ninS ne_b105_b139 nin0))
  have c164 := ((((I114.ext E124).keep K137 (ninS ne_b105_b124 nin0)).ext E139).keep K155 (ninS ne_b105_b139 nin0))
  have c165 := ((c142.ext E139).keep K155 (ninS ne_t1_b139 nin0))
  have c167 := (c152.keep K155 (allS gn_b139 all0))
  have c166 := (G.2.2.2.2.2.2.2.2.2.2.2.2.1).ext c167.2
  have c168 := ((c150.ext E139).keep K155 (ninS ne_t114_b139 nin0))
  have c170 := (Nat.le_trans c156 K155.1)
  obtain ⟨cq169, kq169, q169a, q169b, q169c⟩ := isOf hZ rfl c157
  refine own_cP X155 (X155.virtualBack hx (y := Mn11) (z := Mn11) hown (mvT hZ (g_ hw 192 rfl)) (mvT hZ (g_ hw 193 rfl)) (notFace_of_selects (args := #[]) (mvT hZ (g_ hw 195 rfl))) (mvT hZ (g_ hw 195 rfl)) (mvT hZ (g_ hw 194 rfl)) (by decide) (backOf (W := 0) (rm_djA l Z a0 hw [] s r v9 v2 q hi lo b124 b139 b105 t1 (o 5) t114 k1 (kc 5) k114 T155.heap n0 c170 hA c157 c158 c159 c160 E155 O155 V155 I155 c161 c162 c163 c164 c165 c166 c168 gn_b105 gn_t114 (Ne.symm ne_b105_b124) (Ne.symm ne_b105_b139) ne_t1_t114 ne__o_5__t114) hZ (g_ hw 196 rfl) (g_ hw 177 rfl) (by decide) (by decide)) q169a q169c (g := (mkF m 44 #[.val (.ref a1), .val (.ref (o 4)), .val (.ref b101), .val (.ref b105), .val (.ref b124), .val (.ref b139), .unset] [(.ref b105), (.ref b139), (.ref b124)])) rfl (by rw [hml]; rfl) (Steps.refl _) (argsL := [(.ref b139), (.ref b105)]) (rest := []) (lenOf own_pd27 rfl) rfl (by show 2 * 0 + _ ≤ _; exact Nat.le_of_eq rfl) (dE 22 rfl) (fun _ _ => ⟨rfl, rfl, (by decide : 5 + 2 ≤ _), (by decide : 12 + 4 ≤ _)⟩)) fun v169 T169 L169 X169 hQ169 => ?_
  obtain ⟨x169, rfl, Nq169, K169, sx169, B169, J169, E169, O169, V169, I169, A169⟩ := hQ169
  have N169 := Fr.app N155 Nq169
  have ne_t1_x169 : t1 ≠ x169 := Nat.ne_of_lt (Nat.lt_of_lt_of_le c165.lt sx169)
  have c171 := ((c143.ext E139).keep K155)
  have ne_a1_x169 : a1 ≠ x169 := Nat.ne_of_lt (Nat.lt_of_lt_of_le c171.lt sx169)
  have c172 := (G.2.2.2.2.2.2.2.2.2.1).ext c167.2
  have ne__o_4__x169 : (o 4) ≠ x169 := Nat.ne_of_lt (Nat.lt_of_lt_of_le c172.lt sx169)
  have c173 := (G.2.2.2.2.2.2.2.2.2.2.2.2.1).ext c167.2
  have ne__o_5__x169 : (o 5) ≠ x169 := Nat.ne_of_lt (Nat.lt_of_lt_of_le c173.lt sx169)
  have c174 := (G.2.2.2.2.2.2.2.2.2.2.2.2.2.2.1).ext c167.2
  have ne__o_6__x169 : (o 6) ≠ x169 := Nat.ne_of_lt (Nat.lt_of_lt_of_le c174.lt sx169)
  have c175 := ((c148.ext E139).keep K155 (ninS ne_b101_b139 nin0))
  have ne_b101_x169 : b101 ≠ x169 := Nat.ne_of_lt (Nat.lt_of_lt_of_le c175.lt sx169)
  have ne_b105_x169 : b105 ≠ x169 := Nat.ne_of_lt (Nat.lt_of_lt_of_le c161.lt sx169)
  have ne_t114_x169 : t114 ≠ x169 := Nat.ne_of_lt (Nat.lt_of_lt_of_le c168.lt sx169)
  have ne_b124_x169 : b124 ≠ x169 := Nat.ne_of_lt (Nat.lt_of_lt_of_le c157.lt sx169)
  have ne_b139_x169 : b139 ≠ x169 := Nat.ne_of_lt (Nat.lt_of_lt_of_le E155.lt sx169)
  have gn_x169 : n0 ≤ x169 := Nat.le_trans c170 sx169
  have c176 := (Keep.trans (c141.ext E139) K155 (allS (Or.inr sz_b139) all0))
  have sz_x169 : h0.size ≤ x169 := Nat.le_trans c176.1 sx169
  show own_Go p e below Pst (T169.setTop (mkF m 47 #[.val (.ref a1), .val (.ref (o 4)), .val (.ref b101), .val (.ref b105), .val (.ref b124), .val (.ref b139), .unset] [(.ref x169)]))
  refine o_astore X169.here hx (dE 23 rfl) rfl rfl (l' := #[.val (.ref a1), .val (.ref (o 4)), .val (.ref b101), .val (.ref b105), .val (.ref b124), .val (.ref b139), .val (.ref x169)]) rfl ?_
  refine o_aloadN X169.here hx (dE 24 rfl) rfl rfl ?_
  refine o_iconst X169.here hx (dE 25 rfl) (z := (0 : Int32)) rfl ?_
  refine o_aloadN X169.here hx (dE 26 rfl) rfl rfl ?_
  refine o_aloadN X169.here hx (dE 27 rfl) rfl rfl ?_
  have c177 := ((((((((G1.ext E101).ext E105).keep K114 (ninS ne_a1_b105 nin0)).ext E124).keep K137 (ninS ne_a1_b124 nin0)).ext E139).keep K155 (ninS ne_a1_b139 nin0)).keep K169 (ninS ne_a1_b105 (ninS ne_a1_t114 nin0)))
  refine p_getF X169 hx hZ hown (host := "") (Or.inl (g_ hw 158 rfl)) Via.refl rfl c177 rfl (dE 28 rfl) fun T178 X178 e178 => ?_
  refine o_aloadN X178.here hx (dE 29 rfl) rfl rfl ?_
  have c180 := (c167.keep K169 (allS gn_b105 (allS gn_t114 all0)))
  have c179 := (G.2.2.2.2.2.2.2.2.2.2.1).ext c180.2
  refine p_getF X178 hx hZ hown (host := "") (Or.inl (g_ hw 158 rfl)) Via.refl e178 c179 rfl (dE 30 rfl) fun T181 X181 e181 => ?_
  refine o_icmpNo X181.here hx (dE 31 rfl) rfl (teq rfl).2 ?_
  refine o_iconst X181.here hx (dE 32 rfl) (z := (1 : Int32)) rfl ?_
  refine o_goto X181.here hx (pc0 := 64) (pc' := 68) rfl (dE 33 rfl) (by decide) (by decide) ?_
  have c183 := (Nat.le_trans c170 K169.1)
  obtain ⟨cq182, kq182, q182a, q182b, q182c⟩ := isOf hZ e181 E169
  refine own_cP X181 (X181.virtualBack hx (y := Mn4) (z := Mn4) hown (mvT hZ (g_ hw 221 rfl)) (mvT hZ (g_ hw 222 rfl)) (notFace_of_selects (args := #[]) (mvT hZ (g_ hw 224 rfl))) (mvT hZ (g_ hw 224 rfl)) (mvT hZ (g_ hw 223 rfl)) (by decide) (backOf (W := 2) (rm_tbA l Z a0 hw [] q b105 t114 k114 T169.heap n0 c183 E169 O169 V169 I169 A169) hZ (g_ hw 225 rfl) (g_ hw 177 rfl) (by decide) (by decide)) q182a q182c (g := (mkF m 68 #[.val (.ref a1), .val (.ref (o 4)), .val (.ref b101), .val (.ref b105), .val (.ref b124), .val (.ref b139), .val (.ref x169)] [(.int (1 : Int32)), (.ref b105), (.int (0 : Int32)), (.ref b101)])) rfl (by rw [hml]; rfl) (Steps.refl _) (argsL := [(.int (1 : Int32))]) (rest := [(.int (0 : Int32)), (.ref b101)]) (lenOf own_pd28 rfl) rfl (by show 2 * 0 + _ ≤ _; exact Nat.le_of_eq rfl) (dE 34 rfl) (fun _ _ => ⟨rfl, e181, (by decide : 7 + 1 ≤ _), (by decide : 16 + 6 ≤ _)⟩)) fun v182 T182 L182 X182 hQ182 => ?_
  obtain ⟨x182, rfl, Nq182, K182, sx182, t182, k182, A182, S182, M182, P182, V182⟩ := hQ182
  have N182 := Fr.app N169 Nq182
  have c184 := (c165.keep K169 (ninS ne_t1_b105 (ninS ne_t1_t114 nin0)))
  have ne_t1_x182 : t1 ≠ x182 := Nat.ne_of_lt (Nat.lt_of_lt_of_le c184.lt sx182)
  have c185 := (c171.keep K169)
  have ne_a1_x182 : a1 ≠ x182 := Nat.ne_of_lt (Nat.lt_of_lt_of_le c185.lt sx182)
  have c186 := (G.2.2.2.2.2.2.2.2.2.1).ext c180.2
  have ne__o_4__x182 : (o 4) ≠ x182 := Nat.ne_of_lt (Nat.lt_of_lt_of_le c186.lt sx182)
  have c187 := (G.2.2.2.2.2.2.2.2.2.2.2.2.1).ext c180.2
  have ne__o_5__x182 : (o 5) ≠ x182 := Nat.ne_of_lt (Nat.lt_of_lt_of_le c187.lt sx182)
  have c188 := (G.2.2.2.2.2.2.2.2.2.2.2.2.2.2.1).ext c180.2
  have ne__o_6__x182 : (o 6) ≠ x182 := Nat.ne_of_lt (Nat.lt_of_lt_of_le c188.lt sx182)
  have c189 := (c175.keep K169 (ninS ne_b101_b105 (ninS ne_b101_t114 nin0)))
  have ne_b101_x182 : b101 ≠ x182 := Nat.ne_of_lt (Nat.lt_of_lt_of_le c189.lt sx182)
  have ne_b105_x182 : b105 ≠ x182 := Nat.ne_of_lt (Nat.lt_of_lt_of_le E169.lt sx182)
  have ne_t114_x182 : t114 ≠ x182 := Nat.ne_of_lt (Nat.lt_of_lt_of_le A169.lt sx182)
  have c190 := (c157.keep K169)
  have ne_b124_x182 : b124 ≠ x182 := Nat.ne_of_lt (Nat.lt_of_lt_of_le c190.lt sx182)
  have c191 := (E155.keep K169)
  have ne_b139_x182 : b139 ≠ x182 := Nat.ne_of_lt (Nat.lt_of_lt_of_le c191.lt sx182)
  have ne_x169_x182 : x169 ≠ x182 := Nat.ne_of_lt (Nat.lt_of_lt_of_le B169.lt sx182)
  have gn_x182 : n0 ≤ x182 := Nat.le_trans c183 sx182
  have c192 := (Keep.trans c176 K169 (allS (Or.inr sz_b105) (allS (Or.inr sz_t114) all0)))
  have sz_x182 : h0.size ≤ x182 := Nat.le_trans c192.1 sx182
  show own_Go p e below Pst (T182.setTop (mkF m 71 #[.val (.ref a1), .val (.ref (o 4)), .val (.ref b101), .val (.ref b105), .val (.ref b124), .val (.ref b139), .val (.ref x169)] [(.ref x182), (.int (0 : Int32)), (.ref b101)]))
  have c193 := (c189.keep K182 nin0)
  have nb_t182 : t182 ≠ b101 := own_arv_ty V182 c193
  obtain ⟨cl194, Ar194, q194, S194, P194, H194, G194⟩ := id c193
  refine p_stR X182 hx hZ rfl Ar194 (j := (0 : Int32)) (inb_of S194 ⟨by decide, by decide⟩) rfl (Sto.ofV Ar194 q194 Ov101 (Ins.self A182)) rfl (dE 35 rfl) fun T194 h194 X194 e194 W194 => ?_
  have V194 := Arv.set Ar194 q194 S194 P194 H194 G194 rfl W194 0 rfl (Nat.le_of_ble_eq_true rfl)
  have N194 := Fr.snoc X194 N182 gn_b101
  refine o_aloadN X194.here hx (dE 36 rfl) rfl rfl ?_
  refine o_iconst X194.here hx (dE 37 rfl) (z := (1 : Int32)) rfl ?_
  refine o_aload X194.here hx (dE 38 rfl) rfl rfl ?_
  refine o_aloadN X194.here hx (dE 39 rfl) rfl rfl ?_
  have c195 := ((c177.keep K182 nin0).other W194 (Or.inl ne_a1_b101))
  refine p_getF X194 hx hZ hown (host := "") (Or.inl (g_ hw 158 rfl)) Via.refl e194 c195 rfl (dE 40 rfl) fun T196 X196 e196 => ?_
  have c197 := ((c180.keep K182 all0).wr W194 gn_b101)
  have c198 := ((J169.keep K182 nin0).other W194 (Or.inl (Ne.symm ne_b101_x169)))
  have c200 := (Nat.le_trans (Nat.le_trans c183 K182.1) (Keep.of_wr W194).1)
  have c201 := ((B169.keep K182).wr W194)
  obtain ⟨cq199, kq199, q199a, q199b, q199c⟩ := isOf hZ e196 c201
  refine own_cP X196 (X196.virtualBack hx (y := Mn4) (z := Mn4) hown (mvT hZ (g_ hw 221 rfl)) (mvT hZ (g_ hw 222 rfl)) (notFace_of_selects (args := #[]) (mvT hZ (g_ hw 224 rfl))) (mvT hZ (g_ hw 224 rfl)) (mvT hZ (g_ hw 223 rfl)) (by decide) (backOf (W := 2) (rm_tbZ l Z a0 hw [] o kc x169 h194 n0 c200 c197 G c198) hZ (g_ hw 225 rfl) (g_ hw 177 rfl) (by decide) (by decide)) q199a q199c (g := (mkF m 80 #[.val (.ref a1), .val (.ref (o 4)), .val (.ref b101), .val (.ref b105), .val (.ref b124), .val (.ref b139), .val (.ref x169)] [(.int (1 : Int32)), (.ref x169), (.int (1 : Int32)), (.ref b101)])) rfl (by rw [hml]; rfl) (Steps.refl _) (argsL := [(.int (1 : Int32))]) (rest := [(.int (1 : Int32)), (.ref b101)]) (lenOf own_pd28 rfl) rfl (by show 2 * 0 + _ ≤ _; exact Nat.le_of_eq rfl) (dE 41 rfl) (fun _ _ => ⟨rfl, e196, (by decide : 8 + 0 ≤ _), (by decide : 22 + 0 ≤ _)⟩)) fun v199 T199 L199 X199 hQ199 => ?_
  obtain ⟨rfl, Nq199, e199⟩ := hQ199
  have N199 := Fr.app N194 Nq199
  show own_Go p e below Pst (T199.setTop (mkF m 83 #[.val (.ref a1), .val (.ref (o 4)), .val (.ref b101), .val (.ref b105), .val (.ref b124), .val (.ref b139), .val (.ref x169)] [(.ref (o 6)), (.int (1 : Int32)), (.ref b101)]))
  have c203 := (G.2.2.2.2.2.2.2.2.2.2.2.2.2.2.1).ext c197.2
  obtain ⟨cl202, Ar202, q202, S202, P202, H202, G202⟩ := id V194
  refine p_stR X199 hx hZ e199 Ar202 (j := (1 : Int32)) (inb_of S202 ⟨by decide, by decide⟩) rfl (Sto.ofV Ar202 q202 Ov101 (Ins.self c203)) rfl (dE 42 rfl) fun T202 h202 X202 e202 W202 => ?_
  have V202 := Arv.set Ar202 q202 S202 P202 H202 G202 rfl W202 1 rfl (Nat.le_of_ble_eq_true rfl)
  have N202 := Fr.snoc X202 N199 gn_b101
  refine o_aloadN X202.here hx (dE 43 rfl) rfl rfl ?_
  have c204 := (((Keep.trans c192 K182 all0).wr W194 (Or.inr sz_b101)).wr W202 (Or.inr sz_b101))
  have c205 := ((A182.wr W194).wr W202)
  have c206 := ((S182.other W194 (Or.inl (Ne.symm ne_b101_x182))).other W202 (Or.inl (Ne.symm ne_b101_x182)))
  have c207 := ((M182.other W194 (Or.inl (Ne.symm ne_b101_x182))).other W202 (Or.inl (Ne.symm ne_b101_x182)))
  have c208 := ((P182.other W194 (Or.inl (Ne.symm ne_b101_x182))).other W202 (Or.inl (Ne.symm ne_b101_x182)))
  have c209 := ((V182.other W194 nb_t182).other W202 nb_t182)
  rw [hPst]
  exact own_retP X202 (v := (some (.ref b101))) (Q := Q_rkA Z s r v9 v2 q hi lo o kc a1 t1 k1 h0 n0) (fun h => by rw [Bd.returns] at h; cases h) Bd.notSynchronized (fun fs hr => retOut X202 hx Bd.returns rfl (Or.inr (Or.inr (Or.inr (Or.inr ⟨rfl, rfl, rfl⟩)))) (dE 44 rfl) hr) (by decide) (by decide) (by rw [e202]; exact ⟨_, rfl, N202, c204, sz_b101, _, _, _, _, V202, sz_x182, c205, c206, c207, c208, c209⟩)
theorem own_pd29 : parseMethodDescriptor "(Ljava/math/BigInteger;)[Ljava/math/BigInteger;" = some ⟨[(.object "java/math/BigInteger")], some (.array (.object "java/math/BigInteger"))⟩ := by decide +kernel
def Q_drA (Z : State) (s r v9 v2 : Int64) (q hi lo : Int32) (o : Nat → Addr) (kc : Nat → ClassId) (a1 t1 : Addr) (k1 : ClassId) (h0 : Heap) (n0 : Nat) (v : Option Value) (h : Heap) (L : List Loc) : Prop := ∃ b : Addr, v = some (.ref b) ∧ Fr n0 L ∧ Keep h0 h [] ∧ h0.size ≤ b ∧ ∃ (kb : ClassId) (x t : Addr) (k : ClassId), Arv Z h b kb (.object "java/math/BigInteger") (2 : Int32) [(.ref x), (.ref (o 6))] .null ∧ h0.size ≤ x ∧ Exa Z h x "java/math/BigInteger" ∧ Fld Z h x "java/math/BigInteger" "signum" "I" (.int (1 : Int32)) ∧ Fld Z h x "java/math/BigInteger" "mag" "[I" (.ref t) ∧ Fld Z h x "java/math/BigInteger" "bitLengthPlusOne" "I" (.int (0 : Int32)) ∧ Arv Z h t k .int (1 : Int32) [(.int q)] (.int 0)
theorem rm_drA (l : Launch) (Z : State) (a0 : Array Value) (hw : own_H a0 Z) (ws : List Jvm.Cond) (s r v9 v2 : Int64) (q hi lo : Int32) (o : Nat → Addr) (kc : Nat → ClassId) (a1 t1 : Addr) (k1 : ClassId) (h0 : Heap) (n0 : Nat) (Z0 : n0 ≤ h0.size) (O : Old Z n0 h0) (G : own_G Z o kc) (hA : own_VA s r v9 v2 q hi lo) (E1 : Exa Z h0 a1 "java/math/BigInteger") (G1 : Fld Z h0 a1 "java/math/BigInteger" "signum" "I" (.int (1 : Int32))) (M1 : Fld Z h0 a1 "java/math/BigInteger" "mag" "[I" (.ref t1)) (A1 : Arv Z h0 t1 k1 .int (1 : Int32) [(.int lo)] (.int 0)) : own_MP l Mn14 jdk_2097_method_63_code 2 (some (.array (.object "java/math/BigInteger"))) ws ({ frames := 5, cells := 8, slots := 22, locals := 77 } : Room) Z h0 #[(.ref a1), (.ref (o 4))] (fun _ _ _ _ _ => True) (Q_drA Z s r v9 v2 q hi lo o kc a1 t1 k1 h0 n0) := by
  refine own_startP (plainFor_of_name own_pn_java_math_BigInteger) fun p e s' m below meth c s₁ Bd hx hby hml hown0 X0 e0 hh0 hZ hK Pst hPst => ?_
  have dE := own_E hby own_D32
  have hown : s'.vm.findClass "java/math/BigInteger" = some m.cls := hown0
  have hnm := (name_of_methodNamed Bd.named Bd.method).1
  have N0 := Fr.nil n0
  rw [own_ef_RR_2 m a1 (o 4)]
  refine o_aloadN X0.here hx (dE 0 rfl) rfl rfl ?_
  have c101 := (G.2.2.2.2.2.2.2.2.2.2.2.1).ext O.2
  refine p_getF X0 hx hZ hown (host := "") (Or.inl (g_ hw 161 rfl)) Via.refl e0 c101 rfl (dE 1 rfl) fun T102 X102 e102 => ?_
  have c103 := (G.2.2.2.2.2.2.2.2.2.2.2.2.1).ext O.2
  obtain ⟨cl104, Ar104, -, S104, P104, -, -⟩ := id c103
  refine own_Go.of (S' := T102.setTop (mkF m 5 #[.val (.ref a1), .val (.ref (o 4))] [(.int (1 : Int32))])) (fun tgt kst => X102.arraylength hx (by rw [e102]; exact Ar104.1) (State.isArrayOf_alike hZ.alike Ar104.2.1) (g := (mkF m 4 #[.val (.ref a1), .val (.ref (o 4))] [(.ref (o 5))])) rfl rfl (dE 2 rfl) _ (by rw [len_of S104 P104]; exact kst)) ?_
  refine o_bipush X102.here hx (dE 3 rfl) (z := (80 : Int32)) rfl ?_
  refine o_icmpYes X102.here hx (pc0 := 7) (pc' := 26) rfl (dE 4 rfl) rfl (tlt (by decide)).1 (by decide) (by decide) ?_
  refine o_aloadN X102.here hx (dE 5 rfl) rfl rfl ?_
  refine o_aloadN X102.here hx (dE 6 rfl) rfl rfl ?_
  obtain ⟨cq105, kq105, q105a, q105b, q105c⟩ := isOf hZ e102 E1
  refine own_cP X102 (X102.virtualBack hx (y := Mn13) (z := Mn13) hown (mvT hZ (g_ hw 169 rfl)) (mvT hZ (own_decl (g_ hw 170 rfl) (g_ hw 173 rfl))) (notFace_of_selects (args := #[]) (mvT hZ (g_ hw 172 rfl))) (mvT hZ (g_ hw 172 rfl)) (mvT hZ (g_ hw 170 rfl)) (by decide) (backOf (W := 0) (rm_rkA l Z a0 hw [] s r v9 v2 q hi lo o kc a1 t1 k1 h0 n0 Z0 O G hA E1 G1 M1 A1) hZ (g_ hw 173 rfl) (g_ hw 147 rfl) (by decide) (by decide)) q105a q105c (g := (mkF m 28 #[.val (.ref a1), .val (.ref (o 4))] [(.ref (o 4)), (.ref a1)])) rfl (by rw [hml]; rfl) (Steps.refl _) (argsL := [(.ref (o 4))]) (rest := []) (lenOf own_pd29 rfl) rfl (by show 2 * 0 + _ ≤ _; exact Nat.le_of_eq rfl) (dE 7 rfl) (fun _ _ => ⟨rfl, e102, (by decide : 0 + 8 ≤ _), (by decide : 0 + 22 ≤ _)⟩)) fun v105 T105 L105 X105 hQ105 => ?_
  obtain ⟨b105, rfl, Nq105, K105, sb105, kb105, x105, t105, k105, B105, sx105, A105, S105, M105, P105, V105⟩ := hQ105
  have N105 := Fr.app N0 Nq105
  have ne_t1_b105 : t1 ≠ b105 := Nat.ne_of_lt (Nat.lt_of_lt_of_le A1.lt sb105)
  have ne_a1_b105 : a1 ≠ b105 := Nat.ne_of_lt (Nat.lt_of_lt_of_le E1.lt sb105)
  have c106 := (G.2.2.2.2.2.2.2.2.2.1).ext O.2
  have ne__o_4__b105 : (o 4) ≠ b105 := Nat.ne_of_lt (Nat.lt_of_lt_of_le c106.lt sb105)
  have c107 := (G.2.2.2.2.2.2.2.2.2.2.2.2.1).ext O.2
  have ne__o_5__b105 : (o 5) ≠ b105 := Nat.ne_of_lt (Nat.lt_of_lt_of_le c107.lt sb105)
  have c108 := (G.2.2.2.2.2.2.2.2.2.2.2.2.2.2.1).ext O.2
  have ne__o_6__b105 : (o 6) ≠ b105 := Nat.ne_of_lt (Nat.lt_of_lt_of_le c108.lt sb105)
  have gn_b105 : n0 ≤ b105 := Nat.le_trans Z0 sb105
  have sz_b105 : h0.size ≤ b105 := Nat.le_trans (Keep.refl h0 []).1 sb105
  show own_Go p e below Pst (T105.setTop (mkF m 31 #[.val (.ref a1), .val (.ref (o 4))] [(.ref b105)]))
  have c109 := (Keep.trans (Keep.refl h0 []) K105 all0)
  rw [hPst]
  exact own_retP X105 (v := (some (.ref b105))) (Q := Q_drA Z s r v9 v2 q hi lo o kc a1 t1 k1 h0 n0) (fun h => by rw [Bd.returns] at h; cases h) Bd.notSynchronized (fun fs hr => retOut X105 hx Bd.returns rfl (Or.inr (Or.inr (Or.inr (Or.inr ⟨rfl, rfl, rfl⟩)))) (dE 8 rfl) hr) (by decide) (by decide) ⟨_, rfl, N105, c109, sb105, _, _, _, _, B105, sx105, A105, S105, M105, P105, V105⟩
def Q_rkB (Z : State) (s r v9 v2 : Int64) (q hi lo : Int32) (o : Nat → Addr) (kc : Nat → ClassId) (a1 t1 : Addr) (k1 : ClassId) (h0 : Heap) (n0 : Nat) (v : Option Value) (h : Heap) (L : List Loc) : Prop := ∃ b : Addr, v = some (.ref b) ∧ Fr n0 L ∧ Keep h0 h [] ∧ h0.size ≤ b ∧ ∃ (kb : ClassId) (x t : Addr) (k : ClassId), Arv Z h b kb (.object "java/math/BigInteger") (2 : Int32) [(.ref x), (.ref (o 6))] .null ∧ h0.size ≤ x ∧ Exa Z h x "java/math/BigInteger" ∧ Fld Z h x "java/math/BigInteger" "signum" "I" (.int (1 : Int32)) ∧ Fld Z h x "java/math/BigInteger" "mag" "[I" (.ref t) ∧ Fld Z h x "java/math/BigInteger" "bitLengthPlusOne" "I" (.int (0 : Int32)) ∧ Arv Z h t k .int (1 : Int32) [(.int q)] (.int 0)
theorem rm_rkB (l : Launch) (Z : State) (a0 : Array Value) (hw : own_H a0 Z) (ws : List Jvm.Cond) (s r v9 v2 : Int64) (q hi lo : Int32) (o : Nat → Addr) (kc : Nat → ClassId) (a1 t1 : Addr) (k1 : ClassId) (h0 : Heap) (n0 : Nat) (Z0 : n0 ≤ h0.size) (O : Old Z n0 h0) (G : own_G Z o kc) (hB : own_VB s r v9 v2 q hi lo) (E1 : Exa Z h0 a1 "java/math/BigInteger") (G1 : Fld Z h0 a1 "java/math/BigInteger" "signum" "I" (.int (1 : Int32))) (M1 : Fld Z h0 a1 "java/math/BigInteger" "mag" "[I" (.ref t1)) (A1 : Arv Z h0 t1 k1 .int (2 : Int32) [(.int hi), (.int lo)] (.int 0)) : own_MP l Mn13 jdk_2097_method_64_code 7 (some (.array (.object "java/math/BigInteger"))) ws ({ frames := 5, cells := 10, slots := 25, locals := 84 } : Room) Z h0 #[(.ref a1), (.ref (o 4))] (fun _ _ _ _ _ => True) (Q_rkB Z s r v9 v2 q hi lo o kc a1 t1 k1 h0 n0) := by
  refine own_startP (plainFor_of_name own_pn_java_math_BigInteger) fun p e s' m below meth c s₁ Bd hx hby hml hown0 X0 e0 hh0 hZ hK Pst hPst => ?_
  have dE := own_E hby own_D33
  have hown : s'.vm.findClass "java/math/BigInteger" = some m.cls := hown0
  have hnm := (name_of_methodNamed Bd.named Bd.method).1
  have N0 := Fr.nil n0
  rw [own_ef_RR_7 m a1 (o 4)]
  refine o_iconst X0.here hx (dE 0 rfl) (z := (2 : Int32)) rfl ?_
  refine p_newR X0 hx hZ hown (g_ hw 150 rfl) (g_ hw 174 rfl) e0 (dE 1 rfl) rfl (by decide) (cap := 2) (by decide) (by decide) (by decide) (by decide) fun T101 h101 k101 b101 g101 X101 e101 E101 A101 Ov101 => ?_
  have ne_t1_b101 : t1 ≠ b101 := Nat.ne_of_lt (Nat.lt_of_lt_of_le A1.lt (Nat.le_of_eq g101.symm))
  have ne_a1_b101 : a1 ≠ b101 := Nat.ne_of_lt (Nat.lt_of_lt_of_le E1.lt (Nat.le_of_eq g101.symm))
  have c102 := (G.2.2.2.2.2.2.2.2.2.1).ext O.2
  have ne__o_4__b101 : (o 4) ≠ b101 := Nat.ne_of_lt (Nat.lt_of_lt_of_le c102.lt (Nat.le_of_eq g101.symm))
  have c103 := (G.2.2.2.2.2.2.2.2.2.2.2.2.1).ext O.2
  have ne__o_5__b101 : (o 5) ≠ b101 := Nat.ne_of_lt (Nat.lt_of_lt_of_le c103.lt (Nat.le_of_eq g101.symm))
  have c104 := (G.2.2.2.2.2.2.2.2.2.2.2.2.2.2.1).ext O.2
  have ne__o_6__b101 : (o 6) ≠ b101 := Nat.ne_of_lt (Nat.lt_of_lt_of_le c104.lt (Nat.le_of_eq g101.symm))
  have gn_b101 : n0 ≤ b101 := Nat.le_trans Z0 (Nat.le_of_eq g101.symm)
  have sz_b101 : h0.size ≤ b101 := Nat.le_trans (Keep.refl h0 []).1 (Nat.le_of_eq g101.symm)
  have V101 : Arv Z h101 b101 k101 (.object "java/math/BigInteger") (2 : Int32) [.null, .null] .null := (Arv.new A101 (by decide)).pad (pad_rep [] .null 2)
  refine o_astoreN X101.here hx (dE 2 rfl) rfl rfl (l' := #[.val (.ref a1), .val (.ref (o 4)), .val (.ref b101), .unset, .unset, .unset, .unset]) rfl ?_
  have c106 := (Nat.le_trans Z0 E101.1)
  have c107 := ((Keep.refl h0 []).ext E101)
  refine p_newO X101 hx hZ hown (g_ hw 175 rfl) (g_ hw 176 rfl) (g_ hw 177 rfl) e101 (dE 3 rfl) (by decide) (by decide) fun T105 h105 b105 g105 X105 e105 E105 A105 D105 U105 => ?_
  have c108 := (A1.ext E101)
  have ne_t1_b105 : t1 ≠ b105 := Nat.ne_of_lt (Nat.lt_of_lt_of_le c108.lt (Nat.le_of_eq g105.symm))
  have c109 := (E1.ext E101)
  have ne_a1_b105 : a1 ≠ b105 := Nat.ne_of_lt (Nat.lt_of_lt_of_le c109.lt (Nat.le_of_eq g105.symm))
  have c111 := (O.ext E101)
  have c110 := (G.2.2.2.2.2.2.2.2.2.1).ext c111.2
  have ne__o_4__b105 : (o 4) ≠ b105 := Nat.ne_of_lt (Nat.lt_of_lt_of_le c110.lt (Nat.le_of_eq g105.symm))
  have c112 := (G.2.2.2.2.2.2.2.2.2.2.2.2.1).ext c111.2
  have ne__o_5__b105 : (o 5) ≠ b105 := Nat.ne_of_lt (Nat.lt_of_lt_of_le c112.lt (Nat.le_of_eq g105.symm))
  have c113 := (G.2.2.2.2.2.2.2.2.2.2.2.2.2.2.1).ext c111.2
  have ne__o_6__b105 : (o 6) ≠ b105 := Nat.ne_of_lt (Nat.lt_of_lt_of_le c113.lt (Nat.le_of_eq g105.symm))
  have ne_b101_b105 : b101 ≠ b105 := Nat.ne_of_lt (Nat.lt_of_lt_of_le V101.lt (Nat.le_of_eq g105.symm))
  have gn_b105 : n0 ≤ b105 := Nat.le_trans c106 (Nat.le_of_eq g105.symm)
  have sz_b105 : h0.size ≤ b105 := Nat.le_trans c107.1 (Nat.le_of_eq g105.symm)
  have f105_offset : Fld Z h105 b105 "java/math/MutableBigInteger" "offset" "I" (.int (0 : Int32)) := D105 (Or.inl (g_ hw 184 rfl)) (ty := .int) (by decide)
  have f105_value : Fld Z h105 b105 "java/math/MutableBigInteger" "value" "[I" .null := D105 (Or.inl (g_ hw 186 rfl)) (ty := (.array .int)) (by decide)
  have f105_intLen : Fld Z h105 b105 "java/math/MutableBigInteger" "intLen" "I" (.int (0 : Int32)) := D105 (Or.inl (g_ hw 188 rfl)) (ty := .int) (by decide)
  refine o_dup X105.here hx (dE 4 rfl) rfl rfl ?_
  have c115 := (Nat.le_trans c106 E105.1)
  refine own_cP X105 (X105.specialBack hx (y := Mn20) rfl hown (mvT hZ (g_ hw 178 rfl)) (mvT hZ (g_ hw 179 rfl)) (mvT hZ (g_ hw 181 rfl)) (by decide) (backOf (W := 1) (rm_m0 l Z a0 hw [] b105 (.int 0) .null (.int 0) h105 n0 c115 A105 gn_b105 f105_offset f105_value f105_intLen) hZ (g_ hw 181 rfl) (g_ hw 177 rfl) (by decide) (by decide)) (g := (mkF m 9 #[.val (.ref a1), .val (.ref (o 4)), .val (.ref b101), .unset, .unset, .unset, .unset] [(.ref b105), (.ref b105)])) rfl (by rw [hml]; rfl) (Steps.refl _) (a := b105) (argsL := []) (rest := [(.ref b105)]) (lenOf own_pd1 rfl) rfl (by show 2 * 0 + _ ≤ _; exact Nat.le_of_eq rfl) (dE 5 rfl) (fun _ _ => ⟨rfl, e105, (by decide : 2 + 1 ≤ _), (by decide : 5 + 1 ≤ _)⟩)) fun v114 T114 L114 X114 hQ114 => ?_
  obtain ⟨rfl, Nq114, K114, t114, k114, st_114, E114, O114, V114, I114, A114⟩ := hQ114
  have N114 := Fr.app N0 Nq114
  have c116 := (c108.ext E105)
  have ne_t1_t114 : t1 ≠ t114 := Nat.ne_of_lt (Nat.lt_of_lt_of_le c116.lt st_114)
  have c117 := (c109.ext E105)
  have ne_a1_t114 : a1 ≠ t114 := Nat.ne_of_lt (Nat.lt_of_lt_of_le c117.lt st_114)
  have c119 := (c111.ext E105)
  have c118 := (G.2.2.2.2.2.2.2.2.2.1).ext c119.2
  have ne__o_4__t114 : (o 4) ≠ t114 := Nat.ne_of_lt (Nat.lt_of_lt_of_le c118.lt st_114)
  have c120 := (G.2.2.2.2.2.2.2.2.2.2.2.2.1).ext c119.2
  have ne__o_5__t114 : (o 5) ≠ t114 := Nat.ne_of_lt (Nat.lt_of_lt_of_le c120.lt st_114)
  have c121 := (G.2.2.2.2.2.2.2.2.2.2.2.2.2.2.1).ext c119.2
  have ne__o_6__t114 : (o 6) ≠ t114 := Nat.ne_of_lt (Nat.lt_of_lt_of_le c121.lt st_114)
  have c122 := (V101.ext E105)
  have ne_b101_t114 : b101 ≠ t114 := Nat.ne_of_lt (Nat.lt_of_lt_of_le c122.lt st_114)
  have ne_b105_t114 : b105 ≠ t114 := Nat.ne_of_lt (Nat.lt_of_lt_of_le A105.lt st_114)
  have gn_t114 : n0 ≤ t114 := Nat.le_trans c115 st_114
  have c123 := (c107.ext E105)
  have sz_t114 : h0.size ≤ t114 := Nat.le_trans c123.1 st_114
  show own_Go p e below Pst (T114.setTop (mkF m 12 #[.val (.ref a1), .val (.ref (o 4)), .val (.ref b101), .unset, .unset, .unset, .unset] [(.ref b105)]))
  refine o_astoreN X114.here hx (dE 6 rfl) rfl rfl (l' := #[.val (.ref a1), .val (.ref (o 4)), .val (.ref b101), .val (.ref b105), .unset, .unset, .unset]) rfl ?_
  have c125 := (Nat.le_trans c115 K114.1)
  have c126 := (Keep.trans c123 K114 (allS (Or.inr sz_b105) all0))
  refine p_newO X114 hx hZ hown (g_ hw 175 rfl) (g_ hw 176 rfl) (g_ hw 177 rfl) rfl (dE 7 rfl) (by decide) (by decide) fun T124 h124 b124 g124 X124 e124 E124 A124 D124 U124 => ?_
  have c127 := (c116.keep K114 (ninS ne_t1_b105 nin0))
  have ne_t1_b124 : t1 ≠ b124 := Nat.ne_of_lt (Nat.lt_of_lt_of_le c127.lt (Nat.le_of_eq g124.symm))
  have c128 := (c117.keep K114)
  have ne_a1_b124 : a1 ≠ b124 := Nat.ne_of_lt (Nat.lt_of_lt_of_le c128.lt (Nat.le_of_eq g124.symm))
  have c130 := (c119.keep K114 (allS gn_b105 all0))
  have c129 := (G.2.2.2.2.2.2.2.2.2.1).ext c130.2
  have ne__o_4__b124 : (o 4) ≠ b124 := Nat.ne_of_lt (Nat.lt_of_lt_of_le c129.lt (Nat.le_of_eq g124.symm))
  have c131 := (G.2.2.2.2.2.2.2.2.2.2.2.2.1).ext c130.2
  have ne__o_5__b124 : (o 5) ≠ b124 := Nat.ne_of_lt (Nat.lt_of_lt_of_le c131.lt (Nat.le_of_eq g124.symm))
  have c132 := (G.2.2.2.2.2.2.2.2.2.2.2.2.2.2.1).ext c130.2
  have ne__o_6__b124 : (o 6) ≠ b124 := Nat.ne_of_lt (Nat.lt_of_lt_of_le c132.lt (Nat.le_of_eq g124.symm))
  have c133 := (c122.keep K114 (ninS ne_b101_b105 nin0))
  have ne_b101_b124 : b101 ≠ b124 := Nat.ne_of_lt (Nat.lt_of_lt_of_le c133.lt (Nat.le_of_eq g124.symm))
  have ne_b105_b124 : b105 ≠ b124 := Nat.ne_of_lt (Nat.lt_of_lt_of_le E114.lt (Nat.le_of_eq g124.symm))
  have ne_t114_b124 : t114 ≠ b124 := Nat.ne_of_lt (Nat.lt_of_lt_of_le A114.lt (Nat.le_of_eq g124.symm))
  have gn_b124 : n0 ≤ b124 := Nat.le_trans c125 (Nat.le_of_eq g124.symm)
  have sz_b124 : h0.size ≤ b124 := Nat.le_trans c126.1 (Nat.le_of_eq g124.symm)
  have f124_offset : Fld Z h124 b124 "java/math/MutableBigInteger" "offset" "I" (.int (0 : Int32)) := D124 (Or.inl (g_ hw 184 rfl)) (ty := .int) (by decide)
  have f124_value : Fld Z h124 b124 "java/math/MutableBigInteger" "value" "[I" .null := D124 (Or.inl (g_ hw 186 rfl)) (ty := (.array .int)) (by decide)
  have f124_intLen : Fld Z h124 b124 "java/math/MutableBigInteger" "intLen" "I" (.int (0 : Int32)) := D124 (Or.inl (g_ hw 188 rfl)) (ty := .int) (by decide)
  refine o_dup X124.here hx (dE 8 rfl) rfl rfl ?_
  refine o_aloadN X124.here hx (dE 9 rfl) rfl rfl ?_
  have c134 := ((((M1.ext E101).ext E105).keep K114 (ninS ne_a1_b105 nin0)).ext E124)
  refine p_getF X124 hx hZ hown (host := "") (Or.inl (g_ hw 161 rfl)) Via.refl e124 c134 rfl (dE 10 rfl) fun T135 X135 e135 => ?_
  have c136 := (c127.ext E124)
  have c138 := (Nat.le_trans c125 E124.1)
  refine own_cP X135 (X135.specialBack hx (y := Mn21) rfl hown (mvT hZ (g_ hw 189 rfl)) (mvT hZ (g_ hw 190 rfl)) (mvT hZ (g_ hw 191 rfl)) (by decide) (backOf (W := 1) (rm_m1 l Z a0 hw [] b124 t1 k1 (2 : Int32) [(.int hi), (.int lo)] (.int 0) .null (.int 0) h124 n0 c138 A124 gn_b124 f124_offset f124_value f124_intLen c136) hZ (g_ hw 191 rfl) (g_ hw 177 rfl) (by decide) (by decide)) (g := (mkF m 21 #[.val (.ref a1), .val (.ref (o 4)), .val (.ref b101), .val (.ref b105), .unset, .unset, .unset] [(.ref t1), (.ref b124), (.ref b124)])) rfl (by rw [hml]; rfl) (Steps.refl _) (a := b124) (argsL := [(.ref t1)]) (rest := [(.ref b124)]) (lenOf own_pd26 rfl) rfl (by show 2 * 0 + _ ≤ _; exact Nat.le_of_eq rfl) (dE 11 rfl) (fun _ _ => ⟨rfl, e135, (by decide : 4 + 0 ≤ _), (by decide : 9 + 0 ≤ _)⟩)) fun v137 T137 L137 X137 hQ137 => ?_
  obtain ⟨rfl, Nq137, K137, E137, O137, V137, I137⟩ := hQ137
  have N137 := Fr.app N114 Nq137
  show own_Go p e below Pst (T137.setTop (mkF m 24 #[.val (.ref a1), .val (.ref (o 4)), .val (.ref b101), .val (.ref b105), .unset, .unset, .unset] [(.ref b124)]))
  refine o_astore X137.here hx (dE 12 rfl) rfl rfl (l' := #[.val (.ref a1), .val (.ref (o 4)), .val (.ref b101), .val (.ref b105), .val (.ref b124), .unset, .unset]) rfl ?_
  have c140 := (Nat.le_trans c138 K137.1)
  have c141 := (Keep.trans (c126.ext E124) K137 (allS (Or.inr sz_b124) all0))
  refine p_newO X137 hx hZ hown (g_ hw 175 rfl) (g_ hw 176 rfl) (g_ hw 177 rfl) rfl (dE 13 rfl) (by decide) (by decide) fun T139 h139 b139 g139 X139 e139 E139 A139 D139 U139 => ?_
  have c142 := (c136.keep K137 (ninS ne_t1_b124 nin0))
  have ne_t1_b139 : t1 ≠ b139 := Nat.ne_of_lt (Nat.lt_of_lt_of_le c142.lt (Nat.le_of_eq g139.symm))
  have c143 := ((c128.ext E124).keep K137)
  have ne_a1_b139 : a1 ≠ b139 := Nat.ne_of_lt (Nat.lt_of_lt_of_le c143.lt (Nat.le_of_eq g139.symm))
  have c145 := ((c130.ext E124).keep K137 (allS gn_b124 all0))
  have c144 := (G.2.2.2.2.2.2.2.2.2.1).ext c145.2
  have ne__o_4__b139 : (o 4) ≠ b139 := Nat.ne_of_lt (Nat.lt_of_lt_of_le c144.lt (Nat.le_of_eq g139.symm))
  have c146 := (G.2.2.2.2.2.2.2.2.2.2.2.2.1).ext c145.2
  have ne__o_5__b139 : (o 5) ≠ b139 := Nat.ne_of_lt (Nat.lt_of_lt_of_le c146.lt (Nat.le_of_eq g139.symm))
  have c147 := (G.2.2.2.2.2.2.2.2.2.2.2.2.2.2.1).ext c145.2
  have ne__o_6__b139 : (o 6) ≠ b139 := Nat.ne_of_lt (Nat.lt_of_lt_of_le c147.lt (Nat.le_of_eq g139.symm))
  have c148 := ((c133.ext E124).keep K137 (ninS ne_b101_b124 nin0))
  have ne_b101_b139 : b101 ≠ b139 := Nat.ne_of_lt (Nat.lt_of_lt_of_le c148.lt (Nat.le_of_eq g139.symm))
  have c149 := ((E114.ext E124).keep K137)
  have ne_b105_b139 : b105 ≠ b139 := Nat.ne_of_lt (Nat.lt_of_lt_of_le c149.lt (Nat.le_of_eq g139.symm))
  have c150 := ((A114.ext E124).keep K137 (ninS ne_t114_b124 nin0))
  have ne_t114_b139 : t114 ≠ b139 := Nat.ne_of_lt (Nat.lt_of_lt_of_le c150.lt (Nat.le_of_eq g139.symm))
  have ne_b124_b139 : b124 ≠ b139 := Nat.ne_of_lt (Nat.lt_of_lt_of_le E137.lt (Nat.le_of_eq g139.symm))
  have gn_b139 : n0 ≤ b139 := Nat.le_trans c140 (Nat.le_of_eq g139.symm)
  have sz_b139 : h0.size ≤ b139 := Nat.le_trans c141.1 (Nat.le_of_eq g139.symm)
  have f139_offset : Fld Z h139 b139 "java/math/MutableBigInteger" "offset" "I" (.int (0 : Int32)) := D139 (Or.inl (g_ hw 184 rfl)) (ty := .int) (by decide)
  have f139_value : Fld Z h139 b139 "java/math/MutableBigInteger" "value" "[I" .null := D139 (Or.inl (g_ hw 186 rfl)) (ty := (.array .int)) (by decide)
  have f139_intLen : Fld Z h139 b139 "java/math/MutableBigInteger" "intLen" "I" (.int (0 : Int32)) := D139 (Or.inl (g_ hw 188 rfl)) (ty := .int) (by decide)
  refine o_dup X139.here hx (dE 14 rfl) rfl rfl ?_
  refine o_aloadN X139.here hx (dE 15 rfl) rfl rfl ?_
  have c152 := (c145.ext E139)
  have c151 := (G.2.2.2.2.2.2.2.2.2.2.2.1).ext c152.2
  refine p_getF X139 hx hZ hown (host := "") (Or.inl (g_ hw 161 rfl)) Via.refl e139 c151 rfl (dE 16 rfl) fun T153 X153 e153 => ?_
  have c154 := (G.2.2.2.2.2.2.2.2.2.2.2.2.1).ext c152.2
  have c156 := (Nat.le_trans c140 E139.1)
  refine own_cP X153 (X153.specialBack hx (y := Mn21) rfl hown (mvT hZ (g_ hw 189 rfl)) (mvT hZ (g_ hw 190 rfl)) (mvT hZ (g_ hw 191 rfl)) (by decide) (backOf (W := 1) (rm_m1 l Z a0 hw [] b139 (o 5) (kc 5) (1 : Int32) [(.int 1000000000)] (.int 0) .null (.int 0) h139 n0 c156 A139 gn_b139 f139_offset f139_value f139_intLen c154) hZ (g_ hw 191 rfl) (g_ hw 177 rfl) (by decide) (by decide)) (g := (mkF m 34 #[.val (.ref a1), .val (.ref (o 4)), .val (.ref b101), .val (.ref b105), .val (.ref b124), .unset, .unset] [(.ref (o 5)), (.ref b139), (.ref b139)])) rfl (by rw [hml]; rfl) (Steps.refl _) (a := b139) (argsL := [(.ref (o 5))]) (rest := [(.ref b139)]) (lenOf own_pd26 rfl) rfl (by show 2 * 0 + _ ≤ _; exact Nat.le_of_eq rfl) (dE 17 rfl) (fun _ _ => ⟨rfl, e153, (by decide : 5 + 0 ≤ _), (by decide : 12 + 0 ≤ _)⟩)) fun v155 T155 L155 X155 hQ155 => ?_
  obtain ⟨rfl, Nq155, K155, E155, O155, V155, I155⟩ := hQ155
  have N155 := Fr.app N137 Nq155
  show own_Go p e below Pst (T155.setTop (mkF m 37 #[.val (.ref a1), .val (.ref (o 4)), .val (.ref b101), .val (.ref b105), .val (.ref b124), .unset, .unset] [(.ref b139)]))
  refine o_astore X155.here hx (dE 18 rfl) rfl rfl (l' := #[.val (.ref a1), .val (.ref (o 4)), .val (.ref b101), .val (.ref b105), .val (.ref b124), .val (.ref b139), .unset]) rfl ?_
  refine o_aload X155.here hx (dE 19 rfl) rfl rfl ?_
  refine o_aload X155.here hx (dE 20 rfl) rfl rfl ?_
  refine o_aloadN X155.here hx (dE 21 rfl) rfl rfl ?_
  have c157 := ((E137.ext E139).keep K155)
  have c158 := ((O137.ext E139).keep K155 (ninS ne_b124_b139 nin0))
  have c159 := ((V137.ext E139).keep K155 (ninS ne_b124_b139 nin0))
  have c160 := ((I137.ext E139).keep K155 (ninS ne_b124_b139 nin0))
  have c161 := ((c149.ext E139).keep K155)
  have c162 := ((((O114.ext E124).keep K137 (ninS ne_b105_b124 nin0)).ext E139).keep K155 (ninS ne_b105_b139 nin0))
  have c163 := ((((V114.ext E124).keep K137 (ninS ne_b105_b124 nin0)).ext E139).keep K155 (ninS ne_b105_b139 nin0))
  have c164 := ((((I114.ext E124).keep K137 (ninS ne_b105_b124 nin0)).ext E139).keep K155 (ninS ne_b105_b139 nin0))
  have c165 := ((c142.ext E139).keep K155 (ninS ne_t1_b139 nin0))
  have c167 := (c152.keep K155 (allS gn_b139 all0))
  have c166 := (G.2.2.2.2.2.2.2.2.2.2.2.2.1).ext c167.2
  have c168 := ((c150.ext E139).keep K155 (ninS ne_t114_b139 nin0))
  have c170 := (Nat.le_trans c156 K155.1)
  obtain ⟨cq169, kq169, q169a, q169b, q169c⟩ := isOf hZ rfl c157
  refine own_cP X155 (X155.virtualBack hx (y := Mn11) (z := Mn11) hown (mvT hZ (g_ hw 192 rfl)) (mvT hZ (g_ hw 193 rfl)) (notFace_of_selects (args := #[]) (mvT hZ (g_ hw 195 rfl))) (mvT hZ (g_ hw 195 rfl)) (mvT hZ (g_ hw 194 rfl)) (by decide) (backOf (W := 0) (rm_djB l Z a0 hw [] s r v9 v2 q hi lo b124 b139 b105 t1 (o 5) t114 k1 (kc 5) k114 T155.heap n0 c170 hB c157 c158 c159 c160 E155 O155 V155 I155 c161 c162 c163 c164 c165 c166 c168 gn_b105 gn_t114 (Ne.symm ne_b105_b124) (Ne.symm ne_b105_b139) ne_t1_t114 ne__o_5__t114) hZ (g_ hw 196 rfl) (g_ hw 177 rfl) (by decide) (by decide)) q169a q169c (g := (mkF m 44 #[.val (.ref a1), .val (.ref (o 4)), .val (.ref b101), .val (.ref b105), .val (.ref b124), .val (.ref b139), .unset] [(.ref b105), (.ref b139), (.ref b124)])) rfl (by rw [hml]; rfl) (Steps.refl _) (argsL := [(.ref b139), (.ref b105)]) (rest := []) (lenOf own_pd27 rfl) rfl (by show 2 * 0 + _ ≤ _; exact Nat.le_of_eq rfl) (dE 22 rfl) (fun _ _ => ⟨rfl, rfl, (by decide : 5 + 3 ≤ _), (by decide : 12 + 6 ≤ _)⟩)) fun v169 T169 L169 X169 hQ169 => ?_
  obtain ⟨x169, rfl, Nq169, K169, sx169, B169, J169, t169, k169, st_169, E169, O169, V169, I169, A169⟩ := hQ169
  have N169 := Fr.app N155 Nq169
  have ne_t1_x169 : t1 ≠ x169 := Nat.ne_of_lt (Nat.lt_of_lt_of_le c165.lt sx169)
  have c171 := ((c143.ext E139).keep K155)
  have ne_a1_x169 : a1 ≠ x169 := Nat.ne_of_lt (Nat.lt_of_lt_of_le c171.lt sx169)
  have c172 := (G.2.2.2.2.2.2.2.2.2.1).ext c167.2
  have ne__o_4__x169 : (o 4) ≠ x169 := Nat.ne_of_lt (Nat.lt_of_lt_of_le c172.lt sx169)
  have c173 := (G.2.2.2.2.2.2.2.2.2.2.2.2.1).ext c167.2
  have ne__o_5__x169 : (o 5) ≠ x169 := Nat.ne_of_lt (Nat.lt_of_lt_of_le c173.lt sx169)
  have c174 := (G.2.2.2.2.2.2.2.2.2.2.2.2.2.2.1).ext c167.2
  have ne__o_6__x169 : (o 6) ≠ x169 := Nat.ne_of_lt (Nat.lt_of_lt_of_le c174.lt sx169)
  have c175 := ((c148.ext E139).keep K155 (ninS ne_b101_b139 nin0))
  have ne_b101_x169 : b101 ≠ x169 := Nat.ne_of_lt (Nat.lt_of_lt_of_le c175.lt sx169)
  have ne_b105_x169 : b105 ≠ x169 := Nat.ne_of_lt (Nat.lt_of_lt_of_le c161.lt sx169)
  have ne_t114_x169 : t114 ≠ x169 := Nat.ne_of_lt (Nat.lt_of_lt_of_le c168.lt sx169)
  have ne_b124_x169 : b124 ≠ x169 := Nat.ne_of_lt (Nat.lt_of_lt_of_le c157.lt sx169)
  have ne_b139_x169 : b139 ≠ x169 := Nat.ne_of_lt (Nat.lt_of_lt_of_le E155.lt sx169)
  have gn_x169 : n0 ≤ x169 := Nat.le_trans c170 sx169
  have c176 := (Keep.trans (c141.ext E139) K155 (allS (Or.inr sz_b139) all0))
  have sz_x169 : h0.size ≤ x169 := Nat.le_trans c176.1 sx169
  have ne_t1_t169 : t1 ≠ t169 := Nat.ne_of_lt (Nat.lt_of_lt_of_le c165.lt st_169)
  have ne_a1_t169 : a1 ≠ t169 := Nat.ne_of_lt (Nat.lt_of_lt_of_le c171.lt st_169)
  have c177 := (G.2.2.2.2.2.2.2.2.2.1).ext c167.2
  have ne__o_4__t169 : (o 4) ≠ t169 := Nat.ne_of_lt (Nat.lt_of_lt_of_le c177.lt st_169)
  have c178 := (G.2.2.2.2.2.2.2.2.2.2.2.2.1).ext c167.2
  have ne__o_5__t169 : (o 5) ≠ t169 := Nat.ne_of_lt (Nat.lt_of_lt_of_le c178.lt st_169)
  have c179 := (G.2.2.2.2.2.2.2.2.2.2.2.2.2.2.1).ext c167.2
  have ne__o_6__t169 : (o 6) ≠ t169 := Nat.ne_of_lt (Nat.lt_of_lt_of_le c179.lt st_169)
  have ne_b101_t169 : b101 ≠ t169 := Nat.ne_of_lt (Nat.lt_of_lt_of_le c175.lt st_169)
  have ne_b105_t169 : b105 ≠ t169 := Nat.ne_of_lt (Nat.lt_of_lt_of_le c161.lt st_169)
  have ne_t114_t169 : t114 ≠ t169 := Nat.ne_of_lt (Nat.lt_of_lt_of_le c168.lt st_169)
  have ne_b124_t169 : b124 ≠ t169 := Nat.ne_of_lt (Nat.lt_of_lt_of_le c157.lt st_169)
  have ne_b139_t169 : b139 ≠ t169 := Nat.ne_of_lt (Nat.lt_of_lt_of_le E155.lt st_169)
  have gn_t169 : n0 ≤ t169 := Nat.le_trans c170 st_169
  have sz_t169 : h0.size ≤ t169 := Nat.le_trans c176.1 st_169
  show own_Go p e below Pst (T169.setTop (mkF m 47 #[.val (.ref a1), .val (.ref (o 4)), .val (.ref b101), .val (.ref b105), .val (.ref b124), .val (.ref b139), .unset] [(.ref x169)]))
  have nx_t169 : x169 ≠ t169 := Exa.neArv B169 A169 (g_ hw 176 rfl)
  refine o_astore X169.here hx (dE 23 rfl) rfl rfl (l' := #[.val (.ref a1), .val (.ref (o 4)), .val (.ref b101), .val (.ref b105), .val (.ref b124), .val (.ref b139), .val (.ref x169)]) rfl ?_
  refine o_aloadN X169.here hx (dE 24 rfl) rfl rfl ?_
  refine o_iconst X169.here hx (dE 25 rfl) (z := (0 : Int32)) rfl ?_
  refine o_aloadN X169.here hx (dE 26 rfl) rfl rfl ?_
  refine o_aloadN X169.here hx (dE 27 rfl) rfl rfl ?_
  have c180 := ((((((((G1.ext E101).ext E105).keep K114 (ninS ne_a1_b105 nin0)).ext E124).keep K137 (ninS ne_a1_b124 nin0)).ext E139).keep K155 (ninS ne_a1_b139 nin0)).keep K169 (ninS ne_a1_b105 (ninS ne_a1_t114 nin0)))
  refine p_getF X169 hx hZ hown (host := "") (Or.inl (g_ hw 158 rfl)) Via.refl rfl c180 rfl (dE 28 rfl) fun T181 X181 e181 => ?_
  refine o_aloadN X181.here hx (dE 29 rfl) rfl rfl ?_
  have c183 := (c167.keep K169 (allS gn_b105 (allS gn_t114 all0)))
  have c182 := (G.2.2.2.2.2.2.2.2.2.2.1).ext c183.2
  refine p_getF X181 hx hZ hown (host := "") (Or.inl (g_ hw 158 rfl)) Via.refl e181 c182 rfl (dE 30 rfl) fun T184 X184 e184 => ?_
  refine o_icmpNo X184.here hx (dE 31 rfl) rfl (teq rfl).2 ?_
  refine o_iconst X184.here hx (dE 32 rfl) (z := (1 : Int32)) rfl ?_
  refine o_goto X184.here hx (pc0 := 64) (pc' := 68) rfl (dE 33 rfl) (by decide) (by decide) ?_
  have c186 := (Nat.le_trans c170 K169.1)
  obtain ⟨cq185, kq185, q185a, q185b, q185c⟩ := isOf hZ e184 E169
  refine own_cP X184 (X184.virtualBack hx (y := Mn4) (z := Mn4) hown (mvT hZ (g_ hw 221 rfl)) (mvT hZ (g_ hw 222 rfl)) (notFace_of_selects (args := #[]) (mvT hZ (g_ hw 224 rfl))) (mvT hZ (g_ hw 224 rfl)) (mvT hZ (g_ hw 223 rfl)) (by decide) (backOf (W := 2) (rm_tbB l Z a0 hw [] q b105 t169 k169 T169.heap n0 c186 E169 O169 V169 I169 A169 gn_b105 gn_t169) hZ (g_ hw 225 rfl) (g_ hw 177 rfl) (by decide) (by decide)) q185a q185c (g := (mkF m 68 #[.val (.ref a1), .val (.ref (o 4)), .val (.ref b101), .val (.ref b105), .val (.ref b124), .val (.ref b139), .val (.ref x169)] [(.int (1 : Int32)), (.ref b105), (.int (0 : Int32)), (.ref b101)])) rfl (by rw [hml]; rfl) (Steps.refl _) (argsL := [(.int (1 : Int32))]) (rest := [(.int (0 : Int32)), (.ref b101)]) (lenOf own_pd28 rfl) rfl (by show 2 * 0 + _ ≤ _; exact Nat.le_of_eq rfl) (dE 34 rfl) (fun _ _ => ⟨rfl, e184, (by decide : 8 + 2 ≤ _), (by decide : 18 + 7 ≤ _)⟩)) fun v185 T185 L185 X185 hQ185 => ?_
  obtain ⟨x185, rfl, Nq185, K185, sx185, t185, k185, A185, S185, M185, P185, V185⟩ := hQ185
  have N185 := Fr.app N169 Nq185
  have c187 := (c165.keep K169 (ninS ne_t1_b105 (ninS ne_t1_t114 nin0)))
  have ne_t1_x185 : t1 ≠ x185 := Nat.ne_of_lt (Nat.lt_of_lt_of_le c187.lt sx185)
  have c188 := (c171.keep K169)
  have ne_a1_x185 : a1 ≠ x185 := Nat.ne_of_lt (Nat.lt_of_lt_of_le c188.lt sx185)
  have c189 := (G.2.2.2.2.2.2.2.2.2.1).ext c183.2
  have ne__o_4__x185 : (o 4) ≠ x185 := Nat.ne_of_lt (Nat.lt_of_lt_of_le c189.lt sx185)
  have c190 := (G.2.2.2.2.2.2.2.2.2.2.2.2.1).ext c183.2
  have ne__o_5__x185 : (o 5) ≠ x185 := Nat.ne_of_lt (Nat.lt_of_lt_of_le c190.lt sx185)
  have c191 := (G.2.2.2.2.2.2.2.2.2.2.2.2.2.2.1).ext c183.2
  have ne__o_6__x185 : (o 6) ≠ x185 := Nat.ne_of_lt (Nat.lt_of_lt_of_le c191.lt sx185)
  have c192 := (c175.keep K169 (ninS ne_b101_b105 (ninS ne_b101_t114 nin0)))
  have ne_b101_x185 : b101 ≠ x185 := Nat.ne_of_lt (Nat.lt_of_lt_of_le c192.lt sx185)
  have ne_b105_x185 : b105 ≠ x185 := Nat.ne_of_lt (Nat.lt_of_lt_of_le E169.lt sx185)
  have c193 := (c157.keep K169)
  have ne_b124_x185 : b124 ≠ x185 := Nat.ne_of_lt (Nat.lt_of_lt_of_le c193.lt sx185)
  have c194 := (E155.keep K169)
  have ne_b139_x185 : b139 ≠ x185 := Nat.ne_of_lt (Nat.lt_of_lt_of_le c194.lt sx185)
  have ne_x169_x185 : x169 ≠ x185 := Nat.ne_of_lt (Nat.lt_of_lt_of_le B169.lt sx185)
  have ne_t169_x185 : t169 ≠ x185 := Nat.ne_of_lt (Nat.lt_of_lt_of_le A169.lt sx185)
  have gn_x185 : n0 ≤ x185 := Nat.le_trans c186 sx185
  have c195 := (Keep.trans c176 K169 (allS (Or.inr sz_b105) (allS (Or.inr sz_t114) all0)))
  have sz_x185 : h0.size ≤ x185 := Nat.le_trans c195.1 sx185
  show own_Go p e below Pst (T185.setTop (mkF m 71 #[.val (.ref a1), .val (.ref (o 4)), .val (.ref b101), .val (.ref b105), .val (.ref b124), .val (.ref b139), .val (.ref x169)] [(.ref x185), (.int (0 : Int32)), (.ref b101)]))
  have c196 := (c192.keep K185 (ninS ne_b101_b105 (ninS ne_b101_t169 nin0)))
  have nb_t185 : t185 ≠ b101 := own_arv_ty V185 c196
  obtain ⟨cl197, Ar197, q197, S197, P197, H197, G197⟩ := id c196
  refine p_stR X185 hx hZ rfl Ar197 (j := (0 : Int32)) (inb_of S197 ⟨by decide, by decide⟩) rfl (Sto.ofV Ar197 q197 Ov101 (Ins.self A185)) rfl (dE 35 rfl) fun T197 h197 X197 e197 W197 => ?_
  have V197 := Arv.set Ar197 q197 S197 P197 H197 G197 rfl W197 0 rfl (Nat.le_of_ble_eq_true rfl)
  have N197 := Fr.snoc X197 N185 gn_b101
  refine o_aloadN X197.here hx (dE 36 rfl) rfl rfl ?_
  refine o_iconst X197.here hx (dE 37 rfl) (z := (1 : Int32)) rfl ?_
  refine o_aload X197.here hx (dE 38 rfl) rfl rfl ?_
  refine o_aloadN X197.here hx (dE 39 rfl) rfl rfl ?_
  have c198 := ((c180.keep K185 (ninS ne_a1_b105 (ninS ne_a1_t169 nin0))).other W197 (Or.inl ne_a1_b101))
  refine p_getF X197 hx hZ hown (host := "") (Or.inl (g_ hw 158 rfl)) Via.refl e197 c198 rfl (dE 40 rfl) fun T199 X199 e199 => ?_
  have c200 := ((c183.keep K185 (allS gn_b105 (allS gn_t169 all0))).wr W197 gn_b101)
  have c201 := ((J169.keep K185 (ninS (Ne.symm ne_b105_x169) (ninS nx_t169 nin0))).other W197 (Or.inl (Ne.symm ne_b101_x169)))
  have c203 := (Nat.le_trans (Nat.le_trans c186 K185.1) (Keep.of_wr W197).1)
  have c204 := ((B169.keep K185).wr W197)
  obtain ⟨cq202, kq202, q202a, q202b, q202c⟩ := isOf hZ e199 c204
  refine own_cP X199 (X199.virtualBack hx (y := Mn4) (z := Mn4) hown (mvT hZ (g_ hw 221 rfl)) (mvT hZ (g_ hw 222 rfl)) (notFace_of_selects (args := #[]) (mvT hZ (g_ hw 224 rfl))) (mvT hZ (g_ hw 224 rfl)) (mvT hZ (g_ hw 223 rfl)) (by decide) (backOf (W := 2) (rm_tbZ l Z a0 hw [] o kc x169 h197 n0 c203 c200 G c201) hZ (g_ hw 225 rfl) (g_ hw 177 rfl) (by decide) (by decide)) q202a q202c (g := (mkF m 80 #[.val (.ref a1), .val (.ref (o 4)), .val (.ref b101), .val (.ref b105), .val (.ref b124), .val (.ref b139), .val (.ref x169)] [(.int (1 : Int32)), (.ref x169), (.int (1 : Int32)), (.ref b101)])) rfl (by rw [hml]; rfl) (Steps.refl _) (argsL := [(.int (1 : Int32))]) (rest := [(.int (1 : Int32)), (.ref b101)]) (lenOf own_pd28 rfl) rfl (by show 2 * 0 + _ ≤ _; exact Nat.le_of_eq rfl) (dE 41 rfl) (fun _ _ => ⟨rfl, e199, (by decide : 10 + 0 ≤ _), (by decide : 25 + 0 ≤ _)⟩)) fun v202 T202 L202 X202 hQ202 => ?_
  obtain ⟨rfl, Nq202, e202⟩ := hQ202
  have N202 := Fr.app N197 Nq202
  show own_Go p e below Pst (T202.setTop (mkF m 83 #[.val (.ref a1), .val (.ref (o 4)), .val (.ref b101), .val (.ref b105), .val (.ref b124), .val (.ref b139), .val (.ref x169)] [(.ref (o 6)), (.int (1 : Int32)), (.ref b101)]))
  have c206 := (G.2.2.2.2.2.2.2.2.2.2.2.2.2.2.1).ext c200.2
  obtain ⟨cl205, Ar205, q205, S205, P205, H205, G205⟩ := id V197
  refine p_stR X202 hx hZ e202 Ar205 (j := (1 : Int32)) (inb_of S205 ⟨by decide, by decide⟩) rfl (Sto.ofV Ar205 q205 Ov101 (Ins.self c206)) rfl (dE 42 rfl) fun T205 h205 X205 e205 W205 => ?_
  have V205 := Arv.set Ar205 q205 S205 P205 H205 G205 rfl W205 1 rfl (Nat.le_of_ble_eq_true rfl)
  have N205 := Fr.snoc X205 N202 gn_b101
  refine o_aloadN X205.here hx (dE 43 rfl) rfl rfl ?_
  have c207 := (((Keep.trans c195 K185 (allS (Or.inr sz_b105) (allS (Or.inr sz_t169) all0))).wr W197 (Or.inr sz_b101)).wr W205 (Or.inr sz_b101))
  have c208 := ((A185.wr W197).wr W205)
  have c209 := ((S185.other W197 (Or.inl (Ne.symm ne_b101_x185))).other W205 (Or.inl (Ne.symm ne_b101_x185)))
  have c210 := ((M185.other W197 (Or.inl (Ne.symm ne_b101_x185))).other W205 (Or.inl (Ne.symm ne_b101_x185)))
  have c211 := ((P185.other W197 (Or.inl (Ne.symm ne_b101_x185))).other W205 (Or.inl (Ne.symm ne_b101_x185)))
  have c212 := ((V185.other W197 nb_t185).other W205 nb_t185)
  rw [hPst]
  exact own_retP X205 (v := (some (.ref b101))) (Q := Q_rkB Z s r v9 v2 q hi lo o kc a1 t1 k1 h0 n0) (fun h => by rw [Bd.returns] at h; cases h) Bd.notSynchronized (fun fs hr => retOut X205 hx Bd.returns rfl (Or.inr (Or.inr (Or.inr (Or.inr ⟨rfl, rfl, rfl⟩)))) (dE 44 rfl) hr) (by decide) (by decide) (by rw [e205]; exact ⟨_, rfl, N205, c207, sz_b101, _, _, _, _, V205, sz_x185, c208, c209, c210, c211, c212⟩)
def Q_drB (Z : State) (s r v9 v2 : Int64) (q hi lo : Int32) (o : Nat → Addr) (kc : Nat → ClassId) (a1 t1 : Addr) (k1 : ClassId) (h0 : Heap) (n0 : Nat) (v : Option Value) (h : Heap) (L : List Loc) : Prop := ∃ b : Addr, v = some (.ref b) ∧ Fr n0 L ∧ Keep h0 h [] ∧ h0.size ≤ b ∧ ∃ (kb : ClassId) (x t : Addr) (k : ClassId), Arv Z h b kb (.object "java/math/BigInteger") (2 : Int32) [(.ref x), (.ref (o 6))] .null ∧ h0.size ≤ x ∧ Exa Z h x "java/math/BigInteger" ∧ Fld Z h x "java/math/BigInteger" "signum" "I" (.int (1 : Int32)) ∧ Fld Z h x "java/math/BigInteger" "mag" "[I" (.ref t) ∧ Fld Z h x "java/math/BigInteger" "bitLengthPlusOne" "I" (.int (0 : Int32)) ∧ Arv Z h t k .int (1 : Int32) [(.int q)] (.int 0)
theorem rm_drB (l : Launch) (Z : State) (a0 : Array Value) (hw : own_H a0 Z) (ws : List Jvm.Cond) (s r v9 v2 : Int64) (q hi lo : Int32) (o : Nat → Addr) (kc : Nat → ClassId) (a1 t1 : Addr) (k1 : ClassId) (h0 : Heap) (n0 : Nat) (Z0 : n0 ≤ h0.size) (O : Old Z n0 h0) (G : own_G Z o kc) (hB : own_VB s r v9 v2 q hi lo) (E1 : Exa Z h0 a1 "java/math/BigInteger") (G1 : Fld Z h0 a1 "java/math/BigInteger" "signum" "I" (.int (1 : Int32))) (M1 : Fld Z h0 a1 "java/math/BigInteger" "mag" "[I" (.ref t1)) (A1 : Arv Z h0 t1 k1 .int (2 : Int32) [(.int hi), (.int lo)] (.int 0)) : own_MP l Mn14 jdk_2097_method_63_code 2 (some (.array (.object "java/math/BigInteger"))) ws ({ frames := 6, cells := 10, slots := 25, locals := 102 } : Room) Z h0 #[(.ref a1), (.ref (o 4))] (fun _ _ _ _ _ => True) (Q_drB Z s r v9 v2 q hi lo o kc a1 t1 k1 h0 n0) := by
  refine own_startP (plainFor_of_name own_pn_java_math_BigInteger) fun p e s' m below meth c s₁ Bd hx hby hml hown0 X0 e0 hh0 hZ hK Pst hPst => ?_
  have dE := own_E hby own_D32
  have hown : s'.vm.findClass "java/math/BigInteger" = some m.cls := hown0
  have hnm := (name_of_methodNamed Bd.named Bd.method).1
  have N0 := Fr.nil n0
  rw [own_ef_RR_2 m a1 (o 4)]
  refine o_aloadN X0.here hx (dE 0 rfl) rfl rfl ?_
  have c101 := (G.2.2.2.2.2.2.2.2.2.2.2.1).ext O.2
  refine p_getF X0 hx hZ hown (host := "") (Or.inl (g_ hw 161 rfl)) Via.refl e0 c101 rfl (dE 1 rfl) fun T102 X102 e102 => ?_
  have c103 := (G.2.2.2.2.2.2.2.2.2.2.2.2.1).ext O.2
  obtain ⟨cl104, Ar104, -, S104, P104, -, -⟩ := id c103
  refine own_Go.of (S' := T102.setTop (mkF m 5 #[.val (.ref a1), .val (.ref (o 4))] [(.int (1 : Int32))])) (fun tgt kst => X102.arraylength hx (by rw [e102]; exact Ar104.1) (State.isArrayOf_alike hZ.alike Ar104.2.1) (g := (mkF m 4 #[.val (.ref a1), .val (.ref (o 4))] [(.ref (o 5))])) rfl rfl (dE 2 rfl) _ (by rw [len_of S104 P104]; exact kst)) ?_
  refine o_bipush X102.here hx (dE 3 rfl) (z := (80 : Int32)) rfl ?_
  refine o_icmpYes X102.here hx (pc0 := 7) (pc' := 26) rfl (dE 4 rfl) rfl (tlt (by decide)).1 (by decide) (by decide) ?_
  refine o_aloadN X102.here hx (dE 5 rfl) rfl rfl ?_
  refine o_aloadN X102.here hx (dE 6 rfl) rfl rfl ?_
  obtain ⟨cq105, kq105, q105a, q105b, q105c⟩ := isOf hZ e102 E1
  refine own_cP X102 (X102.virtualBack hx (y := Mn13) (z := Mn13) hown (mvT hZ (g_ hw 169 rfl)) (mvT hZ (own_decl (g_ hw 170 rfl) (g_ hw 173 rfl))) (notFace_of_selects (args := #[]) (mvT hZ (g_ hw 172 rfl))) (mvT hZ (g_ hw 172 rfl)) (mvT hZ (g_ hw 170 rfl)) (by decide) (backOf (W := 0) (rm_rkB l Z a0 hw [] s r v9 v2 q hi lo o kc a1 t1 k1 h0 n0 Z0 O G hB E1 G1 M1 A1) hZ (g_ hw 173 rfl) (g_ hw 147 rfl) (by decide) (by decide)) q105a q105c (g := (mkF m 28 #[.val (.ref a1), .val (.ref (o 4))] [(.ref (o 4)), (.ref a1)])) rfl (by rw [hml]; rfl) (Steps.refl _) (argsL := [(.ref (o 4))]) (rest := []) (lenOf own_pd29 rfl) rfl (by show 2 * 0 + _ ≤ _; exact Nat.le_of_eq rfl) (dE 7 rfl) (fun _ _ => ⟨rfl, e102, (by decide : 0 + 10 ≤ _), (by decide : 0 + 25 ≤ _)⟩)) fun v105 T105 L105 X105 hQ105 => ?_
  obtain ⟨b105, rfl, Nq105, K105, sb105, kb105, x105, t105, k105, B105, sx105, A105, S105, M105, P105, V105⟩ := hQ105
  have N105 := Fr.app N0 Nq105
  have ne_t1_b105 : t1 ≠ b105 := Nat.ne_of_lt (Nat.lt_of_lt_of_le A1.lt sb105)
  have ne_a1_b105 : a1 ≠ b105 := Nat.ne_of_lt (Nat.lt_of_lt_of_le E1.lt sb105)
  have c106 := (G.2.2.2.2.2.2.2.2.2.1).ext O.2
  have ne__o_4__b105 : (o 4) ≠ b105 := Nat.ne_of_lt (Nat.lt_of_lt_of_le c106.lt sb105)
  have c107 := (G.2.2.2.2.2.2.2.2.2.2.2.2.1).ext O.2
  have ne__o_5__b105 : (o 5) ≠ b105 := Nat.ne_of_lt (Nat.lt_of_lt_of_le c107.lt sb105)
  have c108 := (G.2.2.2.2.2.2.2.2.2.2.2.2.2.2.1).ext O.2
  have ne__o_6__b105 : (o 6) ≠ b105 := Nat.ne_of_lt (Nat.lt_of_lt_of_le c108.lt sb105)
  have gn_b105 : n0 ≤ b105 := Nat.le_trans Z0 sb105
  have sz_b105 : h0.size ≤ b105 := Nat.le_trans (Keep.refl h0 []).1 sb105
  show own_Go p e below Pst (T105.setTop (mkF m 31 #[.val (.ref a1), .val (.ref (o 4))] [(.ref b105)]))
  have c109 := (Keep.trans (Keep.refl h0 []) K105 all0)
  rw [hPst]
  exact own_retP X105 (v := (some (.ref b105))) (Q := Q_drB Z s r v9 v2 q hi lo o kc a1 t1 k1 h0 n0) (fun h => by rw [Bd.returns] at h; cases h) Bd.notSynchronized (fun fs hr => retOut X105 hx Bd.returns rfl (Or.inr (Or.inr (Or.inr (Or.inr ⟨rfl, rfl, rfl⟩)))) (dE 8 rfl) hr) (by decide) (by decide) ⟨_, rfl, N105, c109, sb105, _, _, _, _, B105, sx105, A105, S105, M105, P105, V105⟩
theorem own_ef_R_7 (m : MethodId) (x0 : Addr) : entryFrame m #[(.ref x0)] 7 = mkF m 0 #[.val (.ref x0), .unset, .unset, .unset, .unset, .unset, .unset] [] := by first | (simp [entryFrame, mkF, argsToLocals, Value.category]; done) | rfl
def Q_bl (Z : State) (s r v9 v2 : Int64) (q hi lo : Int32) (a1 t1 : Addr) (k1 : ClassId) (h0 : Heap) (n0 : Nat) (v : Option Value) (h : Heap) (L : List Loc) : Prop := ∃ m : Int32, v = some (.int m) ∧ Fr n0 L ∧ Keep h0 h [a1] ∧ ¬ (63 : Int32) < m ∧ Fld Z h a1 "java/math/BigInteger" "signum" "I" (.int (1 : Int32)) ∧ Fld Z h a1 "java/math/BigInteger" "mag" "[I" (.ref t1)
theorem rm_bl (l : Launch) (Z : State) (a0 : Array Value) (hw : own_H a0 Z) (ws : List Jvm.Cond) (s r v9 v2 : Int64) (q hi lo : Int32) (a1 t1 : Addr) (k1 : ClassId) (h0 : Heap) (n0 : Nat) (Z0 : n0 ≤ h0.size) (hV : own_V s r v9 v2 q hi lo) (E1 : Exa Z h0 a1 "java/math/BigInteger") (G1 : Fld Z h0 a1 "java/math/BigInteger" "signum" "I" (.int (1 : Int32))) (M1 : Fld Z h0 a1 "java/math/BigInteger" "mag" "[I" (.ref t1)) (A1 : Arv Z h0 t1 k1 .int (1 : Int32) [(.int q)] (.int 0)) (P1 : Fld Z h0 a1 "java/math/BigInteger" "bitLengthPlusOne" "I" (.int (0 : Int32))) (g1 : n0 ≤ a1) : own_MP l Mn23 jdk_2097_method_118_code 7 (some .int) ws ({ frames := 2, cells := 0, slots := 0, locals := 27 } : Room) Z h0 #[(.ref a1)] (fun _ _ _ _ _ => True) (Q_bl Z s r v9 v2 q hi lo a1 t1 k1 h0 n0) := by
  refine own_startP (plainFor_of_name own_pn_java_math_BigInteger) fun p e s' m below meth c s₁ Bd hx hby hml hown0 X0 e0 hh0 hZ hK Pst hPst => ?_
  have dE := own_E hby own_D44
  have hown : s'.vm.findClass "java/math/BigInteger" = some m.cls := hown0
  have hnm := (name_of_methodNamed Bd.named Bd.method).1
  have N0 := Fr.nil n0
  rw [own_ef_R_7 m a1]
  have nq_t1_a1 : t1 ≠ a1 := Ne.symm (Exa.neArv E1 A1 (g_ hw 151 rfl))
  refine o_aloadN X0.here hx (dE 0 rfl) rfl rfl ?_
  refine p_getF X0 hx hZ hown (host := "") (Or.inl (g_ hw 242 rfl)) Via.refl e0 P1 rfl (dE 1 rfl) fun T101 X101 e101 => ?_
  refine o_iconst X101.here hx (dE 2 rfl) (z := (1 : Int32)) rfl ?_
  refine o_isub X101.here hx (dE 3 rfl) rfl ?_
  refine o_istoreN X101.here hx (dE 4 rfl) rfl (l' := #[.val (.ref a1), .val (.int ((0 : Int32) - (1 : Int32))), .unset, .unset, .unset, .unset, .unset]) rfl ?_
  refine o_iloadN X101.here hx (dE 5 rfl) rfl ?_
  refine o_iconst X101.here hx (dE 6 rfl) (z := (-1 : Int32)) (by decide) ?_
  refine o_icmpNo X101.here hx (dE 7 rfl) rfl (teq (by decide)).2 ?_
  refine o_aloadN X101.here hx (dE 8 rfl) rfl rfl ?_
  refine p_getF X101 hx hZ hown (host := "") (Or.inl (g_ hw 161 rfl)) Via.refl e101 M1 rfl (dE 9 rfl) fun T102 X102 e102 => ?_
  refine o_astoreN X102.here hx (dE 10 rfl) rfl rfl (l' := #[.val (.ref a1), .val (.int ((0 : Int32) - (1 : Int32))), .val (.ref t1), .unset, .unset, .unset, .unset]) rfl ?_
  refine o_aloadN X102.here hx (dE 11 rfl) rfl rfl ?_
  obtain ⟨cl103, Ar103, -, S103, P103, -, -⟩ := id A1
  refine own_Go.of (S' := T102.setTop (mkF m 19 #[.val (.ref a1), .val (.int ((0 : Int32) - (1 : Int32))), .val (.ref t1), .unset, .unset, .unset, .unset] [(.int (1 : Int32))])) (fun tgt kst => X102.arraylength hx (by rw [e102]; exact Ar103.1) (State.isArrayOf_alike hZ.alike Ar103.2.1) (g := (mkF m 18 #[.val (.ref a1), .val (.int ((0 : Int32) - (1 : Int32))), .val (.ref t1), .unset, .unset, .unset, .unset] [(.ref t1)])) rfl rfl (dE 12 rfl) _ (by rw [len_of S103 P103]; exact kst)) ?_
  refine o_istoreN X102.here hx (dE 13 rfl) rfl (l' := #[.val (.ref a1), .val (.int ((0 : Int32) - (1 : Int32))), .val (.ref t1), .val (.int (1 : Int32)), .unset, .unset, .unset]) rfl ?_
  refine o_iloadN X102.here hx (dE 14 rfl) rfl ?_
  refine o_ifYes X102.here hx (pc0 := 21) (pc' := 29) rfl (dE 15 rfl) rfl ((if0 _ _).trans (feq (by decide)).2) (by decide) (by decide) ?_
  refine o_iloadN X102.here hx (dE 16 rfl) rfl ?_
  refine o_iconst X102.here hx (dE 17 rfl) (z := (1 : Int32)) rfl ?_
  refine o_isub X102.here hx (dE 18 rfl) rfl ?_
  refine o_iconst X102.here hx (dE 19 rfl) (z := (5 : Int32)) rfl ?_
  refine o_ishl X102.here hx (dE 20 rfl) rfl ?_
  refine o_aloadN X102.here hx (dE 21 rfl) rfl rfl ?_
  refine p_getF X102 hx hZ hown (host := "") (Or.inl (g_ hw 161 rfl)) Via.refl e102 M1 rfl (dE 22 rfl) fun T104 X104 e104 => ?_
  refine o_iconst X104.here hx (dE 23 rfl) (z := (0 : Int32)) rfl ?_
  obtain ⟨cl105, Ar105, q105, S105, P105, H105, G105⟩ := id A1
  have hin105 : ¬ ((0 : Int32) < 0 ∨ cl105.slots.size ≤ ((0 : Int32)).toNatClampNeg) := inb_of S105 ⟨by decide, by decide⟩
  have hat105 : cl105.slots[((0 : Int32)).toNatClampNeg]? = some (.int q) := Has.at H105 hin105 rfl
  refine own_Go.of (S' := T104.setTop (mkF m 40 #[.val (.ref a1), .val (.int ((0 : Int32) - (1 : Int32))), .val (.ref t1), .val (.int (1 : Int32)), .unset, .unset, .unset] [(.int q), (.int (((1 : Int32) - (1 : Int32)) <<< ((5 : Int32) &&& 31)))])) (fun tgt kst => X104.iaload hx (j := (0 : Int32)) (v := (.int q)) (by rw [e104]; exact Ar105.1) (State.isArrayOf_alike hZ.alike Ar105.2.1) Ar105.2.2 hin105 hat105 (g := (mkF m 39 #[.val (.ref a1), .val (.int ((0 : Int32) - (1 : Int32))), .val (.ref t1), .val (.int (1 : Int32)), .unset, .unset, .unset] [(.int (0 : Int32)), (.ref t1), (.int (((1 : Int32) - (1 : Int32)) <<< ((5 : Int32) &&& 31)))])) rfl rfl (dE 24 rfl) _ kst) ?_
  refine own_cF X104 (Jvm.LawKit.callS X104 hx (y := Mn50) hown (mvT hZ (g_ hw 244 rfl)) (mvT hZ (g_ hw 245 rfl)) (mvT hZ (g_ hw 147 rfl)) (mvT hZ (g_ hw 246 rfl)) (by decide) (backOf (W := 1) (rm_blf l Z a0 hw [] s r v9 v2 q hi lo h0 n0 Z0 hV) hZ (g_ hw 246 rfl) (g_ hw 147 rfl) (by decide) (by decide)) (g := (mkF m 40 #[.val (.ref a1), .val (.int ((0 : Int32) - (1 : Int32))), .val (.ref t1), .val (.int (1 : Int32)), .unset, .unset, .unset] [(.int q), (.int (((1 : Int32) - (1 : Int32)) <<< ((5 : Int32) &&& 31)))])) rfl (by rw [hml]; rfl) (argsL := [(.int q)]) (rest := [(.int (((1 : Int32) - (1 : Int32)) <<< ((5 : Int32) &&& 31)))]) (lenOf own_pd17 rfl) rfl (by show 2 * 0 + _ ≤ _; exact Nat.le_of_eq rfl) (dE 25 rfl) (fun _ _ => ⟨rfl, e104, (by decide : 0 + 0 ≤ _), (by decide : 0 + 0 ≤ _)⟩)) fun v106 T106 L106 X106 hQ106 => ?_
  obtain ⟨r0106, rfl, Nq106, e106, B106⟩ := hQ106
  have N106 := Fr.app N0 Nq106
  show own_Go p e below Pst (T106.setTop (mkF m 43 #[.val (.ref a1), .val (.int ((0 : Int32) - (1 : Int32))), .val (.ref t1), .val (.int (1 : Int32)), .unset, .unset, .unset] [(.int ((32 : Int32) - r0106)), (.int (((1 : Int32) - (1 : Int32)) <<< ((5 : Int32) &&& 31)))]))
  refine o_iadd X106.here hx (dE 26 rfl) rfl ?_
  refine o_istore X106.here hx (dE 27 rfl) rfl (l' := #[.val (.ref a1), .val (.int ((0 : Int32) - (1 : Int32))), .val (.ref t1), .val (.int (1 : Int32)), .val (.int ((((1 : Int32) - (1 : Int32)) <<< ((5 : Int32) &&& 31)) + ((32 : Int32) - r0106))), .unset, .unset]) rfl ?_
  refine o_aloadN X106.here hx (dE 28 rfl) rfl rfl ?_
  refine p_getF X106 hx hZ hown (host := "") (Or.inl (g_ hw 158 rfl)) Via.refl e106 G1 rfl (dE 29 rfl) fun T107 X107 e107 => ?_
  refine o_ifYes X107.here hx (pc0 := 50) (pc' := 128) rfl (dE 30 rfl) rfl ((if0 _ _).trans (flt (by decide)).2.1) (by decide) (by decide) ?_
  refine o_iload X107.here hx (dE 31 rfl) rfl ?_
  refine o_istoreN X107.here hx (dE 32 rfl) rfl (l' := #[.val (.ref a1), .val (.int ((((1 : Int32) - (1 : Int32)) <<< ((5 : Int32) &&& 31)) + ((32 : Int32) - r0106))), .val (.ref t1), .val (.int (1 : Int32)), .val (.int ((((1 : Int32) - (1 : Int32)) <<< ((5 : Int32) &&& 31)) + ((32 : Int32) - r0106))), .unset, .unset]) rfl ?_
  refine o_aloadN X107.here hx (dE 33 rfl) rfl rfl ?_
  refine o_iloadN X107.here hx (dE 34 rfl) rfl ?_
  refine o_iconst X107.here hx (dE 35 rfl) (z := (1 : Int32)) rfl ?_
  refine o_iadd X107.here hx (dE 36 rfl) rfl ?_
  refine p_putF X107 hx hZ hown (host := "") (Or.inl (g_ hw 242 rfl)) Via.refl e107 P1 E1 (Or.inl (g_ hw 243 rfl)) (g_ hw 151 rfl) (ty := .int) (by decide) rfl rfl rfl (dE 37 rfl) fun T108 h108 X108 e108 W108 => ?_
  have Fw108 := Fld.same W108 P1
  have N108 := Fr.snoc X108 N106 g1
  refine o_iloadN X108.here hx (dE 38 rfl) rfl ?_
  have c109 := ((Keep.refl h0 [a1]).wr W108 (Or.inl (List.mem_of_getElem? (i := 0) rfl)))
  have c110 := (G1.other W108 (Or.inr (slot_ne (Or.inr (g_ hw 159 rfl)) (Or.inl (g_ hw 243 rfl)) (by decide) (t := .int) (t' := .int) (by decide) (by decide))))
  have c111 := (M1.other W108 (Or.inr (slot_ne (Or.inr (g_ hw 162 rfl)) (Or.inl (g_ hw 243 rfl)) (by decide) (t := (.array .int)) (t' := .int) (by decide) (by decide))))
  rw [hPst]
  exact own_retP X108 (v := (some (.int ((((1 : Int32) - (1 : Int32)) <<< ((5 : Int32) &&& 31)) + ((32 : Int32) - r0106))))) (Q := Q_bl Z s r v9 v2 q hi lo a1 t1 k1 h0 n0) (fun h => by rw [Bd.returns] at h; cases h) Bd.notSynchronized (fun fs hr => own_retI X108 hx Bd.returns (dE 39 rfl) hr) (by decide) (by decide) (by rw [e108]; exact ⟨_, rfl, N108, c109, B106, c110, c111⟩)
def Q_si (Z : State) (a1 : Addr) (sg : Int32) (h0 : Heap) (n0 : Nat) (v : Option Value) (h : Heap) (L : List Loc) : Prop := v = some (.int (0 : Int32)) ∧ Fr n0 L ∧ h = h0
theorem rm_si (l : Launch) (Z : State) (a0 : Array Value) (hw : own_H a0 Z) (ws : List Jvm.Cond) (a1 : Addr) (sg : Int32) (h0 : Heap) (n0 : Nat) (Z0 : n0 ≤ h0.size) (G1 : Fld Z h0 a1 "java/math/BigInteger" "signum" "I" (.int sg)) (hh : ¬ sg < 0) : own_MP l Mn24 jdk_2097_method_147_code 1 (some .int) ws ({ frames := 0, cells := 0, slots := 0, locals := 0 } : Room) Z h0 #[(.ref a1)] (fun _ _ _ _ _ => True) (Q_si Z a1 sg h0 n0) := by
  refine own_startP (plainFor_of_name own_pn_java_math_BigInteger) fun p e s m below meth c s₁ Bd hx hby hml hown0 X0 e0 hh0 hZ hK Pst hPst => ?_
  have dE := own_E hby own_D49
  have hown : s.vm.findClass "java/math/BigInteger" = some m.cls := hown0
  have hnm := (name_of_methodNamed Bd.named Bd.method).1
  have N0 := Fr.nil n0
  rw [own_ef_R_1 m a1]
  refine o_aloadN X0.here hx (dE 0 rfl) rfl rfl ?_
  refine p_getF X0 hx hZ hown (host := "") (Or.inl (g_ hw 158 rfl)) Via.refl e0 G1 rfl (dE 1 rfl) fun T101 X101 e101 => ?_
  refine o_ifYes X101.here hx (pc0 := 4) (pc' := 11) rfl (dE 2 rfl) rfl ((if0 _ _).trans (flt hh).2.1) (by decide) (by decide) ?_
  refine o_iconst X101.here hx (dE 3 rfl) (z := (0 : Int32)) rfl ?_
  rw [hPst]
  exact own_retP X101 (v := (some (.int (0 : Int32)))) (Q := Q_si Z a1 sg h0 n0) (fun h => by rw [Bd.returns] at h; cases h) Bd.notSynchronized (fun fs hr => own_retI X101 hx Bd.returns (dE 4 rfl) hr) (by decide) (by decide) (by rw [e101]; exact ⟨rfl, N0, rfl⟩)
theorem own_pd30 : parseMethodDescriptor "()I" = some ⟨[], some .int⟩ := by decide +kernel
theorem own_ef_RI_3 (m : MethodId) (x0 : Addr) (x1 : Int32) : entryFrame m #[(.ref x0), (.int x1)] 3 = mkF m 0 #[.val (.ref x0), .val (.int x1), .unset] [] := by first | (simp [entryFrame, mkF, argsToLocals, Value.category]; done) | rfl
def Q_gi1 (Z : State) (q : Int32) (a1 t1 : Addr) (k1 : ClassId) (h0 : Heap) (n0 : Nat) (v : Option Value) (h : Heap) (L : List Loc) : Prop := v = some (.int (0 : Int32)) ∧ Fr n0 L ∧ h = h0
theorem rm_gi1 (l : Launch) (Z : State) (a0 : Array Value) (hw : own_H a0 Z) (ws : List Jvm.Cond) (q : Int32) (a1 t1 : Addr) (k1 : ClassId) (h0 : Heap) (n0 : Nat) (Z0 : n0 ≤ h0.size) (E1 : Exa Z h0 a1 "java/math/BigInteger") (G1 : Fld Z h0 a1 "java/math/BigInteger" "signum" "I" (.int (1 : Int32))) (M1 : Fld Z h0 a1 "java/math/BigInteger" "mag" "[I" (.ref t1)) (A1 : Arv Z h0 t1 k1 .int (1 : Int32) [(.int q)] (.int 0)) : own_MP l Mn5 jdk_2097_method_148_code 3 (some .int) ws ({ frames := 1, cells := 0, slots := 0, locals := 12 } : Room) Z h0 #[(.ref a1), (.int (1 : Int32))] (fun _ _ _ _ _ => True) (Q_gi1 Z q a1 t1 k1 h0 n0) := by
  refine own_startP (plainFor_of_name own_pn_java_math_BigInteger) fun p e s m below meth c s₁ Bd hx hby hml hown0 X0 e0 hh0 hZ hK Pst hPst => ?_
  have dE := own_E hby own_D48
  have hown : s.vm.findClass "java/math/BigInteger" = some m.cls := hown0
  have hnm := (name_of_methodNamed Bd.named Bd.method).1
  have N0 := Fr.nil n0
  rw [own_ef_RI_3 m a1 (1 : Int32)]
  refine o_iloadN X0.here hx (dE 0 rfl) rfl ?_
  refine o_ifYes X0.here hx (pc0 := 1) (pc' := 6) rfl (dE 1 rfl) rfl ((if0 _ _).trans (flt (by decide)).2.1) (by decide) (by decide) ?_
  refine o_iloadN X0.here hx (dE 2 rfl) rfl ?_
  refine o_aloadN X0.here hx (dE 3 rfl) rfl rfl ?_
  refine p_getF X0 hx hZ hown (host := "") (Or.inl (g_ hw 161 rfl)) Via.refl e0 M1 rfl (dE 4 rfl) fun T101 X101 e101 => ?_
  obtain ⟨cl102, Ar102, -, S102, P102, -, -⟩ := id A1
  refine own_Go.of (S' := T101.setTop (mkF m 12 #[.val (.ref a1), .val (.int (1 : Int32)), .unset] [(.int (1 : Int32)), (.int (1 : Int32))])) (fun tgt kst => X101.arraylength hx (by rw [e101]; exact Ar102.1) (State.isArrayOf_alike hZ.alike Ar102.2.1) (g := (mkF m 11 #[.val (.ref a1), .val (.int (1 : Int32)), .unset] [(.ref t1), (.int (1 : Int32))])) rfl rfl (dE 5 rfl) _ (by rw [len_of S102 P102]; exact kst)) ?_
  refine o_icmpNo X101.here hx (dE 6 rfl) rfl (flt (by decide)).1 ?_
  refine o_aloadN X101.here hx (dE 7 rfl) rfl rfl ?_
  obtain ⟨cq103, kq103, q103a, q103b, q103c⟩ := isOf hZ e101 E1
  refine own_cP X101 (X101.virtualBack hx (y := Mn24) (z := Mn24) hown (mvT hZ (g_ hw 262 rfl)) (mvT hZ (own_decl (g_ hw 263 rfl) (g_ hw 266 rfl))) (notFace_of_selects (args := #[]) (mvT hZ (g_ hw 265 rfl))) (mvT hZ (g_ hw 265 rfl)) (mvT hZ (g_ hw 263 rfl)) (by decide) (backOf (W := 0) (rm_si l Z a0 hw [] a1 (1 : Int32) h0 n0 Z0 G1 (by decide)) hZ (g_ hw 266 rfl) (g_ hw 147 rfl) (by decide) (by decide)) q103a q103c (g := (mkF m 16 #[.val (.ref a1), .val (.int (1 : Int32)), .unset] [(.ref a1)])) rfl (by rw [hml]; rfl) (Steps.refl _) (argsL := []) (rest := []) (lenOf own_pd30 rfl) rfl (by show 2 * 0 + _ ≤ _; exact Nat.le_of_eq rfl) (dE 8 rfl) (fun _ _ => ⟨rfl, e101, (by decide : 0 + 0 ≤ _), (by decide : 0 + 0 ≤ _)⟩)) fun v103 T103 L103 X103 hQ103 => ?_
  obtain ⟨rfl, Nq103, e103⟩ := hQ103
  have N103 := Fr.app N0 Nq103
  show own_Go p e below Pst (T103.setTop (mkF m 19 #[.val (.ref a1), .val (.int (1 : Int32)), .unset] [(.int (0 : Int32))]))
  rw [hPst]
  exact own_retP X103 (v := (some (.int (0 : Int32)))) (Q := Q_gi1 Z q a1 t1 k1 h0 n0) (fun h => by rw [Bd.returns] at h; cases h) Bd.notSynchronized (fun fs hr => own_retI X103 hx Bd.returns (dE 9 rfl) hr) (by decide) (by decide) (by rw [e103]; exact ⟨rfl, N103, rfl⟩)
def Q_gi0 (Z : State) (q : Int32) (a1 t1 : Addr) (k1 : ClassId) (h0 : Heap) (n0 : Nat) (v : Option Value) (h : Heap) (L : List Loc) : Prop := v = some (.int q) ∧ Fr n0 L ∧ h = h0
theorem rm_gi0 (l : Launch) (Z : State) (a0 : Array Value) (hw : own_H a0 Z) (ws : List Jvm.Cond) (q : Int32) (a1 t1 : Addr) (k1 : ClassId) (h0 : Heap) (n0 : Nat) (Z0 : n0 ≤ h0.size) (E1 : Exa Z h0 a1 "java/math/BigInteger") (G1 : Fld Z h0 a1 "java/math/BigInteger" "signum" "I" (.int (1 : Int32))) (M1 : Fld Z h0 a1 "java/math/BigInteger" "mag" "[I" (.ref t1)) (A1 : Arv Z h0 t1 k1 .int (1 : Int32) [(.int q)] (.int 0)) : own_MP l Mn5 jdk_2097_method_148_code 3 (some .int) ws ({ frames := 0, cells := 0, slots := 0, locals := 0 } : Room) Z h0 #[(.ref a1), (.int (0 : Int32))] (fun _ _ _ _ _ => True) (Q_gi0 Z q a1 t1 k1 h0 n0) := by
  refine own_startP (plainFor_of_name own_pn_java_math_BigInteger) fun p e s m below meth c s₁ Bd hx hby hml hown0 X0 e0 hh0 hZ hK Pst hPst => ?_
  have dE := own_E hby own_D48
  have hown : s.vm.findClass "java/math/BigInteger" = some m.cls := hown0
  have hnm := (name_of_methodNamed Bd.named Bd.method).1
  have N0 := Fr.nil n0
  rw [own_ef_RI_3 m a1 (0 : Int32)]
  refine o_iloadN X0.here hx (dE 0 rfl) rfl ?_
  refine o_ifYes X0.here hx (pc0 := 1) (pc' := 6) rfl (dE 1 rfl) rfl ((if0 _ _).trans (flt (by decide)).2.1) (by decide) (by decide) ?_
  refine o_iloadN X0.here hx (dE 2 rfl) rfl ?_
  refine o_aloadN X0.here hx (dE 3 rfl) rfl rfl ?_
  refine p_getF X0 hx hZ hown (host := "") (Or.inl (g_ hw 161 rfl)) Via.refl e0 M1 rfl (dE 4 rfl) fun T101 X101 e101 => ?_
  obtain ⟨cl102, Ar102, -, S102, P102, -, -⟩ := id A1
  refine own_Go.of (S' := T101.setTop (mkF m 12 #[.val (.ref a1), .val (.int (0 : Int32)), .unset] [(.int (1 : Int32)), (.int (0 : Int32))])) (fun tgt kst => X101.arraylength hx (by rw [e101]; exact Ar102.1) (State.isArrayOf_alike hZ.alike Ar102.2.1) (g := (mkF m 11 #[.val (.ref a1), .val (.int (0 : Int32)), .unset] [(.ref t1), (.int (0 : Int32))])) rfl rfl (dE 5 rfl) _ (by rw [len_of S102 P102]; exact kst)) ?_
  refine o_icmpYes X101.here hx (pc0 := 12) (pc' := 20) rfl (dE 6 rfl) rfl (tlt (by decide)).1 (by decide) (by decide) ?_
  refine o_aloadN X101.here hx (dE 10 rfl) rfl rfl ?_
  refine p_getF X101 hx hZ hown (host := "") (Or.inl (g_ hw 161 rfl)) Via.refl e101 M1 rfl (dE 11 rfl) fun T103 X103 e103 => ?_
  refine o_aloadN X103.here hx (dE 12 rfl) rfl rfl ?_
  refine p_getF X103 hx hZ hown (host := "") (Or.inl (g_ hw 161 rfl)) Via.refl e103 M1 rfl (dE 13 rfl) fun T104 X104 e104 => ?_
  obtain ⟨cl105, Ar105, -, S105, P105, -, -⟩ := id A1
  refine own_Go.of (S' := T104.setTop (mkF m 29 #[.val (.ref a1), .val (.int (0 : Int32)), .unset] [(.int (1 : Int32)), (.ref t1)])) (fun tgt kst => X104.arraylength hx (by rw [e104]; exact Ar105.1) (State.isArrayOf_alike hZ.alike Ar105.2.1) (g := (mkF m 28 #[.val (.ref a1), .val (.int (0 : Int32)), .unset] [(.ref t1), (.ref t1)])) rfl rfl (dE 14 rfl) _ (by rw [len_of S105 P105]; exact kst)) ?_
  refine o_iloadN X104.here hx (dE 15 rfl) rfl ?_
  refine o_isub X104.here hx (dE 16 rfl) rfl ?_
  refine o_iconst X104.here hx (dE 17 rfl) (z := (1 : Int32)) rfl ?_
  refine o_isub X104.here hx (dE 18 rfl) rfl ?_
  rw [show (((1 : Int32) - (0 : Int32)) - (1 : Int32)) = (0 : Int32) from by decide]
  show own_Go p e below Pst (T104.setTop (mkF m 33 #[.val (.ref a1), .val (.int (0 : Int32)), .unset] [(.int (0 : Int32)), (.ref t1)]))
  obtain ⟨cl106, Ar106, q106, S106, P106, H106, G106⟩ := id A1
  have hin106 : ¬ ((0 : Int32) < 0 ∨ cl106.slots.size ≤ ((0 : Int32)).toNatClampNeg) := inb_of S106 ⟨by decide, by decide⟩
  have hat106 : cl106.slots[((0 : Int32)).toNatClampNeg]? = some (.int q) := Has.at H106 hin106 rfl
  refine own_Go.of (S' := T104.setTop (mkF m 34 #[.val (.ref a1), .val (.int (0 : Int32)), .unset] [(.int q)])) (fun tgt kst => X104.iaload hx (j := (0 : Int32)) (v := (.int q)) (by rw [e104]; exact Ar106.1) (State.isArrayOf_alike hZ.alike Ar106.2.1) Ar106.2.2 hin106 hat106 (g := (mkF m 33 #[.val (.ref a1), .val (.int (0 : Int32)), .unset] [(.int (0 : Int32)), (.ref t1)])) rfl rfl (dE 19 rfl) _ kst) ?_
  refine o_istoreN X104.here hx (dE 20 rfl) rfl (l' := #[.val (.ref a1), .val (.int (0 : Int32)), .val (.int q)]) rfl ?_
  refine o_aloadN X104.here hx (dE 21 rfl) rfl rfl ?_
  refine p_getF X104 hx hZ hown (host := "") (Or.inl (g_ hw 158 rfl)) Via.refl e104 G1 rfl (dE 22 rfl) fun T107 X107 e107 => ?_
  refine o_ifNo X107.here hx (dE 23 rfl) rfl ((if0 _ _).trans (flt (by decide)).1) ?_
  refine o_iloadN X107.here hx (dE 24 rfl) rfl ?_
  refine o_goto X107.here hx (pc0 := 43) (pc' := 62) rfl (dE 25 rfl) (by decide) (by decide) ?_
  rw [hPst]
  exact own_retP X107 (v := (some (.int q))) (Q := Q_gi0 Z q a1 t1 k1 h0 n0) (fun h => by rw [Bd.returns] at h; cases h) Bd.notSynchronized (fun fs hr => own_retI X107 hx Bd.returns (dE 26 rfl) hr) (by decide) (by decide) (by rw [e107]; exact ⟨rfl, N0, rfl⟩)
def Q_giZ (Z : State) (o : Nat → Addr) (kc : Nat → ClassId) (h0 : Heap) (n0 : Nat) (v : Option Value) (h : Heap) (L : List Loc) : Prop := v = some (.int (0 : Int32)) ∧ Fr n0 L ∧ h = h0
theorem rm_giZ (l : Launch) (Z : State) (a0 : Array Value) (hw : own_H a0 Z) (ws : List Jvm.Cond) (o : Nat → Addr) (kc : Nat → ClassId) (h0 : Heap) (n0 : Nat) (Z0 : n0 ≤ h0.size) (O : Old Z n0 h0) (G : own_G Z o kc) : own_MP l Mn5 jdk_2097_method_148_code 3 (some .int) ws ({ frames := 1, cells := 0, slots := 0, locals := 12 } : Room) Z h0 #[(.ref (o 6)), (.int (0 : Int32))] (fun _ _ _ _ _ => True) (Q_giZ Z o kc h0 n0) := by
  refine own_startP (plainFor_of_name own_pn_java_math_BigInteger) fun p e s m below meth c s₁ Bd hx hby hml hown0 X0 e0 hh0 hZ hK Pst hPst => ?_
  have dE := own_E hby own_D48
  have hown : s.vm.findClass "java/math/BigInteger" = some m.cls := hown0
  have hnm := (name_of_methodNamed Bd.named Bd.method).1
  have N0 := Fr.nil n0
  rw [own_ef_RI_3 m (o 6) (0 : Int32)]
  refine o_iloadN X0.here hx (dE 0 rfl) rfl ?_
  refine o_ifYes X0.here hx (pc0 := 1) (pc' := 6) rfl (dE 1 rfl) rfl ((if0 _ _).trans (flt (by decide)).2.1) (by decide) (by decide) ?_
  refine o_iloadN X0.here hx (dE 2 rfl) rfl ?_
  refine o_aloadN X0.here hx (dE 3 rfl) rfl rfl ?_
  have c101 := (G.2.2.2.2.2.2.2.2.2.2.2.2.2.2.2.2.1).ext O.2
  refine p_getF X0 hx hZ hown (host := "") (Or.inl (g_ hw 161 rfl)) Via.refl e0 c101 rfl (dE 4 rfl) fun T102 X102 e102 => ?_
  have c103 := (G.2.2.2.2.2.2.2.2.2.2.2.2.2.2.2.2.2.1).ext O.2
  obtain ⟨cl104, Ar104, -, S104, P104, -, -⟩ := id c103
  refine own_Go.of (S' := T102.setTop (mkF m 12 #[.val (.ref (o 6)), .val (.int (0 : Int32)), .unset] [(.int (0 : Int32)), (.int (0 : Int32))])) (fun tgt kst => X102.arraylength hx (by rw [e102]; exact Ar104.1) (State.isArrayOf_alike hZ.alike Ar104.2.1) (g := (mkF m 11 #[.val (.ref (o 6)), .val (.int (0 : Int32)), .unset] [(.ref (o 7)), (.int (0 : Int32))])) rfl rfl (dE 5 rfl) _ (by rw [len_of S104 P104]; exact kst)) ?_
  refine o_icmpNo X102.here hx (dE 6 rfl) rfl (flt (by decide)).1 ?_
  refine o_aloadN X102.here hx (dE 7 rfl) rfl rfl ?_
  have c105 := (G.2.2.2.2.2.2.2.2.2.2.2.2.2.2.2.1).ext O.2
  have c107 := (G.2.2.2.2.2.2.2.2.2.2.2.2.2.2.1).ext O.2
  obtain ⟨cq106, kq106, q106a, q106b, q106c⟩ := isOf hZ e102 c107
  refine own_cP X102 (X102.virtualBack hx (y := Mn24) (z := Mn24) hown (mvT hZ (g_ hw 262 rfl)) (mvT hZ (own_decl (g_ hw 263 rfl) (g_ hw 266 rfl))) (notFace_of_selects (args := #[]) (mvT hZ (g_ hw 265 rfl))) (mvT hZ (g_ hw 265 rfl)) (mvT hZ (g_ hw 263 rfl)) (by decide) (backOf (W := 0) (rm_si l Z a0 hw [] (o 6) (0 : Int32) h0 n0 Z0 c105 (by decide)) hZ (g_ hw 266 rfl) (g_ hw 147 rfl) (by decide) (by decide)) q106a q106c (g := (mkF m 16 #[.val (.ref (o 6)), .val (.int (0 : Int32)), .unset] [(.ref (o 6))])) rfl (by rw [hml]; rfl) (Steps.refl _) (argsL := []) (rest := []) (lenOf own_pd30 rfl) rfl (by show 2 * 0 + _ ≤ _; exact Nat.le_of_eq rfl) (dE 8 rfl) (fun _ _ => ⟨rfl, e102, (by decide : 0 + 0 ≤ _), (by decide : 0 + 0 ≤ _)⟩)) fun v106 T106 L106 X106 hQ106 => ?_
  obtain ⟨rfl, Nq106, e106⟩ := hQ106
  have N106 := Fr.app N0 Nq106
  show own_Go p e below Pst (T106.setTop (mkF m 19 #[.val (.ref (o 6)), .val (.int (0 : Int32)), .unset] [(.int (0 : Int32))]))
  rw [hPst]
  exact own_retP X106 (v := (some (.int (0 : Int32)))) (Q := Q_giZ Z o kc h0 n0) (fun h => by rw [Bd.returns] at h; cases h) Bd.notSynchronized (fun fs hr => own_retI X106 hx Bd.returns (dE 9 rfl) hr) (by decide) (by decide) (by rw [e106]; exact ⟨rfl, N106, rfl⟩)
theorem own_f41 {s r v9 v2 : Int64} {q hi lo : Int32} (hV : own_V s r v9 v2 q hi lo) : (((0 : Int64) <<< ((32 : Int32) &&& 0x3f).toInt64) + ((q.toInt64) &&& (4294967295 : Int64))) = r := by
  rcases hV with (⟨rfl, rfl, rfl, rfl, rfl, rfl, rfl⟩ | ⟨rfl, rfl, rfl, rfl, rfl, rfl, rfl⟩) | (⟨rfl, rfl, rfl, rfl, rfl, rfl, rfl⟩ | ⟨rfl, rfl, rfl, rfl, rfl, rfl, rfl⟩ | ⟨rfl, rfl, rfl, rfl, rfl, rfl, rfl⟩ | ⟨rfl, rfl, rfl, rfl, rfl, rfl, rfl⟩ | ⟨rfl, rfl, rfl, rfl, rfl, rfl, rfl⟩ | ⟨rfl, rfl, rfl, rfl, rfl, rfl, rfl⟩ | ⟨rfl, rfl, rfl, rfl, rfl, rfl, rfl⟩ | ⟨rfl, rfl, rfl, rfl, rfl, rfl, rfl⟩ | ⟨rfl, rfl, rfl, rfl, rfl, rfl, rfl⟩ | ⟨rfl, rfl, rfl, rfl, rfl, rfl, rfl⟩) <;> decide
def Q_lv (Z : State) (s r v9 v2 : Int64) (q hi lo : Int32) (a1 t1 : Addr) (k1 : ClassId) (h0 : Heap) (n0 : Nat) (v : Option Value) (h : Heap) (L : List Loc) : Prop := v = some (.long r) ∧ Fr n0 L ∧ h = h0
theorem rm_lv (l : Launch) (Z : State) (a0 : Array Value) (hw : own_H a0 Z) (ws : List Jvm.Cond) (s r v9 v2 : Int64) (q hi lo : Int32) (a1 t1 : Addr) (k1 : ClassId) (h0 : Heap) (n0 : Nat) (Z0 : n0 ≤ h0.size) (hV : own_V s r v9 v2 q hi lo) (E1 : Exa Z h0 a1 "java/math/BigInteger") (G1 : Fld Z h0 a1 "java/math/BigInteger" "signum" "I" (.int (1 : Int32))) (M1 : Fld Z h0 a1 "java/math/BigInteger" "mag" "[I" (.ref t1)) (A1 : Arv Z h0 t1 k1 .int (1 : Int32) [(.int q)] (.int 0)) : own_MP l Mn25 jdk_2097_method_136_code 4 (some .long) ws ({ frames := 2, cells := 0, slots := 0, locals := 28 } : Room) Z h0 #[(.ref a1)] (fun _ _ _ _ _ => True) (Q_lv Z s r v9 v2 q hi lo a1 t1 k1 h0 n0) := by
  refine own_startP (plainFor_of_name own_pn_java_math_BigInteger) fun p e s' m below meth c s₁ Bd hx hby hml hown0 X0 e0 hh0 hZ hK Pst hPst => ?_
  have dE := own_E hby own_D47
  have hown : s'.vm.findClass "java/math/BigInteger" = some m.cls := hown0
  have hnm := (name_of_methodNamed Bd.named Bd.method).1
  have N0 := Fr.nil n0
  rw [own_ef_R_4 m a1]
  refine o_lconst X0.here hx (dE 0 rfl) (z := (0 : Int64)) rfl ?_
  refine o_lstoreN X0.here hx (dE 1 rfl) rfl (l' := #[.val (.ref a1), .val (.long (0 : Int64)), .second, .unset]) rfl ?_
  refine o_iconst X0.here hx (dE 2 rfl) (z := (1 : Int32)) rfl ?_
  refine o_istoreN X0.here hx (dE 3 rfl) rfl (l' := #[.val (.ref a1), .val (.long (0 : Int64)), .second, .val (.int (1 : Int32))]) rfl ?_
  refine o_iloadN X0.here hx (dE 4 rfl) rfl ?_
  refine o_ifNo X0.here hx (dE 5 rfl) rfl ((if0 _ _).trans (flt (by decide)).1) ?_
  refine o_lloadN X0.here hx (dE 6 rfl) rfl ?_
  refine o_bipush X0.here hx (dE 7 rfl) (z := (32 : Int32)) rfl ?_
  refine o_lshl X0.here hx (dE 8 rfl) rfl ?_
  refine o_aloadN X0.here hx (dE 9 rfl) rfl rfl ?_
  refine o_iloadN X0.here hx (dE 10 rfl) rfl ?_
  obtain ⟨cq101, kq101, q101a, q101b, q101c⟩ := isOf hZ e0 E1
  refine own_cP X0 (X0.virtualBack hx (y := Mn5) (z := Mn5) hown (mvT hZ (g_ hw 257 rfl)) (mvT hZ (own_decl (g_ hw 258 rfl) (g_ hw 261 rfl))) (notFace_of_selects (args := #[]) (mvT hZ (g_ hw 260 rfl))) (mvT hZ (g_ hw 260 rfl)) (mvT hZ (g_ hw 258 rfl)) (by decide) (backOf (W := 2) (rm_gi1 l Z a0 hw [] q a1 t1 k1 h0 n0 Z0 E1 G1 M1 A1) hZ (g_ hw 261 rfl) (g_ hw 147 rfl) (by decide) (by decide)) q101a q101c (g := (mkF m 14 #[.val (.ref a1), .val (.long (0 : Int64)), .second, .val (.int (1 : Int32))] [(.int (1 : Int32)), (.ref a1), (.long ((0 : Int64) <<< ((32 : Int32) &&& 0x3f).toInt64))])) rfl (by rw [hml]; rfl) (Steps.refl _) (argsL := [(.int (1 : Int32))]) (rest := [(.long ((0 : Int64) <<< ((32 : Int32) &&& 0x3f).toInt64))]) (lenOf own_pd17 rfl) rfl (by show 2 * 0 + _ ≤ _; exact Nat.le_of_eq rfl) (dE 11 rfl) (fun _ _ => ⟨rfl, e0, (by decide : 0 + 0 ≤ _), (by decide : 0 + 0 ≤ _)⟩)) fun v101 T101 L101 X101 hQ101 => ?_
  obtain ⟨rfl, Nq101, e101⟩ := hQ101
  have N101 := Fr.app N0 Nq101
  show own_Go p e below Pst (T101.setTop (mkF m 17 #[.val (.ref a1), .val (.long (0 : Int64)), .second, .val (.int (1 : Int32))] [(.int (0 : Int32)), (.long ((0 : Int64) <<< ((32 : Int32) &&& 0x3f).toInt64))]))
  refine o_i2l X101.here hx (dE 12 rfl) rfl ?_
  refine own_Go.of (S' := T101.setTop (mkF m 21 #[.val (.ref a1), .val (.long (0 : Int64)), .second, .val (.int (1 : Int32))] [(.long (4294967295 : Int64)), (.long ((0 : Int32).toInt64)), (.long ((0 : Int64) <<< ((32 : Int32) &&& 0x3f).toInt64))])) (fun tgt kst => X101.ldc2Long hx hown (mvT hZ (g_ hw 267 rfl)) (g := (mkF m 18 #[.val (.ref a1), .val (.long (0 : Int64)), .second, .val (.int (1 : Int32))] [(.long ((0 : Int32).toInt64)), (.long ((0 : Int64) <<< ((32 : Int32) &&& 0x3f).toInt64))])) rfl (dE 13 rfl) _ kst) ?_
  refine o_land X101.here hx (dE 14 rfl) rfl ?_
  refine o_ladd X101.here hx (dE 15 rfl) rfl ?_
  rw [show (((0 : Int64) <<< ((32 : Int32) &&& 0x3f).toInt64) + (((0 : Int32).toInt64) &&& (4294967295 : Int64))) = (0 : Int64) from by decide]
  show own_Go p e below Pst (T101.setTop (mkF m 23 #[.val (.ref a1), .val (.long (0 : Int64)), .second, .val (.int (1 : Int32))] [(.long (0 : Int64))]))
  refine o_lstoreN X101.here hx (dE 16 rfl) rfl (l' := #[.val (.ref a1), .val (.long (0 : Int64)), .second, .val (.int (1 : Int32))]) rfl ?_
  refine o_iinc X101.here hx (dE 17 rfl) rfl (l' := #[.val (.ref a1), .val (.long (0 : Int64)), .second, .val (.int ((1 : Int32) + (-1 : Int32)))]) rfl ?_
  rw [show ((1 : Int32) + (-1 : Int32)) = (0 : Int32) from by decide]
  show own_Go p e below Pst (T101.setTop (mkF m 27 #[.val (.ref a1), .val (.long (0 : Int64)), .second, .val (.int (0 : Int32))] []))
  refine o_goto X101.here hx (pc0 := 27) (pc' := 4) rfl (dE 18 rfl) (by decide) (by decide) ?_
  refine o_iloadN X101.here hx (dE 4 rfl) rfl ?_
  refine o_ifNo X101.here hx (dE 5 rfl) rfl ((if0 _ _).trans (flt (by decide)).1) ?_
  refine o_lloadN X101.here hx (dE 6 rfl) rfl ?_
  refine o_bipush X101.here hx (dE 7 rfl) (z := (32 : Int32)) rfl ?_
  refine o_lshl X101.here hx (dE 8 rfl) rfl ?_
  refine o_aloadN X101.here hx (dE 9 rfl) rfl rfl ?_
  refine o_iloadN X101.here hx (dE 10 rfl) rfl ?_
  obtain ⟨cq102, kq102, q102a, q102b, q102c⟩ := isOf hZ e101 E1
  refine own_cP X101 (X101.virtualBack hx (y := Mn5) (z := Mn5) hown (mvT hZ (g_ hw 257 rfl)) (mvT hZ (own_decl (g_ hw 258 rfl) (g_ hw 261 rfl))) (notFace_of_selects (args := #[]) (mvT hZ (g_ hw 260 rfl))) (mvT hZ (g_ hw 260 rfl)) (mvT hZ (g_ hw 258 rfl)) (by decide) (backOf (W := 2) (rm_gi0 l Z a0 hw [] q a1 t1 k1 h0 n0 Z0 E1 G1 M1 A1) hZ (g_ hw 261 rfl) (g_ hw 147 rfl) (by decide) (by decide)) q102a q102c (g := (mkF m 14 #[.val (.ref a1), .val (.long (0 : Int64)), .second, .val (.int (0 : Int32))] [(.int (0 : Int32)), (.ref a1), (.long ((0 : Int64) <<< ((32 : Int32) &&& 0x3f).toInt64))])) rfl (by rw [hml]; rfl) (Steps.refl _) (argsL := [(.int (0 : Int32))]) (rest := [(.long ((0 : Int64) <<< ((32 : Int32) &&& 0x3f).toInt64))]) (lenOf own_pd17 rfl) rfl (by show 2 * 0 + _ ≤ _; exact Nat.le_of_eq rfl) (dE 11 rfl) (fun _ _ => ⟨rfl, e101, (by decide : 0 + 0 ≤ _), (by decide : 0 + 0 ≤ _)⟩)) fun v102 T102 L102 X102 hQ102 => ?_
  obtain ⟨rfl, Nq102, e102⟩ := hQ102
  have N102 := Fr.app N101 Nq102
  show own_Go p e below Pst (T102.setTop (mkF m 17 #[.val (.ref a1), .val (.long (0 : Int64)), .second, .val (.int (0 : Int32))] [(.int q), (.long ((0 : Int64) <<< ((32 : Int32) &&& 0x3f).toInt64))]))
  refine o_i2l X102.here hx (dE 12 rfl) rfl ?_
  refine own_Go.of (S' := T102.setTop (mkF m 21 #[.val (.ref a1), .val (.long (0 : Int64)), .second, .val (.int (0 : Int32))] [(.long (4294967295 : Int64)), (.long (q.toInt64)), (.long ((0 : Int64) <<< ((32 : Int32) &&& 0x3f).toInt64))])) (fun tgt kst => X102.ldc2Long hx hown (mvT hZ (g_ hw 267 rfl)) (g := (mkF m 18 #[.val (.ref a1), .val (.long (0 : Int64)), .second, .val (.int (0 : Int32))] [(.long (q.toInt64)), (.long ((0 : Int64) <<< ((32 : Int32) &&& 0x3f).toInt64))])) rfl (dE 13 rfl) _ kst) ?_
  refine o_land X102.here hx (dE 14 rfl) rfl ?_
  refine o_ladd X102.here hx (dE 15 rfl) rfl ?_
  rw [(own_f41 hV)]
  show own_Go p e below Pst (T102.setTop (mkF m 23 #[.val (.ref a1), .val (.long (0 : Int64)), .second, .val (.int (0 : Int32))] [(.long r)]))
  refine o_lstoreN X102.here hx (dE 16 rfl) rfl (l' := #[.val (.ref a1), .val (.long r), .second, .val (.int (0 : Int32))]) rfl ?_
  refine o_iinc X102.here hx (dE 17 rfl) rfl (l' := #[.val (.ref a1), .val (.long r), .second, .val (.int ((0 : Int32) + (-1 : Int32)))]) rfl ?_
  rw [show ((0 : Int32) + (-1 : Int32)) = (-1 : Int32) from by decide]
  show own_Go p e below Pst (T102.setTop (mkF m 27 #[.val (.ref a1), .val (.long r), .second, .val (.int (-1 : Int32))] []))
  refine o_goto X102.here hx (pc0 := 27) (pc' := 4) rfl (dE 18 rfl) (by decide) (by decide) ?_
  refine o_iloadN X102.here hx (dE 4 rfl) rfl ?_
  refine o_ifYes X102.here hx (pc0 := 5) (pc' := 30) rfl (dE 5 rfl) rfl ((if0 _ _).trans (tlt (by decide)).1) (by decide) (by decide) ?_
  refine o_lloadN X102.here hx (dE 19 rfl) rfl ?_
  rw [hPst]
  exact own_retP X102 (v := (some (.long r))) (Q := Q_lv Z s r v9 v2 q hi lo a1 t1 k1 h0 n0) (fun h => by rw [Bd.returns] at h; cases h) Bd.notSynchronized (fun fs hr => retOut X102 hx Bd.returns rfl (Or.inr (Or.inl ⟨rfl, rfl, _, rfl⟩)) (dE 20 rfl) hr) (by decide) (by decide) (by rw [e102]; exact ⟨rfl, N102, rfl⟩)
def Q_iv (Z : State) (o : Nat → Addr) (kc : Nat → ClassId) (h0 : Heap) (n0 : Nat) (v : Option Value) (h : Heap) (L : List Loc) : Prop := v = some (.int (0 : Int32)) ∧ Fr n0 L ∧ h = h0
theorem rm_iv (l : Launch) (Z : State) (a0 : Array Value) (hw : own_H a0 Z) (ws : List Jvm.Cond) (o : Nat → Addr) (kc : Nat → ClassId) (h0 : Heap) (n0 : Nat) (Z0 : n0 ≤ h0.size) (O : Old Z n0 h0) (G : own_G Z o kc) : own_MP l Mn26 jdk_2097_method_135_code 2 (some .int) ws ({ frames := 2, cells := 0, slots := 0, locals := 26 } : Room) Z h0 #[(.ref (o 6))] (fun _ _ _ _ _ => True) (Q_iv Z o kc h0 n0) := by
  refine own_startP (plainFor_of_name own_pn_java_math_BigInteger) fun p e s m below meth c s₁ Bd hx hby hml hown0 X0 e0 hh0 hZ hK Pst hPst => ?_
  have dE := own_E hby own_D50
  have hown : s.vm.findClass "java/math/BigInteger" = some m.cls := hown0
  have hnm := (name_of_methodNamed Bd.named Bd.method).1
  have N0 := Fr.nil n0
  rw [own_ef_R_2 m (o 6)]
  refine o_iconst X0.here hx (dE 0 rfl) (z := (0 : Int32)) rfl ?_
  refine o_istoreN X0.here hx (dE 1 rfl) rfl (l' := #[.val (.ref (o 6)), .val (.int (0 : Int32))]) rfl ?_
  refine o_aloadN X0.here hx (dE 2 rfl) rfl rfl ?_
  refine o_iconst X0.here hx (dE 3 rfl) (z := (0 : Int32)) rfl ?_
  have c102 := (G.2.2.2.2.2.2.2.2.2.2.2.2.2.2.1).ext O.2
  obtain ⟨cq101, kq101, q101a, q101b, q101c⟩ := isOf hZ e0 c102
  refine own_cP X0 (X0.virtualBack hx (y := Mn5) (z := Mn5) hown (mvT hZ (g_ hw 257 rfl)) (mvT hZ (own_decl (g_ hw 258 rfl) (g_ hw 261 rfl))) (notFace_of_selects (args := #[]) (mvT hZ (g_ hw 260 rfl))) (mvT hZ (g_ hw 260 rfl)) (mvT hZ (g_ hw 258 rfl)) (by decide) (backOf (W := 0) (rm_giZ l Z a0 hw [] o kc h0 n0 Z0 O G) hZ (g_ hw 261 rfl) (g_ hw 147 rfl) (by decide) (by decide)) q101a q101c (g := (mkF m 4 #[.val (.ref (o 6)), .val (.int (0 : Int32))] [(.int (0 : Int32)), (.ref (o 6))])) rfl (by rw [hml]; rfl) (Steps.refl _) (argsL := [(.int (0 : Int32))]) (rest := []) (lenOf own_pd17 rfl) rfl (by show 2 * 0 + _ ≤ _; exact Nat.le_of_eq rfl) (dE 4 rfl) (fun _ _ => ⟨rfl, e0, (by decide : 0 + 0 ≤ _), (by decide : 0 + 0 ≤ _)⟩)) fun v101 T101 L101 X101 hQ101 => ?_
  obtain ⟨rfl, Nq101, e101⟩ := hQ101
  have N101 := Fr.app N0 Nq101
  show own_Go p e below Pst (T101.setTop (mkF m 7 #[.val (.ref (o 6)), .val (.int (0 : Int32))] [(.int (0 : Int32))]))
  refine o_istoreN X101.here hx (dE 5 rfl) rfl (l' := #[.val (.ref (o 6)), .val (.int (0 : Int32))]) rfl ?_
  refine o_iloadN X101.here hx (dE 6 rfl) rfl ?_
  rw [hPst]
  exact own_retP X101 (v := (some (.int (0 : Int32)))) (Q := Q_iv Z o kc h0 n0) (fun h => by rw [Bd.returns] at h; cases h) Bd.notSynchronized (fun fs hr => own_retI X101 hx Bd.returns (dE 7 rfl) hr) (by decide) (by decide) (by rw [e101]; exact ⟨rfl, N101, rfl⟩)
def Q_fd (Z : State)  (h0 : Heap) (n0 : Nat) (v : Option Value) (h : Heap) (L : List Loc) : Prop := v = some (.long (0 : Int64)) ∧ Fr n0 L ∧ h = h0
theorem rm_fd (l : Launch) (Z : State) (a0 : Array Value) (hw : own_H a0 Z) (ws : List Jvm.Cond)  (h0 : Heap) (n0 : Nat) (Z0 : n0 ≤ h0.size) : own_MP l Mn56 jdk_29_method_49_code 6 (some .long) ws ({ frames := 0, cells := 0, slots := 0, locals := 0 } : Room) Z h0 #[(.long (0 : Int64)), (.long (1000000000 : Int64))] (fun _ _ _ _ _ => True) (Q_fd Z  h0 n0) := by
  refine own_startP (Jvm.Free.JP.mathPlain rfl (by decide +kernel)) fun p e s m below meth c s₁ Bd hx hby hml hown0 X0 e0 hh0 hZ hK Pst hPst => ?_
  have dE := own_E hby own_D52
  have hown : s.vm.findClass "java/lang/Math" = some m.cls := hown0
  have hnm := (name_of_methodNamed Bd.named Bd.method).1
  have N0 := Fr.nil n0
  rw [own_ef_JJ_6 m (0 : Int64) (1000000000 : Int64)]
  refine o_lloadN X0.here hx (dE 0 rfl) rfl ?_
  refine o_lloadN X0.here hx (dE 1 rfl) rfl ?_
  refine o_ldiv X0.here hx (dE 2 rfl) rfl (by decide) ?_
  rw [show ((0 : Int64) / (1000000000 : Int64)) = (0 : Int64) from by decide]
  show own_Go p e below Pst (s₁.setTop (mkF m 3 #[.val (.long (0 : Int64)), .second, .val (.long (1000000000 : Int64)), .second, .unset, .unset] [(.long (0 : Int64))]))
  refine o_lstore X0.here hx (dE 3 rfl) rfl (l' := #[.val (.long (0 : Int64)), .second, .val (.long (1000000000 : Int64)), .second, .val (.long (0 : Int64)), .second]) rfl ?_
  refine o_lloadN X0.here hx (dE 4 rfl) rfl ?_
  refine o_lloadN X0.here hx (dE 5 rfl) rfl ?_
  refine o_lxor X0.here hx (dE 6 rfl) rfl ?_
  refine o_lconst X0.here hx (dE 7 rfl) (z := (0 : Int64)) rfl ?_
  refine o_lcmp X0.here hx (dE 8 rfl) rfl ?_
  refine o_ifYes X0.here hx (pc0 := 10) (pc' := 27) rfl (dE 9 rfl) rfl ((if0 _ _).trans (flt (by decide)).2.1) (by decide) (by decide) ?_
  refine o_lload X0.here hx (dE 10 rfl) rfl ?_
  rw [hPst]
  exact own_retP X0 (v := (some (.long (0 : Int64)))) (Q := Q_fd Z  h0 n0) (fun h => by rw [Bd.returns] at h; cases h) Bd.notSynchronized (fun fs hr => retOut X0 hx Bd.returns rfl (Or.inr (Or.inl ⟨rfl, rfl, _, rfl⟩)) (dE 11 rfl) hr) (by decide) (by decide) (by rw [e0]; exact ⟨rfl, N0, rfl⟩)
def Q_fm (Z : State)  (h0 : Heap) (n0 : Nat) (v : Option Value) (h : Heap) (L : List Loc) : Prop := v = some (.long (0 : Int64)) ∧ Fr n0 L ∧ h = h0
theorem rm_fm (l : Launch) (Z : State) (a0 : Array Value) (hw : own_H a0 Z) (ws : List Jvm.Cond)  (h0 : Heap) (n0 : Nat) (Z0 : n0 ≤ h0.size) : own_MP l Mn57 jdk_29_method_52_code 6 (some .long) ws ({ frames := 0, cells := 0, slots := 0, locals := 0 } : Room) Z h0 #[(.long (0 : Int64)), (.long (1000000000 : Int64))] (fun _ _ _ _ _ => True) (Q_fm Z  h0 n0) := by
  refine own_startP (Jvm.Free.JP.mathPlain rfl (by decide +kernel)) fun p e s m below meth c s₁ Bd hx hby hml hown0 X0 e0 hh0 hZ hK Pst hPst => ?_
  have dE := own_E hby own_D54
  have hown : s.vm.findClass "java/lang/Math" = some m.cls := hown0
  have hnm := (name_of_methodNamed Bd.named Bd.method).1
  have N0 := Fr.nil n0
  rw [own_ef_JJ_6 m (0 : Int64) (1000000000 : Int64)]
  refine o_lloadN X0.here hx (dE 0 rfl) rfl ?_
  refine o_lloadN X0.here hx (dE 1 rfl) rfl ?_
  refine o_lrem X0.here hx (dE 2 rfl) rfl (by decide) ?_
  rw [show ((0 : Int64) - ((0 : Int64) / (1000000000 : Int64)) * (1000000000 : Int64)) = (0 : Int64) from by decide]
  show own_Go p e below Pst (s₁.setTop (mkF m 3 #[.val (.long (0 : Int64)), .second, .val (.long (1000000000 : Int64)), .second, .unset, .unset] [(.long (0 : Int64))]))
  refine o_lstore X0.here hx (dE 3 rfl) rfl (l' := #[.val (.long (0 : Int64)), .second, .val (.long (1000000000 : Int64)), .second, .val (.long (0 : Int64)), .second]) rfl ?_
  refine o_lloadN X0.here hx (dE 4 rfl) rfl ?_
  refine o_lloadN X0.here hx (dE 5 rfl) rfl ?_
  refine o_lxor X0.here hx (dE 6 rfl) rfl ?_
  refine o_lconst X0.here hx (dE 7 rfl) (z := (0 : Int64)) rfl ?_
  refine o_lcmp X0.here hx (dE 8 rfl) rfl ?_
  refine o_ifYes X0.here hx (pc0 := 10) (pc' := 25) rfl (dE 9 rfl) rfl ((if0 _ _).trans (flt (by decide)).2.1) (by decide) (by decide) ?_
  refine o_lload X0.here hx (dE 10 rfl) rfl ?_
  rw [hPst]
  exact own_retP X0 (v := (some (.long (0 : Int64)))) (Q := Q_fm Z  h0 n0) (fun h => by rw [Bd.returns] at h; cases h) Bd.notSynchronized (fun fs hr => retOut X0 hx Bd.returns rfl (Or.inr (Or.inl ⟨rfl, rfl, _, rfl⟩)) (dE 11 rfl) hr) (by decide) (by decide) (by rw [e0]; exact ⟨rfl, N0, rfl⟩)
theorem own_f42 {s r v9 v2 : Int64} {q hi lo : Int32} (hV : own_V s r v9 v2 q hi lo) : r + (0 : Int64) = r := by
  rcases hV with (⟨rfl, rfl, rfl, rfl, rfl, rfl, rfl⟩ | ⟨rfl, rfl, rfl, rfl, rfl, rfl, rfl⟩) | (⟨rfl, rfl, rfl, rfl, rfl, rfl, rfl⟩ | ⟨rfl, rfl, rfl, rfl, rfl, rfl, rfl⟩ | ⟨rfl, rfl, rfl, rfl, rfl, rfl, rfl⟩ | ⟨rfl, rfl, rfl, rfl, rfl, rfl, rfl⟩ | ⟨rfl, rfl, rfl, rfl, rfl, rfl, rfl⟩ | ⟨rfl, rfl, rfl, rfl, rfl, rfl, rfl⟩ | ⟨rfl, rfl, rfl, rfl, rfl, rfl, rfl⟩ | ⟨rfl, rfl, rfl, rfl, rfl, rfl, rfl⟩ | ⟨rfl, rfl, rfl, rfl, rfl, rfl, rfl⟩ | ⟨rfl, rfl, rfl, rfl, rfl, rfl, rfl⟩) <;> decide
theorem own_f43 {s r v9 v2 : Int64} {q hi lo : Int32} (hV : own_V s r v9 v2 q hi lo) : ¬ lcmpW ((r ^^^ r) &&& ((0 : Int64) ^^^ r)) (0 : Int64) < 0 := by
  rcases hV with (⟨rfl, rfl, rfl, rfl, rfl, rfl, rfl⟩ | ⟨rfl, rfl, rfl, rfl, rfl, rfl, rfl⟩) | (⟨rfl, rfl, rfl, rfl, rfl, rfl, rfl⟩ | ⟨rfl, rfl, rfl, rfl, rfl, rfl, rfl⟩ | ⟨rfl, rfl, rfl, rfl, rfl, rfl, rfl⟩ | ⟨rfl, rfl, rfl, rfl, rfl, rfl, rfl⟩ | ⟨rfl, rfl, rfl, rfl, rfl, rfl, rfl⟩ | ⟨rfl, rfl, rfl, rfl, rfl, rfl, rfl⟩ | ⟨rfl, rfl, rfl, rfl, rfl, rfl, rfl⟩ | ⟨rfl, rfl, rfl, rfl, rfl, rfl, rfl⟩ | ⟨rfl, rfl, rfl, rfl, rfl, rfl, rfl⟩ | ⟨rfl, rfl, rfl, rfl, rfl, rfl, rfl⟩) <;> decide
def Q_ae (Z : State) (s r v9 v2 : Int64) (q hi lo : Int32) (h0 : Heap) (n0 : Nat) (v : Option Value) (h : Heap) (L : List Loc) : Prop := v = some (.long r) ∧ Fr n0 L ∧ h = h0
theorem rm_ae (l : Launch) (Z : State) (a0 : Array Value) (hw : own_H a0 Z) (ws : List Jvm.Cond) (s r v9 v2 : Int64) (q hi lo : Int32) (h0 : Heap) (n0 : Nat) (Z0 : n0 ≤ h0.size) (hV : own_V s r v9 v2 q hi lo) : own_MP l Mn58 jdk_29_method_25_code 6 (some .long) ws ({ frames := 0, cells := 0, slots := 0, locals := 0 } : Room) Z h0 #[(.long r), (.long (0 : Int64))] (fun _ _ _ _ _ => True) (Q_ae Z s r v9 v2 q hi lo h0 n0) := by
  refine own_startP (Jvm.Free.JP.mathPlain rfl (by decide +kernel)) fun p e s' m below meth c s₁ Bd hx hby hml hown0 X0 e0 hh0 hZ hK Pst hPst => ?_
  have dE := own_E hby own_D53
  have hown : s'.vm.findClass "java/lang/Math" = some m.cls := hown0
  have hnm := (name_of_methodNamed Bd.named Bd.method).1
  have N0 := Fr.nil n0
  rw [own_ef_JJ_6 m r (0 : Int64)]
  refine o_lloadN X0.here hx (dE 0 rfl) rfl ?_
  refine o_lloadN X0.here hx (dE 1 rfl) rfl ?_
  refine o_ladd X0.here hx (dE 2 rfl) rfl ?_
  rw [(own_f42 hV)]
  show own_Go p e below Pst (s₁.setTop (mkF m 3 #[.val (.long r), .second, .val (.long (0 : Int64)), .second, .unset, .unset] [(.long r)]))
  refine o_lstore X0.here hx (dE 3 rfl) rfl (l' := #[.val (.long r), .second, .val (.long (0 : Int64)), .second, .val (.long r), .second]) rfl ?_
  refine o_lloadN X0.here hx (dE 4 rfl) rfl ?_
  refine o_lload X0.here hx (dE 5 rfl) rfl ?_
  refine o_lxor X0.here hx (dE 6 rfl) rfl ?_
  refine o_lloadN X0.here hx (dE 7 rfl) rfl ?_
  refine o_lload X0.here hx (dE 8 rfl) rfl ?_
  refine o_lxor X0.here hx (dE 9 rfl) rfl ?_
  refine o_land X0.here hx (dE 10 rfl) rfl ?_
  refine o_lconst X0.here hx (dE 11 rfl) (z := (0 : Int64)) rfl ?_
  refine o_lcmp X0.here hx (dE 12 rfl) rfl ?_
  refine o_ifYes X0.here hx (pc0 := 16) (pc' := 29) rfl (dE 13 rfl) rfl ((if0 _ _).trans (flt (own_f43 hV)).2.1) (by decide) (by decide) ?_
  refine o_lload X0.here hx (dE 14 rfl) rfl ?_
  rw [hPst]
  exact own_retP X0 (v := (some (.long r))) (Q := Q_ae Z s r v9 v2 q hi lo h0 n0) (fun h => by rw [Bd.returns] at h; cases h) Bd.notSynchronized (fun fs hr => retOut X0 hx Bd.returns rfl (Or.inr (Or.inl ⟨rfl, rfl, _, rfl⟩)) (dE 15 rfl) hr) (by decide) (by decide) (by rw [e0]; exact ⟨rfl, N0, rfl⟩)
theorem own_ef_RJI_4 (m : MethodId) (x0 : Addr) (x1 : Int64) (x2 : Int32) : entryFrame m #[(.ref x0), (.long x1), (.int x2)] 4 = mkF m 0 #[.val (.ref x0), .val (.long x1), .second, .val (.int x2)] [] := by first | (simp [entryFrame, mkF, argsToLocals, Value.category]; done) | rfl
def Q_di (Z : State) (a1 : Addr) (x : Int64) (u1 u2 : Value) (h0 : Heap) (n0 : Nat) (v : Option Value) (h : Heap) (L : List Loc) : Prop := v = none ∧ Fr n0 L ∧ Keep h0 h [a1] ∧ Exa Z h a1 "java/time/Duration" ∧ Fld Z h a1 "java/time/Duration" "seconds" "J" (.long x) ∧ Fld Z h a1 "java/time/Duration" "nanos" "I" (.int (0 : Int32))
theorem rm_di (l : Launch) (Z : State) (a0 : Array Value) (hw : own_H a0 Z) (ws : List Jvm.Cond) (a1 : Addr) (x : Int64) (u1 u2 : Value) (h0 : Heap) (n0 : Nat) (Z0 : n0 ≤ h0.size) (E1 : Exa Z h0 a1 "java/time/Duration") (g1 : n0 ≤ a1) (F1 : Fld Z h0 a1 "java/time/Duration" "seconds" "J" u1) (F2 : Fld Z h0 a1 "java/time/Duration" "nanos" "I" u2) : own_MP l Mn59 jdk_2316_method_17_code 4 none ws ({ frames := 1, cells := 0, slots := 0, locals := 12 } : Room) Z h0 #[(.ref a1), (.long x), (.int (0 : Int32))] (fun _ _ _ _ _ => True) (Q_di Z a1 x u1 u2 h0 n0) := by
  refine own_startP (plainFor_of_name own_pn_java_time_Duration) fun p e s m below meth c s₁ Bd hx hby hml hown0 X0 e0 hh0 hZ hK Pst hPst => ?_
  have dE := own_E hby own_D56
  have hown : s.vm.findClass "java/time/Duration" = some m.cls := hown0
  have hnm := (name_of_methodNamed Bd.named Bd.method).1
  have N0 := Fr.nil n0
  rw [own_ef_RJI_4 m a1 x (0 : Int32)]
  refine o_aloadN X0.here hx (dE 0 rfl) rfl rfl ?_
  refine p_initO X0 hx hZ hown (g_ hw 295 rfl) (g_ hw 96 rfl) (g_ hw 97 rfl) e0 (by rw [hml]; rfl) rfl (dE 1 rfl) (by decide) (W := 0) (by show 2 * 0 + _ ≤ _; exact Nat.le_of_eq rfl) (by decide) fun T101 X101 e101 => ?_
  refine o_aloadN X101.here hx (dE 2 rfl) rfl rfl ?_
  refine o_lloadN X101.here hx (dE 3 rfl) rfl ?_
  refine p_putF X101 hx hZ hown (host := "") (Or.inl (g_ hw 14 rfl)) Via.refl e101 F1 E1 (Or.inr ⟨(g_ hw 15 rfl), rfl, hnm⟩) (g_ hw 290 rfl) (ty := .long) (by decide) rfl rfl rfl (dE 4 rfl) fun T102 h102 X102 e102 W102 => ?_
  have Fw102 := Fld.same W102 F1
  have N102 := Fr.snoc X102 N0 g1
  refine o_aloadN X102.here hx (dE 5 rfl) rfl rfl ?_
  refine o_iloadN X102.here hx (dE 6 rfl) rfl ?_
  have c103 := (E1.wr W102)
  have c104 := (F2.other W102 (Or.inr (slot_ne (Or.inr (g_ hw 31 rfl)) (Or.inr (g_ hw 15 rfl)) (by decide) (t := .int) (t' := .long) (by decide) (by decide))))
  refine p_putF X102 hx hZ hown (host := "") (Or.inl (g_ hw 30 rfl)) Via.refl e102 c104 c103 (Or.inr ⟨(g_ hw 31 rfl), rfl, hnm⟩) (g_ hw 290 rfl) (ty := .int) (by decide) rfl rfl rfl (dE 7 rfl) fun T105 h105 X105 e105 W105 => ?_
  have Fw105 := Fld.same W105 c104
  have N105 := Fr.snoc X105 N102 g1
  have c106 := (((Keep.refl h0 [a1]).wr W102 (Or.inl (List.mem_of_getElem? (i := 0) rfl))).wr W105 (Or.inl (List.mem_of_getElem? (i := 0) rfl)))
  have c107 := (c103.wr W105)
  have c108 := (Fw102.other W105 (Or.inr (slot_ne (Or.inr (g_ hw 15 rfl)) (Or.inr (g_ hw 31 rfl)) (by decide) (t := .long) (t' := .int) (by decide) (by decide))))
  rw [hPst]
  exact own_retP X105 (v := none) (Q := Q_di Z a1 x u1 u2 h0 n0) (fun _ => rfl) Bd.notSynchronized (fun fs hr => X105.returnOut hx Bd.returns (dE 8 rfl) hr) (by decide) (by decide) (by rw [e105]; exact ⟨rfl, N105, c106, c107, c108, Fw105⟩)
theorem own_f44 {s r v9 v2 : Int64} {q hi lo : Int32} (hV : own_V s r v9 v2 q hi lo) : ¬ lcmpW (r ||| (0 : Int32).toInt64) (0 : Int64) = 0 := by
  rcases hV with (⟨rfl, rfl, rfl, rfl, rfl, rfl, rfl⟩ | ⟨rfl, rfl, rfl, rfl, rfl, rfl, rfl⟩) | (⟨rfl, rfl, rfl, rfl, rfl, rfl, rfl⟩ | ⟨rfl, rfl, rfl, rfl, rfl, rfl, rfl⟩ | ⟨rfl, rfl, rfl, rfl, rfl, rfl, rfl⟩ | ⟨rfl, rfl, rfl, rfl, rfl, rfl, rfl⟩ | ⟨rfl, rfl, rfl, rfl, rfl, rfl, rfl⟩ | ⟨rfl, rfl, rfl, rfl, rfl, rfl, rfl⟩ | ⟨rfl, rfl, rfl, rfl, rfl, rfl, rfl⟩ | ⟨rfl, rfl, rfl, rfl, rfl, rfl, rfl⟩ | ⟨rfl, rfl, rfl, rfl, rfl, rfl, rfl⟩ | ⟨rfl, rfl, rfl, rfl, rfl, rfl, rfl⟩) <;> decide
theorem own_pd31 : parseMethodDescriptor "(JI)V" = some ⟨[.long, .int], none⟩ := by decide +kernel
def Q_dc (Z : State) (s r v9 v2 : Int64) (q hi lo : Int32) (h0 : Heap) (n0 : Nat) (v : Option Value) (h : Heap) (L : List Loc) : Prop := ∃ x : Addr, v = some (.ref x) ∧ Fr n0 L ∧ Keep h0 h [] ∧ h0.size ≤ x ∧ Exa Z h x "java/time/Duration" ∧ Fld Z h x "java/time/Duration" "seconds" "J" (.long r) ∧ Fld Z h x "java/time/Duration" "nanos" "I" (.int (0 : Int32))
theorem rm_dc (l : Launch) (Z : State) (a0 : Array Value) (hw : own_H a0 Z) (ws : List Jvm.Cond) (s r v9 v2 : Int64) (q hi lo : Int32) (h0 : Heap) (n0 : Nat) (Z0 : n0 ≤ h0.size) (hV : own_V s r v9 v2 q hi lo) : own_MP l Mn60 jdk_2316_method_16_code 3 (some (.object "java/time/Duration")) ws ({ frames := 2, cells := 1, slots := 2, locals := 28 } : Room) Z h0 #[(.long r), (.int (0 : Int32))] (fun _ _ _ _ _ => True) (Q_dc Z s r v9 v2 q hi lo h0 n0) := by
  refine own_startP (plainFor_of_name own_pn_java_time_Duration) fun p e s' m below meth c s₁ Bd hx hby hml hown0 X0 e0 hh0 hZ hK Pst hPst => ?_
  have dE := own_E hby own_D55
  have hown : s'.vm.findClass "java/time/Duration" = some m.cls := hown0
  have hnm := (name_of_methodNamed Bd.named Bd.method).1
  have N0 := Fr.nil n0
  rw [own_ef_JI_3 m r (0 : Int32)]
  refine o_lloadN X0.here hx (dE 0 rfl) rfl ?_
  refine o_iloadN X0.here hx (dE 1 rfl) rfl ?_
  refine o_i2l X0.here hx (dE 2 rfl) rfl ?_
  refine o_lor X0.here hx (dE 3 rfl) rfl ?_
  refine o_lconst X0.here hx (dE 4 rfl) (z := (0 : Int64)) rfl ?_
  refine o_lcmp X0.here hx (dE 5 rfl) rfl ?_
  refine o_ifYes X0.here hx (pc0 := 6) (pc' := 13) rfl (dE 6 rfl) rfl ((if0 _ _).trans (feq (own_f44 hV)).2) (by decide) (by decide) ?_
  refine p_newO X0 hx hZ hown (g_ hw 289 rfl) (g_ hw 290 rfl) (g_ hw 12 rfl) e0 (dE 7 rfl) (by decide) (by decide) fun T101 h101 b101 g101 X101 e101 E101 A101 D101 U101 => ?_
  have gn_b101 : n0 ≤ b101 := Nat.le_trans Z0 (Nat.le_of_eq g101.symm)
  have sz_b101 : h0.size ≤ b101 := Nat.le_trans (Keep.refl h0 []).1 (Nat.le_of_eq g101.symm)
  have f101_seconds : Fld Z h101 b101 "java/time/Duration" "seconds" "J" (.long (0 : Int64)) := D101 (Or.inr (g_ hw 15 rfl)) (ty := .long) (by decide)
  have f101_nanos : Fld Z h101 b101 "java/time/Duration" "nanos" "I" (.int (0 : Int32)) := D101 (Or.inr (g_ hw 31 rfl)) (ty := .int) (by decide)
  refine o_dup X101.here hx (dE 8 rfl) rfl rfl ?_
  refine o_lloadN X101.here hx (dE 9 rfl) rfl ?_
  refine o_iloadN X101.here hx (dE 10 rfl) rfl ?_
  have c103 := (Nat.le_trans Z0 E101.1)
  refine own_cP X101 (X101.specialBack hx (y := Mn59) rfl hown (mvT hZ (g_ hw 291 rfl)) (mvT hZ (g_ hw 292 rfl)) (mvT hZ (g_ hw 294 rfl)) (by decide) (backOf (W := 1) (rm_di l Z a0 hw [] b101 r (.long 0) (.int 0) h101 n0 c103 A101 gn_b101 f101_seconds f101_nanos) hZ (g_ hw 294 rfl) (g_ hw 12 rfl) (by decide) (by decide)) (g := (mkF m 19 #[.val (.long r), .second, .val (.int (0 : Int32))] [(.int (0 : Int32)), (.long r), (.ref b101), (.ref b101)])) rfl (by rw [hml]; rfl) (Steps.refl _) (a := b101) (argsL := [(.long r), (.int (0 : Int32))]) (rest := [(.ref b101)]) (lenOf own_pd31 rfl) rfl (by show 2 * 0 + _ ≤ _; exact Nat.le_of_eq rfl) (dE 11 rfl) (fun _ _ => ⟨rfl, e101, (by decide : 1 + 0 ≤ _), (by decide : 2 + 0 ≤ _)⟩)) fun v102 T102 L102 X102 hQ102 => ?_
  obtain ⟨rfl, Nq102, K102, A102, S102, M102⟩ := hQ102
  have N102 := Fr.app N0 Nq102
  show own_Go p e below Pst (T102.setTop (mkF m 22 #[.val (.long r), .second, .val (.int (0 : Int32))] [(.ref b101)]))
  have c104 := (Keep.trans ((Keep.refl h0 []).ext E101) K102 (allS (Or.inr sz_b101) all0))
  rw [hPst]
  exact own_retP X102 (v := (some (.ref b101))) (Q := Q_dc Z s r v9 v2 q hi lo h0 n0) (fun h => by rw [Bd.returns] at h; cases h) Bd.notSynchronized (fun fs hr => retOut X102 hx Bd.returns rfl (Or.inr (Or.inr (Or.inr (Or.inr ⟨rfl, rfl, rfl⟩)))) (dE 12 rfl) hr) (by decide) (by decide) ⟨_, rfl, N102, c104, sz_b101, A102, S102, M102⟩
theorem own_pd32 : parseMethodDescriptor "(JI)Ljava/time/Duration;" = some ⟨[.long, .int], some (.object "java/time/Duration")⟩ := by decide +kernel
theorem own_ef_JJ_7 (m : MethodId) (x0 : Int64) (x1 : Int64) : entryFrame m #[(.long x0), (.long x1)] 7 = mkF m 0 #[.val (.long x0), .second, .val (.long x1), .second, .unset, .unset, .unset] [] := by first | (simp [entryFrame, mkF, argsToLocals, Value.category]; done) | rfl
def Q_os (Z : State) (s r v9 v2 : Int64) (q hi lo : Int32) (h0 : Heap) (n0 : Nat) (v : Option Value) (h : Heap) (L : List Loc) : Prop := ∃ x : Addr, v = some (.ref x) ∧ Fr n0 L ∧ Keep h0 h [] ∧ h0.size ≤ x ∧ Exa Z h x "java/time/Duration" ∧ Fld Z h x "java/time/Duration" "seconds" "J" (.long r) ∧ Fld Z h x "java/time/Duration" "nanos" "I" (.int (0 : Int32))
theorem rm_os (l : Launch) (Z : State) (a0 : Array Value) (hw : own_H a0 Z) (ws : List Jvm.Cond) (s r v9 v2 : Int64) (q hi lo : Int32) (h0 : Heap) (n0 : Nat) (Z0 : n0 ≤ h0.size) (hV : own_V s r v9 v2 q hi lo) : own_MP l Mn41 jdk_2316_method_5_code 7 (some (.object "java/time/Duration")) ws ({ frames := 3, cells := 1, slots := 2, locals := 42 } : Room) Z h0 #[(.long r), (.long (0 : Int64))] (fun _ _ _ _ _ => True) (Q_os Z s r v9 v2 q hi lo h0 n0) := by
  refine own_startP (plainFor_of_name own_pn_java_time_Duration) fun p e s' m below meth c s₁ Bd hx hby hml hown0 X0 e0 hh0 hZ hK Pst hPst => ?_
  have dE := own_E hby own_D51
  have hown : s'.vm.findClass "java/time/Duration" = some m.cls := hown0
  have hnm := (name_of_methodNamed Bd.named Bd.method).1
  have N0 := Fr.nil n0
  rw [own_ef_JJ_7 m r (0 : Int64)]
  refine o_lloadN X0.here hx (dE 0 rfl) rfl ?_
  refine o_lloadN X0.here hx (dE 1 rfl) rfl ?_
  refine own_Go.of (S' := s₁.setTop (mkF m 5 #[.val (.long r), .second, .val (.long (0 : Int64)), .second, .unset, .unset, .unset] [(.long (1000000000 : Int64)), (.long (0 : Int64)), (.long r)])) (fun tgt kst => X0.ldc2Long hx hown (mvT hZ (g_ hw 276 rfl)) (g := (mkF m 2 #[.val (.long r), .second, .val (.long (0 : Int64)), .second, .unset, .unset, .unset] [(.long (0 : Int64)), (.long r)])) rfl (dE 2 rfl) _ kst) ?_
  refine own_cF X0 (Jvm.LawKit.callS X0 hx (y := Mn56) hown (mvT hZ (g_ hw 277 rfl)) (mvT hZ (g_ hw 278 rfl)) (mvT hZ (g_ hw 120 rfl)) (mvT hZ (g_ hw 279 rfl)) (by decide) (backOf (W := 2) (rm_fd l Z a0 hw []  h0 n0 Z0 ) hZ (g_ hw 279 rfl) (g_ hw 120 rfl) (by decide) (by decide)) (g := (mkF m 5 #[.val (.long r), .second, .val (.long (0 : Int64)), .second, .unset, .unset, .unset] [(.long (1000000000 : Int64)), (.long (0 : Int64)), (.long r)])) rfl (by rw [hml]; rfl) (argsL := [(.long (0 : Int64)), (.long (1000000000 : Int64))]) (rest := [(.long r)]) (lenOf own_pd5 rfl) rfl (by show 2 * 0 + _ ≤ _; exact Nat.le_of_eq rfl) (dE 3 rfl) (fun _ _ => ⟨rfl, e0, (by decide : 0 + 0 ≤ _), (by decide : 0 + 0 ≤ _)⟩)) fun v101 T101 L101 X101 hQ101 => ?_
  obtain ⟨rfl, Nq101, e101⟩ := hQ101
  have N101 := Fr.app N0 Nq101
  show own_Go p e below Pst (T101.setTop (mkF m 8 #[.val (.long r), .second, .val (.long (0 : Int64)), .second, .unset, .unset, .unset] [(.long (0 : Int64)), (.long r)]))
  refine own_cF X101 (Jvm.LawKit.callS X101 hx (y := Mn58) hown (mvT hZ (g_ hw 280 rfl)) (mvT hZ (g_ hw 281 rfl)) (mvT hZ (g_ hw 120 rfl)) (mvT hZ (g_ hw 282 rfl)) (by decide) (backOf (W := 0) (rm_ae l Z a0 hw [] s r v9 v2 q hi lo h0 n0 Z0 hV) hZ (g_ hw 282 rfl) (g_ hw 120 rfl) (by decide) (by decide)) (g := (mkF m 8 #[.val (.long r), .second, .val (.long (0 : Int64)), .second, .unset, .unset, .unset] [(.long (0 : Int64)), (.long r)])) rfl (by rw [hml]; rfl) (argsL := [(.long r), (.long (0 : Int64))]) (rest := []) (lenOf own_pd5 rfl) rfl (by show 2 * 0 + _ ≤ _; exact Nat.le_of_eq rfl) (dE 4 rfl) (fun _ _ => ⟨rfl, e101, (by decide : 0 + 0 ≤ _), (by decide : 0 + 0 ≤ _)⟩)) fun v102 T102 L102 X102 hQ102 => ?_
  obtain ⟨rfl, Nq102, e102⟩ := hQ102
  have N102 := Fr.app N101 Nq102
  show own_Go p e below Pst (T102.setTop (mkF m 11 #[.val (.long r), .second, .val (.long (0 : Int64)), .second, .unset, .unset, .unset] [(.long r)]))
  refine o_lstore X102.here hx (dE 5 rfl) rfl (l' := #[.val (.long r), .second, .val (.long (0 : Int64)), .second, .val (.long r), .second, .unset]) rfl ?_
  refine o_lloadN X102.here hx (dE 6 rfl) rfl ?_
  refine own_Go.of (S' := T102.setTop (mkF m 17 #[.val (.long r), .second, .val (.long (0 : Int64)), .second, .val (.long r), .second, .unset] [(.long (1000000000 : Int64)), (.long (0 : Int64))])) (fun tgt kst => X102.ldc2Long hx hown (mvT hZ (g_ hw 276 rfl)) (g := (mkF m 14 #[.val (.long r), .second, .val (.long (0 : Int64)), .second, .val (.long r), .second, .unset] [(.long (0 : Int64))])) rfl (dE 7 rfl) _ kst) ?_
  refine own_cF X102 (Jvm.LawKit.callS X102 hx (y := Mn57) hown (mvT hZ (g_ hw 283 rfl)) (mvT hZ (g_ hw 284 rfl)) (mvT hZ (g_ hw 120 rfl)) (mvT hZ (g_ hw 285 rfl)) (by decide) (backOf (W := 0) (rm_fm l Z a0 hw []  h0 n0 Z0 ) hZ (g_ hw 285 rfl) (g_ hw 120 rfl) (by decide) (by decide)) (g := (mkF m 17 #[.val (.long r), .second, .val (.long (0 : Int64)), .second, .val (.long r), .second, .unset] [(.long (1000000000 : Int64)), (.long (0 : Int64))])) rfl (by rw [hml]; rfl) (argsL := [(.long (0 : Int64)), (.long (1000000000 : Int64))]) (rest := []) (lenOf own_pd5 rfl) rfl (by show 2 * 0 + _ ≤ _; exact Nat.le_of_eq rfl) (dE 8 rfl) (fun _ _ => ⟨rfl, e102, (by decide : 0 + 0 ≤ _), (by decide : 0 + 0 ≤ _)⟩)) fun v103 T103 L103 X103 hQ103 => ?_
  obtain ⟨rfl, Nq103, e103⟩ := hQ103
  have N103 := Fr.app N102 Nq103
  show own_Go p e below Pst (T103.setTop (mkF m 20 #[.val (.long r), .second, .val (.long (0 : Int64)), .second, .val (.long r), .second, .unset] [(.long (0 : Int64))]))
  refine o_l2i X103.here hx (dE 9 rfl) rfl ?_
  rw [show ((0 : Int64).toInt32) = (0 : Int32) from by decide]
  show own_Go p e below Pst (T103.setTop (mkF m 21 #[.val (.long r), .second, .val (.long (0 : Int64)), .second, .val (.long r), .second, .unset] [(.int (0 : Int32))]))
  refine o_istore X103.here hx (dE 10 rfl) rfl (l' := #[.val (.long r), .second, .val (.long (0 : Int64)), .second, .val (.long r), .second, .val (.int (0 : Int32))]) rfl ?_
  refine o_lload X103.here hx (dE 11 rfl) rfl ?_
  refine o_iload X103.here hx (dE 12 rfl) rfl ?_
  refine own_cF X103 (Jvm.LawKit.callS X103 hx (y := Mn60) hown (mvT hZ (g_ hw 286 rfl)) (mvT hZ (g_ hw 287 rfl)) (mvT hZ (g_ hw 12 rfl)) (mvT hZ (g_ hw 288 rfl)) (by decide) (backOf (W := 0) (rm_dc l Z a0 hw [] s r v9 v2 q hi lo h0 n0 Z0 hV) hZ (g_ hw 288 rfl) (g_ hw 12 rfl) (by decide) (by decide)) (g := (mkF m 27 #[.val (.long r), .second, .val (.long (0 : Int64)), .second, .val (.long r), .second, .val (.int (0 : Int32))] [(.int (0 : Int32)), (.long r)])) rfl (by rw [hml]; rfl) (argsL := [(.long r), (.int (0 : Int32))]) (rest := []) (lenOf own_pd32 rfl) rfl (by show 2 * 0 + _ ≤ _; exact Nat.le_of_eq rfl) (dE 13 rfl) (fun _ _ => ⟨rfl, e103, (by decide : 0 + 1 ≤ _), (by decide : 0 + 2 ≤ _)⟩)) fun v104 T104 L104 X104 hQ104 => ?_
  obtain ⟨x104, rfl, Nq104, K104, sx104, A104, S104, M104⟩ := hQ104
  have N104 := Fr.app N103 Nq104
  have gn_x104 : n0 ≤ x104 := Nat.le_trans Z0 sx104
  have sz_x104 : h0.size ≤ x104 := Nat.le_trans (Keep.refl h0 []).1 sx104
  show own_Go p e below Pst (T104.setTop (mkF m 30 #[.val (.long r), .second, .val (.long (0 : Int64)), .second, .val (.long r), .second, .val (.int (0 : Int32))] [(.ref x104)]))
  have c105 := (Keep.trans (Keep.refl h0 []) K104 all0)
  rw [hPst]
  exact own_retP X104 (v := (some (.ref x104))) (Q := Q_os Z s r v9 v2 q hi lo h0 n0) (fun h => by rw [Bd.returns] at h; cases h) Bd.notSynchronized (fun fs hr => retOut X104 hx Bd.returns rfl (Or.inr (Or.inr (Or.inr (Or.inr ⟨rfl, rfl, rfl⟩)))) (dE 14 rfl) hr) (by decide) (by decide) ⟨_, rfl, N104, c105, sz_x104, A104, S104, M104⟩
theorem own_pd33 : parseMethodDescriptor "()J" = some ⟨[], some .long⟩ := by decide +kernel
theorem own_pd34 : parseMethodDescriptor "(JJ)Ljava/time/Duration;" = some ⟨[.long, .long], some (.object "java/time/Duration")⟩ := by decide +kernel
def Q_cbA (Z : State) (s r v9 v2 : Int64) (q hi lo : Int32) (o : Nat → Addr) (kc : Nat → ClassId) (a1 : Addr) (h0 : Heap) (n0 : Nat) (v : Option Value) (h : Heap) (L : List Loc) : Prop := ∃ x : Addr, v = some (.ref x) ∧ Fr n0 L ∧ Keep h0 h [] ∧ h0.size ≤ x ∧ Exa Z h x "java/time/Duration" ∧ Fld Z h x "java/time/Duration" "seconds" "J" (.long r) ∧ Fld Z h x "java/time/Duration" "nanos" "I" (.int (0 : Int32))
theorem rm_cbA (l : Launch) (Z : State) (a0 : Array Value) (hw : own_H a0 Z) (ws : List Jvm.Cond) (s r v9 v2 : Int64) (q hi lo : Int32) (o : Nat → Addr) (kc : Nat → ClassId) (a1 : Addr) (h0 : Heap) (n0 : Nat) (Z0 : n0 ≤ h0.size) (O : Old Z n0 h0) (G : own_G Z o kc) (hA : own_VA s r v9 v2 q hi lo) (Ea1 : Exa Z h0 a1 "java/math/BigDecimal") (Ca1 : Fld Z h0 a1 "java/math/BigDecimal" "intCompact" "J" (.long v2)) (Sa1 : Fld Z h0 a1 "java/math/BigDecimal" "scale" "I" (.int (9 : Int32))) (Va1 : Fld Z h0 a1 "java/math/BigDecimal" "intVal" "Ljava/math/BigInteger;" .null) : own_MP l Mn33 jdk_2316_method_48_code 3 (some (.object "java/time/Duration")) ws ({ frames := 6, cells := 12, slots := 36, locals := 90 } : Room) Z h0 #[(.ref a1)] (fun _ _ _ _ _ => True) (Q_cbA Z s r v9 v2 q hi lo o kc a1 h0 n0) := by
  refine own_startP (plainFor_of_name own_pn_java_time_Duration) fun p e s' m below meth c s₁ Bd hx hby hml hown0 X0 e0 hh0 hZ hK Pst hPst => ?_
  have dE := own_E hby own_D25
  have hown : s'.vm.findClass "java/time/Duration" = some m.cls := hown0
  have hnm := (name_of_methodNamed Bd.named Bd.method).1
  have N0 := Fr.nil n0
  rw [own_ef_R_3 m a1]
  refine o_aloadN X0.here hx (dE 0 rfl) rfl rfl ?_
  refine o_bipush X0.here hx (dE 1 rfl) (z := (9 : Int32)) rfl ?_
  obtain ⟨cq101, kq101, q101a, q101b, q101c⟩ := isOf hZ e0 Ea1
  refine own_cP X0 (X0.virtualBack hx (y := Mn18) (z := Mn18) hown (mvT hZ (g_ hw 125 rfl)) (mvT hZ (g_ hw 126 rfl)) (notFace_of_selects (args := #[]) (mvT hZ (g_ hw 128 rfl))) (mvT hZ (g_ hw 128 rfl)) (mvT hZ (g_ hw 127 rfl)) (by decide) (backOf (W := 0) (rm_mpr l Z a0 hw [] s r v9 v2 q hi lo a1 h0 n0 Z0 (Or.inl hA) Ea1 Ca1 Sa1 Va1) hZ (g_ hw 129 rfl) (g_ hw 45 rfl) (by decide) (by decide)) q101a q101c (g := (mkF m 3 #[.val (.ref a1), .unset, .unset] [(.int (9 : Int32)), (.ref a1)])) rfl (by rw [hml]; rfl) (Steps.refl _) (argsL := [(.int (9 : Int32))]) (rest := []) (lenOf own_pd3 rfl) rfl (by show 2 * 0 + _ ≤ _; exact Nat.le_of_eq rfl) (dE 2 rfl) (fun _ _ => ⟨rfl, e0, (by decide : 0 + 1 ≤ _), (by decide : 0 + 5 ≤ _)⟩)) fun v101 T101 L101 X101 hQ101 => ?_
  obtain ⟨x101, rfl, Nq101, K101, sx101, A101, C101, S101, V101⟩ := hQ101
  have N101 := Fr.app N0 Nq101
  have ne_a1_x101 : a1 ≠ x101 := Nat.ne_of_lt (Nat.lt_of_lt_of_le Ea1.lt sx101)
  have gn_x101 : n0 ≤ x101 := Nat.le_trans Z0 sx101
  have sz_x101 : h0.size ≤ x101 := Nat.le_trans (Keep.refl h0 []).1 sx101
  show own_Go p e below Pst (T101.setTop (mkF m 6 #[.val (.ref a1), .unset, .unset] [(.ref x101)]))
  have c103 := (Nat.le_trans Z0 K101.1)
  obtain ⟨cq102, kq102, q102a, q102b, q102c⟩ := isOf hZ rfl A101
  refine own_cP X101 (X101.virtualBack hx (y := Mn7) (z := Mn7) hown (mvT hZ (g_ hw 130 rfl)) (mvT hZ (g_ hw 131 rfl)) (notFace_of_selects (args := #[]) (mvT hZ (g_ hw 133 rfl))) (mvT hZ (g_ hw 133 rfl)) (mvT hZ (g_ hw 132 rfl)) (by decide) (backOf (W := 0) (rm_teA l Z a0 hw [] s r v9 v2 q hi lo x101 T101.heap n0 c103 hA A101 C101 S101 V101) hZ (g_ hw 134 rfl) (g_ hw 45 rfl) (by decide) (by decide)) q102a q102c (g := (mkF m 6 #[.val (.ref a1), .unset, .unset] [(.ref x101)])) rfl (by rw [hml]; rfl) (Steps.refl _) (argsL := []) (rest := []) (lenOf own_pd16 rfl) rfl (by show 2 * 0 + _ ≤ _; exact Nat.le_of_eq rfl) (dE 3 rfl) (fun _ _ => ⟨rfl, rfl, (by decide : 1 + 2 ≤ _), (by decide : 5 + 7 ≤ _)⟩)) fun v102 T102 L102 X102 hQ102 => ?_
  obtain ⟨x102, rfl, Nq102, K102, sx102, A102, S102, t102, k102, st_102, M102, V102⟩ := hQ102
  have N102 := Fr.app N101 Nq102
  have c104 := (Ea1.keep K101)
  have ne_a1_x102 : a1 ≠ x102 := Nat.ne_of_lt (Nat.lt_of_lt_of_le c104.lt sx102)
  have ne_x101_x102 : x101 ≠ x102 := Nat.ne_of_lt (Nat.lt_of_lt_of_le A101.lt sx102)
  have gn_x102 : n0 ≤ x102 := Nat.le_trans c103 sx102
  have c105 := (Keep.trans (Keep.refl h0 []) K101 all0)
  have sz_x102 : h0.size ≤ x102 := Nat.le_trans c105.1 sx102
  show own_Go p e below Pst (T102.setTop (mkF m 9 #[.val (.ref a1), .unset, .unset] [(.ref x102)]))
  refine o_astoreN X102.here hx (dE 4 rfl) rfl rfl (l' := #[.val (.ref a1), .val (.ref x102), .unset]) rfl ?_
  refine o_aloadN X102.here hx (dE 5 rfl) rfl rfl ?_
  have c106 := ((O.keep K101 all0).keep K102 all0)
  refine p_getS2 X102 hx hZ hown (host := "") (Or.inl (g_ hw 163 rfl)) Via.refl rfl (G.2.2.2.2.2.2.2.2.1.ext c106.2) (dE 6 rfl) fun T107 X107 e107 => ?_
  have c109 := (Nat.le_trans c103 K102.1)
  obtain ⟨cq108, kq108, q108a, q108b, q108c⟩ := isOf hZ e107 A102
  refine own_cP X107 (X107.virtualBack hx (y := Mn14) (z := Mn14) hown (mvT hZ (g_ hw 164 rfl)) (mvT hZ (g_ hw 165 rfl)) (notFace_of_selects (args := #[]) (mvT hZ (g_ hw 167 rfl))) (mvT hZ (g_ hw 167 rfl)) (mvT hZ (g_ hw 166 rfl)) (by decide) (backOf (W := 0) (rm_drA l Z a0 hw [] s r v9 v2 q hi lo o kc x102 t102 k102 T102.heap n0 c109 c106 G hA A102 S102 M102 V102) hZ (g_ hw 168 rfl) (g_ hw 147 rfl) (by decide) (by decide)) q108a q108c (g := (mkF m 14 #[.val (.ref a1), .val (.ref x102), .unset] [(.ref (o 4)), (.ref x102)])) rfl (by rw [hml]; rfl) (Steps.refl _) (argsL := [(.ref (o 4))]) (rest := []) (lenOf own_pd29 rfl) rfl (by show 2 * 0 + _ ≤ _; exact Nat.le_of_eq rfl) (dE 7 rfl) (fun _ _ => ⟨rfl, e107, (by decide : 3 + 8 ≤ _), (by decide : 12 + 22 ≤ _)⟩)) fun v108 T108 L108 X108 hQ108 => ?_
  obtain ⟨b108, rfl, Nq108, K108, sb108, kb108, x108, t108, k108, B108, sx108, A108, S108, M108, P108, V108⟩ := hQ108
  have N108 := Fr.app N102 Nq108
  have c110 := (c104.keep K102)
  have ne_a1_b108 : a1 ≠ b108 := Nat.ne_of_lt (Nat.lt_of_lt_of_le c110.lt sb108)
  have c111 := (A101.keep K102)
  have ne_x101_b108 : x101 ≠ b108 := Nat.ne_of_lt (Nat.lt_of_lt_of_le c111.lt sb108)
  have ne_x102_b108 : x102 ≠ b108 := Nat.ne_of_lt (Nat.lt_of_lt_of_le A102.lt sb108)
  have gn_b108 : n0 ≤ b108 := Nat.le_trans c109 sb108
  have c112 := (Keep.trans c105 K102 all0)
  have sz_b108 : h0.size ≤ b108 := Nat.le_trans c112.1 sb108
  have ne_a1_x108 : a1 ≠ x108 := Nat.ne_of_lt (Nat.lt_of_lt_of_le c110.lt sx108)
  have ne_x101_x108 : x101 ≠ x108 := Nat.ne_of_lt (Nat.lt_of_lt_of_le c111.lt sx108)
  have ne_x102_x108 : x102 ≠ x108 := Nat.ne_of_lt (Nat.lt_of_lt_of_le A102.lt sx108)
  have gn_x108 : n0 ≤ x108 := Nat.le_trans c109 sx108
  have sz_x108 : h0.size ≤ x108 := Nat.le_trans c112.1 sx108
  show own_Go p e below Pst (T108.setTop (mkF m 17 #[.val (.ref a1), .val (.ref x102), .unset] [(.ref b108)]))
  have nb_b108 : b108 ≠ x108 := Ne.symm (Exa.neArv A108 B108 (g_ hw 151 rfl))
  have nt_t108 : t108 ≠ x108 := Ne.symm (Exa.neArv A108 V108 (g_ hw 151 rfl))
  refine o_astoreN X108.here hx (dE 8 rfl) rfl rfl (l' := #[.val (.ref a1), .val (.ref x102), .val (.ref b108)]) rfl ?_
  refine o_aloadN X108.here hx (dE 9 rfl) rfl rfl ?_
  refine o_iconst X108.here hx (dE 10 rfl) (z := (0 : Int32)) rfl ?_
  obtain ⟨cl113, Ar113, q113, S113, P113, H113, G113⟩ := id B108
  have hin113 : ¬ ((0 : Int32) < 0 ∨ cl113.slots.size ≤ ((0 : Int32)).toNatClampNeg) := inb_of S113 ⟨by decide, by decide⟩
  have hat113 : cl113.slots[((0 : Int32)).toNatClampNeg]? = some (.ref x108) := Has.at H113 hin113 rfl
  refine own_Go.of (S' := T108.setTop (mkF m 21 #[.val (.ref a1), .val (.ref x102), .val (.ref b108)] [(.ref x108)])) (fun tgt kst => X108.aaload hx (j := (0 : Int32)) (v := (.ref x108)) (by exact Ar113.1) (State.isArrayOf_alike hZ.alike Ar113.2.1) rfl Ar113.2.2 hin113 hat113 (g := (mkF m 20 #[.val (.ref a1), .val (.ref x102), .val (.ref b108)] [(.int (0 : Int32)), (.ref b108)])) rfl rfl (dE 11 rfl) _ kst) ?_
  have c115 := (Nat.le_trans c109 K108.1)
  obtain ⟨cq114, kq114, q114a, q114b, q114c⟩ := isOf hZ rfl A108
  refine own_cP X108 (X108.virtualBack hx (y := Mn23) (z := Mn23) hown (mvT hZ (g_ hw 237 rfl)) (mvT hZ (g_ hw 238 rfl)) (notFace_of_selects (args := #[]) (mvT hZ (g_ hw 240 rfl))) (mvT hZ (g_ hw 240 rfl)) (mvT hZ (g_ hw 239 rfl)) (by decide) (backOf (W := 0) (rm_bl l Z a0 hw [] s r v9 v2 q hi lo x108 t108 k108 T108.heap n0 c115 (Or.inl hA) A108 S108 M108 V108 P108 gn_x108) hZ (g_ hw 241 rfl) (g_ hw 147 rfl) (by decide) (by decide)) q114a q114c (g := (mkF m 21 #[.val (.ref a1), .val (.ref x102), .val (.ref b108)] [(.ref x108)])) rfl (by rw [hml]; rfl) (Steps.refl _) (argsL := []) (rest := []) (lenOf own_pd30 rfl) rfl (by show 2 * 0 + _ ≤ _; exact Nat.le_of_eq rfl) (dE 12 rfl) (fun _ _ => ⟨rfl, rfl, (by decide : 11 + 0 ≤ _), (by decide : 34 + 0 ≤ _)⟩)) fun v114 T114 L114 X114 hQ114 => ?_
  obtain ⟨m114, rfl, Nq114, K114, B114, S114, M114⟩ := hQ114
  have N114 := Fr.app N108 Nq114
  show own_Go p e below Pst (T114.setTop (mkF m 24 #[.val (.ref a1), .val (.ref x102), .val (.ref b108)] [(.int m114)]))
  refine o_bipush X114.here hx (dE 13 rfl) (z := (63 : Int32)) rfl ?_
  refine o_icmpYes X114.here hx (pc0 := 26) (pc' := 57) rfl (dE 14 rfl) rfl (flt B114).2.2.2 (by decide) (by decide) ?_
  refine o_aloadN X114.here hx (dE 15 rfl) rfl rfl ?_
  refine o_iconst X114.here hx (dE 16 rfl) (z := (0 : Int32)) rfl ?_
  have c116 := (B108.keep K114 (ninS nb_b108 nin0))
  obtain ⟨cl117, Ar117, q117, S117, P117, H117, G117⟩ := id c116
  have hin117 : ¬ ((0 : Int32) < 0 ∨ cl117.slots.size ≤ ((0 : Int32)).toNatClampNeg) := inb_of S117 ⟨by decide, by decide⟩
  have hat117 : cl117.slots[((0 : Int32)).toNatClampNeg]? = some (.ref x108) := Has.at H117 hin117 rfl
  refine own_Go.of (S' := T114.setTop (mkF m 60 #[.val (.ref a1), .val (.ref x102), .val (.ref b108)] [(.ref x108)])) (fun tgt kst => X114.aaload hx (j := (0 : Int32)) (v := (.ref x108)) (by exact Ar117.1) (State.isArrayOf_alike hZ.alike Ar117.2.1) rfl Ar117.2.2 hin117 hat117 (g := (mkF m 59 #[.val (.ref a1), .val (.ref x102), .val (.ref b108)] [(.int (0 : Int32)), (.ref b108)])) rfl rfl (dE 17 rfl) _ kst) ?_
  have c118 := (A108.keep K114)
  have c119 := (V108.keep K114 (ninS nt_t108 nin0))
  have c121 := (Nat.le_trans c115 K114.1)
  obtain ⟨cq120, kq120, q120a, q120b, q120c⟩ := isOf hZ rfl c118
  refine own_cP X114 (X114.virtualBack hx (y := Mn25) (z := Mn25) hown (mvT hZ (g_ hw 252 rfl)) (mvT hZ (g_ hw 253 rfl)) (notFace_of_selects (args := #[]) (mvT hZ (g_ hw 255 rfl))) (mvT hZ (g_ hw 255 rfl)) (mvT hZ (g_ hw 254 rfl)) (by decide) (backOf (W := 0) (rm_lv l Z a0 hw [] s r v9 v2 q hi lo x108 t108 k108 T114.heap n0 c121 (Or.inl hA) c118 S114 M114 c119) hZ (g_ hw 256 rfl) (g_ hw 147 rfl) (by decide) (by decide)) q120a q120c (g := (mkF m 60 #[.val (.ref a1), .val (.ref x102), .val (.ref b108)] [(.ref x108)])) rfl (by rw [hml]; rfl) (Steps.refl _) (argsL := []) (rest := []) (lenOf own_pd33 rfl) rfl (by show 2 * 0 + _ ≤ _; exact Nat.le_of_eq rfl) (dE 18 rfl) (fun _ _ => ⟨rfl, rfl, (by decide : 11 + 0 ≤ _), (by decide : 34 + 0 ≤ _)⟩)) fun v120 T120 L120 X120 hQ120 => ?_
  obtain ⟨rfl, Nq120, e120⟩ := hQ120
  have N120 := Fr.app N114 Nq120
  show own_Go p e below Pst (T120.setTop (mkF m 63 #[.val (.ref a1), .val (.ref x102), .val (.ref b108)] [(.long r)]))
  refine o_aloadN X120.here hx (dE 19 rfl) rfl rfl ?_
  refine o_iconst X120.here hx (dE 20 rfl) (z := (1 : Int32)) rfl ?_
  obtain ⟨cl122, Ar122, q122, S122, P122, H122, G122⟩ := id c116
  have hin122 : ¬ ((1 : Int32) < 0 ∨ cl122.slots.size ≤ ((1 : Int32)).toNatClampNeg) := inb_of S122 ⟨by decide, by decide⟩
  have hat122 : cl122.slots[((1 : Int32)).toNatClampNeg]? = some (.ref (o 6)) := Has.at H122 hin122 rfl
  refine own_Go.of (S' := T120.setTop (mkF m 66 #[.val (.ref a1), .val (.ref x102), .val (.ref b108)] [(.ref (o 6)), (.long r)])) (fun tgt kst => X120.aaload hx (j := (1 : Int32)) (v := (.ref (o 6))) (by rw [e120]; exact Ar122.1) (State.isArrayOf_alike hZ.alike Ar122.2.1) rfl Ar122.2.2 hin122 hat122 (g := (mkF m 65 #[.val (.ref a1), .val (.ref x102), .val (.ref b108)] [(.int (1 : Int32)), (.ref b108), (.long r)])) rfl rfl (dE 21 rfl) _ kst) ?_
  have c123 := ((c106.keep K108 all0).keep K114 (allS gn_x108 all0))
  have c125 := (G.2.2.2.2.2.2.2.2.2.2.2.2.2.2.1).ext c123.2
  obtain ⟨cq124, kq124, q124a, q124b, q124c⟩ := isOf hZ e120 c125
  refine own_cP X120 (X120.virtualBack hx (y := Mn26) (z := Mn26) hown (mvT hZ (g_ hw 268 rfl)) (mvT hZ (g_ hw 269 rfl)) (notFace_of_selects (args := #[]) (mvT hZ (g_ hw 271 rfl))) (mvT hZ (g_ hw 271 rfl)) (mvT hZ (g_ hw 270 rfl)) (by decide) (backOf (W := 2) (rm_iv l Z a0 hw [] o kc T114.heap n0 c121 c123 G) hZ (g_ hw 272 rfl) (g_ hw 147 rfl) (by decide) (by decide)) q124a q124c (g := (mkF m 66 #[.val (.ref a1), .val (.ref x102), .val (.ref b108)] [(.ref (o 6)), (.long r)])) rfl (by rw [hml]; rfl) (Steps.refl _) (argsL := []) (rest := [(.long r)]) (lenOf own_pd30 rfl) rfl (by show 2 * 0 + _ ≤ _; exact Nat.le_of_eq rfl) (dE 22 rfl) (fun _ _ => ⟨rfl, e120, (by decide : 11 + 0 ≤ _), (by decide : 34 + 0 ≤ _)⟩)) fun v124 T124 L124 X124 hQ124 => ?_
  obtain ⟨rfl, Nq124, e124⟩ := hQ124
  have N124 := Fr.app N120 Nq124
  show own_Go p e below Pst (T124.setTop (mkF m 69 #[.val (.ref a1), .val (.ref x102), .val (.ref b108)] [(.int (0 : Int32)), (.long r)]))
  refine o_i2l X124.here hx (dE 23 rfl) rfl ?_
  rw [show ((0 : Int32).toInt64) = (0 : Int64) from by decide]
  show own_Go p e below Pst (T124.setTop (mkF m 70 #[.val (.ref a1), .val (.ref x102), .val (.ref b108)] [(.long (0 : Int64)), (.long r)]))
  refine own_cF X124 (Jvm.LawKit.callS X124 hx (y := Mn41) hown (mvT hZ (g_ hw 273 rfl)) (mvT hZ (g_ hw 274 rfl)) (mvT hZ (g_ hw 12 rfl)) (mvT hZ (g_ hw 275 rfl)) (by decide) (backOf (W := 0) (rm_os l Z a0 hw [] s r v9 v2 q hi lo T114.heap n0 c121 (Or.inl hA)) hZ (g_ hw 275 rfl) (g_ hw 12 rfl) (by decide) (by decide)) (g := (mkF m 70 #[.val (.ref a1), .val (.ref x102), .val (.ref b108)] [(.long (0 : Int64)), (.long r)])) rfl (by rw [hml]; rfl) (argsL := [(.long r), (.long (0 : Int64))]) (rest := []) (lenOf own_pd34 rfl) rfl (by show 2 * 0 + _ ≤ _; exact Nat.le_of_eq rfl) (dE 24 rfl) (fun _ _ => ⟨rfl, e124, (by decide : 11 + 1 ≤ _), (by decide : 34 + 2 ≤ _)⟩)) fun v126 T126 L126 X126 hQ126 => ?_
  obtain ⟨x126, rfl, Nq126, K126, sx126, A126, S126, M126⟩ := hQ126
  have N126 := Fr.app N124 Nq126
  have c127 := ((c110.keep K108).keep K114)
  have ne_a1_x126 : a1 ≠ x126 := Nat.ne_of_lt (Nat.lt_of_lt_of_le c127.lt sx126)
  have c128 := ((c111.keep K108).keep K114)
  have ne_x101_x126 : x101 ≠ x126 := Nat.ne_of_lt (Nat.lt_of_lt_of_le c128.lt sx126)
  have c129 := ((A102.keep K108).keep K114)
  have ne_x102_x126 : x102 ≠ x126 := Nat.ne_of_lt (Nat.lt_of_lt_of_le c129.lt sx126)
  have ne_b108_x126 : b108 ≠ x126 := Nat.ne_of_lt (Nat.lt_of_lt_of_le c116.lt sx126)
  have ne_x108_x126 : x108 ≠ x126 := Nat.ne_of_lt (Nat.lt_of_lt_of_le c118.lt sx126)
  have gn_x126 : n0 ≤ x126 := Nat.le_trans c121 sx126
  have c130 := (Keep.trans (Keep.trans c112 K108 all0) K114 (allS (Or.inr sz_x108) all0))
  have sz_x126 : h0.size ≤ x126 := Nat.le_trans c130.1 sx126
  show own_Go p e below Pst (T126.setTop (mkF m 73 #[.val (.ref a1), .val (.ref x102), .val (.ref b108)] [(.ref x126)]))
  have c131 := (Keep.trans c130 K126 all0)
  rw [hPst]
  exact own_retP X126 (v := (some (.ref x126))) (Q := Q_cbA Z s r v9 v2 q hi lo o kc a1 h0 n0) (fun h => by rw [Bd.returns] at h; cases h) Bd.notSynchronized (fun fs hr => retOut X126 hx Bd.returns rfl (Or.inr (Or.inr (Or.inr (Or.inr ⟨rfl, rfl, rfl⟩)))) (dE 25 rfl) hr) (by decide) (by decide) ⟨_, rfl, N126, c131, sz_x126, A126, S126, M126⟩
def Q_cbB (Z : State) (s r v9 v2 : Int64) (q hi lo : Int32) (o : Nat → Addr) (kc : Nat → ClassId) (a1 : Addr) (h0 : Heap) (n0 : Nat) (v : Option Value) (h : Heap) (L : List Loc) : Prop := ∃ x : Addr, v = some (.ref x) ∧ Fr n0 L ∧ Keep h0 h [] ∧ h0.size ≤ x ∧ Exa Z h x "java/time/Duration" ∧ Fld Z h x "java/time/Duration" "seconds" "J" (.long r) ∧ Fld Z h x "java/time/Duration" "nanos" "I" (.int (0 : Int32))
theorem rm_cbB (l : Launch) (Z : State) (a0 : Array Value) (hw : own_H a0 Z) (ws : List Jvm.Cond) (s r v9 v2 : Int64) (q hi lo : Int32) (o : Nat → Addr) (kc : Nat → ClassId) (a1 : Addr) (h0 : Heap) (n0 : Nat) (Z0 : n0 ≤ h0.size) (O : Old Z n0 h0) (G : own_G Z o kc) (hB : own_VB s r v9 v2 q hi lo) (Ea1 : Exa Z h0 a1 "java/math/BigDecimal") (Ca1 : Fld Z h0 a1 "java/math/BigDecimal" "intCompact" "J" (.long v2)) (Sa1 : Fld Z h0 a1 "java/math/BigDecimal" "scale" "I" (.int (9 : Int32))) (Va1 : Fld Z h0 a1 "java/math/BigDecimal" "intVal" "Ljava/math/BigInteger;" .null) : own_MP l Mn33 jdk_2316_method_48_code 3 (some (.object "java/time/Duration")) ws ({ frames := 7, cells := 14, slots := 40, locals := 115 } : Room) Z h0 #[(.ref a1)] (fun _ _ _ _ _ => True) (Q_cbB Z s r v9 v2 q hi lo o kc a1 h0 n0) := by
  refine own_startP (plainFor_of_name own_pn_java_time_Duration) fun p e s' m below meth c s₁ Bd hx hby hml hown0 X0 e0 hh0 hZ hK Pst hPst => ?_
  have dE := own_E hby own_D25
  have hown : s'.vm.findClass "java/time/Duration" = some m.cls := hown0
  have hnm := (name_of_methodNamed Bd.named Bd.method).1
  have N0 := Fr.nil n0
  rw [own_ef_R_3 m a1]
  refine o_aloadN X0.here hx (dE 0 rfl) rfl rfl ?_
  refine o_bipush X0.here hx (dE 1 rfl) (z := (9 : Int32)) rfl ?_
  obtain ⟨cq101, kq101, q101a, q101b, q101c⟩ := isOf hZ e0 Ea1
  refine own_cP X0 (X0.virtualBack hx (y := Mn18) (z := Mn18) hown (mvT hZ (g_ hw 125 rfl)) (mvT hZ (g_ hw 126 rfl)) (notFace_of_selects (args := #[]) (mvT hZ (g_ hw 128 rfl))) (mvT hZ (g_ hw 128 rfl)) (mvT hZ (g_ hw 127 rfl)) (by decide) (backOf (W := 0) (rm_mpr l Z a0 hw [] s r v9 v2 q hi lo a1 h0 n0 Z0 (Or.inr hB) Ea1 Ca1 Sa1 Va1) hZ (g_ hw 129 rfl) (g_ hw 45 rfl) (by decide) (by decide)) q101a q101c (g := (mkF m 3 #[.val (.ref a1), .unset, .unset] [(.int (9 : Int32)), (.ref a1)])) rfl (by rw [hml]; rfl) (Steps.refl _) (argsL := [(.int (9 : Int32))]) (rest := []) (lenOf own_pd3 rfl) rfl (by show 2 * 0 + _ ≤ _; exact Nat.le_of_eq rfl) (dE 2 rfl) (fun _ _ => ⟨rfl, e0, (by decide : 0 + 1 ≤ _), (by decide : 0 + 5 ≤ _)⟩)) fun v101 T101 L101 X101 hQ101 => ?_
  obtain ⟨x101, rfl, Nq101, K101, sx101, A101, C101, S101, V101⟩ := hQ101
  have N101 := Fr.app N0 Nq101
  have ne_a1_x101 : a1 ≠ x101 := Nat.ne_of_lt (Nat.lt_of_lt_of_le Ea1.lt sx101)
  have gn_x101 : n0 ≤ x101 := Nat.le_trans Z0 sx101
  have sz_x101 : h0.size ≤ x101 := Nat.le_trans (Keep.refl h0 []).1 sx101
  show own_Go p e below Pst (T101.setTop (mkF m 6 #[.val (.ref a1), .unset, .unset] [(.ref x101)]))
  have c103 := (Nat.le_trans Z0 K101.1)
  obtain ⟨cq102, kq102, q102a, q102b, q102c⟩ := isOf hZ rfl A101
  refine own_cP X101 (X101.virtualBack hx (y := Mn7) (z := Mn7) hown (mvT hZ (g_ hw 130 rfl)) (mvT hZ (g_ hw 131 rfl)) (notFace_of_selects (args := #[]) (mvT hZ (g_ hw 133 rfl))) (mvT hZ (g_ hw 133 rfl)) (mvT hZ (g_ hw 132 rfl)) (by decide) (backOf (W := 0) (rm_teB l Z a0 hw [] s r v9 v2 q hi lo x101 T101.heap n0 c103 hB A101 C101 S101 V101) hZ (g_ hw 134 rfl) (g_ hw 45 rfl) (by decide) (by decide)) q102a q102c (g := (mkF m 6 #[.val (.ref a1), .unset, .unset] [(.ref x101)])) rfl (by rw [hml]; rfl) (Steps.refl _) (argsL := []) (rest := []) (lenOf own_pd16 rfl) rfl (by show 2 * 0 + _ ≤ _; exact Nat.le_of_eq rfl) (dE 3 rfl) (fun _ _ => ⟨rfl, rfl, (by decide : 1 + 2 ≤ _), (by decide : 5 + 8 ≤ _)⟩)) fun v102 T102 L102 X102 hQ102 => ?_
  obtain ⟨x102, rfl, Nq102, K102, sx102, A102, S102, t102, k102, st_102, M102, V102⟩ := hQ102
  have N102 := Fr.app N101 Nq102
  have c104 := (Ea1.keep K101)
  have ne_a1_x102 : a1 ≠ x102 := Nat.ne_of_lt (Nat.lt_of_lt_of_le c104.lt sx102)
  have ne_x101_x102 : x101 ≠ x102 := Nat.ne_of_lt (Nat.lt_of_lt_of_le A101.lt sx102)
  have gn_x102 : n0 ≤ x102 := Nat.le_trans c103 sx102
  have c105 := (Keep.trans (Keep.refl h0 []) K101 all0)
  have sz_x102 : h0.size ≤ x102 := Nat.le_trans c105.1 sx102
  show own_Go p e below Pst (T102.setTop (mkF m 9 #[.val (.ref a1), .unset, .unset] [(.ref x102)]))
  refine o_astoreN X102.here hx (dE 4 rfl) rfl rfl (l' := #[.val (.ref a1), .val (.ref x102), .unset]) rfl ?_
  refine o_aloadN X102.here hx (dE 5 rfl) rfl rfl ?_
  have c106 := ((O.keep K101 all0).keep K102 all0)
  refine p_getS2 X102 hx hZ hown (host := "") (Or.inl (g_ hw 163 rfl)) Via.refl rfl (G.2.2.2.2.2.2.2.2.1.ext c106.2) (dE 6 rfl) fun T107 X107 e107 => ?_
  have c109 := (Nat.le_trans c103 K102.1)
  obtain ⟨cq108, kq108, q108a, q108b, q108c⟩ := isOf hZ e107 A102
  refine own_cP X107 (X107.virtualBack hx (y := Mn14) (z := Mn14) hown (mvT hZ (g_ hw 164 rfl)) (mvT hZ (g_ hw 165 rfl)) (notFace_of_selects (args := #[]) (mvT hZ (g_ hw 167 rfl))) (mvT hZ (g_ hw 167 rfl)) (mvT hZ (g_ hw 166 rfl)) (by decide) (backOf (W := 0) (rm_drB l Z a0 hw [] s r v9 v2 q hi lo o kc x102 t102 k102 T102.heap n0 c109 c106 G hB A102 S102 M102 V102) hZ (g_ hw 168 rfl) (g_ hw 147 rfl) (by decide) (by decide)) q108a q108c (g := (mkF m 14 #[.val (.ref a1), .val (.ref x102), .unset] [(.ref (o 4)), (.ref x102)])) rfl (by rw [hml]; rfl) (Steps.refl _) (argsL := [(.ref (o 4))]) (rest := []) (lenOf own_pd29 rfl) rfl (by show 2 * 0 + _ ≤ _; exact Nat.le_of_eq rfl) (dE 7 rfl) (fun _ _ => ⟨rfl, e107, (by decide : 3 + 10 ≤ _), (by decide : 13 + 25 ≤ _)⟩)) fun v108 T108 L108 X108 hQ108 => ?_
  obtain ⟨b108, rfl, Nq108, K108, sb108, kb108, x108, t108, k108, B108, sx108, A108, S108, M108, P108, V108⟩ := hQ108
  have N108 := Fr.app N102 Nq108
  have c110 := (c104.keep K102)
  have ne_a1_b108 : a1 ≠ b108 := Nat.ne_of_lt (Nat.lt_of_lt_of_le c110.lt sb108)
  have c111 := (A101.keep K102)
  have ne_x101_b108 : x101 ≠ b108 := Nat.ne_of_lt (Nat.lt_of_lt_of_le c111.lt sb108)
  have ne_x102_b108 : x102 ≠ b108 := Nat.ne_of_lt (Nat.lt_of_lt_of_le A102.lt sb108)
  have gn_b108 : n0 ≤ b108 := Nat.le_trans c109 sb108
  have c112 := (Keep.trans c105 K102 all0)
  have sz_b108 : h0.size ≤ b108 := Nat.le_trans c112.1 sb108
  have ne_a1_x108 : a1 ≠ x108 := Nat.ne_of_lt (Nat.lt_of_lt_of_le c110.lt sx108)
  have ne_x101_x108 : x101 ≠ x108 := Nat.ne_of_lt (Nat.lt_of_lt_of_le c111.lt sx108)
  have ne_x102_x108 : x102 ≠ x108 := Nat.ne_of_lt (Nat.lt_of_lt_of_le A102.lt sx108)
  have gn_x108 : n0 ≤ x108 := Nat.le_trans c109 sx108
  have sz_x108 : h0.size ≤ x108 := Nat.le_trans c112.1 sx108
  show own_Go p e below Pst (T108.setTop (mkF m 17 #[.val (.ref a1), .val (.ref x102), .unset] [(.ref b108)]))
  have nb_b108 : b108 ≠ x108 := Ne.symm (Exa.neArv A108 B108 (g_ hw 151 rfl))
  have nt_t108 : t108 ≠ x108 := Ne.symm (Exa.neArv A108 V108 (g_ hw 151 rfl))
  refine o_astoreN X108.here hx (dE 8 rfl) rfl rfl (l' := #[.val (.ref a1), .val (.ref x102), .val (.ref b108)]) rfl ?_
  refine o_aloadN X108.here hx (dE 9 rfl) rfl rfl ?_
  refine o_iconst X108.here hx (dE 10 rfl) (z := (0 : Int32)) rfl ?_
  obtain ⟨cl113, Ar113, q113, S113, P113, H113, G113⟩ := id B108
  have hin113 : ¬ ((0 : Int32) < 0 ∨ cl113.slots.size ≤ ((0 : Int32)).toNatClampNeg) := inb_of S113 ⟨by decide, by decide⟩
  have hat113 : cl113.slots[((0 : Int32)).toNatClampNeg]? = some (.ref x108) := Has.at H113 hin113 rfl
  refine own_Go.of (S' := T108.setTop (mkF m 21 #[.val (.ref a1), .val (.ref x102), .val (.ref b108)] [(.ref x108)])) (fun tgt kst => X108.aaload hx (j := (0 : Int32)) (v := (.ref x108)) (by exact Ar113.1) (State.isArrayOf_alike hZ.alike Ar113.2.1) rfl Ar113.2.2 hin113 hat113 (g := (mkF m 20 #[.val (.ref a1), .val (.ref x102), .val (.ref b108)] [(.int (0 : Int32)), (.ref b108)])) rfl rfl (dE 11 rfl) _ kst) ?_
  have c115 := (Nat.le_trans c109 K108.1)
  obtain ⟨cq114, kq114, q114a, q114b, q114c⟩ := isOf hZ rfl A108
  refine own_cP X108 (X108.virtualBack hx (y := Mn23) (z := Mn23) hown (mvT hZ (g_ hw 237 rfl)) (mvT hZ (g_ hw 238 rfl)) (notFace_of_selects (args := #[]) (mvT hZ (g_ hw 240 rfl))) (mvT hZ (g_ hw 240 rfl)) (mvT hZ (g_ hw 239 rfl)) (by decide) (backOf (W := 0) (rm_bl l Z a0 hw [] s r v9 v2 q hi lo x108 t108 k108 T108.heap n0 c115 (Or.inr hB) A108 S108 M108 V108 P108 gn_x108) hZ (g_ hw 241 rfl) (g_ hw 147 rfl) (by decide) (by decide)) q114a q114c (g := (mkF m 21 #[.val (.ref a1), .val (.ref x102), .val (.ref b108)] [(.ref x108)])) rfl (by rw [hml]; rfl) (Steps.refl _) (argsL := []) (rest := []) (lenOf own_pd30 rfl) rfl (by show 2 * 0 + _ ≤ _; exact Nat.le_of_eq rfl) (dE 12 rfl) (fun _ _ => ⟨rfl, rfl, (by decide : 13 + 0 ≤ _), (by decide : 38 + 0 ≤ _)⟩)) fun v114 T114 L114 X114 hQ114 => ?_
  obtain ⟨m114, rfl, Nq114, K114, B114, S114, M114⟩ := hQ114
  have N114 := Fr.app N108 Nq114
  show own_Go p e below Pst (T114.setTop (mkF m 24 #[.val (.ref a1), .val (.ref x102), .val (.ref b108)] [(.int m114)]))
  refine o_bipush X114.here hx (dE 13 rfl) (z := (63 : Int32)) rfl ?_
  refine o_icmpYes X114.here hx (pc0 := 26) (pc' := 57) rfl (dE 14 rfl) rfl (flt B114).2.2.2 (by decide) (by decide) ?_
  refine o_aloadN X114.here hx (dE 15 rfl) rfl rfl ?_
  refine o_iconst X114.here hx (dE 16 rfl) (z := (0 : Int32)) rfl ?_
  have c116 := (B108.keep K114 (ninS nb_b108 nin0))
  obtain ⟨cl117, Ar117, q117, S117, P117, H117, G117⟩ := id c116
  have hin117 : ¬ ((0 : Int32) < 0 ∨ cl117.slots.size ≤ ((0 : Int32)).toNatClampNeg) := inb_of S117 ⟨by decide, by decide⟩
  have hat117 : cl117.slots[((0 : Int32)).toNatClampNeg]? = some (.ref x108) := Has.at H117 hin117 rfl
  refine own_Go.of (S' := T114.setTop (mkF m 60 #[.val (.ref a1), .val (.ref x102), .val (.ref b108)] [(.ref x108)])) (fun tgt kst => X114.aaload hx (j := (0 : Int32)) (v := (.ref x108)) (by exact Ar117.1) (State.isArrayOf_alike hZ.alike Ar117.2.1) rfl Ar117.2.2 hin117 hat117 (g := (mkF m 59 #[.val (.ref a1), .val (.ref x102), .val (.ref b108)] [(.int (0 : Int32)), (.ref b108)])) rfl rfl (dE 17 rfl) _ kst) ?_
  have c118 := (A108.keep K114)
  have c119 := (V108.keep K114 (ninS nt_t108 nin0))
  have c121 := (Nat.le_trans c115 K114.1)
  obtain ⟨cq120, kq120, q120a, q120b, q120c⟩ := isOf hZ rfl c118
  refine own_cP X114 (X114.virtualBack hx (y := Mn25) (z := Mn25) hown (mvT hZ (g_ hw 252 rfl)) (mvT hZ (g_ hw 253 rfl)) (notFace_of_selects (args := #[]) (mvT hZ (g_ hw 255 rfl))) (mvT hZ (g_ hw 255 rfl)) (mvT hZ (g_ hw 254 rfl)) (by decide) (backOf (W := 0) (rm_lv l Z a0 hw [] s r v9 v2 q hi lo x108 t108 k108 T114.heap n0 c121 (Or.inr hB) c118 S114 M114 c119) hZ (g_ hw 256 rfl) (g_ hw 147 rfl) (by decide) (by decide)) q120a q120c (g := (mkF m 60 #[.val (.ref a1), .val (.ref x102), .val (.ref b108)] [(.ref x108)])) rfl (by rw [hml]; rfl) (Steps.refl _) (argsL := []) (rest := []) (lenOf own_pd33 rfl) rfl (by show 2 * 0 + _ ≤ _; exact Nat.le_of_eq rfl) (dE 18 rfl) (fun _ _ => ⟨rfl, rfl, (by decide : 13 + 0 ≤ _), (by decide : 38 + 0 ≤ _)⟩)) fun v120 T120 L120 X120 hQ120 => ?_
  obtain ⟨rfl, Nq120, e120⟩ := hQ120
  have N120 := Fr.app N114 Nq120
  show own_Go p e below Pst (T120.setTop (mkF m 63 #[.val (.ref a1), .val (.ref x102), .val (.ref b108)] [(.long r)]))
  refine o_aloadN X120.here hx (dE 19 rfl) rfl rfl ?_
  refine o_iconst X120.here hx (dE 20 rfl) (z := (1 : Int32)) rfl ?_
  obtain ⟨cl122, Ar122, q122, S122, P122, H122, G122⟩ := id c116
  have hin122 : ¬ ((1 : Int32) < 0 ∨ cl122.slots.size ≤ ((1 : Int32)).toNatClampNeg) := inb_of S122 ⟨by decide, by decide⟩
  have hat122 : cl122.slots[((1 : Int32)).toNatClampNeg]? = some (.ref (o 6)) := Has.at H122 hin122 rfl
  refine own_Go.of (S' := T120.setTop (mkF m 66 #[.val (.ref a1), .val (.ref x102), .val (.ref b108)] [(.ref (o 6)), (.long r)])) (fun tgt kst => X120.aaload hx (j := (1 : Int32)) (v := (.ref (o 6))) (by rw [e120]; exact Ar122.1) (State.isArrayOf_alike hZ.alike Ar122.2.1) rfl Ar122.2.2 hin122 hat122 (g := (mkF m 65 #[.val (.ref a1), .val (.ref x102), .val (.ref b108)] [(.int (1 : Int32)), (.ref b108), (.long r)])) rfl rfl (dE 21 rfl) _ kst) ?_
  have c123 := ((c106.keep K108 all0).keep K114 (allS gn_x108 all0))
  have c125 := (G.2.2.2.2.2.2.2.2.2.2.2.2.2.2.1).ext c123.2
  obtain ⟨cq124, kq124, q124a, q124b, q124c⟩ := isOf hZ e120 c125
  refine own_cP X120 (X120.virtualBack hx (y := Mn26) (z := Mn26) hown (mvT hZ (g_ hw 268 rfl)) (mvT hZ (g_ hw 269 rfl)) (notFace_of_selects (args := #[]) (mvT hZ (g_ hw 271 rfl))) (mvT hZ (g_ hw 271 rfl)) (mvT hZ (g_ hw 270 rfl)) (by decide) (backOf (W := 2) (rm_iv l Z a0 hw [] o kc T114.heap n0 c121 c123 G) hZ (g_ hw 272 rfl) (g_ hw 147 rfl) (by decide) (by decide)) q124a q124c (g := (mkF m 66 #[.val (.ref a1), .val (.ref x102), .val (.ref b108)] [(.ref (o 6)), (.long r)])) rfl (by rw [hml]; rfl) (Steps.refl _) (argsL := []) (rest := [(.long r)]) (lenOf own_pd30 rfl) rfl (by show 2 * 0 + _ ≤ _; exact Nat.le_of_eq rfl) (dE 22 rfl) (fun _ _ => ⟨rfl, e120, (by decide : 13 + 0 ≤ _), (by decide : 38 + 0 ≤ _)⟩)) fun v124 T124 L124 X124 hQ124 => ?_
  obtain ⟨rfl, Nq124, e124⟩ := hQ124
  have N124 := Fr.app N120 Nq124
  show own_Go p e below Pst (T124.setTop (mkF m 69 #[.val (.ref a1), .val (.ref x102), .val (.ref b108)] [(.int (0 : Int32)), (.long r)]))
  refine o_i2l X124.here hx (dE 23 rfl) rfl ?_
  rw [show ((0 : Int32).toInt64) = (0 : Int64) from by decide]
  show own_Go p e below Pst (T124.setTop (mkF m 70 #[.val (.ref a1), .val (.ref x102), .val (.ref b108)] [(.long (0 : Int64)), (.long r)]))
  refine own_cF X124 (Jvm.LawKit.callS X124 hx (y := Mn41) hown (mvT hZ (g_ hw 273 rfl)) (mvT hZ (g_ hw 274 rfl)) (mvT hZ (g_ hw 12 rfl)) (mvT hZ (g_ hw 275 rfl)) (by decide) (backOf (W := 0) (rm_os l Z a0 hw [] s r v9 v2 q hi lo T114.heap n0 c121 (Or.inr hB)) hZ (g_ hw 275 rfl) (g_ hw 12 rfl) (by decide) (by decide)) (g := (mkF m 70 #[.val (.ref a1), .val (.ref x102), .val (.ref b108)] [(.long (0 : Int64)), (.long r)])) rfl (by rw [hml]; rfl) (argsL := [(.long r), (.long (0 : Int64))]) (rest := []) (lenOf own_pd34 rfl) rfl (by show 2 * 0 + _ ≤ _; exact Nat.le_of_eq rfl) (dE 24 rfl) (fun _ _ => ⟨rfl, e124, (by decide : 13 + 1 ≤ _), (by decide : 38 + 2 ≤ _)⟩)) fun v126 T126 L126 X126 hQ126 => ?_
  obtain ⟨x126, rfl, Nq126, K126, sx126, A126, S126, M126⟩ := hQ126
  have N126 := Fr.app N124 Nq126
  have c127 := ((c110.keep K108).keep K114)
  have ne_a1_x126 : a1 ≠ x126 := Nat.ne_of_lt (Nat.lt_of_lt_of_le c127.lt sx126)
  have c128 := ((c111.keep K108).keep K114)
  have ne_x101_x126 : x101 ≠ x126 := Nat.ne_of_lt (Nat.lt_of_lt_of_le c128.lt sx126)
  have c129 := ((A102.keep K108).keep K114)
  have ne_x102_x126 : x102 ≠ x126 := Nat.ne_of_lt (Nat.lt_of_lt_of_le c129.lt sx126)
  have ne_b108_x126 : b108 ≠ x126 := Nat.ne_of_lt (Nat.lt_of_lt_of_le c116.lt sx126)
  have ne_x108_x126 : x108 ≠ x126 := Nat.ne_of_lt (Nat.lt_of_lt_of_le c118.lt sx126)
  have gn_x126 : n0 ≤ x126 := Nat.le_trans c121 sx126
  have c130 := (Keep.trans (Keep.trans c112 K108 all0) K114 (allS (Or.inr sz_x108) all0))
  have sz_x126 : h0.size ≤ x126 := Nat.le_trans c130.1 sx126
  show own_Go p e below Pst (T126.setTop (mkF m 73 #[.val (.ref a1), .val (.ref x102), .val (.ref b108)] [(.ref x126)]))
  have c131 := (Keep.trans c130 K126 all0)
  rw [hPst]
  exact own_retP X126 (v := (some (.ref x126))) (Q := Q_cbB Z s r v9 v2 q hi lo o kc a1 h0 n0) (fun h => by rw [Bd.returns] at h; cases h) Bd.notSynchronized (fun fs hr => retOut X126 hx Bd.returns rfl (Or.inr (Or.inr (Or.inr (Or.inr ⟨rfl, rfl, rfl⟩)))) (dE 25 rfl) hr) (by decide) (by decide) ⟨_, rfl, N126, c131, sz_x126, A126, S126, M126⟩
theorem own_pd35 : parseMethodDescriptor "()Ljava/math/BigDecimal;" = some ⟨[], some (.object "java/math/BigDecimal")⟩ := by decide +kernel
theorem own_pd36 : parseMethodDescriptor "(Ljava/math/BigDecimal;)Ljava/time/Duration;" = some ⟨[(.object "java/math/BigDecimal")], some (.object "java/time/Duration")⟩ := by decide +kernel
theorem own_ef_RJ_3 (m : MethodId) (x0 : Addr) (x1 : Int64) : entryFrame m #[(.ref x0), (.long x1)] 3 = mkF m 0 #[.val (.ref x0), .val (.long x1), .second] [] := by first | (simp [entryFrame, mkF, argsToLocals, Value.category]; done) | rfl
def Q_by (Z : State) (s r v9 v2 : Int64) (q hi lo : Int32) (o : Nat → Addr) (kc : Nat → ClassId) (a1 : Addr) (h0 : Heap) (n0 : Nat) (v : Option Value) (h : Heap) (L : List Loc) : Prop := ∃ x : Addr, v = some (.ref x) ∧ Fr n0 L ∧ Keep h0 h [] ∧ h0.size ≤ x ∧ Exa Z h x "java/time/Duration" ∧ Fld Z h x "java/time/Duration" "seconds" "J" (.long r) ∧ Fld Z h x "java/time/Duration" "nanos" "I" (.int (0 : Int32))
theorem rm_by (l : Launch) (Z : State) (a0 : Array Value) (hw : own_H a0 Z) (ws : List Jvm.Cond) (s r v9 v2 : Int64) (q hi lo : Int32) (o : Nat → Addr) (kc : Nat → ClassId) (a1 : Addr) (h0 : Heap) (n0 : Nat) (Z0 : n0 ≤ h0.size) (O : Old Z n0 h0) (G : own_G Z o kc) (hV : own_V s r v9 v2 q hi lo) (ED : Exa Z h0 a1 "java/time/Duration") (D1 : Fld Z h0 a1 "java/time/Duration" "seconds" "J" (.long s)) (D2 : Fld Z h0 a1 "java/time/Duration" "nanos" "I" (.int (0 : Int32))) : own_MP l Mn1 jdk_2316_method_44_code 3 (some (.object "java/time/Duration")) ws ({ frames := 8, cells := 18, slots := 60, locals := 129 } : Room) Z h0 #[(.ref a1), (.long (2 : Int64))] (fun _ _ _ _ _ => True) (Q_by Z s r v9 v2 q hi lo o kc a1 h0 n0) := by
  refine own_startP (plainFor_of_name own_pn_java_time_Duration) fun p e s' m below meth c s₁ Bd hx hby hml hown0 X0 e0 hh0 hZ hK Pst hPst => ?_
  have dE := own_E hby own_D6
  have hown : s'.vm.findClass "java/time/Duration" = some m.cls := hown0
  have hnm := (name_of_methodNamed Bd.named Bd.method).1
  have N0 := Fr.nil n0
  rw [own_ef_RJ_3 m a1 (2 : Int64)]
  refine o_lloadN X0.here hx (dE 0 rfl) rfl ?_
  refine o_lconst X0.here hx (dE 1 rfl) (z := (0 : Int64)) rfl ?_
  refine o_lcmp X0.here hx (dE 2 rfl) rfl ?_
  refine o_ifYes X0.here hx (pc0 := 3) (pc' := 10) rfl (dE 3 rfl) rfl ((if0 _ _).trans (feq (by decide)).2) (by decide) (by decide) ?_
  refine o_lloadN X0.here hx (dE 4 rfl) rfl ?_
  refine o_lconst X0.here hx (dE 5 rfl) (z := (1 : Int64)) rfl ?_
  refine o_lcmp X0.here hx (dE 6 rfl) rfl ?_
  refine o_ifYes X0.here hx (pc0 := 13) (pc' := 18) rfl (dE 7 rfl) rfl ((if0 _ _).trans (feq (by decide)).2) (by decide) (by decide) ?_
  refine o_aloadN X0.here hx (dE 8 rfl) rfl rfl ?_
  obtain ⟨cq101, kq101, q101a, q101b, q101c⟩ := isOf hZ e0 ED
  refine own_cP X0 (X0.virtualBack hx (y := Mn37) (z := Mn37) hown (mvT hZ (g_ hw 38 rfl)) (mvT hZ (own_decl (g_ hw 39 rfl) (g_ hw 42 rfl))) (notFace_of_selects (args := #[]) (mvT hZ (g_ hw 41 rfl))) (mvT hZ (g_ hw 41 rfl)) (mvT hZ (g_ hw 39 rfl)) (by decide) (backOf (W := 0) (rm_tbs l Z a0 hw [] s r v9 v2 q hi lo o kc a1 h0 n0 Z0 O G hV ED D1 D2) hZ (g_ hw 42 rfl) (g_ hw 12 rfl) (by decide) (by decide)) q101a q101c (g := (mkF m 19 #[.val (.ref a1), .val (.long (2 : Int64)), .second] [(.ref a1)])) rfl (by rw [hml]; rfl) (Steps.refl _) (argsL := []) (rest := []) (lenOf own_pd35 rfl) rfl (by show 2 * 0 + _ ≤ _; exact Nat.le_of_eq rfl) (dE 9 rfl) (fun _ _ => ⟨rfl, e0, (by decide : 0 + 2 ≤ _), (by decide : 0 + 10 ≤ _)⟩)) fun v101 T101 L101 X101 hQ101 => ?_
  obtain ⟨x101, rfl, Nq101, K101, sx101, A101, C101, S101, V101⟩ := hQ101
  have N101 := Fr.app N0 Nq101
  have ne_a1_x101 : a1 ≠ x101 := Nat.ne_of_lt (Nat.lt_of_lt_of_le ED.lt sx101)
  have c102 := (G.2.2.2.2.2.2.2.2.2.2.2.2.2.2.2.2.2.2.2.2.2.1).ext O.2
  have ne__o_22__x101 : (o 22) ≠ x101 := Nat.ne_of_lt (Nat.lt_of_lt_of_le c102.lt sx101)
  have gn_x101 : n0 ≤ x101 := Nat.le_trans Z0 sx101
  have sz_x101 : h0.size ≤ x101 := Nat.le_trans (Keep.refl h0 []).1 sx101
  show own_Go p e below Pst (T101.setTop (mkF m 22 #[.val (.ref a1), .val (.long (2 : Int64)), .second] [(.ref x101)]))
  refine o_lloadN X101.here hx (dE 10 rfl) rfl ?_
  have c103 := (O.keep K101 all0)
  have c105 := (Nat.le_trans Z0 K101.1)
  refine own_cF X101 (Jvm.LawKit.callS X101 hx (y := Mn35) hown (mvT hZ (g_ hw 43 rfl)) (mvT hZ (g_ hw 44 rfl)) (mvT hZ (g_ hw 45 rfl)) (mvT hZ (g_ hw 46 rfl)) (by decide) (backOf (W := 1) (rm_vo l Z a0 hw [] (2 : Int64) o kc T101.heap n0 c105 c103 G (Or.inr (Or.inl rfl))) hZ (g_ hw 46 rfl) (g_ hw 45 rfl) (by decide) (by decide)) (g := (mkF m 23 #[.val (.ref a1), .val (.long (2 : Int64)), .second] [(.long (2 : Int64)), (.ref x101)])) rfl (by rw [hml]; rfl) (argsL := [(.long (2 : Int64))]) (rest := [(.ref x101)]) (lenOf own_pd10 rfl) rfl (by show 2 * 0 + _ ≤ _; exact Nat.le_of_eq rfl) (dE 11 rfl) (fun _ _ => ⟨rfl, rfl, (by decide : 2 + 1 ≤ _), (by decide : 10 + 5 ≤ _)⟩)) fun v104 T104 L104 X104 hQ104 => ?_
  obtain ⟨x104, rfl, Nq104, K104, A104, C104, S104⟩ := hQ104
  have N104 := Fr.app N101 Nq104
  show own_Go p e below Pst (T104.setTop (mkF m 26 #[.val (.ref a1), .val (.long (2 : Int64)), .second] [(.ref x104), (.ref x101)]))
  have c106 := (A101.keep K104)
  have c107 := (C101.keep K104 nin0)
  have c108 := (S101.keep K104 nin0)
  have c110 := (Nat.le_trans c105 K104.1)
  obtain ⟨cq109, kq109, q109a, q109b, q109c⟩ := isOf hZ rfl c106
  refine own_cP X104 (X104.virtualBack hx (y := Mn38) (z := Mn38) hown (mvT hZ (g_ hw 102 rfl)) (mvT hZ (g_ hw 103 rfl)) (notFace_of_selects (args := #[]) (mvT hZ (g_ hw 105 rfl))) (mvT hZ (g_ hw 105 rfl)) (mvT hZ (g_ hw 104 rfl)) (by decide) (backOf (W := 0) (rm_mu l Z a0 hw [] s r v9 v2 q hi lo x101 x104 T104.heap n0 c110 hV c106 c107 c108 A104 C104 S104) hZ (g_ hw 106 rfl) (g_ hw 45 rfl) (by decide) (by decide)) q109a q109c (g := (mkF m 26 #[.val (.ref a1), .val (.long (2 : Int64)), .second] [(.ref x104), (.ref x101)])) rfl (by rw [hml]; rfl) (Steps.refl _) (argsL := [(.ref x104)]) (rest := []) (lenOf own_pd11 rfl) rfl (by show 2 * 0 + _ ≤ _; exact Nat.le_of_eq rfl) (dE 12 rfl) (fun _ _ => ⟨rfl, rfl, (by decide : 3 + 1 ≤ _), (by decide : 15 + 5 ≤ _)⟩)) fun v109 T109 L109 X109 hQ109 => ?_
  obtain ⟨x109, rfl, Nq109, K109, sx109, A109, C109, S109, V109⟩ := hQ109
  have N109 := Fr.app N104 Nq109
  have c111 := ((ED.keep K101).keep K104)
  have ne_a1_x109 : a1 ≠ x109 := Nat.ne_of_lt (Nat.lt_of_lt_of_le c111.lt sx109)
  have c113 := (c103.keep K104 all0)
  have c112 := (G.2.2.2.2.2.2.2.2.2.2.2.2.2.2.2.2.2.2.2.2.2.1).ext c113.2
  have ne__o_22__x109 : (o 22) ≠ x109 := Nat.ne_of_lt (Nat.lt_of_lt_of_le c112.lt sx109)
  have ne_x101_x109 : x101 ≠ x109 := Nat.ne_of_lt (Nat.lt_of_lt_of_le c106.lt sx109)
  have ne_x104_x109 : x104 ≠ x109 := Nat.ne_of_lt (Nat.lt_of_lt_of_le A104.lt sx109)
  have gn_x109 : n0 ≤ x109 := Nat.le_trans c110 sx109
  have c114 := (Keep.trans (Keep.trans (Keep.refl h0 []) K101 all0) K104 all0)
  have sz_x109 : h0.size ≤ x109 := Nat.le_trans c114.1 sx109
  show own_Go p e below Pst (T109.setTop (mkF m 29 #[.val (.ref a1), .val (.long (2 : Int64)), .second] [(.ref x109)]))
  have c115 := (c113.keep K109 all0)
  have c116 := (Keep.trans c114 K109 all0)
  have c117 := (Nat.le_trans c110 K109.1)
  rcases hV with hA | hB
  · refine own_cF X109 (Jvm.LawKit.callS X109 hx (y := Mn33) hown (mvT hZ (g_ hw 122 rfl)) (mvT hZ (g_ hw 123 rfl)) (mvT hZ (g_ hw 12 rfl)) (mvT hZ (g_ hw 124 rfl)) (by decide) (backOf (W := 0) (rm_cbA l Z a0 hw [] s r v9 v2 q hi lo o kc x109 T109.heap n0 c117 c115 G hA A109 C109 S109 V109) hZ (g_ hw 124 rfl) (g_ hw 12 rfl) (by decide) (by decide)) (g := (mkF m 29 #[.val (.ref a1), .val (.long (2 : Int64)), .second] [(.ref x109)])) rfl (by rw [hml]; rfl) (argsL := [(.ref x109)]) (rest := []) (lenOf own_pd36 rfl) rfl (by show 2 * 0 + _ ≤ _; exact Nat.le_of_eq rfl) (dE 13 rfl) (fun _ _ => ⟨rfl, rfl, (by decide : 4 + 12 ≤ _), (by decide : 20 + 36 ≤ _)⟩)) fun v118 T118 L118 X118 hQ118 => ?_
    obtain ⟨x118, rfl, Nq118, K118, sx118, A118, S118, M118⟩ := hQ118
    have N118 := Fr.app N109 Nq118
    have c119 := (c111.keep K109)
    have ne_a1_x118 : a1 ≠ x118 := Nat.ne_of_lt (Nat.lt_of_lt_of_le c119.lt sx118)
    have c120 := (G.2.2.2.2.2.2.2.2.2.2.2.2.2.2.2.2.2.2.2.2.2.1).ext c115.2
    have ne__o_22__x118 : (o 22) ≠ x118 := Nat.ne_of_lt (Nat.lt_of_lt_of_le c120.lt sx118)
    have c121 := (c106.keep K109)
    have ne_x101_x118 : x101 ≠ x118 := Nat.ne_of_lt (Nat.lt_of_lt_of_le c121.lt sx118)
    have c122 := (A104.keep K109)
    have ne_x104_x118 : x104 ≠ x118 := Nat.ne_of_lt (Nat.lt_of_lt_of_le c122.lt sx118)
    have ne_x109_x118 : x109 ≠ x118 := Nat.ne_of_lt (Nat.lt_of_lt_of_le A109.lt sx118)
    have gn_x118 : n0 ≤ x118 := Nat.le_trans c117 sx118
    have sz_x118 : h0.size ≤ x118 := Nat.le_trans c116.1 sx118
    show own_Go p e below Pst (T118.setTop (mkF m 32 #[.val (.ref a1), .val (.long (2 : Int64)), .second] [(.ref x118)]))
    have c123 := (Keep.trans c116 K118 all0)
    rw [hPst]
    exact own_retP X118 (v := (some (.ref x118))) (Q := Q_by Z s r v9 v2 q hi lo o kc a1 h0 n0) (fun h => by rw [Bd.returns] at h; cases h) Bd.notSynchronized (fun fs hr => retOut X118 hx Bd.returns rfl (Or.inr (Or.inr (Or.inr (Or.inr ⟨rfl, rfl, rfl⟩)))) (dE 14 rfl) hr) (by decide) (by decide) ⟨_, rfl, N118, c123, sz_x118, A118, S118, M118⟩
  · refine own_cF X109 (Jvm.LawKit.callS X109 hx (y := Mn33) hown (mvT hZ (g_ hw 122 rfl)) (mvT hZ (g_ hw 123 rfl)) (mvT hZ (g_ hw 12 rfl)) (mvT hZ (g_ hw 124 rfl)) (by decide) (backOf (W := 0) (rm_cbB l Z a0 hw [] s r v9 v2 q hi lo o kc x109 T109.heap n0 c117 c115 G hB A109 C109 S109 V109) hZ (g_ hw 124 rfl) (g_ hw 12 rfl) (by decide) (by decide)) (g := (mkF m 29 #[.val (.ref a1), .val (.long (2 : Int64)), .second] [(.ref x109)])) rfl (by rw [hml]; rfl) (argsL := [(.ref x109)]) (rest := []) (lenOf own_pd36 rfl) rfl (by show 2 * 0 + _ ≤ _; exact Nat.le_of_eq rfl) (dE 13 rfl) (fun _ _ => ⟨rfl, rfl, (by decide : 4 + 14 ≤ _), (by decide : 20 + 40 ≤ _)⟩)) fun v124 T124 L124 X124 hQ124 => ?_
    obtain ⟨x124, rfl, Nq124, K124, sx124, A124, S124, M124⟩ := hQ124
    have N124 := Fr.app N109 Nq124
    have c125 := (c111.keep K109)
    have ne_a1_x124 : a1 ≠ x124 := Nat.ne_of_lt (Nat.lt_of_lt_of_le c125.lt sx124)
    have c126 := (G.2.2.2.2.2.2.2.2.2.2.2.2.2.2.2.2.2.2.2.2.2.1).ext c115.2
    have ne__o_22__x124 : (o 22) ≠ x124 := Nat.ne_of_lt (Nat.lt_of_lt_of_le c126.lt sx124)
    have c127 := (c106.keep K109)
    have ne_x101_x124 : x101 ≠ x124 := Nat.ne_of_lt (Nat.lt_of_lt_of_le c127.lt sx124)
    have c128 := (A104.keep K109)
    have ne_x104_x124 : x104 ≠ x124 := Nat.ne_of_lt (Nat.lt_of_lt_of_le c128.lt sx124)
    have ne_x109_x124 : x109 ≠ x124 := Nat.ne_of_lt (Nat.lt_of_lt_of_le A109.lt sx124)
    have gn_x124 : n0 ≤ x124 := Nat.le_trans c117 sx124
    have sz_x124 : h0.size ≤ x124 := Nat.le_trans c116.1 sx124
    show own_Go p e below Pst (T124.setTop (mkF m 32 #[.val (.ref a1), .val (.long (2 : Int64)), .second] [(.ref x124)]))
    have c129 := (Keep.trans c116 K124 all0)
    rw [hPst]
    exact own_retP X124 (v := (some (.ref x124))) (Q := Q_by Z s r v9 v2 q hi lo o kc a1 h0 n0) (fun h => by rw [Bd.returns] at h; cases h) Bd.notSynchronized (fun fs hr => retOut X124 hx Bd.returns rfl (Or.inr (Or.inr (Or.inr (Or.inr ⟨rfl, rfl, rfl⟩)))) (dE 14 rfl) hr) (by decide) (by decide) ⟨_, rfl, N124, c129, sz_x124, A124, S124, M124⟩
theorem own_n1 {n : Int32} (a b : Int32) (h1 : a < n) (h2 : ¬ b < n) (e : b.toInt = a.toInt + 1) : n = b := by
  rw [Int32.lt_iff_toInt_lt] at h1 h2
  exact Int32.toInt_inj.mp (by omega)
def own_d (n : Int32) : Int64 := if (12 : Int32) < n then 3600 else ((1 : Int64) <<< ((n - (1 : Int32)) &&& 0x3f).toInt64)
theorem own_v0 : own_V 1 2 1000000000 2000000000 2 0 2000000000 := Or.inl (Or.inl ⟨rfl, rfl, rfl, rfl, rfl, rfl, rfl⟩)
theorem own_v1 : own_V 2 4 2000000000 4000000000 4 0 (-294967296) := Or.inl (Or.inr (⟨rfl, rfl, rfl, rfl, rfl, rfl, rfl⟩))
theorem own_v2 : own_V 4 8 4000000000 8000000000 8 1 (-589934592) := Or.inr (Or.inl ⟨rfl, rfl, rfl, rfl, rfl, rfl, rfl⟩)
theorem own_v3 : own_V 8 16 8000000000 16000000000 16 3 (-1179869184) := Or.inr (Or.inr (Or.inl ⟨rfl, rfl, rfl, rfl, rfl, rfl, rfl⟩))
theorem own_v4 : own_V 16 32 16000000000 32000000000 32 7 1935228928 := Or.inr (Or.inr (Or.inr (Or.inl ⟨rfl, rfl, rfl, rfl, rfl, rfl, rfl⟩)))
theorem own_v5 : own_V 32 64 32000000000 64000000000 64 14 (-424509440) := Or.inr (Or.inr (Or.inr (Or.inr (Or.inl ⟨rfl, rfl, rfl, rfl, rfl, rfl, rfl⟩))))
theorem own_v6 : own_V 64 128 64000000000 128000000000 128 29 (-849018880) := Or.inr (Or.inr (Or.inr (Or.inr (Or.inr (Or.inl ⟨rfl, rfl, rfl, rfl, rfl, rfl, rfl⟩)))))
theorem own_v7 : own_V 128 256 128000000000 256000000000 256 59 (-1698037760) := Or.inr (Or.inr (Or.inr (Or.inr (Or.inr (Or.inr (Or.inl ⟨rfl, rfl, rfl, rfl, rfl, rfl, rfl⟩))))))
theorem own_v8 : own_V 256 512 256000000000 512000000000 512 119 898891776 := Or.inr (Or.inr (Or.inr (Or.inr (Or.inr (Or.inr (Or.inr (Or.inl ⟨rfl, rfl, rfl, rfl, rfl, rfl, rfl⟩)))))))
theorem own_v9 : own_V 512 1024 512000000000 1024000000000 1024 238 1797783552 := Or.inr (Or.inr (Or.inr (Or.inr (Or.inr (Or.inr (Or.inr (Or.inr (Or.inl ⟨rfl, rfl, rfl, rfl, rfl, rfl, rfl⟩))))))))
theorem own_v10 : own_V 1024 2048 1024000000000 2048000000000 2048 476 (-699400192) := Or.inr (Or.inr (Or.inr (Or.inr (Or.inr (Or.inr (Or.inr (Or.inr (Or.inr (Or.inl ⟨rfl, rfl, rfl, rfl, rfl, rfl, rfl⟩)))))))))
theorem own_v11 : own_V 2048 4096 2048000000000 4096000000000 4096 953 (-1398800384) := Or.inr (Or.inr (Or.inr (Or.inr (Or.inr (Or.inr (Or.inr (Or.inr (Or.inr (Or.inr (⟨rfl, rfl, rfl, rfl, rfl, rfl, rfl⟩))))))))))
theorem own_n0 {n : Int32} (h1 : ¬ n < 1) (h2 : ¬ (1 : Int32) < n) : n = 1 := by
  rw [Int32.lt_iff_toInt_lt] at h1 h2
  have e : (1 : Int32).toInt = 1 := by decide
  exact Int32.toInt_inj.mp (by omega)
theorem own_n2 {n : Int32} (h : (13 : Int32) < n) : (12 : Int32) < n := by
  rw [Int32.lt_iff_toInt_lt] at h ⊢
  have e : (13 : Int32).toInt = 13 := by decide
  have e : (12 : Int32).toInt = 12 := by decide
  omega
theorem own_pd37 : parseMethodDescriptor "(Ljava/time/Duration;)I" = some ⟨[(.object "java/time/Duration")], some .int⟩ := by decide +kernel
theorem own_pd38 : parseMethodDescriptor "(J)Ljava/time/Duration;" = some ⟨[.long], some (.object "java/time/Duration")⟩ := by decide +kernel
theorem own_pn_com_example_tidewheel_tidewheel_rules_Retries : plainName "com/example/tidewheel/tidewheel/rules/Retries" = true := by first | (simp [plainName, overriddenIn]; done) | decide +kernel
theorem own_ef_I_3 (m : MethodId) (x0 : Int32) : entryFrame m #[(.int x0)] 3 = mkF m 0 #[.val (.int x0), .unset, .unset] [] := by first | (simp [entryFrame, mkF, argsToLocals, Value.category]; done) | rfl
def Q_de (Z : State) (n : Int32) (f1 f2 : Addr) (o : Nat → Addr) (kc : Nat → ClassId) (h0 : Heap) (n0 : Nat) (v : Option Value) (h : Heap) (L : List Loc) : Prop := ∃ x : Addr, v = some (.ref x) ∧ Fr n0 L ∧ Keep h0 h [] ∧ Exa Z h x "java/time/Duration" ∧ Fld Z h x "java/time/Duration" "seconds" "J" (.long (own_d n)) ∧ Fld Z h x "java/time/Duration" "nanos" "I" (.int (0 : Int32))
theorem rm_de (l : Launch) (Z : State) (a0 : Array Value) (hw : own_H a0 Z) (ws : List Jvm.Cond) (n : Int32) (f1 f2 : Addr) (o : Nat → Addr) (kc : Nat → ClassId) (h0 : Heap) (n0 : Nat) (Z0 : n0 ≤ h0.size) (O : Old Z n0 h0) (G : own_G Z o kc) (SF : Sta Z Z.heap "com/example/tidewheel/tidewheel/rules/Retries" "FIRST_DELAY" "Ljava/time/Duration;" (.ref f1)) (SL : Sta Z Z.heap "com/example/tidewheel/tidewheel/rules/Retries" "LONGEST_DELAY" "Ljava/time/Duration;" (.ref f2)) (X1 : Exa Z Z.heap f1 "java/time/Duration") (X2 : Exa Z Z.heap f2 "java/time/Duration") (Y1 : Fld Z Z.heap f1 "java/time/Duration" "seconds" "J" (.long (1 : Int64))) (Y2 : Fld Z Z.heap f2 "java/time/Duration" "seconds" "J" (.long (3600 : Int64))) (W1 : Fld Z Z.heap f1 "java/time/Duration" "nanos" "I" (.int (0 : Int32))) (W2 : Fld Z Z.heap f2 "java/time/Duration" "nanos" "I" (.int (0 : Int32))) (hn : ¬ n < 1) : own_MP l Mn34 prog_34_method_2_code 3 (some (.object "java/time/Duration")) ws ({ frames := 9, cells := 216, slots := 720, locals := 143 } : Room) Z h0 #[(.int n)] (fun _ _ _ _ _ => True) (Q_de Z n f1 f2 o kc h0 n0) := by
  refine own_startP (plainFor_of_name own_pn_com_example_tidewheel_tidewheel_rules_Retries) fun p e s m below meth c s₁ Bd hx hby hml hown0 X0 e0 hh0 hZ hK Pst hPst => ?_
  have dE := own_E hby own_D1
  have hown : s.vm.findClass "com/example/tidewheel/tidewheel/rules/Retries" = some m.cls := hown0
  have hnm := (name_of_methodNamed Bd.named Bd.method).1
  have N0 := Fr.nil n0
  rw [own_ef_I_3 m n]
  refine o_iloadN X0.here hx (dE 0 rfl) rfl ?_
  refine o_iconst X0.here hx (dE 1 rfl) (z := (1 : Int32)) rfl ?_
  refine o_icmpYes X0.here hx (pc0 := 2) (pc' := 31) rfl (dE 2 rfl) rfl (flt hn).2.1 (by decide) (by decide) ?_
  refine p_getS2 X0 hx hZ hown (host := "") (Or.inl (g_ hw 4 rfl)) Via.refl e0 (SF.ext O.2) (dE 3 rfl) fun T101 X101 e101 => ?_
  refine o_astoreN X101.here hx (dE 4 rfl) rfl rfl (l' := #[.val (.int n), .val (.ref f1), .unset]) rfl ?_
  refine o_iconst X101.here hx (dE 5 rfl) (z := (1 : Int32)) rfl ?_
  refine o_istoreN X101.here hx (dE 6 rfl) rfl (l' := #[.val (.int n), .val (.ref f1), .val (.int (1 : Int32))]) rfl ?_
  refine o_iloadN X101.here hx (dE 7 rfl) rfl ?_
  refine o_iloadN X101.here hx (dE 8 rfl) rfl ?_
  by_cases b1 : (1 : Int32) < n
  · refine o_icmpNo X101.here hx (dE 9 rfl) rfl (tlt b1).2.1 ?_
    refine o_aloadN X101.here hx (dE 10 rfl) rfl rfl ?_
    refine p_getS2 X101 hx hZ hown (host := "") (Or.inl (g_ hw 6 rfl)) Via.refl e101 (SL.ext O.2) (dE 11 rfl) fun T102 X102 e102 => ?_
    have c103 := (Y1).ext O.2
    have c104 := (Y2).ext O.2
    have c106 := (X1).ext O.2
    obtain ⟨cq105, kq105, q105a, q105b, q105c⟩ := isOf hZ e102 c106
    refine own_cP X102 (X102.virtualBack hx (y := Mn0) (z := Mn0) hown (mvT hZ (g_ hw 8 rfl)) (mvT hZ (g_ hw 9 rfl)) (notFace_of_selects (args := #[]) (mvT hZ (g_ hw 11 rfl))) (mvT hZ (g_ hw 11 rfl)) (mvT hZ (g_ hw 10 rfl)) (by decide) (backOf (W := 0) (rm_ctL l Z a0 hw [] f1 f2 (1 : Int64) (3600 : Int64) h0 n0 Z0 c103 c104 (by decide)) hZ (g_ hw 13 rfl) (g_ hw 12 rfl) (by decide) (by decide)) q105a q105c (g := (mkF m 46 #[.val (.int n), .val (.ref f1), .val (.int (1 : Int32))] [(.ref f2), (.ref f1)])) rfl (by rw [hml]; rfl) (Steps.refl _) (argsL := [(.ref f2)]) (rest := []) (lenOf own_pd37 rfl) rfl (by show 2 * 0 + _ ≤ _; exact Nat.le_of_eq rfl) (dE 12 rfl) (fun _ _ => ⟨rfl, e102, (by decide : 0 + 0 ≤ _), (by decide : 0 + 0 ≤ _)⟩)) fun v105 T105 L105 X105 hQ105 => ?_
    obtain ⟨rfl, Nq105, e105⟩ := hQ105
    have N105 := Fr.app N0 Nq105
    show own_Go p e below Pst (T105.setTop (mkF m 49 #[.val (.int n), .val (.ref f1), .val (.int (1 : Int32))] [(.int (-1 : Int32))]))
    refine o_ifNo X105.here hx (dE 13 rfl) rfl ((if0 _ _).trans (tlt (by decide)).2.1) ?_
    refine o_aloadN X105.here hx (dE 14 rfl) rfl rfl ?_
    refine own_Go.of (S' := T105.setTop (mkF m 56 #[.val (.int n), .val (.ref f1), .val (.int (1 : Int32))] [(.long (2 : Int64)), (.ref f1)])) (fun tgt kst => X105.ldc2Long hx hown (mvT hZ (g_ hw 32 rfl)) (g := (mkF m 53 #[.val (.int n), .val (.ref f1), .val (.int (1 : Int32))] [(.ref f1)])) rfl (dE 15 rfl) _ kst) ?_
    have c107 := (X1).ext O.2
    have c108 := (Y1).ext O.2
    have c109 := (W1).ext O.2
    have c111 := (X1).ext O.2
    obtain ⟨cq110, kq110, q110a, q110b, q110c⟩ := isOf hZ e105 c111
    refine own_cP X105 (X105.virtualBack hx (y := Mn1) (z := Mn1) hown (mvT hZ (g_ hw 33 rfl)) (mvT hZ (g_ hw 34 rfl)) (notFace_of_selects (args := #[]) (mvT hZ (g_ hw 36 rfl))) (mvT hZ (g_ hw 36 rfl)) (mvT hZ (g_ hw 35 rfl)) (by decide) (backOf (W := 0) (rm_by l Z a0 hw [] (1 : Int64) (2 : Int64) (1000000000 : Int64) (2000000000 : Int64) (2 : Int32) (0 : Int32) (2000000000 : Int32) o kc f1 h0 n0 Z0 O G own_v0 c107 c108 c109) hZ (g_ hw 37 rfl) (g_ hw 12 rfl) (by decide) (by decide)) q110a q110c (g := (mkF m 56 #[.val (.int n), .val (.ref f1), .val (.int (1 : Int32))] [(.long (2 : Int64)), (.ref f1)])) rfl (by rw [hml]; rfl) (Steps.refl _) (argsL := [(.long (2 : Int64))]) (rest := []) (lenOf own_pd38 rfl) rfl (by show 2 * 0 + _ ≤ _; exact Nat.le_of_eq rfl) (dE 16 rfl) (fun _ _ => ⟨rfl, e105, (by decide : 0 + 18 ≤ _), (by decide : 0 + 60 ≤ _)⟩)) fun v110 T110 L110 X110 hQ110 => ?_
    obtain ⟨x110, rfl, Nq110, K110, sx110, A110, S110, M110⟩ := hQ110
    have N110 := Fr.app N105 Nq110
    have c112 := (X1).ext O.2
    have ne_f1_x110 : f1 ≠ x110 := Nat.ne_of_lt (Nat.lt_of_lt_of_le c112.lt sx110)
    have c113 := (X2).ext O.2
    have ne_f2_x110 : f2 ≠ x110 := Nat.ne_of_lt (Nat.lt_of_lt_of_le c113.lt sx110)
    have gn_x110 : n0 ≤ x110 := Nat.le_trans Z0 sx110
    have sz_x110 : h0.size ≤ x110 := Nat.le_trans (Keep.refl h0 []).1 sx110
    show own_Go p e below Pst (T110.setTop (mkF m 59 #[.val (.int n), .val (.ref f1), .val (.int (1 : Int32))] [(.ref x110)]))
    refine o_astoreN X110.here hx (dE 17 rfl) rfl rfl (l' := #[.val (.int n), .val (.ref x110), .val (.int (1 : Int32))]) rfl ?_
    refine o_iinc X110.here hx (dE 18 rfl) rfl (l' := #[.val (.int n), .val (.ref x110), .val (.int ((1 : Int32) + (1 : Int32)))]) rfl ?_
    rw [show ((1 : Int32) + (1 : Int32)) = (2 : Int32) from by decide]
    show own_Go p e below Pst (T110.setTop (mkF m 63 #[.val (.int n), .val (.ref x110), .val (.int (2 : Int32))] []))
    refine o_goto X110.here hx (pc0 := 63) (pc' := 37) rfl (dE 19 rfl) (by decide) (by decide) ?_
    refine o_iloadN X110.here hx (dE 7 rfl) rfl ?_
    refine o_iloadN X110.here hx (dE 8 rfl) rfl ?_
    by_cases b2 : (2 : Int32) < n
    · refine o_icmpNo X110.here hx (dE 9 rfl) rfl (tlt b2).2.1 ?_
      refine o_aloadN X110.here hx (dE 10 rfl) rfl rfl ?_
      have c114 := (O.keep K110 all0)
      refine p_getS2 X110 hx hZ hown (host := "") (Or.inl (g_ hw 6 rfl)) Via.refl rfl (SL.ext c114.2) (dE 11 rfl) fun T115 X115 e115 => ?_
      have c116 := (Y2).ext c114.2
      have c118 := (Nat.le_trans Z0 K110.1)
      obtain ⟨cq117, kq117, q117a, q117b, q117c⟩ := isOf hZ e115 A110
      refine own_cP X115 (X115.virtualBack hx (y := Mn0) (z := Mn0) hown (mvT hZ (g_ hw 8 rfl)) (mvT hZ (g_ hw 9 rfl)) (notFace_of_selects (args := #[]) (mvT hZ (g_ hw 11 rfl))) (mvT hZ (g_ hw 11 rfl)) (mvT hZ (g_ hw 10 rfl)) (by decide) (backOf (W := 0) (rm_ctL l Z a0 hw [] x110 f2 (2 : Int64) (3600 : Int64) T110.heap n0 c118 S110 c116 (by decide)) hZ (g_ hw 13 rfl) (g_ hw 12 rfl) (by decide) (by decide)) q117a q117c (g := (mkF m 46 #[.val (.int n), .val (.ref x110), .val (.int (2 : Int32))] [(.ref f2), (.ref x110)])) rfl (by rw [hml]; rfl) (Steps.refl _) (argsL := [(.ref f2)]) (rest := []) (lenOf own_pd37 rfl) rfl (by show 2 * 0 + _ ≤ _; exact Nat.le_of_eq rfl) (dE 12 rfl) (fun _ _ => ⟨rfl, e115, (by decide : 18 + 0 ≤ _), (by decide : 60 + 0 ≤ _)⟩)) fun v117 T117 L117 X117 hQ117 => ?_
      obtain ⟨rfl, Nq117, e117⟩ := hQ117
      have N117 := Fr.app N110 Nq117
      show own_Go p e below Pst (T117.setTop (mkF m 49 #[.val (.int n), .val (.ref x110), .val (.int (2 : Int32))] [(.int (-1 : Int32))]))
      refine o_ifNo X117.here hx (dE 13 rfl) rfl ((if0 _ _).trans (tlt (by decide)).2.1) ?_
      refine o_aloadN X117.here hx (dE 14 rfl) rfl rfl ?_
      refine own_Go.of (S' := T117.setTop (mkF m 56 #[.val (.int n), .val (.ref x110), .val (.int (2 : Int32))] [(.long (2 : Int64)), (.ref x110)])) (fun tgt kst => X117.ldc2Long hx hown (mvT hZ (g_ hw 32 rfl)) (g := (mkF m 53 #[.val (.int n), .val (.ref x110), .val (.int (2 : Int32))] [(.ref x110)])) rfl (dE 15 rfl) _ kst) ?_
      obtain ⟨cq119, kq119, q119a, q119b, q119c⟩ := isOf hZ e117 A110
      refine own_cP X117 (X117.virtualBack hx (y := Mn1) (z := Mn1) hown (mvT hZ (g_ hw 33 rfl)) (mvT hZ (g_ hw 34 rfl)) (notFace_of_selects (args := #[]) (mvT hZ (g_ hw 36 rfl))) (mvT hZ (g_ hw 36 rfl)) (mvT hZ (g_ hw 35 rfl)) (by decide) (backOf (W := 0) (rm_by l Z a0 hw [] (2 : Int64) (4 : Int64) (2000000000 : Int64) (4000000000 : Int64) (4 : Int32) (0 : Int32) (-294967296 : Int32) o kc x110 T110.heap n0 c118 c114 G own_v1 A110 S110 M110) hZ (g_ hw 37 rfl) (g_ hw 12 rfl) (by decide) (by decide)) q119a q119c (g := (mkF m 56 #[.val (.int n), .val (.ref x110), .val (.int (2 : Int32))] [(.long (2 : Int64)), (.ref x110)])) rfl (by rw [hml]; rfl) (Steps.refl _) (argsL := [(.long (2 : Int64))]) (rest := []) (lenOf own_pd38 rfl) rfl (by show 2 * 0 + _ ≤ _; exact Nat.le_of_eq rfl) (dE 16 rfl) (fun _ _ => ⟨rfl, e117, (by decide : 18 + 18 ≤ _), (by decide : 60 + 60 ≤ _)⟩)) fun v119 T119 L119 X119 hQ119 => ?_
      obtain ⟨x119, rfl, Nq119, K119, sx119, A119, S119, M119⟩ := hQ119
      have N119 := Fr.app N117 Nq119
      have c120 := (X1).ext c114.2
      have ne_f1_x119 : f1 ≠ x119 := Nat.ne_of_lt (Nat.lt_of_lt_of_le c120.lt sx119)
      have c121 := (X2).ext c114.2
      have ne_f2_x119 : f2 ≠ x119 := Nat.ne_of_lt (Nat.lt_of_lt_of_le c121.lt sx119)
      have ne_x110_x119 : x110 ≠ x119 := Nat.ne_of_lt (Nat.lt_of_lt_of_le A110.lt sx119)
      have gn_x119 : n0 ≤ x119 := Nat.le_trans c118 sx119
      have c122 := (Keep.trans (Keep.refl h0 []) K110 all0)
      have sz_x119 : h0.size ≤ x119 := Nat.le_trans c122.1 sx119
      show own_Go p e below Pst (T119.setTop (mkF m 59 #[.val (.int n), .val (.ref x110), .val (.int (2 : Int32))] [(.ref x119)]))
      refine o_astoreN X119.here hx (dE 17 rfl) rfl rfl (l' := #[.val (.int n), .val (.ref x119), .val (.int (2 : Int32))]) rfl ?_
      refine o_iinc X119.here hx (dE 18 rfl) rfl (l' := #[.val (.int n), .val (.ref x119), .val (.int ((2 : Int32) + (1 : Int32)))]) rfl ?_
      rw [show ((2 : Int32) + (1 : Int32)) = (3 : Int32) from by decide]
      show own_Go p e below Pst (T119.setTop (mkF m 63 #[.val (.int n), .val (.ref x119), .val (.int (3 : Int32))] []))
      refine o_goto X119.here hx (pc0 := 63) (pc' := 37) rfl (dE 19 rfl) (by decide) (by decide) ?_
      refine o_iloadN X119.here hx (dE 7 rfl) rfl ?_
      refine o_iloadN X119.here hx (dE 8 rfl) rfl ?_
      by_cases b3 : (3 : Int32) < n
      · refine o_icmpNo X119.here hx (dE 9 rfl) rfl (tlt b3).2.1 ?_
        refine o_aloadN X119.here hx (dE 10 rfl) rfl rfl ?_
        have c123 := (c114.keep K119 all0)
        refine p_getS2 X119 hx hZ hown (host := "") (Or.inl (g_ hw 6 rfl)) Via.refl rfl (SL.ext c123.2) (dE 11 rfl) fun T124 X124 e124 => ?_
        have c125 := (Y2).ext c123.2
        have c127 := (Nat.le_trans c118 K119.1)
        obtain ⟨cq126, kq126, q126a, q126b, q126c⟩ := isOf hZ e124 A119
        refine own_cP X124 (X124.virtualBack hx (y := Mn0) (z := Mn0) hown (mvT hZ (g_ hw 8 rfl)) (mvT hZ (g_ hw 9 rfl)) (notFace_of_selects (args := #[]) (mvT hZ (g_ hw 11 rfl))) (mvT hZ (g_ hw 11 rfl)) (mvT hZ (g_ hw 10 rfl)) (by decide) (backOf (W := 0) (rm_ctL l Z a0 hw [] x119 f2 (4 : Int64) (3600 : Int64) T119.heap n0 c127 S119 c125 (by decide)) hZ (g_ hw 13 rfl) (g_ hw 12 rfl) (by decide) (by decide)) q126a q126c (g := (mkF m 46 #[.val (.int n), .val (.ref x119), .val (.int (3 : Int32))] [(.ref f2), (.ref x119)])) rfl (by rw [hml]; rfl) (Steps.refl _) (argsL := [(.ref f2)]) (rest := []) (lenOf own_pd37 rfl) rfl (by show 2 * 0 + _ ≤ _; exact Nat.le_of_eq rfl) (dE 12 rfl) (fun _ _ => ⟨rfl, e124, (by decide : 36 + 0 ≤ _), (by decide : 120 + 0 ≤ _)⟩)) fun v126 T126 L126 X126 hQ126 => ?_
        obtain ⟨rfl, Nq126, e126⟩ := hQ126
        have N126 := Fr.app N119 Nq126
        show own_Go p e below Pst (T126.setTop (mkF m 49 #[.val (.int n), .val (.ref x119), .val (.int (3 : Int32))] [(.int (-1 : Int32))]))
        refine o_ifNo X126.here hx (dE 13 rfl) rfl ((if0 _ _).trans (tlt (by decide)).2.1) ?_
        refine o_aloadN X126.here hx (dE 14 rfl) rfl rfl ?_
        refine own_Go.of (S' := T126.setTop (mkF m 56 #[.val (.int n), .val (.ref x119), .val (.int (3 : Int32))] [(.long (2 : Int64)), (.ref x119)])) (fun tgt kst => X126.ldc2Long hx hown (mvT hZ (g_ hw 32 rfl)) (g := (mkF m 53 #[.val (.int n), .val (.ref x119), .val (.int (3 : Int32))] [(.ref x119)])) rfl (dE 15 rfl) _ kst) ?_
        obtain ⟨cq128, kq128, q128a, q128b, q128c⟩ := isOf hZ e126 A119
        refine own_cP X126 (X126.virtualBack hx (y := Mn1) (z := Mn1) hown (mvT hZ (g_ hw 33 rfl)) (mvT hZ (g_ hw 34 rfl)) (notFace_of_selects (args := #[]) (mvT hZ (g_ hw 36 rfl))) (mvT hZ (g_ hw 36 rfl)) (mvT hZ (g_ hw 35 rfl)) (by decide) (backOf (W := 0) (rm_by l Z a0 hw [] (4 : Int64) (8 : Int64) (4000000000 : Int64) (8000000000 : Int64) (8 : Int32) (1 : Int32) (-589934592 : Int32) o kc x119 T119.heap n0 c127 c123 G own_v2 A119 S119 M119) hZ (g_ hw 37 rfl) (g_ hw 12 rfl) (by decide) (by decide)) q128a q128c (g := (mkF m 56 #[.val (.int n), .val (.ref x119), .val (.int (3 : Int32))] [(.long (2 : Int64)), (.ref x119)])) rfl (by rw [hml]; rfl) (Steps.refl _) (argsL := [(.long (2 : Int64))]) (rest := []) (lenOf own_pd38 rfl) rfl (by show 2 * 0 + _ ≤ _; exact Nat.le_of_eq rfl) (dE 16 rfl) (fun _ _ => ⟨rfl, e126, (by decide : 36 + 18 ≤ _), (by decide : 120 + 60 ≤ _)⟩)) fun v128 T128 L128 X128 hQ128 => ?_
        obtain ⟨x128, rfl, Nq128, K128, sx128, A128, S128, M128⟩ := hQ128
        have N128 := Fr.app N126 Nq128
        have c129 := (X1).ext c123.2
        have ne_f1_x128 : f1 ≠ x128 := Nat.ne_of_lt (Nat.lt_of_lt_of_le c129.lt sx128)
        have c130 := (X2).ext c123.2
        have ne_f2_x128 : f2 ≠ x128 := Nat.ne_of_lt (Nat.lt_of_lt_of_le c130.lt sx128)
        have c131 := (A110.keep K119)
        have ne_x110_x128 : x110 ≠ x128 := Nat.ne_of_lt (Nat.lt_of_lt_of_le c131.lt sx128)
        have ne_x119_x128 : x119 ≠ x128 := Nat.ne_of_lt (Nat.lt_of_lt_of_le A119.lt sx128)
        have gn_x128 : n0 ≤ x128 := Nat.le_trans c127 sx128
        have c132 := (Keep.trans c122 K119 all0)
        have sz_x128 : h0.size ≤ x128 := Nat.le_trans c132.1 sx128
        show own_Go p e below Pst (T128.setTop (mkF m 59 #[.val (.int n), .val (.ref x119), .val (.int (3 : Int32))] [(.ref x128)]))
        refine o_astoreN X128.here hx (dE 17 rfl) rfl rfl (l' := #[.val (.int n), .val (.ref x128), .val (.int (3 : Int32))]) rfl ?_
        refine o_iinc X128.here hx (dE 18 rfl) rfl (l' := #[.val (.int n), .val (.ref x128), .val (.int ((3 : Int32) + (1 : Int32)))]) rfl ?_
        rw [show ((3 : Int32) + (1 : Int32)) = (4 : Int32) from by decide]
        show own_Go p e below Pst (T128.setTop (mkF m 63 #[.val (.int n), .val (.ref x128), .val (.int (4 : Int32))] []))
        refine o_goto X128.here hx (pc0 := 63) (pc' := 37) rfl (dE 19 rfl) (by decide) (by decide) ?_
        refine o_iloadN X128.here hx (dE 7 rfl) rfl ?_
        refine o_iloadN X128.here hx (dE 8 rfl) rfl ?_
        by_cases b4 : (4 : Int32) < n
        · refine o_icmpNo X128.here hx (dE 9 rfl) rfl (tlt b4).2.1 ?_
          refine o_aloadN X128.here hx (dE 10 rfl) rfl rfl ?_
          have c133 := (c123.keep K128 all0)
          refine p_getS2 X128 hx hZ hown (host := "") (Or.inl (g_ hw 6 rfl)) Via.refl rfl (SL.ext c133.2) (dE 11 rfl) fun T134 X134 e134 => ?_
          have c135 := (Y2).ext c133.2
          have c137 := (Nat.le_trans c127 K128.1)
          obtain ⟨cq136, kq136, q136a, q136b, q136c⟩ := isOf hZ e134 A128
          refine own_cP X134 (X134.virtualBack hx (y := Mn0) (z := Mn0) hown (mvT hZ (g_ hw 8 rfl)) (mvT hZ (g_ hw 9 rfl)) (notFace_of_selects (args := #[]) (mvT hZ (g_ hw 11 rfl))) (mvT hZ (g_ hw 11 rfl)) (mvT hZ (g_ hw 10 rfl)) (by decide) (backOf (W := 0) (rm_ctL l Z a0 hw [] x128 f2 (8 : Int64) (3600 : Int64) T128.heap n0 c137 S128 c135 (by decide)) hZ (g_ hw 13 rfl) (g_ hw 12 rfl) (by decide) (by decide)) q136a q136c (g := (mkF m 46 #[.val (.int n), .val (.ref x128), .val (.int (4 : Int32))] [(.ref f2), (.ref x128)])) rfl (by rw [hml]; rfl) (Steps.refl _) (argsL := [(.ref f2)]) (rest := []) (lenOf own_pd37 rfl) rfl (by show 2 * 0 + _ ≤ _; exact Nat.le_of_eq rfl) (dE 12 rfl) (fun _ _ => ⟨rfl, e134, (by decide : 54 + 0 ≤ _), (by decide : 180 + 0 ≤ _)⟩)) fun v136 T136 L136 X136 hQ136 => ?_
          obtain ⟨rfl, Nq136, e136⟩ := hQ136
          have N136 := Fr.app N128 Nq136
          show own_Go p e below Pst (T136.setTop (mkF m 49 #[.val (.int n), .val (.ref x128), .val (.int (4 : Int32))] [(.int (-1 : Int32))]))
          refine o_ifNo X136.here hx (dE 13 rfl) rfl ((if0 _ _).trans (tlt (by decide)).2.1) ?_
          refine o_aloadN X136.here hx (dE 14 rfl) rfl rfl ?_
          refine own_Go.of (S' := T136.setTop (mkF m 56 #[.val (.int n), .val (.ref x128), .val (.int (4 : Int32))] [(.long (2 : Int64)), (.ref x128)])) (fun tgt kst => X136.ldc2Long hx hown (mvT hZ (g_ hw 32 rfl)) (g := (mkF m 53 #[.val (.int n), .val (.ref x128), .val (.int (4 : Int32))] [(.ref x128)])) rfl (dE 15 rfl) _ kst) ?_
          obtain ⟨cq138, kq138, q138a, q138b, q138c⟩ := isOf hZ e136 A128
          refine own_cP X136 (X136.virtualBack hx (y := Mn1) (z := Mn1) hown (mvT hZ (g_ hw 33 rfl)) (mvT hZ (g_ hw 34 rfl)) (notFace_of_selects (args := #[]) (mvT hZ (g_ hw 36 rfl))) (mvT hZ (g_ hw 36 rfl)) (mvT hZ (g_ hw 35 rfl)) (by decide) (backOf (W := 0) (rm_by l Z a0 hw [] (8 : Int64) (16 : Int64) (8000000000 : Int64) (16000000000 : Int64) (16 : Int32) (3 : Int32) (-1179869184 : Int32) o kc x128 T128.heap n0 c137 c133 G own_v3 A128 S128 M128) hZ (g_ hw 37 rfl) (g_ hw 12 rfl) (by decide) (by decide)) q138a q138c (g := (mkF m 56 #[.val (.int n), .val (.ref x128), .val (.int (4 : Int32))] [(.long (2 : Int64)), (.ref x128)])) rfl (by rw [hml]; rfl) (Steps.refl _) (argsL := [(.long (2 : Int64))]) (rest := []) (lenOf own_pd38 rfl) rfl (by show 2 * 0 + _ ≤ _; exact Nat.le_of_eq rfl) (dE 16 rfl) (fun _ _ => ⟨rfl, e136, (by decide : 54 + 18 ≤ _), (by decide : 180 + 60 ≤ _)⟩)) fun v138 T138 L138 X138 hQ138 => ?_
          obtain ⟨x138, rfl, Nq138, K138, sx138, A138, S138, M138⟩ := hQ138
          have N138 := Fr.app N136 Nq138
          have c139 := (X1).ext c133.2
          have ne_f1_x138 : f1 ≠ x138 := Nat.ne_of_lt (Nat.lt_of_lt_of_le c139.lt sx138)
          have c140 := (X2).ext c133.2
          have ne_f2_x138 : f2 ≠ x138 := Nat.ne_of_lt (Nat.lt_of_lt_of_le c140.lt sx138)
          have c141 := (c131.keep K128)
          have ne_x110_x138 : x110 ≠ x138 := Nat.ne_of_lt (Nat.lt_of_lt_of_le c141.lt sx138)
          have c142 := (A119.keep K128)
          have ne_x119_x138 : x119 ≠ x138 := Nat.ne_of_lt (Nat.lt_of_lt_of_le c142.lt sx138)
          have ne_x128_x138 : x128 ≠ x138 := Nat.ne_of_lt (Nat.lt_of_lt_of_le A128.lt sx138)
          have gn_x138 : n0 ≤ x138 := Nat.le_trans c137 sx138
          have c143 := (Keep.trans c132 K128 all0)
          have sz_x138 : h0.size ≤ x138 := Nat.le_trans c143.1 sx138
          show own_Go p e below Pst (T138.setTop (mkF m 59 #[.val (.int n), .val (.ref x128), .val (.int (4 : Int32))] [(.ref x138)]))
          refine o_astoreN X138.here hx (dE 17 rfl) rfl rfl (l' := #[.val (.int n), .val (.ref x138), .val (.int (4 : Int32))]) rfl ?_
          refine o_iinc X138.here hx (dE 18 rfl) rfl (l' := #[.val (.int n), .val (.ref x138), .val (.int ((4 : Int32) + (1 : Int32)))]) rfl ?_
          rw [show ((4 : Int32) + (1 : Int32)) = (5 : Int32) from by decide]
          show own_Go p e below Pst (T138.setTop (mkF m 63 #[.val (.int n), .val (.ref x138), .val (.int (5 : Int32))] []))
          refine o_goto X138.here hx (pc0 := 63) (pc' := 37) rfl (dE 19 rfl) (by decide) (by decide) ?_
          refine o_iloadN X138.here hx (dE 7 rfl) rfl ?_
          refine o_iloadN X138.here hx (dE 8 rfl) rfl ?_
          by_cases b5 : (5 : Int32) < n
          · refine o_icmpNo X138.here hx (dE 9 rfl) rfl (tlt b5).2.1 ?_
            refine o_aloadN X138.here hx (dE 10 rfl) rfl rfl ?_
            have c144 := (c133.keep K138 all0)
            refine p_getS2 X138 hx hZ hown (host := "") (Or.inl (g_ hw 6 rfl)) Via.refl rfl (SL.ext c144.2) (dE 11 rfl) fun T145 X145 e145 => ?_
            have c146 := (Y2).ext c144.2
            have c148 := (Nat.le_trans c137 K138.1)
            obtain ⟨cq147, kq147, q147a, q147b, q147c⟩ := isOf hZ e145 A138
            refine own_cP X145 (X145.virtualBack hx (y := Mn0) (z := Mn0) hown (mvT hZ (g_ hw 8 rfl)) (mvT hZ (g_ hw 9 rfl)) (notFace_of_selects (args := #[]) (mvT hZ (g_ hw 11 rfl))) (mvT hZ (g_ hw 11 rfl)) (mvT hZ (g_ hw 10 rfl)) (by decide) (backOf (W := 0) (rm_ctL l Z a0 hw [] x138 f2 (16 : Int64) (3600 : Int64) T138.heap n0 c148 S138 c146 (by decide)) hZ (g_ hw 13 rfl) (g_ hw 12 rfl) (by decide) (by decide)) q147a q147c (g := (mkF m 46 #[.val (.int n), .val (.ref x138), .val (.int (5 : Int32))] [(.ref f2), (.ref x138)])) rfl (by rw [hml]; rfl) (Steps.refl _) (argsL := [(.ref f2)]) (rest := []) (lenOf own_pd37 rfl) rfl (by show 2 * 0 + _ ≤ _; exact Nat.le_of_eq rfl) (dE 12 rfl) (fun _ _ => ⟨rfl, e145, (by decide : 72 + 0 ≤ _), (by decide : 240 + 0 ≤ _)⟩)) fun v147 T147 L147 X147 hQ147 => ?_
            obtain ⟨rfl, Nq147, e147⟩ := hQ147
            have N147 := Fr.app N138 Nq147
            show own_Go p e below Pst (T147.setTop (mkF m 49 #[.val (.int n), .val (.ref x138), .val (.int (5 : Int32))] [(.int (-1 : Int32))]))
            refine o_ifNo X147.here hx (dE 13 rfl) rfl ((if0 _ _).trans (tlt (by decide)).2.1) ?_
            refine o_aloadN X147.here hx (dE 14 rfl) rfl rfl ?_
            refine own_Go.of (S' := T147.setTop (mkF m 56 #[.val (.int n), .val (.ref x138), .val (.int (5 : Int32))] [(.long (2 : Int64)), (.ref x138)])) (fun tgt kst => X147.ldc2Long hx hown (mvT hZ (g_ hw 32 rfl)) (g := (mkF m 53 #[.val (.int n), .val (.ref x138), .val (.int (5 : Int32))] [(.ref x138)])) rfl (dE 15 rfl) _ kst) ?_
            obtain ⟨cq149, kq149, q149a, q149b, q149c⟩ := isOf hZ e147 A138
            refine own_cP X147 (X147.virtualBack hx (y := Mn1) (z := Mn1) hown (mvT hZ (g_ hw 33 rfl)) (mvT hZ (g_ hw 34 rfl)) (notFace_of_selects (args := #[]) (mvT hZ (g_ hw 36 rfl))) (mvT hZ (g_ hw 36 rfl)) (mvT hZ (g_ hw 35 rfl)) (by decide) (backOf (W := 0) (rm_by l Z a0 hw [] (16 : Int64) (32 : Int64) (16000000000 : Int64) (32000000000 : Int64) (32 : Int32) (7 : Int32) (1935228928 : Int32) o kc x138 T138.heap n0 c148 c144 G own_v4 A138 S138 M138) hZ (g_ hw 37 rfl) (g_ hw 12 rfl) (by decide) (by decide)) q149a q149c (g := (mkF m 56 #[.val (.int n), .val (.ref x138), .val (.int (5 : Int32))] [(.long (2 : Int64)), (.ref x138)])) rfl (by rw [hml]; rfl) (Steps.refl _) (argsL := [(.long (2 : Int64))]) (rest := []) (lenOf own_pd38 rfl) rfl (by show 2 * 0 + _ ≤ _; exact Nat.le_of_eq rfl) (dE 16 rfl) (fun _ _ => ⟨rfl, e147, (by decide : 72 + 18 ≤ _), (by decide : 240 + 60 ≤ _)⟩)) fun v149 T149 L149 X149 hQ149 => ?_
            obtain ⟨x149, rfl, Nq149, K149, sx149, A149, S149, M149⟩ := hQ149
            have N149 := Fr.app N147 Nq149
            have c150 := (X1).ext c144.2
            have ne_f1_x149 : f1 ≠ x149 := Nat.ne_of_lt (Nat.lt_of_lt_of_le c150.lt sx149)
            have c151 := (X2).ext c144.2
            have ne_f2_x149 : f2 ≠ x149 := Nat.ne_of_lt (Nat.lt_of_lt_of_le c151.lt sx149)
            have c152 := (c141.keep K138)
            have ne_x110_x149 : x110 ≠ x149 := Nat.ne_of_lt (Nat.lt_of_lt_of_le c152.lt sx149)
            have c153 := (c142.keep K138)
            have ne_x119_x149 : x119 ≠ x149 := Nat.ne_of_lt (Nat.lt_of_lt_of_le c153.lt sx149)
            have c154 := (A128.keep K138)
            have ne_x128_x149 : x128 ≠ x149 := Nat.ne_of_lt (Nat.lt_of_lt_of_le c154.lt sx149)
            have ne_x138_x149 : x138 ≠ x149 := Nat.ne_of_lt (Nat.lt_of_lt_of_le A138.lt sx149)
            have gn_x149 : n0 ≤ x149 := Nat.le_trans c148 sx149
            have c155 := (Keep.trans c143 K138 all0)
            have sz_x149 : h0.size ≤ x149 := Nat.le_trans c155.1 sx149
            show own_Go p e below Pst (T149.setTop (mkF m 59 #[.val (.int n), .val (.ref x138), .val (.int (5 : Int32))] [(.ref x149)]))
            refine o_astoreN X149.here hx (dE 17 rfl) rfl rfl (l' := #[.val (.int n), .val (.ref x149), .val (.int (5 : Int32))]) rfl ?_
            refine o_iinc X149.here hx (dE 18 rfl) rfl (l' := #[.val (.int n), .val (.ref x149), .val (.int ((5 : Int32) + (1 : Int32)))]) rfl ?_
            rw [show ((5 : Int32) + (1 : Int32)) = (6 : Int32) from by decide]
            show own_Go p e below Pst (T149.setTop (mkF m 63 #[.val (.int n), .val (.ref x149), .val (.int (6 : Int32))] []))
            refine o_goto X149.here hx (pc0 := 63) (pc' := 37) rfl (dE 19 rfl) (by decide) (by decide) ?_
            refine o_iloadN X149.here hx (dE 7 rfl) rfl ?_
            refine o_iloadN X149.here hx (dE 8 rfl) rfl ?_
            by_cases b6 : (6 : Int32) < n
            · refine o_icmpNo X149.here hx (dE 9 rfl) rfl (tlt b6).2.1 ?_
              refine o_aloadN X149.here hx (dE 10 rfl) rfl rfl ?_
              have c156 := (c144.keep K149 all0)
              refine p_getS2 X149 hx hZ hown (host := "") (Or.inl (g_ hw 6 rfl)) Via.refl rfl (SL.ext c156.2) (dE 11 rfl) fun T157 X157 e157 => ?_
              have c158 := (Y2).ext c156.2
              have c160 := (Nat.le_trans c148 K149.1)
              obtain ⟨cq159, kq159, q159a, q159b, q159c⟩ := isOf hZ e157 A149
              refine own_cP X157 (X157.virtualBack hx (y := Mn0) (z := Mn0) hown (mvT hZ (g_ hw 8 rfl)) (mvT hZ (g_ hw 9 rfl)) (notFace_of_selects (args := #[]) (mvT hZ (g_ hw 11 rfl))) (mvT hZ (g_ hw 11 rfl)) (mvT hZ (g_ hw 10 rfl)) (by decide) (backOf (W := 0) (rm_ctL l Z a0 hw [] x149 f2 (32 : Int64) (3600 : Int64) T149.heap n0 c160 S149 c158 (by decide)) hZ (g_ hw 13 rfl) (g_ hw 12 rfl) (by decide) (by decide)) q159a q159c (g := (mkF m 46 #[.val (.int n), .val (.ref x149), .val (.int (6 : Int32))] [(.ref f2), (.ref x149)])) rfl (by rw [hml]; rfl) (Steps.refl _) (argsL := [(.ref f2)]) (rest := []) (lenOf own_pd37 rfl) rfl (by show 2 * 0 + _ ≤ _; exact Nat.le_of_eq rfl) (dE 12 rfl) (fun _ _ => ⟨rfl, e157, (by decide : 90 + 0 ≤ _), (by decide : 300 + 0 ≤ _)⟩)) fun v159 T159 L159 X159 hQ159 => ?_
              obtain ⟨rfl, Nq159, e159⟩ := hQ159
              have N159 := Fr.app N149 Nq159
              show own_Go p e below Pst (T159.setTop (mkF m 49 #[.val (.int n), .val (.ref x149), .val (.int (6 : Int32))] [(.int (-1 : Int32))]))
              refine o_ifNo X159.here hx (dE 13 rfl) rfl ((if0 _ _).trans (tlt (by decide)).2.1) ?_
              refine o_aloadN X159.here hx (dE 14 rfl) rfl rfl ?_
              refine own_Go.of (S' := T159.setTop (mkF m 56 #[.val (.int n), .val (.ref x149), .val (.int (6 : Int32))] [(.long (2 : Int64)), (.ref x149)])) (fun tgt kst => X159.ldc2Long hx hown (mvT hZ (g_ hw 32 rfl)) (g := (mkF m 53 #[.val (.int n), .val (.ref x149), .val (.int (6 : Int32))] [(.ref x149)])) rfl (dE 15 rfl) _ kst) ?_
              obtain ⟨cq161, kq161, q161a, q161b, q161c⟩ := isOf hZ e159 A149
              refine own_cP X159 (X159.virtualBack hx (y := Mn1) (z := Mn1) hown (mvT hZ (g_ hw 33 rfl)) (mvT hZ (g_ hw 34 rfl)) (notFace_of_selects (args := #[]) (mvT hZ (g_ hw 36 rfl))) (mvT hZ (g_ hw 36 rfl)) (mvT hZ (g_ hw 35 rfl)) (by decide) (backOf (W := 0) (rm_by l Z a0 hw [] (32 : Int64) (64 : Int64) (32000000000 : Int64) (64000000000 : Int64) (64 : Int32) (14 : Int32) (-424509440 : Int32) o kc x149 T149.heap n0 c160 c156 G own_v5 A149 S149 M149) hZ (g_ hw 37 rfl) (g_ hw 12 rfl) (by decide) (by decide)) q161a q161c (g := (mkF m 56 #[.val (.int n), .val (.ref x149), .val (.int (6 : Int32))] [(.long (2 : Int64)), (.ref x149)])) rfl (by rw [hml]; rfl) (Steps.refl _) (argsL := [(.long (2 : Int64))]) (rest := []) (lenOf own_pd38 rfl) rfl (by show 2 * 0 + _ ≤ _; exact Nat.le_of_eq rfl) (dE 16 rfl) (fun _ _ => ⟨rfl, e159, (by decide : 90 + 18 ≤ _), (by decide : 300 + 60 ≤ _)⟩)) fun v161 T161 L161 X161 hQ161 => ?_
              obtain ⟨x161, rfl, Nq161, K161, sx161, A161, S161, M161⟩ := hQ161
              have N161 := Fr.app N159 Nq161
              have c162 := (X1).ext c156.2
              have ne_f1_x161 : f1 ≠ x161 := Nat.ne_of_lt (Nat.lt_of_lt_of_le c162.lt sx161)
              have c163 := (X2).ext c156.2
              have ne_f2_x161 : f2 ≠ x161 := Nat.ne_of_lt (Nat.lt_of_lt_of_le c163.lt sx161)
              have c164 := (c152.keep K149)
              have ne_x110_x161 : x110 ≠ x161 := Nat.ne_of_lt (Nat.lt_of_lt_of_le c164.lt sx161)
              have c165 := (c153.keep K149)
              have ne_x119_x161 : x119 ≠ x161 := Nat.ne_of_lt (Nat.lt_of_lt_of_le c165.lt sx161)
              have c166 := (c154.keep K149)
              have ne_x128_x161 : x128 ≠ x161 := Nat.ne_of_lt (Nat.lt_of_lt_of_le c166.lt sx161)
              have c167 := (A138.keep K149)
              have ne_x138_x161 : x138 ≠ x161 := Nat.ne_of_lt (Nat.lt_of_lt_of_le c167.lt sx161)
              have ne_x149_x161 : x149 ≠ x161 := Nat.ne_of_lt (Nat.lt_of_lt_of_le A149.lt sx161)
              have gn_x161 : n0 ≤ x161 := Nat.le_trans c160 sx161
              have c168 := (Keep.trans c155 K149 all0)
              have sz_x161 : h0.size ≤ x161 := Nat.le_trans c168.1 sx161
              show own_Go p e below Pst (T161.setTop (mkF m 59 #[.val (.int n), .val (.ref x149), .val (.int (6 : Int32))] [(.ref x161)]))
              refine o_astoreN X161.here hx (dE 17 rfl) rfl rfl (l' := #[.val (.int n), .val (.ref x161), .val (.int (6 : Int32))]) rfl ?_
              refine o_iinc X161.here hx (dE 18 rfl) rfl (l' := #[.val (.int n), .val (.ref x161), .val (.int ((6 : Int32) + (1 : Int32)))]) rfl ?_
              rw [show ((6 : Int32) + (1 : Int32)) = (7 : Int32) from by decide]
              show own_Go p e below Pst (T161.setTop (mkF m 63 #[.val (.int n), .val (.ref x161), .val (.int (7 : Int32))] []))
              refine o_goto X161.here hx (pc0 := 63) (pc' := 37) rfl (dE 19 rfl) (by decide) (by decide) ?_
              refine o_iloadN X161.here hx (dE 7 rfl) rfl ?_
              refine o_iloadN X161.here hx (dE 8 rfl) rfl ?_
              by_cases b7 : (7 : Int32) < n
              · refine o_icmpNo X161.here hx (dE 9 rfl) rfl (tlt b7).2.1 ?_
                refine o_aloadN X161.here hx (dE 10 rfl) rfl rfl ?_
                have c169 := (c156.keep K161 all0)
                refine p_getS2 X161 hx hZ hown (host := "") (Or.inl (g_ hw 6 rfl)) Via.refl rfl (SL.ext c169.2) (dE 11 rfl) fun T170 X170 e170 => ?_
                have c171 := (Y2).ext c169.2
                have c173 := (Nat.le_trans c160 K161.1)
                obtain ⟨cq172, kq172, q172a, q172b, q172c⟩ := isOf hZ e170 A161
                refine own_cP X170 (X170.virtualBack hx (y := Mn0) (z := Mn0) hown (mvT hZ (g_ hw 8 rfl)) (mvT hZ (g_ hw 9 rfl)) (notFace_of_selects (args := #[]) (mvT hZ (g_ hw 11 rfl))) (mvT hZ (g_ hw 11 rfl)) (mvT hZ (g_ hw 10 rfl)) (by decide) (backOf (W := 0) (rm_ctL l Z a0 hw [] x161 f2 (64 : Int64) (3600 : Int64) T161.heap n0 c173 S161 c171 (by decide)) hZ (g_ hw 13 rfl) (g_ hw 12 rfl) (by decide) (by decide)) q172a q172c (g := (mkF m 46 #[.val (.int n), .val (.ref x161), .val (.int (7 : Int32))] [(.ref f2), (.ref x161)])) rfl (by rw [hml]; rfl) (Steps.refl _) (argsL := [(.ref f2)]) (rest := []) (lenOf own_pd37 rfl) rfl (by show 2 * 0 + _ ≤ _; exact Nat.le_of_eq rfl) (dE 12 rfl) (fun _ _ => ⟨rfl, e170, (by decide : 108 + 0 ≤ _), (by decide : 360 + 0 ≤ _)⟩)) fun v172 T172 L172 X172 hQ172 => ?_
                obtain ⟨rfl, Nq172, e172⟩ := hQ172
                have N172 := Fr.app N161 Nq172
                show own_Go p e below Pst (T172.setTop (mkF m 49 #[.val (.int n), .val (.ref x161), .val (.int (7 : Int32))] [(.int (-1 : Int32))]))
                refine o_ifNo X172.here hx (dE 13 rfl) rfl ((if0 _ _).trans (tlt (by decide)).2.1) ?_
                refine o_aloadN X172.here hx (dE 14 rfl) rfl rfl ?_
                refine own_Go.of (S' := T172.setTop (mkF m 56 #[.val (.int n), .val (.ref x161), .val (.int (7 : Int32))] [(.long (2 : Int64)), (.ref x161)])) (fun tgt kst => X172.ldc2Long hx hown (mvT hZ (g_ hw 32 rfl)) (g := (mkF m 53 #[.val (.int n), .val (.ref x161), .val (.int (7 : Int32))] [(.ref x161)])) rfl (dE 15 rfl) _ kst) ?_
                obtain ⟨cq174, kq174, q174a, q174b, q174c⟩ := isOf hZ e172 A161
                refine own_cP X172 (X172.virtualBack hx (y := Mn1) (z := Mn1) hown (mvT hZ (g_ hw 33 rfl)) (mvT hZ (g_ hw 34 rfl)) (notFace_of_selects (args := #[]) (mvT hZ (g_ hw 36 rfl))) (mvT hZ (g_ hw 36 rfl)) (mvT hZ (g_ hw 35 rfl)) (by decide) (backOf (W := 0) (rm_by l Z a0 hw [] (64 : Int64) (128 : Int64) (64000000000 : Int64) (128000000000 : Int64) (128 : Int32) (29 : Int32) (-849018880 : Int32) o kc x161 T161.heap n0 c173 c169 G own_v6 A161 S161 M161) hZ (g_ hw 37 rfl) (g_ hw 12 rfl) (by decide) (by decide)) q174a q174c (g := (mkF m 56 #[.val (.int n), .val (.ref x161), .val (.int (7 : Int32))] [(.long (2 : Int64)), (.ref x161)])) rfl (by rw [hml]; rfl) (Steps.refl _) (argsL := [(.long (2 : Int64))]) (rest := []) (lenOf own_pd38 rfl) rfl (by show 2 * 0 + _ ≤ _; exact Nat.le_of_eq rfl) (dE 16 rfl) (fun _ _ => ⟨rfl, e172, (by decide : 108 + 18 ≤ _), (by decide : 360 + 60 ≤ _)⟩)) fun v174 T174 L174 X174 hQ174 => ?_
                obtain ⟨x174, rfl, Nq174, K174, sx174, A174, S174, M174⟩ := hQ174
                have N174 := Fr.app N172 Nq174
                have c175 := (X1).ext c169.2
                have ne_f1_x174 : f1 ≠ x174 := Nat.ne_of_lt (Nat.lt_of_lt_of_le c175.lt sx174)
                have c176 := (X2).ext c169.2
                have ne_f2_x174 : f2 ≠ x174 := Nat.ne_of_lt (Nat.lt_of_lt_of_le c176.lt sx174)
                have c177 := (c164.keep K161)
                have ne_x110_x174 : x110 ≠ x174 := Nat.ne_of_lt (Nat.lt_of_lt_of_le c177.lt sx174)
                have c178 := (c165.keep K161)
                have ne_x119_x174 : x119 ≠ x174 := Nat.ne_of_lt (Nat.lt_of_lt_of_le c178.lt sx174)
                have c179 := (c166.keep K161)
                have ne_x128_x174 : x128 ≠ x174 := Nat.ne_of_lt (Nat.lt_of_lt_of_le c179.lt sx174)
                have c180 := (c167.keep K161)
                have ne_x138_x174 : x138 ≠ x174 := Nat.ne_of_lt (Nat.lt_of_lt_of_le c180.lt sx174)
                have c181 := (A149.keep K161)
                have ne_x149_x174 : x149 ≠ x174 := Nat.ne_of_lt (Nat.lt_of_lt_of_le c181.lt sx174)
                have ne_x161_x174 : x161 ≠ x174 := Nat.ne_of_lt (Nat.lt_of_lt_of_le A161.lt sx174)
                have gn_x174 : n0 ≤ x174 := Nat.le_trans c173 sx174
                have c182 := (Keep.trans c168 K161 all0)
                have sz_x174 : h0.size ≤ x174 := Nat.le_trans c182.1 sx174
                show own_Go p e below Pst (T174.setTop (mkF m 59 #[.val (.int n), .val (.ref x161), .val (.int (7 : Int32))] [(.ref x174)]))
                refine o_astoreN X174.here hx (dE 17 rfl) rfl rfl (l' := #[.val (.int n), .val (.ref x174), .val (.int (7 : Int32))]) rfl ?_
                refine o_iinc X174.here hx (dE 18 rfl) rfl (l' := #[.val (.int n), .val (.ref x174), .val (.int ((7 : Int32) + (1 : Int32)))]) rfl ?_
                rw [show ((7 : Int32) + (1 : Int32)) = (8 : Int32) from by decide]
                show own_Go p e below Pst (T174.setTop (mkF m 63 #[.val (.int n), .val (.ref x174), .val (.int (8 : Int32))] []))
                refine o_goto X174.here hx (pc0 := 63) (pc' := 37) rfl (dE 19 rfl) (by decide) (by decide) ?_
                refine o_iloadN X174.here hx (dE 7 rfl) rfl ?_
                refine o_iloadN X174.here hx (dE 8 rfl) rfl ?_
                by_cases b8 : (8 : Int32) < n
                · refine o_icmpNo X174.here hx (dE 9 rfl) rfl (tlt b8).2.1 ?_
                  refine o_aloadN X174.here hx (dE 10 rfl) rfl rfl ?_
                  have c183 := (c169.keep K174 all0)
                  refine p_getS2 X174 hx hZ hown (host := "") (Or.inl (g_ hw 6 rfl)) Via.refl rfl (SL.ext c183.2) (dE 11 rfl) fun T184 X184 e184 => ?_
                  have c185 := (Y2).ext c183.2
                  have c187 := (Nat.le_trans c173 K174.1)
                  obtain ⟨cq186, kq186, q186a, q186b, q186c⟩ := isOf hZ e184 A174
                  refine own_cP X184 (X184.virtualBack hx (y := Mn0) (z := Mn0) hown (mvT hZ (g_ hw 8 rfl)) (mvT hZ (g_ hw 9 rfl)) (notFace_of_selects (args := #[]) (mvT hZ (g_ hw 11 rfl))) (mvT hZ (g_ hw 11 rfl)) (mvT hZ (g_ hw 10 rfl)) (by decide) (backOf (W := 0) (rm_ctL l Z a0 hw [] x174 f2 (128 : Int64) (3600 : Int64) T174.heap n0 c187 S174 c185 (by decide)) hZ (g_ hw 13 rfl) (g_ hw 12 rfl) (by decide) (by decide)) q186a q186c (g := (mkF m 46 #[.val (.int n), .val (.ref x174), .val (.int (8 : Int32))] [(.ref f2), (.ref x174)])) rfl (by rw [hml]; rfl) (Steps.refl _) (argsL := [(.ref f2)]) (rest := []) (lenOf own_pd37 rfl) rfl (by show 2 * 0 + _ ≤ _; exact Nat.le_of_eq rfl) (dE 12 rfl) (fun _ _ => ⟨rfl, e184, (by decide : 126 + 0 ≤ _), (by decide : 420 + 0 ≤ _)⟩)) fun v186 T186 L186 X186 hQ186 => ?_
                  obtain ⟨rfl, Nq186, e186⟩ := hQ186
                  have N186 := Fr.app N174 Nq186
                  show own_Go p e below Pst (T186.setTop (mkF m 49 #[.val (.int n), .val (.ref x174), .val (.int (8 : Int32))] [(.int (-1 : Int32))]))
                  refine o_ifNo X186.here hx (dE 13 rfl) rfl ((if0 _ _).trans (tlt (by decide)).2.1) ?_
                  refine o_aloadN X186.here hx (dE 14 rfl) rfl rfl ?_
                  refine own_Go.of (S' := T186.setTop (mkF m 56 #[.val (.int n), .val (.ref x174), .val (.int (8 : Int32))] [(.long (2 : Int64)), (.ref x174)])) (fun tgt kst => X186.ldc2Long hx hown (mvT hZ (g_ hw 32 rfl)) (g := (mkF m 53 #[.val (.int n), .val (.ref x174), .val (.int (8 : Int32))] [(.ref x174)])) rfl (dE 15 rfl) _ kst) ?_
                  obtain ⟨cq188, kq188, q188a, q188b, q188c⟩ := isOf hZ e186 A174
                  refine own_cP X186 (X186.virtualBack hx (y := Mn1) (z := Mn1) hown (mvT hZ (g_ hw 33 rfl)) (mvT hZ (g_ hw 34 rfl)) (notFace_of_selects (args := #[]) (mvT hZ (g_ hw 36 rfl))) (mvT hZ (g_ hw 36 rfl)) (mvT hZ (g_ hw 35 rfl)) (by decide) (backOf (W := 0) (rm_by l Z a0 hw [] (128 : Int64) (256 : Int64) (128000000000 : Int64) (256000000000 : Int64) (256 : Int32) (59 : Int32) (-1698037760 : Int32) o kc x174 T174.heap n0 c187 c183 G own_v7 A174 S174 M174) hZ (g_ hw 37 rfl) (g_ hw 12 rfl) (by decide) (by decide)) q188a q188c (g := (mkF m 56 #[.val (.int n), .val (.ref x174), .val (.int (8 : Int32))] [(.long (2 : Int64)), (.ref x174)])) rfl (by rw [hml]; rfl) (Steps.refl _) (argsL := [(.long (2 : Int64))]) (rest := []) (lenOf own_pd38 rfl) rfl (by show 2 * 0 + _ ≤ _; exact Nat.le_of_eq rfl) (dE 16 rfl) (fun _ _ => ⟨rfl, e186, (by decide : 126 + 18 ≤ _), (by decide : 420 + 60 ≤ _)⟩)) fun v188 T188 L188 X188 hQ188 => ?_
                  obtain ⟨x188, rfl, Nq188, K188, sx188, A188, S188, M188⟩ := hQ188
                  have N188 := Fr.app N186 Nq188
                  have c189 := (X1).ext c183.2
                  have ne_f1_x188 : f1 ≠ x188 := Nat.ne_of_lt (Nat.lt_of_lt_of_le c189.lt sx188)
                  have c190 := (X2).ext c183.2
                  have ne_f2_x188 : f2 ≠ x188 := Nat.ne_of_lt (Nat.lt_of_lt_of_le c190.lt sx188)
                  have c191 := (c177.keep K174)
                  have ne_x110_x188 : x110 ≠ x188 := Nat.ne_of_lt (Nat.lt_of_lt_of_le c191.lt sx188)
                  have c192 := (c178.keep K174)
                  have ne_x119_x188 : x119 ≠ x188 := Nat.ne_of_lt (Nat.lt_of_lt_of_le c192.lt sx188)
                  have c193 := (c179.keep K174)
                  have ne_x128_x188 : x128 ≠ x188 := Nat.ne_of_lt (Nat.lt_of_lt_of_le c193.lt sx188)
                  have c194 := (c180.keep K174)
                  have ne_x138_x188 : x138 ≠ x188 := Nat.ne_of_lt (Nat.lt_of_lt_of_le c194.lt sx188)
                  have c195 := (c181.keep K174)
                  have ne_x149_x188 : x149 ≠ x188 := Nat.ne_of_lt (Nat.lt_of_lt_of_le c195.lt sx188)
                  have c196 := (A161.keep K174)
                  have ne_x161_x188 : x161 ≠ x188 := Nat.ne_of_lt (Nat.lt_of_lt_of_le c196.lt sx188)
                  have ne_x174_x188 : x174 ≠ x188 := Nat.ne_of_lt (Nat.lt_of_lt_of_le A174.lt sx188)
                  have gn_x188 : n0 ≤ x188 := Nat.le_trans c187 sx188
                  have c197 := (Keep.trans c182 K174 all0)
                  have sz_x188 : h0.size ≤ x188 := Nat.le_trans c197.1 sx188
                  show own_Go p e below Pst (T188.setTop (mkF m 59 #[.val (.int n), .val (.ref x174), .val (.int (8 : Int32))] [(.ref x188)]))
                  refine o_astoreN X188.here hx (dE 17 rfl) rfl rfl (l' := #[.val (.int n), .val (.ref x188), .val (.int (8 : Int32))]) rfl ?_
                  refine o_iinc X188.here hx (dE 18 rfl) rfl (l' := #[.val (.int n), .val (.ref x188), .val (.int ((8 : Int32) + (1 : Int32)))]) rfl ?_
                  rw [show ((8 : Int32) + (1 : Int32)) = (9 : Int32) from by decide]
                  show own_Go p e below Pst (T188.setTop (mkF m 63 #[.val (.int n), .val (.ref x188), .val (.int (9 : Int32))] []))
                  refine o_goto X188.here hx (pc0 := 63) (pc' := 37) rfl (dE 19 rfl) (by decide) (by decide) ?_
                  refine o_iloadN X188.here hx (dE 7 rfl) rfl ?_
                  refine o_iloadN X188.here hx (dE 8 rfl) rfl ?_
                  by_cases b9 : (9 : Int32) < n
                  · refine o_icmpNo X188.here hx (dE 9 rfl) rfl (tlt b9).2.1 ?_
                    refine o_aloadN X188.here hx (dE 10 rfl) rfl rfl ?_
                    have c198 := (c183.keep K188 all0)
                    refine p_getS2 X188 hx hZ hown (host := "") (Or.inl (g_ hw 6 rfl)) Via.refl rfl (SL.ext c198.2) (dE 11 rfl) fun T199 X199 e199 => ?_
                    have c200 := (Y2).ext c198.2
                    have c202 := (Nat.le_trans c187 K188.1)
                    obtain ⟨cq201, kq201, q201a, q201b, q201c⟩ := isOf hZ e199 A188
                    refine own_cP X199 (X199.virtualBack hx (y := Mn0) (z := Mn0) hown (mvT hZ (g_ hw 8 rfl)) (mvT hZ (g_ hw 9 rfl)) (notFace_of_selects (args := #[]) (mvT hZ (g_ hw 11 rfl))) (mvT hZ (g_ hw 11 rfl)) (mvT hZ (g_ hw 10 rfl)) (by decide) (backOf (W := 0) (rm_ctL l Z a0 hw [] x188 f2 (256 : Int64) (3600 : Int64) T188.heap n0 c202 S188 c200 (by decide)) hZ (g_ hw 13 rfl) (g_ hw 12 rfl) (by decide) (by decide)) q201a q201c (g := (mkF m 46 #[.val (.int n), .val (.ref x188), .val (.int (9 : Int32))] [(.ref f2), (.ref x188)])) rfl (by rw [hml]; rfl) (Steps.refl _) (argsL := [(.ref f2)]) (rest := []) (lenOf own_pd37 rfl) rfl (by show 2 * 0 + _ ≤ _; exact Nat.le_of_eq rfl) (dE 12 rfl) (fun _ _ => ⟨rfl, e199, (by decide : 144 + 0 ≤ _), (by decide : 480 + 0 ≤ _)⟩)) fun v201 T201 L201 X201 hQ201 => ?_
                    obtain ⟨rfl, Nq201, e201⟩ := hQ201
                    have N201 := Fr.app N188 Nq201
                    show own_Go p e below Pst (T201.setTop (mkF m 49 #[.val (.int n), .val (.ref x188), .val (.int (9 : Int32))] [(.int (-1 : Int32))]))
                    refine o_ifNo X201.here hx (dE 13 rfl) rfl ((if0 _ _).trans (tlt (by decide)).2.1) ?_
                    refine o_aloadN X201.here hx (dE 14 rfl) rfl rfl ?_
                    refine own_Go.of (S' := T201.setTop (mkF m 56 #[.val (.int n), .val (.ref x188), .val (.int (9 : Int32))] [(.long (2 : Int64)), (.ref x188)])) (fun tgt kst => X201.ldc2Long hx hown (mvT hZ (g_ hw 32 rfl)) (g := (mkF m 53 #[.val (.int n), .val (.ref x188), .val (.int (9 : Int32))] [(.ref x188)])) rfl (dE 15 rfl) _ kst) ?_
                    obtain ⟨cq203, kq203, q203a, q203b, q203c⟩ := isOf hZ e201 A188
                    refine own_cP X201 (X201.virtualBack hx (y := Mn1) (z := Mn1) hown (mvT hZ (g_ hw 33 rfl)) (mvT hZ (g_ hw 34 rfl)) (notFace_of_selects (args := #[]) (mvT hZ (g_ hw 36 rfl))) (mvT hZ (g_ hw 36 rfl)) (mvT hZ (g_ hw 35 rfl)) (by decide) (backOf (W := 0) (rm_by l Z a0 hw [] (256 : Int64) (512 : Int64) (256000000000 : Int64) (512000000000 : Int64) (512 : Int32) (119 : Int32) (898891776 : Int32) o kc x188 T188.heap n0 c202 c198 G own_v8 A188 S188 M188) hZ (g_ hw 37 rfl) (g_ hw 12 rfl) (by decide) (by decide)) q203a q203c (g := (mkF m 56 #[.val (.int n), .val (.ref x188), .val (.int (9 : Int32))] [(.long (2 : Int64)), (.ref x188)])) rfl (by rw [hml]; rfl) (Steps.refl _) (argsL := [(.long (2 : Int64))]) (rest := []) (lenOf own_pd38 rfl) rfl (by show 2 * 0 + _ ≤ _; exact Nat.le_of_eq rfl) (dE 16 rfl) (fun _ _ => ⟨rfl, e201, (by decide : 144 + 18 ≤ _), (by decide : 480 + 60 ≤ _)⟩)) fun v203 T203 L203 X203 hQ203 => ?_
                    obtain ⟨x203, rfl, Nq203, K203, sx203, A203, S203, M203⟩ := hQ203
                    have N203 := Fr.app N201 Nq203
                    have c204 := (X1).ext c198.2
                    have ne_f1_x203 : f1 ≠ x203 := Nat.ne_of_lt (Nat.lt_of_lt_of_le c204.lt sx203)
                    have c205 := (X2).ext c198.2
                    have ne_f2_x203 : f2 ≠ x203 := Nat.ne_of_lt (Nat.lt_of_lt_of_le c205.lt sx203)
                    have c206 := (c191.keep K188)
                    have ne_x110_x203 : x110 ≠ x203 := Nat.ne_of_lt (Nat.lt_of_lt_of_le c206.lt sx203)
                    have c207 := (c192.keep K188)
                    have ne_x119_x203 : x119 ≠ x203 := Nat.ne_of_lt (Nat.lt_of_lt_of_le c207.lt sx203)
                    have c208 := (c193.keep K188)
                    have ne_x128_x203 : x128 ≠ x203 := Nat.ne_of_lt (Nat.lt_of_lt_of_le c208.lt sx203)
                    have c209 := (c194.keep K188)
                    have ne_x138_x203 : x138 ≠ x203 := Nat.ne_of_lt (Nat.lt_of_lt_of_le c209.lt sx203)
                    have c210 := (c195.keep K188)
                    have ne_x149_x203 : x149 ≠ x203 := Nat.ne_of_lt (Nat.lt_of_lt_of_le c210.lt sx203)
                    have c211 := (c196.keep K188)
                    have ne_x161_x203 : x161 ≠ x203 := Nat.ne_of_lt (Nat.lt_of_lt_of_le c211.lt sx203)
                    have c212 := (A174.keep K188)
                    have ne_x174_x203 : x174 ≠ x203 := Nat.ne_of_lt (Nat.lt_of_lt_of_le c212.lt sx203)
                    have ne_x188_x203 : x188 ≠ x203 := Nat.ne_of_lt (Nat.lt_of_lt_of_le A188.lt sx203)
                    have gn_x203 : n0 ≤ x203 := Nat.le_trans c202 sx203
                    have c213 := (Keep.trans c197 K188 all0)
                    have sz_x203 : h0.size ≤ x203 := Nat.le_trans c213.1 sx203
                    show own_Go p e below Pst (T203.setTop (mkF m 59 #[.val (.int n), .val (.ref x188), .val (.int (9 : Int32))] [(.ref x203)]))
                    refine o_astoreN X203.here hx (dE 17 rfl) rfl rfl (l' := #[.val (.int n), .val (.ref x203), .val (.int (9 : Int32))]) rfl ?_
                    refine o_iinc X203.here hx (dE 18 rfl) rfl (l' := #[.val (.int n), .val (.ref x203), .val (.int ((9 : Int32) + (1 : Int32)))]) rfl ?_
                    rw [show ((9 : Int32) + (1 : Int32)) = (10 : Int32) from by decide]
                    show own_Go p e below Pst (T203.setTop (mkF m 63 #[.val (.int n), .val (.ref x203), .val (.int (10 : Int32))] []))
                    refine o_goto X203.here hx (pc0 := 63) (pc' := 37) rfl (dE 19 rfl) (by decide) (by decide) ?_
                    refine o_iloadN X203.here hx (dE 7 rfl) rfl ?_
                    refine o_iloadN X203.here hx (dE 8 rfl) rfl ?_
                    by_cases b10 : (10 : Int32) < n
                    · refine o_icmpNo X203.here hx (dE 9 rfl) rfl (tlt b10).2.1 ?_
                      refine o_aloadN X203.here hx (dE 10 rfl) rfl rfl ?_
                      have c214 := (c198.keep K203 all0)
                      refine p_getS2 X203 hx hZ hown (host := "") (Or.inl (g_ hw 6 rfl)) Via.refl rfl (SL.ext c214.2) (dE 11 rfl) fun T215 X215 e215 => ?_
                      have c216 := (Y2).ext c214.2
                      have c218 := (Nat.le_trans c202 K203.1)
                      obtain ⟨cq217, kq217, q217a, q217b, q217c⟩ := isOf hZ e215 A203
                      refine own_cP X215 (X215.virtualBack hx (y := Mn0) (z := Mn0) hown (mvT hZ (g_ hw 8 rfl)) (mvT hZ (g_ hw 9 rfl)) (notFace_of_selects (args := #[]) (mvT hZ (g_ hw 11 rfl))) (mvT hZ (g_ hw 11 rfl)) (mvT hZ (g_ hw 10 rfl)) (by decide) (backOf (W := 0) (rm_ctL l Z a0 hw [] x203 f2 (512 : Int64) (3600 : Int64) T203.heap n0 c218 S203 c216 (by decide)) hZ (g_ hw 13 rfl) (g_ hw 12 rfl) (by decide) (by decide)) q217a q217c (g := (mkF m 46 #[.val (.int n), .val (.ref x203), .val (.int (10 : Int32))] [(.ref f2), (.ref x203)])) rfl (by rw [hml]; rfl) (Steps.refl _) (argsL := [(.ref f2)]) (rest := []) (lenOf own_pd37 rfl) rfl (by show 2 * 0 + _ ≤ _; exact Nat.le_of_eq rfl) (dE 12 rfl) (fun _ _ => ⟨rfl, e215, (by decide : 162 + 0 ≤ _), (by decide : 540 + 0 ≤ _)⟩)) fun v217 T217 L217 X217 hQ217 => ?_
                      obtain ⟨rfl, Nq217, e217⟩ := hQ217
                      have N217 := Fr.app N203 Nq217
                      show own_Go p e below Pst (T217.setTop (mkF m 49 #[.val (.int n), .val (.ref x203), .val (.int (10 : Int32))] [(.int (-1 : Int32))]))
                      refine o_ifNo X217.here hx (dE 13 rfl) rfl ((if0 _ _).trans (tlt (by decide)).2.1) ?_
                      refine o_aloadN X217.here hx (dE 14 rfl) rfl rfl ?_
                      refine own_Go.of (S' := T217.setTop (mkF m 56 #[.val (.int n), .val (.ref x203), .val (.int (10 : Int32))] [(.long (2 : Int64)), (.ref x203)])) (fun tgt kst => X217.ldc2Long hx hown (mvT hZ (g_ hw 32 rfl)) (g := (mkF m 53 #[.val (.int n), .val (.ref x203), .val (.int (10 : Int32))] [(.ref x203)])) rfl (dE 15 rfl) _ kst) ?_
                      obtain ⟨cq219, kq219, q219a, q219b, q219c⟩ := isOf hZ e217 A203
                      refine own_cP X217 (X217.virtualBack hx (y := Mn1) (z := Mn1) hown (mvT hZ (g_ hw 33 rfl)) (mvT hZ (g_ hw 34 rfl)) (notFace_of_selects (args := #[]) (mvT hZ (g_ hw 36 rfl))) (mvT hZ (g_ hw 36 rfl)) (mvT hZ (g_ hw 35 rfl)) (by decide) (backOf (W := 0) (rm_by l Z a0 hw [] (512 : Int64) (1024 : Int64) (512000000000 : Int64) (1024000000000 : Int64) (1024 : Int32) (238 : Int32) (1797783552 : Int32) o kc x203 T203.heap n0 c218 c214 G own_v9 A203 S203 M203) hZ (g_ hw 37 rfl) (g_ hw 12 rfl) (by decide) (by decide)) q219a q219c (g := (mkF m 56 #[.val (.int n), .val (.ref x203), .val (.int (10 : Int32))] [(.long (2 : Int64)), (.ref x203)])) rfl (by rw [hml]; rfl) (Steps.refl _) (argsL := [(.long (2 : Int64))]) (rest := []) (lenOf own_pd38 rfl) rfl (by show 2 * 0 + _ ≤ _; exact Nat.le_of_eq rfl) (dE 16 rfl) (fun _ _ => ⟨rfl, e217, (by decide : 162 + 18 ≤ _), (by decide : 540 + 60 ≤ _)⟩)) fun v219 T219 L219 X219 hQ219 => ?_
                      obtain ⟨x219, rfl, Nq219, K219, sx219, A219, S219, M219⟩ := hQ219
                      have N219 := Fr.app N217 Nq219
                      have c220 := (X1).ext c214.2
                      have ne_f1_x219 : f1 ≠ x219 := Nat.ne_of_lt (Nat.lt_of_lt_of_le c220.lt sx219)
                      have c221 := (X2).ext c214.2
                      have ne_f2_x219 : f2 ≠ x219 := Nat.ne_of_lt (Nat.lt_of_lt_of_le c221.lt sx219)
                      have c222 := (c206.keep K203)
                      have ne_x110_x219 : x110 ≠ x219 := Nat.ne_of_lt (Nat.lt_of_lt_of_le c222.lt sx219)
                      have c223 := (c207.keep K203)
                      have ne_x119_x219 : x119 ≠ x219 := Nat.ne_of_lt (Nat.lt_of_lt_of_le c223.lt sx219)
                      have c224 := (c208.keep K203)
                      have ne_x128_x219 : x128 ≠ x219 := Nat.ne_of_lt (Nat.lt_of_lt_of_le c224.lt sx219)
                      have c225 := (c209.keep K203)
                      have ne_x138_x219 : x138 ≠ x219 := Nat.ne_of_lt (Nat.lt_of_lt_of_le c225.lt sx219)
                      have c226 := (c210.keep K203)
                      have ne_x149_x219 : x149 ≠ x219 := Nat.ne_of_lt (Nat.lt_of_lt_of_le c226.lt sx219)
                      have c227 := (c211.keep K203)
                      have ne_x161_x219 : x161 ≠ x219 := Nat.ne_of_lt (Nat.lt_of_lt_of_le c227.lt sx219)
                      have c228 := (c212.keep K203)
                      have ne_x174_x219 : x174 ≠ x219 := Nat.ne_of_lt (Nat.lt_of_lt_of_le c228.lt sx219)
                      have c229 := (A188.keep K203)
                      have ne_x188_x219 : x188 ≠ x219 := Nat.ne_of_lt (Nat.lt_of_lt_of_le c229.lt sx219)
                      have ne_x203_x219 : x203 ≠ x219 := Nat.ne_of_lt (Nat.lt_of_lt_of_le A203.lt sx219)
                      have gn_x219 : n0 ≤ x219 := Nat.le_trans c218 sx219
                      have c230 := (Keep.trans c213 K203 all0)
                      have sz_x219 : h0.size ≤ x219 := Nat.le_trans c230.1 sx219
                      show own_Go p e below Pst (T219.setTop (mkF m 59 #[.val (.int n), .val (.ref x203), .val (.int (10 : Int32))] [(.ref x219)]))
                      refine o_astoreN X219.here hx (dE 17 rfl) rfl rfl (l' := #[.val (.int n), .val (.ref x219), .val (.int (10 : Int32))]) rfl ?_
                      refine o_iinc X219.here hx (dE 18 rfl) rfl (l' := #[.val (.int n), .val (.ref x219), .val (.int ((10 : Int32) + (1 : Int32)))]) rfl ?_
                      rw [show ((10 : Int32) + (1 : Int32)) = (11 : Int32) from by decide]
                      show own_Go p e below Pst (T219.setTop (mkF m 63 #[.val (.int n), .val (.ref x219), .val (.int (11 : Int32))] []))
                      refine o_goto X219.here hx (pc0 := 63) (pc' := 37) rfl (dE 19 rfl) (by decide) (by decide) ?_
                      refine o_iloadN X219.here hx (dE 7 rfl) rfl ?_
                      refine o_iloadN X219.here hx (dE 8 rfl) rfl ?_
                      by_cases b11 : (11 : Int32) < n
                      · refine o_icmpNo X219.here hx (dE 9 rfl) rfl (tlt b11).2.1 ?_
                        refine o_aloadN X219.here hx (dE 10 rfl) rfl rfl ?_
                        have c231 := (c214.keep K219 all0)
                        refine p_getS2 X219 hx hZ hown (host := "") (Or.inl (g_ hw 6 rfl)) Via.refl rfl (SL.ext c231.2) (dE 11 rfl) fun T232 X232 e232 => ?_
                        have c233 := (Y2).ext c231.2
                        have c235 := (Nat.le_trans c218 K219.1)
                        obtain ⟨cq234, kq234, q234a, q234b, q234c⟩ := isOf hZ e232 A219
                        refine own_cP X232 (X232.virtualBack hx (y := Mn0) (z := Mn0) hown (mvT hZ (g_ hw 8 rfl)) (mvT hZ (g_ hw 9 rfl)) (notFace_of_selects (args := #[]) (mvT hZ (g_ hw 11 rfl))) (mvT hZ (g_ hw 11 rfl)) (mvT hZ (g_ hw 10 rfl)) (by decide) (backOf (W := 0) (rm_ctL l Z a0 hw [] x219 f2 (1024 : Int64) (3600 : Int64) T219.heap n0 c235 S219 c233 (by decide)) hZ (g_ hw 13 rfl) (g_ hw 12 rfl) (by decide) (by decide)) q234a q234c (g := (mkF m 46 #[.val (.int n), .val (.ref x219), .val (.int (11 : Int32))] [(.ref f2), (.ref x219)])) rfl (by rw [hml]; rfl) (Steps.refl _) (argsL := [(.ref f2)]) (rest := []) (lenOf own_pd37 rfl) rfl (by show 2 * 0 + _ ≤ _; exact Nat.le_of_eq rfl) (dE 12 rfl) (fun _ _ => ⟨rfl, e232, (by decide : 180 + 0 ≤ _), (by decide : 600 + 0 ≤ _)⟩)) fun v234 T234 L234 X234 hQ234 => ?_
                        obtain ⟨rfl, Nq234, e234⟩ := hQ234
                        have N234 := Fr.app N219 Nq234
                        show own_Go p e below Pst (T234.setTop (mkF m 49 #[.val (.int n), .val (.ref x219), .val (.int (11 : Int32))] [(.int (-1 : Int32))]))
                        refine o_ifNo X234.here hx (dE 13 rfl) rfl ((if0 _ _).trans (tlt (by decide)).2.1) ?_
                        refine o_aloadN X234.here hx (dE 14 rfl) rfl rfl ?_
                        refine own_Go.of (S' := T234.setTop (mkF m 56 #[.val (.int n), .val (.ref x219), .val (.int (11 : Int32))] [(.long (2 : Int64)), (.ref x219)])) (fun tgt kst => X234.ldc2Long hx hown (mvT hZ (g_ hw 32 rfl)) (g := (mkF m 53 #[.val (.int n), .val (.ref x219), .val (.int (11 : Int32))] [(.ref x219)])) rfl (dE 15 rfl) _ kst) ?_
                        obtain ⟨cq236, kq236, q236a, q236b, q236c⟩ := isOf hZ e234 A219
                        refine own_cP X234 (X234.virtualBack hx (y := Mn1) (z := Mn1) hown (mvT hZ (g_ hw 33 rfl)) (mvT hZ (g_ hw 34 rfl)) (notFace_of_selects (args := #[]) (mvT hZ (g_ hw 36 rfl))) (mvT hZ (g_ hw 36 rfl)) (mvT hZ (g_ hw 35 rfl)) (by decide) (backOf (W := 0) (rm_by l Z a0 hw [] (1024 : Int64) (2048 : Int64) (1024000000000 : Int64) (2048000000000 : Int64) (2048 : Int32) (476 : Int32) (-699400192 : Int32) o kc x219 T219.heap n0 c235 c231 G own_v10 A219 S219 M219) hZ (g_ hw 37 rfl) (g_ hw 12 rfl) (by decide) (by decide)) q236a q236c (g := (mkF m 56 #[.val (.int n), .val (.ref x219), .val (.int (11 : Int32))] [(.long (2 : Int64)), (.ref x219)])) rfl (by rw [hml]; rfl) (Steps.refl _) (argsL := [(.long (2 : Int64))]) (rest := []) (lenOf own_pd38 rfl) rfl (by show 2 * 0 + _ ≤ _; exact Nat.le_of_eq rfl) (dE 16 rfl) (fun _ _ => ⟨rfl, e234, (by decide : 180 + 18 ≤ _), (by decide : 600 + 60 ≤ _)⟩)) fun v236 T236 L236 X236 hQ236 => ?_
                        obtain ⟨x236, rfl, Nq236, K236, sx236, A236, S236, M236⟩ := hQ236
                        have N236 := Fr.app N234 Nq236
                        have c237 := (X1).ext c231.2
                        have ne_f1_x236 : f1 ≠ x236 := Nat.ne_of_lt (Nat.lt_of_lt_of_le c237.lt sx236)
                        have c238 := (X2).ext c231.2
                        have ne_f2_x236 : f2 ≠ x236 := Nat.ne_of_lt (Nat.lt_of_lt_of_le c238.lt sx236)
                        have c239 := (c222.keep K219)
                        have ne_x110_x236 : x110 ≠ x236 := Nat.ne_of_lt (Nat.lt_of_lt_of_le c239.lt sx236)
                        have c240 := (c223.keep K219)
                        have ne_x119_x236 : x119 ≠ x236 := Nat.ne_of_lt (Nat.lt_of_lt_of_le c240.lt sx236)
                        have c241 := (c224.keep K219)
                        have ne_x128_x236 : x128 ≠ x236 := Nat.ne_of_lt (Nat.lt_of_lt_of_le c241.lt sx236)
                        have c242 := (c225.keep K219)
                        have ne_x138_x236 : x138 ≠ x236 := Nat.ne_of_lt (Nat.lt_of_lt_of_le c242.lt sx236)
                        have c243 := (c226.keep K219)
                        have ne_x149_x236 : x149 ≠ x236 := Nat.ne_of_lt (Nat.lt_of_lt_of_le c243.lt sx236)
                        have c244 := (c227.keep K219)
                        have ne_x161_x236 : x161 ≠ x236 := Nat.ne_of_lt (Nat.lt_of_lt_of_le c244.lt sx236)
                        have c245 := (c228.keep K219)
                        have ne_x174_x236 : x174 ≠ x236 := Nat.ne_of_lt (Nat.lt_of_lt_of_le c245.lt sx236)
                        have c246 := (c229.keep K219)
                        have ne_x188_x236 : x188 ≠ x236 := Nat.ne_of_lt (Nat.lt_of_lt_of_le c246.lt sx236)
                        have c247 := (A203.keep K219)
                        have ne_x203_x236 : x203 ≠ x236 := Nat.ne_of_lt (Nat.lt_of_lt_of_le c247.lt sx236)
                        have ne_x219_x236 : x219 ≠ x236 := Nat.ne_of_lt (Nat.lt_of_lt_of_le A219.lt sx236)
                        have gn_x236 : n0 ≤ x236 := Nat.le_trans c235 sx236
                        have c248 := (Keep.trans c230 K219 all0)
                        have sz_x236 : h0.size ≤ x236 := Nat.le_trans c248.1 sx236
                        show own_Go p e below Pst (T236.setTop (mkF m 59 #[.val (.int n), .val (.ref x219), .val (.int (11 : Int32))] [(.ref x236)]))
                        refine o_astoreN X236.here hx (dE 17 rfl) rfl rfl (l' := #[.val (.int n), .val (.ref x236), .val (.int (11 : Int32))]) rfl ?_
                        refine o_iinc X236.here hx (dE 18 rfl) rfl (l' := #[.val (.int n), .val (.ref x236), .val (.int ((11 : Int32) + (1 : Int32)))]) rfl ?_
                        rw [show ((11 : Int32) + (1 : Int32)) = (12 : Int32) from by decide]
                        show own_Go p e below Pst (T236.setTop (mkF m 63 #[.val (.int n), .val (.ref x236), .val (.int (12 : Int32))] []))
                        refine o_goto X236.here hx (pc0 := 63) (pc' := 37) rfl (dE 19 rfl) (by decide) (by decide) ?_
                        refine o_iloadN X236.here hx (dE 7 rfl) rfl ?_
                        refine o_iloadN X236.here hx (dE 8 rfl) rfl ?_
                        by_cases b12 : (12 : Int32) < n
                        · refine o_icmpNo X236.here hx (dE 9 rfl) rfl (tlt b12).2.1 ?_
                          refine o_aloadN X236.here hx (dE 10 rfl) rfl rfl ?_
                          have c249 := (c231.keep K236 all0)
                          refine p_getS2 X236 hx hZ hown (host := "") (Or.inl (g_ hw 6 rfl)) Via.refl rfl (SL.ext c249.2) (dE 11 rfl) fun T250 X250 e250 => ?_
                          have c251 := (Y2).ext c249.2
                          have c253 := (Nat.le_trans c235 K236.1)
                          obtain ⟨cq252, kq252, q252a, q252b, q252c⟩ := isOf hZ e250 A236
                          refine own_cP X250 (X250.virtualBack hx (y := Mn0) (z := Mn0) hown (mvT hZ (g_ hw 8 rfl)) (mvT hZ (g_ hw 9 rfl)) (notFace_of_selects (args := #[]) (mvT hZ (g_ hw 11 rfl))) (mvT hZ (g_ hw 11 rfl)) (mvT hZ (g_ hw 10 rfl)) (by decide) (backOf (W := 0) (rm_ctL l Z a0 hw [] x236 f2 (2048 : Int64) (3600 : Int64) T236.heap n0 c253 S236 c251 (by decide)) hZ (g_ hw 13 rfl) (g_ hw 12 rfl) (by decide) (by decide)) q252a q252c (g := (mkF m 46 #[.val (.int n), .val (.ref x236), .val (.int (12 : Int32))] [(.ref f2), (.ref x236)])) rfl (by rw [hml]; rfl) (Steps.refl _) (argsL := [(.ref f2)]) (rest := []) (lenOf own_pd37 rfl) rfl (by show 2 * 0 + _ ≤ _; exact Nat.le_of_eq rfl) (dE 12 rfl) (fun _ _ => ⟨rfl, e250, (by decide : 198 + 0 ≤ _), (by decide : 660 + 0 ≤ _)⟩)) fun v252 T252 L252 X252 hQ252 => ?_
                          obtain ⟨rfl, Nq252, e252⟩ := hQ252
                          have N252 := Fr.app N236 Nq252
                          show own_Go p e below Pst (T252.setTop (mkF m 49 #[.val (.int n), .val (.ref x236), .val (.int (12 : Int32))] [(.int (-1 : Int32))]))
                          refine o_ifNo X252.here hx (dE 13 rfl) rfl ((if0 _ _).trans (tlt (by decide)).2.1) ?_
                          refine o_aloadN X252.here hx (dE 14 rfl) rfl rfl ?_
                          refine own_Go.of (S' := T252.setTop (mkF m 56 #[.val (.int n), .val (.ref x236), .val (.int (12 : Int32))] [(.long (2 : Int64)), (.ref x236)])) (fun tgt kst => X252.ldc2Long hx hown (mvT hZ (g_ hw 32 rfl)) (g := (mkF m 53 #[.val (.int n), .val (.ref x236), .val (.int (12 : Int32))] [(.ref x236)])) rfl (dE 15 rfl) _ kst) ?_
                          obtain ⟨cq254, kq254, q254a, q254b, q254c⟩ := isOf hZ e252 A236
                          refine own_cP X252 (X252.virtualBack hx (y := Mn1) (z := Mn1) hown (mvT hZ (g_ hw 33 rfl)) (mvT hZ (g_ hw 34 rfl)) (notFace_of_selects (args := #[]) (mvT hZ (g_ hw 36 rfl))) (mvT hZ (g_ hw 36 rfl)) (mvT hZ (g_ hw 35 rfl)) (by decide) (backOf (W := 0) (rm_by l Z a0 hw [] (2048 : Int64) (4096 : Int64) (2048000000000 : Int64) (4096000000000 : Int64) (4096 : Int32) (953 : Int32) (-1398800384 : Int32) o kc x236 T236.heap n0 c253 c249 G own_v11 A236 S236 M236) hZ (g_ hw 37 rfl) (g_ hw 12 rfl) (by decide) (by decide)) q254a q254c (g := (mkF m 56 #[.val (.int n), .val (.ref x236), .val (.int (12 : Int32))] [(.long (2 : Int64)), (.ref x236)])) rfl (by rw [hml]; rfl) (Steps.refl _) (argsL := [(.long (2 : Int64))]) (rest := []) (lenOf own_pd38 rfl) rfl (by show 2 * 0 + _ ≤ _; exact Nat.le_of_eq rfl) (dE 16 rfl) (fun _ _ => ⟨rfl, e252, (by decide : 198 + 18 ≤ _), (by decide : 660 + 60 ≤ _)⟩)) fun v254 T254 L254 X254 hQ254 => ?_
                          obtain ⟨x254, rfl, Nq254, K254, sx254, A254, S254, M254⟩ := hQ254
                          have N254 := Fr.app N252 Nq254
                          have c255 := (X1).ext c249.2
                          have ne_f1_x254 : f1 ≠ x254 := Nat.ne_of_lt (Nat.lt_of_lt_of_le c255.lt sx254)
                          have c256 := (X2).ext c249.2
                          have ne_f2_x254 : f2 ≠ x254 := Nat.ne_of_lt (Nat.lt_of_lt_of_le c256.lt sx254)
                          have c257 := (c239.keep K236)
                          have ne_x110_x254 : x110 ≠ x254 := Nat.ne_of_lt (Nat.lt_of_lt_of_le c257.lt sx254)
                          have c258 := (c240.keep K236)
                          have ne_x119_x254 : x119 ≠ x254 := Nat.ne_of_lt (Nat.lt_of_lt_of_le c258.lt sx254)
                          have c259 := (c241.keep K236)
                          have ne_x128_x254 : x128 ≠ x254 := Nat.ne_of_lt (Nat.lt_of_lt_of_le c259.lt sx254)
                          have c260 := (c242.keep K236)
                          have ne_x138_x254 : x138 ≠ x254 := Nat.ne_of_lt (Nat.lt_of_lt_of_le c260.lt sx254)
                          have c261 := (c243.keep K236)
                          have ne_x149_x254 : x149 ≠ x254 := Nat.ne_of_lt (Nat.lt_of_lt_of_le c261.lt sx254)
                          have c262 := (c244.keep K236)
                          have ne_x161_x254 : x161 ≠ x254 := Nat.ne_of_lt (Nat.lt_of_lt_of_le c262.lt sx254)
                          have c263 := (c245.keep K236)
                          have ne_x174_x254 : x174 ≠ x254 := Nat.ne_of_lt (Nat.lt_of_lt_of_le c263.lt sx254)
                          have c264 := (c246.keep K236)
                          have ne_x188_x254 : x188 ≠ x254 := Nat.ne_of_lt (Nat.lt_of_lt_of_le c264.lt sx254)
                          have c265 := (c247.keep K236)
                          have ne_x203_x254 : x203 ≠ x254 := Nat.ne_of_lt (Nat.lt_of_lt_of_le c265.lt sx254)
                          have c266 := (A219.keep K236)
                          have ne_x219_x254 : x219 ≠ x254 := Nat.ne_of_lt (Nat.lt_of_lt_of_le c266.lt sx254)
                          have ne_x236_x254 : x236 ≠ x254 := Nat.ne_of_lt (Nat.lt_of_lt_of_le A236.lt sx254)
                          have gn_x254 : n0 ≤ x254 := Nat.le_trans c253 sx254
                          have c267 := (Keep.trans c248 K236 all0)
                          have sz_x254 : h0.size ≤ x254 := Nat.le_trans c267.1 sx254
                          show own_Go p e below Pst (T254.setTop (mkF m 59 #[.val (.int n), .val (.ref x236), .val (.int (12 : Int32))] [(.ref x254)]))
                          refine o_astoreN X254.here hx (dE 17 rfl) rfl rfl (l' := #[.val (.int n), .val (.ref x254), .val (.int (12 : Int32))]) rfl ?_
                          refine o_iinc X254.here hx (dE 18 rfl) rfl (l' := #[.val (.int n), .val (.ref x254), .val (.int ((12 : Int32) + (1 : Int32)))]) rfl ?_
                          rw [show ((12 : Int32) + (1 : Int32)) = (13 : Int32) from by decide]
                          show own_Go p e below Pst (T254.setTop (mkF m 63 #[.val (.int n), .val (.ref x254), .val (.int (13 : Int32))] []))
                          refine o_goto X254.here hx (pc0 := 63) (pc' := 37) rfl (dE 19 rfl) (by decide) (by decide) ?_
                          refine o_iloadN X254.here hx (dE 7 rfl) rfl ?_
                          refine o_iloadN X254.here hx (dE 8 rfl) rfl ?_
                          by_cases b13 : (13 : Int32) < n
                          · refine o_icmpNo X254.here hx (dE 9 rfl) rfl (tlt b13).2.1 ?_
                            refine o_aloadN X254.here hx (dE 10 rfl) rfl rfl ?_
                            have c268 := (c249.keep K254 all0)
                            refine p_getS2 X254 hx hZ hown (host := "") (Or.inl (g_ hw 6 rfl)) Via.refl rfl (SL.ext c268.2) (dE 11 rfl) fun T269 X269 e269 => ?_
                            have c270 := (Y2).ext c268.2
                            have c272 := (Nat.le_trans c253 K254.1)
                            obtain ⟨cq271, kq271, q271a, q271b, q271c⟩ := isOf hZ e269 A254
                            refine own_cP X269 (X269.virtualBack hx (y := Mn0) (z := Mn0) hown (mvT hZ (g_ hw 8 rfl)) (mvT hZ (g_ hw 9 rfl)) (notFace_of_selects (args := #[]) (mvT hZ (g_ hw 11 rfl))) (mvT hZ (g_ hw 11 rfl)) (mvT hZ (g_ hw 10 rfl)) (by decide) (backOf (W := 0) (rm_ctG l Z a0 hw [] x254 f2 (4096 : Int64) (3600 : Int64) T254.heap n0 c272 S254 c270 (by decide) (by decide)) hZ (g_ hw 13 rfl) (g_ hw 12 rfl) (by decide) (by decide)) q271a q271c (g := (mkF m 46 #[.val (.int n), .val (.ref x254), .val (.int (13 : Int32))] [(.ref f2), (.ref x254)])) rfl (by rw [hml]; rfl) (Steps.refl _) (argsL := [(.ref f2)]) (rest := []) (lenOf own_pd37 rfl) rfl (by show 2 * 0 + _ ≤ _; exact Nat.le_of_eq rfl) (dE 12 rfl) (fun _ _ => ⟨rfl, e269, (by decide : 216 + 0 ≤ _), (by decide : 720 + 0 ≤ _)⟩)) fun v271 T271 L271 X271 hQ271 => ?_
                            obtain ⟨rfl, Nq271, e271⟩ := hQ271
                            have N271 := Fr.app N254 Nq271
                            show own_Go p e below Pst (T271.setTop (mkF m 49 #[.val (.int n), .val (.ref x254), .val (.int (13 : Int32))] [(.int (1 : Int32))]))
                            refine o_ifYes X271.here hx (pc0 := 49) (pc' := 66) rfl (dE 13 rfl) rfl ((if0 _ _).trans (flt (by decide)).2.1) (by decide) (by decide) ?_
                            have ed : (3600 : Int64) = own_d n := by unfold own_d; rw [if_pos (own_n2 b13)]
                            refine o_aloadN X271.here hx (dE 20 rfl) rfl rfl ?_
                            refine p_getS2 X271 hx hZ hown (host := "") (Or.inl (g_ hw 6 rfl)) Via.refl e271 (SL.ext c268.2) (dE 21 rfl) fun T273 X273 e273 => ?_
                            have c274 := (Y2).ext c268.2
                            obtain ⟨cq275, kq275, q275a, q275b, q275c⟩ := isOf hZ e273 A254
                            refine own_cP X273 (X273.virtualBack hx (y := Mn0) (z := Mn0) hown (mvT hZ (g_ hw 8 rfl)) (mvT hZ (g_ hw 9 rfl)) (notFace_of_selects (args := #[]) (mvT hZ (g_ hw 11 rfl))) (mvT hZ (g_ hw 11 rfl)) (mvT hZ (g_ hw 10 rfl)) (by decide) (backOf (W := 0) (rm_ctG l Z a0 hw [] x254 f2 (4096 : Int64) (3600 : Int64) T254.heap n0 c272 S254 c274 (by decide) (by decide)) hZ (g_ hw 13 rfl) (g_ hw 12 rfl) (by decide) (by decide)) q275a q275c (g := (mkF m 70 #[.val (.int n), .val (.ref x254), .val (.int (13 : Int32))] [(.ref f2), (.ref x254)])) rfl (by rw [hml]; rfl) (Steps.refl _) (argsL := [(.ref f2)]) (rest := []) (lenOf own_pd37 rfl) rfl (by show 2 * 0 + _ ≤ _; exact Nat.le_of_eq rfl) (dE 22 rfl) (fun _ _ => ⟨rfl, e273, (by decide : 216 + 0 ≤ _), (by decide : 720 + 0 ≤ _)⟩)) fun v275 T275 L275 X275 hQ275 => ?_
                            obtain ⟨rfl, Nq275, e275⟩ := hQ275
                            have N275 := Fr.app N271 Nq275
                            show own_Go p e below Pst (T275.setTop (mkF m 73 #[.val (.int n), .val (.ref x254), .val (.int (13 : Int32))] [(.int (1 : Int32))]))
                            refine o_ifYes X275.here hx (pc0 := 73) (pc' := 80) rfl (dE 23 rfl) rfl ((if0 _ _).trans (flt (by decide)).2.1) (by decide) (by decide) ?_
                            refine p_getS2 X275 hx hZ hown (host := "") (Or.inl (g_ hw 6 rfl)) Via.refl e275 (SL.ext c268.2) (dE 24 rfl) fun T276 X276 e276 => ?_
                            have c277 := (Keep.trans c267 K254 all0)
                            have c278 := (X2).ext c268.2
                            have c279 := (Y2).ext c268.2
                            have c280 := (W2).ext c268.2
                            rw [hPst]
                            exact own_retP X276 (v := (some (.ref f2))) (Q := Q_de Z n f1 f2 o kc h0 n0) (fun h => by rw [Bd.returns] at h; cases h) Bd.notSynchronized (fun fs hr => retOut X276 hx Bd.returns rfl (Or.inr (Or.inr (Or.inr (Or.inr ⟨rfl, rfl, rfl⟩)))) (dE 25 rfl) hr) (by decide) (by decide) (by rw [e276]; exact ⟨_, rfl, N275, c277, c278, (ed ▸ c279), c280⟩)
                          · refine o_icmpYes X254.here hx (pc0 := 39) (pc' := 66) rfl (dE 9 rfl) rfl (flt b13).2.1 (by decide) (by decide) ?_
                            have en : n = 13 := own_n1 (12 : Int32) (13 : Int32) b12 b13 (by decide)
                            have ed : (3600 : Int64) = own_d n := by rw [en]; decide
                            refine o_aloadN X254.here hx (dE 20 rfl) rfl rfl ?_
                            have c281 := (c249.keep K254 all0)
                            refine p_getS2 X254 hx hZ hown (host := "") (Or.inl (g_ hw 6 rfl)) Via.refl rfl (SL.ext c281.2) (dE 21 rfl) fun T282 X282 e282 => ?_
                            have c283 := (Y2).ext c281.2
                            have c285 := (Nat.le_trans c253 K254.1)
                            obtain ⟨cq284, kq284, q284a, q284b, q284c⟩ := isOf hZ e282 A254
                            refine own_cP X282 (X282.virtualBack hx (y := Mn0) (z := Mn0) hown (mvT hZ (g_ hw 8 rfl)) (mvT hZ (g_ hw 9 rfl)) (notFace_of_selects (args := #[]) (mvT hZ (g_ hw 11 rfl))) (mvT hZ (g_ hw 11 rfl)) (mvT hZ (g_ hw 10 rfl)) (by decide) (backOf (W := 0) (rm_ctG l Z a0 hw [] x254 f2 (4096 : Int64) (3600 : Int64) T254.heap n0 c285 S254 c283 (by decide) (by decide)) hZ (g_ hw 13 rfl) (g_ hw 12 rfl) (by decide) (by decide)) q284a q284c (g := (mkF m 70 #[.val (.int n), .val (.ref x254), .val (.int (13 : Int32))] [(.ref f2), (.ref x254)])) rfl (by rw [hml]; rfl) (Steps.refl _) (argsL := [(.ref f2)]) (rest := []) (lenOf own_pd37 rfl) rfl (by show 2 * 0 + _ ≤ _; exact Nat.le_of_eq rfl) (dE 22 rfl) (fun _ _ => ⟨rfl, e282, (by decide : 216 + 0 ≤ _), (by decide : 720 + 0 ≤ _)⟩)) fun v284 T284 L284 X284 hQ284 => ?_
                            obtain ⟨rfl, Nq284, e284⟩ := hQ284
                            have N284 := Fr.app N254 Nq284
                            show own_Go p e below Pst (T284.setTop (mkF m 73 #[.val (.int n), .val (.ref x254), .val (.int (13 : Int32))] [(.int (1 : Int32))]))
                            refine o_ifYes X284.here hx (pc0 := 73) (pc' := 80) rfl (dE 23 rfl) rfl ((if0 _ _).trans (flt (by decide)).2.1) (by decide) (by decide) ?_
                            refine p_getS2 X284 hx hZ hown (host := "") (Or.inl (g_ hw 6 rfl)) Via.refl e284 (SL.ext c281.2) (dE 24 rfl) fun T286 X286 e286 => ?_
                            have c287 := (Keep.trans c267 K254 all0)
                            have c288 := (X2).ext c281.2
                            have c289 := (Y2).ext c281.2
                            have c290 := (W2).ext c281.2
                            rw [hPst]
                            exact own_retP X286 (v := (some (.ref f2))) (Q := Q_de Z n f1 f2 o kc h0 n0) (fun h => by rw [Bd.returns] at h; cases h) Bd.notSynchronized (fun fs hr => retOut X286 hx Bd.returns rfl (Or.inr (Or.inr (Or.inr (Or.inr ⟨rfl, rfl, rfl⟩)))) (dE 25 rfl) hr) (by decide) (by decide) (by rw [e286]; exact ⟨_, rfl, N284, c287, c288, (ed ▸ c289), c290⟩)
                        · refine o_icmpYes X236.here hx (pc0 := 39) (pc' := 66) rfl (dE 9 rfl) rfl (flt b12).2.1 (by decide) (by decide) ?_
                          have en : n = 12 := own_n1 (11 : Int32) (12 : Int32) b11 b12 (by decide)
                          have ed : (2048 : Int64) = own_d n := by rw [en]; decide
                          refine o_aloadN X236.here hx (dE 20 rfl) rfl rfl ?_
                          have c291 := (c231.keep K236 all0)
                          refine p_getS2 X236 hx hZ hown (host := "") (Or.inl (g_ hw 6 rfl)) Via.refl rfl (SL.ext c291.2) (dE 21 rfl) fun T292 X292 e292 => ?_
                          have c293 := (Y2).ext c291.2
                          have c295 := (Nat.le_trans c235 K236.1)
                          obtain ⟨cq294, kq294, q294a, q294b, q294c⟩ := isOf hZ e292 A236
                          refine own_cP X292 (X292.virtualBack hx (y := Mn0) (z := Mn0) hown (mvT hZ (g_ hw 8 rfl)) (mvT hZ (g_ hw 9 rfl)) (notFace_of_selects (args := #[]) (mvT hZ (g_ hw 11 rfl))) (mvT hZ (g_ hw 11 rfl)) (mvT hZ (g_ hw 10 rfl)) (by decide) (backOf (W := 0) (rm_ctL l Z a0 hw [] x236 f2 (2048 : Int64) (3600 : Int64) T236.heap n0 c295 S236 c293 (by decide)) hZ (g_ hw 13 rfl) (g_ hw 12 rfl) (by decide) (by decide)) q294a q294c (g := (mkF m 70 #[.val (.int n), .val (.ref x236), .val (.int (12 : Int32))] [(.ref f2), (.ref x236)])) rfl (by rw [hml]; rfl) (Steps.refl _) (argsL := [(.ref f2)]) (rest := []) (lenOf own_pd37 rfl) rfl (by show 2 * 0 + _ ≤ _; exact Nat.le_of_eq rfl) (dE 22 rfl) (fun _ _ => ⟨rfl, e292, (by decide : 198 + 0 ≤ _), (by decide : 660 + 0 ≤ _)⟩)) fun v294 T294 L294 X294 hQ294 => ?_
                          obtain ⟨rfl, Nq294, e294⟩ := hQ294
                          have N294 := Fr.app N236 Nq294
                          show own_Go p e below Pst (T294.setTop (mkF m 73 #[.val (.int n), .val (.ref x236), .val (.int (12 : Int32))] [(.int (-1 : Int32))]))
                          refine o_ifNo X294.here hx (dE 23 rfl) rfl ((if0 _ _).trans (tlt (by decide)).2.1) ?_
                          refine o_aloadN X294.here hx (dE 26 rfl) rfl rfl ?_
                          refine o_goto X294.here hx (pc0 := 77) (pc' := 83) rfl (dE 27 rfl) (by decide) (by decide) ?_
                          have c296 := (Keep.trans c248 K236 all0)
                          rw [hPst]
                          exact own_retP X294 (v := (some (.ref x236))) (Q := Q_de Z n f1 f2 o kc h0 n0) (fun h => by rw [Bd.returns] at h; cases h) Bd.notSynchronized (fun fs hr => retOut X294 hx Bd.returns rfl (Or.inr (Or.inr (Or.inr (Or.inr ⟨rfl, rfl, rfl⟩)))) (dE 25 rfl) hr) (by decide) (by decide) (by rw [e294]; exact ⟨_, rfl, N294, c296, A236, (ed ▸ S236), M236⟩)
                      · refine o_icmpYes X219.here hx (pc0 := 39) (pc' := 66) rfl (dE 9 rfl) rfl (flt b11).2.1 (by decide) (by decide) ?_
                        have en : n = 11 := own_n1 (10 : Int32) (11 : Int32) b10 b11 (by decide)
                        have ed : (1024 : Int64) = own_d n := by rw [en]; decide
                        refine o_aloadN X219.here hx (dE 20 rfl) rfl rfl ?_
                        have c297 := (c214.keep K219 all0)
                        refine p_getS2 X219 hx hZ hown (host := "") (Or.inl (g_ hw 6 rfl)) Via.refl rfl (SL.ext c297.2) (dE 21 rfl) fun T298 X298 e298 => ?_
                        have c299 := (Y2).ext c297.2
                        have c301 := (Nat.le_trans c218 K219.1)
                        obtain ⟨cq300, kq300, q300a, q300b, q300c⟩ := isOf hZ e298 A219
                        refine own_cP X298 (X298.virtualBack hx (y := Mn0) (z := Mn0) hown (mvT hZ (g_ hw 8 rfl)) (mvT hZ (g_ hw 9 rfl)) (notFace_of_selects (args := #[]) (mvT hZ (g_ hw 11 rfl))) (mvT hZ (g_ hw 11 rfl)) (mvT hZ (g_ hw 10 rfl)) (by decide) (backOf (W := 0) (rm_ctL l Z a0 hw [] x219 f2 (1024 : Int64) (3600 : Int64) T219.heap n0 c301 S219 c299 (by decide)) hZ (g_ hw 13 rfl) (g_ hw 12 rfl) (by decide) (by decide)) q300a q300c (g := (mkF m 70 #[.val (.int n), .val (.ref x219), .val (.int (11 : Int32))] [(.ref f2), (.ref x219)])) rfl (by rw [hml]; rfl) (Steps.refl _) (argsL := [(.ref f2)]) (rest := []) (lenOf own_pd37 rfl) rfl (by show 2 * 0 + _ ≤ _; exact Nat.le_of_eq rfl) (dE 22 rfl) (fun _ _ => ⟨rfl, e298, (by decide : 180 + 0 ≤ _), (by decide : 600 + 0 ≤ _)⟩)) fun v300 T300 L300 X300 hQ300 => ?_
                        obtain ⟨rfl, Nq300, e300⟩ := hQ300
                        have N300 := Fr.app N219 Nq300
                        show own_Go p e below Pst (T300.setTop (mkF m 73 #[.val (.int n), .val (.ref x219), .val (.int (11 : Int32))] [(.int (-1 : Int32))]))
                        refine o_ifNo X300.here hx (dE 23 rfl) rfl ((if0 _ _).trans (tlt (by decide)).2.1) ?_
                        refine o_aloadN X300.here hx (dE 26 rfl) rfl rfl ?_
                        refine o_goto X300.here hx (pc0 := 77) (pc' := 83) rfl (dE 27 rfl) (by decide) (by decide) ?_
                        have c302 := (Keep.trans c230 K219 all0)
                        rw [hPst]
                        exact own_retP X300 (v := (some (.ref x219))) (Q := Q_de Z n f1 f2 o kc h0 n0) (fun h => by rw [Bd.returns] at h; cases h) Bd.notSynchronized (fun fs hr => retOut X300 hx Bd.returns rfl (Or.inr (Or.inr (Or.inr (Or.inr ⟨rfl, rfl, rfl⟩)))) (dE 25 rfl) hr) (by decide) (by decide) (by rw [e300]; exact ⟨_, rfl, N300, c302, A219, (ed ▸ S219), M219⟩)
                    · refine o_icmpYes X203.here hx (pc0 := 39) (pc' := 66) rfl (dE 9 rfl) rfl (flt b10).2.1 (by decide) (by decide) ?_
                      have en : n = 10 := own_n1 (9 : Int32) (10 : Int32) b9 b10 (by decide)
                      have ed : (512 : Int64) = own_d n := by rw [en]; decide
                      refine o_aloadN X203.here hx (dE 20 rfl) rfl rfl ?_
                      have c303 := (c198.keep K203 all0)
                      refine p_getS2 X203 hx hZ hown (host := "") (Or.inl (g_ hw 6 rfl)) Via.refl rfl (SL.ext c303.2) (dE 21 rfl) fun T304 X304 e304 => ?_
                      have c305 := (Y2).ext c303.2
                      have c307 := (Nat.le_trans c202 K203.1)
                      obtain ⟨cq306, kq306, q306a, q306b, q306c⟩ := isOf hZ e304 A203
                      refine own_cP X304 (X304.virtualBack hx (y := Mn0) (z := Mn0) hown (mvT hZ (g_ hw 8 rfl)) (mvT hZ (g_ hw 9 rfl)) (notFace_of_selects (args := #[]) (mvT hZ (g_ hw 11 rfl))) (mvT hZ (g_ hw 11 rfl)) (mvT hZ (g_ hw 10 rfl)) (by decide) (backOf (W := 0) (rm_ctL l Z a0 hw [] x203 f2 (512 : Int64) (3600 : Int64) T203.heap n0 c307 S203 c305 (by decide)) hZ (g_ hw 13 rfl) (g_ hw 12 rfl) (by decide) (by decide)) q306a q306c (g := (mkF m 70 #[.val (.int n), .val (.ref x203), .val (.int (10 : Int32))] [(.ref f2), (.ref x203)])) rfl (by rw [hml]; rfl) (Steps.refl _) (argsL := [(.ref f2)]) (rest := []) (lenOf own_pd37 rfl) rfl (by show 2 * 0 + _ ≤ _; exact Nat.le_of_eq rfl) (dE 22 rfl) (fun _ _ => ⟨rfl, e304, (by decide : 162 + 0 ≤ _), (by decide : 540 + 0 ≤ _)⟩)) fun v306 T306 L306 X306 hQ306 => ?_
                      obtain ⟨rfl, Nq306, e306⟩ := hQ306
                      have N306 := Fr.app N203 Nq306
                      show own_Go p e below Pst (T306.setTop (mkF m 73 #[.val (.int n), .val (.ref x203), .val (.int (10 : Int32))] [(.int (-1 : Int32))]))
                      refine o_ifNo X306.here hx (dE 23 rfl) rfl ((if0 _ _).trans (tlt (by decide)).2.1) ?_
                      refine o_aloadN X306.here hx (dE 26 rfl) rfl rfl ?_
                      refine o_goto X306.here hx (pc0 := 77) (pc' := 83) rfl (dE 27 rfl) (by decide) (by decide) ?_
                      have c308 := (Keep.trans c213 K203 all0)
                      rw [hPst]
                      exact own_retP X306 (v := (some (.ref x203))) (Q := Q_de Z n f1 f2 o kc h0 n0) (fun h => by rw [Bd.returns] at h; cases h) Bd.notSynchronized (fun fs hr => retOut X306 hx Bd.returns rfl (Or.inr (Or.inr (Or.inr (Or.inr ⟨rfl, rfl, rfl⟩)))) (dE 25 rfl) hr) (by decide) (by decide) (by rw [e306]; exact ⟨_, rfl, N306, c308, A203, (ed ▸ S203), M203⟩)
                  · refine o_icmpYes X188.here hx (pc0 := 39) (pc' := 66) rfl (dE 9 rfl) rfl (flt b9).2.1 (by decide) (by decide) ?_
                    have en : n = 9 := own_n1 (8 : Int32) (9 : Int32) b8 b9 (by decide)
                    have ed : (256 : Int64) = own_d n := by rw [en]; decide
                    refine o_aloadN X188.here hx (dE 20 rfl) rfl rfl ?_
                    have c309 := (c183.keep K188 all0)
                    refine p_getS2 X188 hx hZ hown (host := "") (Or.inl (g_ hw 6 rfl)) Via.refl rfl (SL.ext c309.2) (dE 21 rfl) fun T310 X310 e310 => ?_
                    have c311 := (Y2).ext c309.2
                    have c313 := (Nat.le_trans c187 K188.1)
                    obtain ⟨cq312, kq312, q312a, q312b, q312c⟩ := isOf hZ e310 A188
                    refine own_cP X310 (X310.virtualBack hx (y := Mn0) (z := Mn0) hown (mvT hZ (g_ hw 8 rfl)) (mvT hZ (g_ hw 9 rfl)) (notFace_of_selects (args := #[]) (mvT hZ (g_ hw 11 rfl))) (mvT hZ (g_ hw 11 rfl)) (mvT hZ (g_ hw 10 rfl)) (by decide) (backOf (W := 0) (rm_ctL l Z a0 hw [] x188 f2 (256 : Int64) (3600 : Int64) T188.heap n0 c313 S188 c311 (by decide)) hZ (g_ hw 13 rfl) (g_ hw 12 rfl) (by decide) (by decide)) q312a q312c (g := (mkF m 70 #[.val (.int n), .val (.ref x188), .val (.int (9 : Int32))] [(.ref f2), (.ref x188)])) rfl (by rw [hml]; rfl) (Steps.refl _) (argsL := [(.ref f2)]) (rest := []) (lenOf own_pd37 rfl) rfl (by show 2 * 0 + _ ≤ _; exact Nat.le_of_eq rfl) (dE 22 rfl) (fun _ _ => ⟨rfl, e310, (by decide : 144 + 0 ≤ _), (by decide : 480 + 0 ≤ _)⟩)) fun v312 T312 L312 X312 hQ312 => ?_
                    obtain ⟨rfl, Nq312, e312⟩ := hQ312
                    have N312 := Fr.app N188 Nq312
                    show own_Go p e below Pst (T312.setTop (mkF m 73 #[.val (.int n), .val (.ref x188), .val (.int (9 : Int32))] [(.int (-1 : Int32))]))
                    refine o_ifNo X312.here hx (dE 23 rfl) rfl ((if0 _ _).trans (tlt (by decide)).2.1) ?_
                    refine o_aloadN X312.here hx (dE 26 rfl) rfl rfl ?_
                    refine o_goto X312.here hx (pc0 := 77) (pc' := 83) rfl (dE 27 rfl) (by decide) (by decide) ?_
                    have c314 := (Keep.trans c197 K188 all0)
                    rw [hPst]
                    exact own_retP X312 (v := (some (.ref x188))) (Q := Q_de Z n f1 f2 o kc h0 n0) (fun h => by rw [Bd.returns] at h; cases h) Bd.notSynchronized (fun fs hr => retOut X312 hx Bd.returns rfl (Or.inr (Or.inr (Or.inr (Or.inr ⟨rfl, rfl, rfl⟩)))) (dE 25 rfl) hr) (by decide) (by decide) (by rw [e312]; exact ⟨_, rfl, N312, c314, A188, (ed ▸ S188), M188⟩)
                · refine o_icmpYes X174.here hx (pc0 := 39) (pc' := 66) rfl (dE 9 rfl) rfl (flt b8).2.1 (by decide) (by decide) ?_
                  have en : n = 8 := own_n1 (7 : Int32) (8 : Int32) b7 b8 (by decide)
                  have ed : (128 : Int64) = own_d n := by rw [en]; decide
                  refine o_aloadN X174.here hx (dE 20 rfl) rfl rfl ?_
                  have c315 := (c169.keep K174 all0)
                  refine p_getS2 X174 hx hZ hown (host := "") (Or.inl (g_ hw 6 rfl)) Via.refl rfl (SL.ext c315.2) (dE 21 rfl) fun T316 X316 e316 => ?_
                  have c317 := (Y2).ext c315.2
                  have c319 := (Nat.le_trans c173 K174.1)
                  obtain ⟨cq318, kq318, q318a, q318b, q318c⟩ := isOf hZ e316 A174
                  refine own_cP X316 (X316.virtualBack hx (y := Mn0) (z := Mn0) hown (mvT hZ (g_ hw 8 rfl)) (mvT hZ (g_ hw 9 rfl)) (notFace_of_selects (args := #[]) (mvT hZ (g_ hw 11 rfl))) (mvT hZ (g_ hw 11 rfl)) (mvT hZ (g_ hw 10 rfl)) (by decide) (backOf (W := 0) (rm_ctL l Z a0 hw [] x174 f2 (128 : Int64) (3600 : Int64) T174.heap n0 c319 S174 c317 (by decide)) hZ (g_ hw 13 rfl) (g_ hw 12 rfl) (by decide) (by decide)) q318a q318c (g := (mkF m 70 #[.val (.int n), .val (.ref x174), .val (.int (8 : Int32))] [(.ref f2), (.ref x174)])) rfl (by rw [hml]; rfl) (Steps.refl _) (argsL := [(.ref f2)]) (rest := []) (lenOf own_pd37 rfl) rfl (by show 2 * 0 + _ ≤ _; exact Nat.le_of_eq rfl) (dE 22 rfl) (fun _ _ => ⟨rfl, e316, (by decide : 126 + 0 ≤ _), (by decide : 420 + 0 ≤ _)⟩)) fun v318 T318 L318 X318 hQ318 => ?_
                  obtain ⟨rfl, Nq318, e318⟩ := hQ318
                  have N318 := Fr.app N174 Nq318
                  show own_Go p e below Pst (T318.setTop (mkF m 73 #[.val (.int n), .val (.ref x174), .val (.int (8 : Int32))] [(.int (-1 : Int32))]))
                  refine o_ifNo X318.here hx (dE 23 rfl) rfl ((if0 _ _).trans (tlt (by decide)).2.1) ?_
                  refine o_aloadN X318.here hx (dE 26 rfl) rfl rfl ?_
                  refine o_goto X318.here hx (pc0 := 77) (pc' := 83) rfl (dE 27 rfl) (by decide) (by decide) ?_
                  have c320 := (Keep.trans c182 K174 all0)
                  rw [hPst]
                  exact own_retP X318 (v := (some (.ref x174))) (Q := Q_de Z n f1 f2 o kc h0 n0) (fun h => by rw [Bd.returns] at h; cases h) Bd.notSynchronized (fun fs hr => retOut X318 hx Bd.returns rfl (Or.inr (Or.inr (Or.inr (Or.inr ⟨rfl, rfl, rfl⟩)))) (dE 25 rfl) hr) (by decide) (by decide) (by rw [e318]; exact ⟨_, rfl, N318, c320, A174, (ed ▸ S174), M174⟩)
              · refine o_icmpYes X161.here hx (pc0 := 39) (pc' := 66) rfl (dE 9 rfl) rfl (flt b7).2.1 (by decide) (by decide) ?_
                have en : n = 7 := own_n1 (6 : Int32) (7 : Int32) b6 b7 (by decide)
                have ed : (64 : Int64) = own_d n := by rw [en]; decide
                refine o_aloadN X161.here hx (dE 20 rfl) rfl rfl ?_
                have c321 := (c156.keep K161 all0)
                refine p_getS2 X161 hx hZ hown (host := "") (Or.inl (g_ hw 6 rfl)) Via.refl rfl (SL.ext c321.2) (dE 21 rfl) fun T322 X322 e322 => ?_
                have c323 := (Y2).ext c321.2
                have c325 := (Nat.le_trans c160 K161.1)
                obtain ⟨cq324, kq324, q324a, q324b, q324c⟩ := isOf hZ e322 A161
                refine own_cP X322 (X322.virtualBack hx (y := Mn0) (z := Mn0) hown (mvT hZ (g_ hw 8 rfl)) (mvT hZ (g_ hw 9 rfl)) (notFace_of_selects (args := #[]) (mvT hZ (g_ hw 11 rfl))) (mvT hZ (g_ hw 11 rfl)) (mvT hZ (g_ hw 10 rfl)) (by decide) (backOf (W := 0) (rm_ctL l Z a0 hw [] x161 f2 (64 : Int64) (3600 : Int64) T161.heap n0 c325 S161 c323 (by decide)) hZ (g_ hw 13 rfl) (g_ hw 12 rfl) (by decide) (by decide)) q324a q324c (g := (mkF m 70 #[.val (.int n), .val (.ref x161), .val (.int (7 : Int32))] [(.ref f2), (.ref x161)])) rfl (by rw [hml]; rfl) (Steps.refl _) (argsL := [(.ref f2)]) (rest := []) (lenOf own_pd37 rfl) rfl (by show 2 * 0 + _ ≤ _; exact Nat.le_of_eq rfl) (dE 22 rfl) (fun _ _ => ⟨rfl, e322, (by decide : 108 + 0 ≤ _), (by decide : 360 + 0 ≤ _)⟩)) fun v324 T324 L324 X324 hQ324 => ?_
                obtain ⟨rfl, Nq324, e324⟩ := hQ324
                have N324 := Fr.app N161 Nq324
                show own_Go p e below Pst (T324.setTop (mkF m 73 #[.val (.int n), .val (.ref x161), .val (.int (7 : Int32))] [(.int (-1 : Int32))]))
                refine o_ifNo X324.here hx (dE 23 rfl) rfl ((if0 _ _).trans (tlt (by decide)).2.1) ?_
                refine o_aloadN X324.here hx (dE 26 rfl) rfl rfl ?_
                refine o_goto X324.here hx (pc0 := 77) (pc' := 83) rfl (dE 27 rfl) (by decide) (by decide) ?_
                have c326 := (Keep.trans c168 K161 all0)
                rw [hPst]
                exact own_retP X324 (v := (some (.ref x161))) (Q := Q_de Z n f1 f2 o kc h0 n0) (fun h => by rw [Bd.returns] at h; cases h) Bd.notSynchronized (fun fs hr => retOut X324 hx Bd.returns rfl (Or.inr (Or.inr (Or.inr (Or.inr ⟨rfl, rfl, rfl⟩)))) (dE 25 rfl) hr) (by decide) (by decide) (by rw [e324]; exact ⟨_, rfl, N324, c326, A161, (ed ▸ S161), M161⟩)
            · refine o_icmpYes X149.here hx (pc0 := 39) (pc' := 66) rfl (dE 9 rfl) rfl (flt b6).2.1 (by decide) (by decide) ?_
              have en : n = 6 := own_n1 (5 : Int32) (6 : Int32) b5 b6 (by decide)
              have ed : (32 : Int64) = own_d n := by rw [en]; decide
              refine o_aloadN X149.here hx (dE 20 rfl) rfl rfl ?_
              have c327 := (c144.keep K149 all0)
              refine p_getS2 X149 hx hZ hown (host := "") (Or.inl (g_ hw 6 rfl)) Via.refl rfl (SL.ext c327.2) (dE 21 rfl) fun T328 X328 e328 => ?_
              have c329 := (Y2).ext c327.2
              have c331 := (Nat.le_trans c148 K149.1)
              obtain ⟨cq330, kq330, q330a, q330b, q330c⟩ := isOf hZ e328 A149
              refine own_cP X328 (X328.virtualBack hx (y := Mn0) (z := Mn0) hown (mvT hZ (g_ hw 8 rfl)) (mvT hZ (g_ hw 9 rfl)) (notFace_of_selects (args := #[]) (mvT hZ (g_ hw 11 rfl))) (mvT hZ (g_ hw 11 rfl)) (mvT hZ (g_ hw 10 rfl)) (by decide) (backOf (W := 0) (rm_ctL l Z a0 hw [] x149 f2 (32 : Int64) (3600 : Int64) T149.heap n0 c331 S149 c329 (by decide)) hZ (g_ hw 13 rfl) (g_ hw 12 rfl) (by decide) (by decide)) q330a q330c (g := (mkF m 70 #[.val (.int n), .val (.ref x149), .val (.int (6 : Int32))] [(.ref f2), (.ref x149)])) rfl (by rw [hml]; rfl) (Steps.refl _) (argsL := [(.ref f2)]) (rest := []) (lenOf own_pd37 rfl) rfl (by show 2 * 0 + _ ≤ _; exact Nat.le_of_eq rfl) (dE 22 rfl) (fun _ _ => ⟨rfl, e328, (by decide : 90 + 0 ≤ _), (by decide : 300 + 0 ≤ _)⟩)) fun v330 T330 L330 X330 hQ330 => ?_
              obtain ⟨rfl, Nq330, e330⟩ := hQ330
              have N330 := Fr.app N149 Nq330
              show own_Go p e below Pst (T330.setTop (mkF m 73 #[.val (.int n), .val (.ref x149), .val (.int (6 : Int32))] [(.int (-1 : Int32))]))
              refine o_ifNo X330.here hx (dE 23 rfl) rfl ((if0 _ _).trans (tlt (by decide)).2.1) ?_
              refine o_aloadN X330.here hx (dE 26 rfl) rfl rfl ?_
              refine o_goto X330.here hx (pc0 := 77) (pc' := 83) rfl (dE 27 rfl) (by decide) (by decide) ?_
              have c332 := (Keep.trans c155 K149 all0)
              rw [hPst]
              exact own_retP X330 (v := (some (.ref x149))) (Q := Q_de Z n f1 f2 o kc h0 n0) (fun h => by rw [Bd.returns] at h; cases h) Bd.notSynchronized (fun fs hr => retOut X330 hx Bd.returns rfl (Or.inr (Or.inr (Or.inr (Or.inr ⟨rfl, rfl, rfl⟩)))) (dE 25 rfl) hr) (by decide) (by decide) (by rw [e330]; exact ⟨_, rfl, N330, c332, A149, (ed ▸ S149), M149⟩)
          · refine o_icmpYes X138.here hx (pc0 := 39) (pc' := 66) rfl (dE 9 rfl) rfl (flt b5).2.1 (by decide) (by decide) ?_
            have en : n = 5 := own_n1 (4 : Int32) (5 : Int32) b4 b5 (by decide)
            have ed : (16 : Int64) = own_d n := by rw [en]; decide
            refine o_aloadN X138.here hx (dE 20 rfl) rfl rfl ?_
            have c333 := (c133.keep K138 all0)
            refine p_getS2 X138 hx hZ hown (host := "") (Or.inl (g_ hw 6 rfl)) Via.refl rfl (SL.ext c333.2) (dE 21 rfl) fun T334 X334 e334 => ?_
            have c335 := (Y2).ext c333.2
            have c337 := (Nat.le_trans c137 K138.1)
            obtain ⟨cq336, kq336, q336a, q336b, q336c⟩ := isOf hZ e334 A138
            refine own_cP X334 (X334.virtualBack hx (y := Mn0) (z := Mn0) hown (mvT hZ (g_ hw 8 rfl)) (mvT hZ (g_ hw 9 rfl)) (notFace_of_selects (args := #[]) (mvT hZ (g_ hw 11 rfl))) (mvT hZ (g_ hw 11 rfl)) (mvT hZ (g_ hw 10 rfl)) (by decide) (backOf (W := 0) (rm_ctL l Z a0 hw [] x138 f2 (16 : Int64) (3600 : Int64) T138.heap n0 c337 S138 c335 (by decide)) hZ (g_ hw 13 rfl) (g_ hw 12 rfl) (by decide) (by decide)) q336a q336c (g := (mkF m 70 #[.val (.int n), .val (.ref x138), .val (.int (5 : Int32))] [(.ref f2), (.ref x138)])) rfl (by rw [hml]; rfl) (Steps.refl _) (argsL := [(.ref f2)]) (rest := []) (lenOf own_pd37 rfl) rfl (by show 2 * 0 + _ ≤ _; exact Nat.le_of_eq rfl) (dE 22 rfl) (fun _ _ => ⟨rfl, e334, (by decide : 72 + 0 ≤ _), (by decide : 240 + 0 ≤ _)⟩)) fun v336 T336 L336 X336 hQ336 => ?_
            obtain ⟨rfl, Nq336, e336⟩ := hQ336
            have N336 := Fr.app N138 Nq336
            show own_Go p e below Pst (T336.setTop (mkF m 73 #[.val (.int n), .val (.ref x138), .val (.int (5 : Int32))] [(.int (-1 : Int32))]))
            refine o_ifNo X336.here hx (dE 23 rfl) rfl ((if0 _ _).trans (tlt (by decide)).2.1) ?_
            refine o_aloadN X336.here hx (dE 26 rfl) rfl rfl ?_
            refine o_goto X336.here hx (pc0 := 77) (pc' := 83) rfl (dE 27 rfl) (by decide) (by decide) ?_
            have c338 := (Keep.trans c143 K138 all0)
            rw [hPst]
            exact own_retP X336 (v := (some (.ref x138))) (Q := Q_de Z n f1 f2 o kc h0 n0) (fun h => by rw [Bd.returns] at h; cases h) Bd.notSynchronized (fun fs hr => retOut X336 hx Bd.returns rfl (Or.inr (Or.inr (Or.inr (Or.inr ⟨rfl, rfl, rfl⟩)))) (dE 25 rfl) hr) (by decide) (by decide) (by rw [e336]; exact ⟨_, rfl, N336, c338, A138, (ed ▸ S138), M138⟩)
        · refine o_icmpYes X128.here hx (pc0 := 39) (pc' := 66) rfl (dE 9 rfl) rfl (flt b4).2.1 (by decide) (by decide) ?_
          have en : n = 4 := own_n1 (3 : Int32) (4 : Int32) b3 b4 (by decide)
          have ed : (8 : Int64) = own_d n := by rw [en]; decide
          refine o_aloadN X128.here hx (dE 20 rfl) rfl rfl ?_
          have c339 := (c123.keep K128 all0)
          refine p_getS2 X128 hx hZ hown (host := "") (Or.inl (g_ hw 6 rfl)) Via.refl rfl (SL.ext c339.2) (dE 21 rfl) fun T340 X340 e340 => ?_
          have c341 := (Y2).ext c339.2
          have c343 := (Nat.le_trans c127 K128.1)
          obtain ⟨cq342, kq342, q342a, q342b, q342c⟩ := isOf hZ e340 A128
          refine own_cP X340 (X340.virtualBack hx (y := Mn0) (z := Mn0) hown (mvT hZ (g_ hw 8 rfl)) (mvT hZ (g_ hw 9 rfl)) (notFace_of_selects (args := #[]) (mvT hZ (g_ hw 11 rfl))) (mvT hZ (g_ hw 11 rfl)) (mvT hZ (g_ hw 10 rfl)) (by decide) (backOf (W := 0) (rm_ctL l Z a0 hw [] x128 f2 (8 : Int64) (3600 : Int64) T128.heap n0 c343 S128 c341 (by decide)) hZ (g_ hw 13 rfl) (g_ hw 12 rfl) (by decide) (by decide)) q342a q342c (g := (mkF m 70 #[.val (.int n), .val (.ref x128), .val (.int (4 : Int32))] [(.ref f2), (.ref x128)])) rfl (by rw [hml]; rfl) (Steps.refl _) (argsL := [(.ref f2)]) (rest := []) (lenOf own_pd37 rfl) rfl (by show 2 * 0 + _ ≤ _; exact Nat.le_of_eq rfl) (dE 22 rfl) (fun _ _ => ⟨rfl, e340, (by decide : 54 + 0 ≤ _), (by decide : 180 + 0 ≤ _)⟩)) fun v342 T342 L342 X342 hQ342 => ?_
          obtain ⟨rfl, Nq342, e342⟩ := hQ342
          have N342 := Fr.app N128 Nq342
          show own_Go p e below Pst (T342.setTop (mkF m 73 #[.val (.int n), .val (.ref x128), .val (.int (4 : Int32))] [(.int (-1 : Int32))]))
          refine o_ifNo X342.here hx (dE 23 rfl) rfl ((if0 _ _).trans (tlt (by decide)).2.1) ?_
          refine o_aloadN X342.here hx (dE 26 rfl) rfl rfl ?_
          refine o_goto X342.here hx (pc0 := 77) (pc' := 83) rfl (dE 27 rfl) (by decide) (by decide) ?_
          have c344 := (Keep.trans c132 K128 all0)
          rw [hPst]
          exact own_retP X342 (v := (some (.ref x128))) (Q := Q_de Z n f1 f2 o kc h0 n0) (fun h => by rw [Bd.returns] at h; cases h) Bd.notSynchronized (fun fs hr => retOut X342 hx Bd.returns rfl (Or.inr (Or.inr (Or.inr (Or.inr ⟨rfl, rfl, rfl⟩)))) (dE 25 rfl) hr) (by decide) (by decide) (by rw [e342]; exact ⟨_, rfl, N342, c344, A128, (ed ▸ S128), M128⟩)
      · refine o_icmpYes X119.here hx (pc0 := 39) (pc' := 66) rfl (dE 9 rfl) rfl (flt b3).2.1 (by decide) (by decide) ?_
        have en : n = 3 := own_n1 (2 : Int32) (3 : Int32) b2 b3 (by decide)
        have ed : (4 : Int64) = own_d n := by rw [en]; decide
        refine o_aloadN X119.here hx (dE 20 rfl) rfl rfl ?_
        have c345 := (c114.keep K119 all0)
        refine p_getS2 X119 hx hZ hown (host := "") (Or.inl (g_ hw 6 rfl)) Via.refl rfl (SL.ext c345.2) (dE 21 rfl) fun T346 X346 e346 => ?_
        have c347 := (Y2).ext c345.2
        have c349 := (Nat.le_trans c118 K119.1)
        obtain ⟨cq348, kq348, q348a, q348b, q348c⟩ := isOf hZ e346 A119
        refine own_cP X346 (X346.virtualBack hx (y := Mn0) (z := Mn0) hown (mvT hZ (g_ hw 8 rfl)) (mvT hZ (g_ hw 9 rfl)) (notFace_of_selects (args := #[]) (mvT hZ (g_ hw 11 rfl))) (mvT hZ (g_ hw 11 rfl)) (mvT hZ (g_ hw 10 rfl)) (by decide) (backOf (W := 0) (rm_ctL l Z a0 hw [] x119 f2 (4 : Int64) (3600 : Int64) T119.heap n0 c349 S119 c347 (by decide)) hZ (g_ hw 13 rfl) (g_ hw 12 rfl) (by decide) (by decide)) q348a q348c (g := (mkF m 70 #[.val (.int n), .val (.ref x119), .val (.int (3 : Int32))] [(.ref f2), (.ref x119)])) rfl (by rw [hml]; rfl) (Steps.refl _) (argsL := [(.ref f2)]) (rest := []) (lenOf own_pd37 rfl) rfl (by show 2 * 0 + _ ≤ _; exact Nat.le_of_eq rfl) (dE 22 rfl) (fun _ _ => ⟨rfl, e346, (by decide : 36 + 0 ≤ _), (by decide : 120 + 0 ≤ _)⟩)) fun v348 T348 L348 X348 hQ348 => ?_
        obtain ⟨rfl, Nq348, e348⟩ := hQ348
        have N348 := Fr.app N119 Nq348
        show own_Go p e below Pst (T348.setTop (mkF m 73 #[.val (.int n), .val (.ref x119), .val (.int (3 : Int32))] [(.int (-1 : Int32))]))
        refine o_ifNo X348.here hx (dE 23 rfl) rfl ((if0 _ _).trans (tlt (by decide)).2.1) ?_
        refine o_aloadN X348.here hx (dE 26 rfl) rfl rfl ?_
        refine o_goto X348.here hx (pc0 := 77) (pc' := 83) rfl (dE 27 rfl) (by decide) (by decide) ?_
        have c350 := (Keep.trans c122 K119 all0)
        rw [hPst]
        exact own_retP X348 (v := (some (.ref x119))) (Q := Q_de Z n f1 f2 o kc h0 n0) (fun h => by rw [Bd.returns] at h; cases h) Bd.notSynchronized (fun fs hr => retOut X348 hx Bd.returns rfl (Or.inr (Or.inr (Or.inr (Or.inr ⟨rfl, rfl, rfl⟩)))) (dE 25 rfl) hr) (by decide) (by decide) (by rw [e348]; exact ⟨_, rfl, N348, c350, A119, (ed ▸ S119), M119⟩)
    · refine o_icmpYes X110.here hx (pc0 := 39) (pc' := 66) rfl (dE 9 rfl) rfl (flt b2).2.1 (by decide) (by decide) ?_
      have en : n = 2 := own_n1 (1 : Int32) (2 : Int32) b1 b2 (by decide)
      have ed : (2 : Int64) = own_d n := by rw [en]; decide
      refine o_aloadN X110.here hx (dE 20 rfl) rfl rfl ?_
      have c351 := (O.keep K110 all0)
      refine p_getS2 X110 hx hZ hown (host := "") (Or.inl (g_ hw 6 rfl)) Via.refl rfl (SL.ext c351.2) (dE 21 rfl) fun T352 X352 e352 => ?_
      have c353 := (Y2).ext c351.2
      have c355 := (Nat.le_trans Z0 K110.1)
      obtain ⟨cq354, kq354, q354a, q354b, q354c⟩ := isOf hZ e352 A110
      refine own_cP X352 (X352.virtualBack hx (y := Mn0) (z := Mn0) hown (mvT hZ (g_ hw 8 rfl)) (mvT hZ (g_ hw 9 rfl)) (notFace_of_selects (args := #[]) (mvT hZ (g_ hw 11 rfl))) (mvT hZ (g_ hw 11 rfl)) (mvT hZ (g_ hw 10 rfl)) (by decide) (backOf (W := 0) (rm_ctL l Z a0 hw [] x110 f2 (2 : Int64) (3600 : Int64) T110.heap n0 c355 S110 c353 (by decide)) hZ (g_ hw 13 rfl) (g_ hw 12 rfl) (by decide) (by decide)) q354a q354c (g := (mkF m 70 #[.val (.int n), .val (.ref x110), .val (.int (2 : Int32))] [(.ref f2), (.ref x110)])) rfl (by rw [hml]; rfl) (Steps.refl _) (argsL := [(.ref f2)]) (rest := []) (lenOf own_pd37 rfl) rfl (by show 2 * 0 + _ ≤ _; exact Nat.le_of_eq rfl) (dE 22 rfl) (fun _ _ => ⟨rfl, e352, (by decide : 18 + 0 ≤ _), (by decide : 60 + 0 ≤ _)⟩)) fun v354 T354 L354 X354 hQ354 => ?_
      obtain ⟨rfl, Nq354, e354⟩ := hQ354
      have N354 := Fr.app N110 Nq354
      show own_Go p e below Pst (T354.setTop (mkF m 73 #[.val (.int n), .val (.ref x110), .val (.int (2 : Int32))] [(.int (-1 : Int32))]))
      refine o_ifNo X354.here hx (dE 23 rfl) rfl ((if0 _ _).trans (tlt (by decide)).2.1) ?_
      refine o_aloadN X354.here hx (dE 26 rfl) rfl rfl ?_
      refine o_goto X354.here hx (pc0 := 77) (pc' := 83) rfl (dE 27 rfl) (by decide) (by decide) ?_
      have c356 := (Keep.trans (Keep.refl h0 []) K110 all0)
      rw [hPst]
      exact own_retP X354 (v := (some (.ref x110))) (Q := Q_de Z n f1 f2 o kc h0 n0) (fun h => by rw [Bd.returns] at h; cases h) Bd.notSynchronized (fun fs hr => retOut X354 hx Bd.returns rfl (Or.inr (Or.inr (Or.inr (Or.inr ⟨rfl, rfl, rfl⟩)))) (dE 25 rfl) hr) (by decide) (by decide) (by rw [e354]; exact ⟨_, rfl, N354, c356, A110, (ed ▸ S110), M110⟩)
  · refine o_icmpYes X101.here hx (pc0 := 39) (pc' := 66) rfl (dE 9 rfl) rfl (flt b1).2.1 (by decide) (by decide) ?_
    have en : n = 1 := own_n0 hn b1
    have ed : (1 : Int64) = own_d n := by rw [en]; decide
    refine o_aloadN X101.here hx (dE 20 rfl) rfl rfl ?_
    refine p_getS2 X101 hx hZ hown (host := "") (Or.inl (g_ hw 6 rfl)) Via.refl e101 (SL.ext O.2) (dE 21 rfl) fun T357 X357 e357 => ?_
    have c358 := (Y1).ext O.2
    have c359 := (Y2).ext O.2
    have c361 := (X1).ext O.2
    obtain ⟨cq360, kq360, q360a, q360b, q360c⟩ := isOf hZ e357 c361
    refine own_cP X357 (X357.virtualBack hx (y := Mn0) (z := Mn0) hown (mvT hZ (g_ hw 8 rfl)) (mvT hZ (g_ hw 9 rfl)) (notFace_of_selects (args := #[]) (mvT hZ (g_ hw 11 rfl))) (mvT hZ (g_ hw 11 rfl)) (mvT hZ (g_ hw 10 rfl)) (by decide) (backOf (W := 0) (rm_ctL l Z a0 hw [] f1 f2 (1 : Int64) (3600 : Int64) h0 n0 Z0 c358 c359 (by decide)) hZ (g_ hw 13 rfl) (g_ hw 12 rfl) (by decide) (by decide)) q360a q360c (g := (mkF m 70 #[.val (.int n), .val (.ref f1), .val (.int (1 : Int32))] [(.ref f2), (.ref f1)])) rfl (by rw [hml]; rfl) (Steps.refl _) (argsL := [(.ref f2)]) (rest := []) (lenOf own_pd37 rfl) rfl (by show 2 * 0 + _ ≤ _; exact Nat.le_of_eq rfl) (dE 22 rfl) (fun _ _ => ⟨rfl, e357, (by decide : 0 + 0 ≤ _), (by decide : 0 + 0 ≤ _)⟩)) fun v360 T360 L360 X360 hQ360 => ?_
    obtain ⟨rfl, Nq360, e360⟩ := hQ360
    have N360 := Fr.app N0 Nq360
    show own_Go p e below Pst (T360.setTop (mkF m 73 #[.val (.int n), .val (.ref f1), .val (.int (1 : Int32))] [(.int (-1 : Int32))]))
    refine o_ifNo X360.here hx (dE 23 rfl) rfl ((if0 _ _).trans (tlt (by decide)).2.1) ?_
    refine o_aloadN X360.here hx (dE 26 rfl) rfl rfl ?_
    refine o_goto X360.here hx (pc0 := 77) (pc' := 83) rfl (dE 27 rfl) (by decide) (by decide) ?_
    have c362 := (X1).ext O.2
    have c363 := (Y1).ext O.2
    have c364 := (W1).ext O.2
    rw [hPst]
    exact own_retP X360 (v := (some (.ref f1))) (Q := Q_de Z n f1 f2 o kc h0 n0) (fun h => by rw [Bd.returns] at h; cases h) Bd.notSynchronized (fun fs hr => retOut X360 hx Bd.returns rfl (Or.inr (Or.inr (Or.inr (Or.inr ⟨rfl, rfl, rfl⟩)))) (dE 25 rfl) hr) (by decide) (by decide) (by rw [e360]; exact ⟨_, rfl, N360, (Keep.refl h0 []), c362, (ed ▸ c363), c364⟩)
def own_q (p1 p2 : Int32) : Int32 := if p2 &&& (1 : Int32) = 0 then (if p1 &&& (2147483647 : Int32) = 0 then 1 else p1 &&& (2147483647 : Int32)) else (p1 &&& (15 : Int32)) + (1 : Int32)
theorem own_lc (x : Int64) : lcmpW x x = 0 := (lw_eq x x).mpr rfl
theorem own_e1 {n : Int32} (h : (12 : Int32) < n) : lcmpW (own_d n) (3600 : Int64) = 0 := by unfold own_d; rw [if_pos h]; exact own_lc _
theorem own_e2 {n : Int32} (h : ¬ (12 : Int32) < n) : lcmpW (own_d n) ((1 : Int64) <<< ((n - (1 : Int32)) &&& 0x3f).toInt64) = 0 := by unfold own_d; rw [if_neg h]; exact own_lc _
theorem own_pd39 : parseMethodDescriptor "(I)Ljava/time/Duration;" = some ⟨[.int], some (.object "java/time/Duration")⟩ := by decide +kernel
theorem own_pn_com_example_tidewheel_tidewheel_rules_RetriesDelayPinLaw : plainName "com/example/tidewheel/tidewheel/rules/RetriesDelayPinLaw" = true := by first | (simp [plainName, overriddenIn]; done) | decide +kernel
theorem own_ef_II_maxLocals (m : MethodId) (x0 : Int32) (x1 : Int32) : entryFrame m #[(.int x0), (.int x1)] maxLocals = mkF m 0 #[.val (.int x0), .val (.int x1), .unset, .unset, .unset, .unset] [] := by first | (simp [entryFrame, mkF, argsToLocals, Value.category, maxLocals]; done) | rfl
def Q0 (Z : State) (p1 p2 n : Int32) (f1 f2 : Addr) (o : Nat → Addr) (kc : Nat → ClassId) (h0 : Heap) (n0 : Nat) (v : Option Value) (h : Heap) (L : List Loc) : Prop := v = some (.int 1) ∧ Fr n0 L
theorem rm0 (l : Launch) (Z : State) (a0 : Array Value) (hw : own_H a0 Z) (ws : List Jvm.Cond) (p1 p2 n : Int32) (f1 f2 : Addr) (o : Nat → Addr) (kc : Nat → ClassId) (h0 : Heap) (n0 : Nat) (Z0 : n0 ≤ h0.size) (O : Old Z n0 h0) (G : own_G Z o kc) (SF : Sta Z Z.heap "com/example/tidewheel/tidewheel/rules/Retries" "FIRST_DELAY" "Ljava/time/Duration;" (.ref f1)) (SL : Sta Z Z.heap "com/example/tidewheel/tidewheel/rules/Retries" "LONGEST_DELAY" "Ljava/time/Duration;" (.ref f2)) (X1 : Exa Z Z.heap f1 "java/time/Duration") (X2 : Exa Z Z.heap f2 "java/time/Duration") (Y1 : Fld Z Z.heap f1 "java/time/Duration" "seconds" "J" (.long (1 : Int64))) (Y2 : Fld Z Z.heap f2 "java/time/Duration" "seconds" "J" (.long (3600 : Int64))) (W1 : Fld Z Z.heap f1 "java/time/Duration" "nanos" "I" (.int (0 : Int32))) (W2 : Fld Z Z.heap f2 "java/time/Duration" "nanos" "I" (.int (0 : Int32))) (hq : own_q p1 p2 = n) (hn : ¬ n < 1) :
    MetFree l x (head1 (Jvm.Cond.code x code maxLocals ret :: ws) room_1) (fun a U => a = #[(.int p1), (.int p2)] ∧ Z.Warmed39 U.vm ∧ U.heap = h0) (fun _ _ _ _ _ => True) (fun _ U oc U' => ∃ v L, oc = .returned v ∧ Q0 Z p1 p2 n f1 f2 o kc h0 n0 v U'.heap L ∧ FrameEnd U oc U' L 400 1344) := by
  refine MetFree.of_bodySF (plainFor_of_name own_pn_com_example_tidewheel_tidewheel_rules_RetriesDelayPinLaw) hisR ?_
  intro p e s m args below meth c s₁ Bd hml0 hP hK
  obtain ⟨rfl, hZ, hh0⟩ := hP
  have hx := Bd.exec
  have hby := Bd.bytes
  have hml : c.maxLocals = 6 := hml0
  have hown : s.vm.findClass "com/example/tidewheel/tidewheel/rules/RetriesDelayPinLaw" = some m.cls := findClass_of_methodNamed Bd.named
  have hnm := (name_of_methodNamed Bd.named Bd.method).1
  have X0 : Stand p l e room_1 s m #[(.int p1), (.int p2)] below meth c s₁ [] 0 0 := Stand.of_body Bd
  have e0 : s₁.heap = h0 := by rw [← hh0, Bd.state]; rfl
  have N0 := Fr.nil n0
  obtain ⟨Pst, hPst⟩ : ∃ P : Outcome → State → Prop, P = (fun oc U' => ∃ v L, oc = .returned v ∧ Q0 Z p1 p2 n f1 f2 o kc h0 n0 v U'.heap L ∧ FrameEnd s oc U' L 400 1344) := ⟨_, rfl⟩
  suffices hgo : own_Go p e below Pst (s₁.setTop (entryFrame m #[(.int p1), (.int p2)] maxLocals)) by rw [hPst] at hgo; exact hgo
  rw [own_ef_II_maxLocals m p1 p2]
  refine o_iloadN X0.here hx (hb hby at_0) rfl ?_
  refine o_iconst X0.here hx (hb hby at_1) (z := (1 : Int32)) rfl ?_
  refine o_iand X0.here hx (hb hby at_2) rfl ?_
  by_cases hp : p2 &&& (1 : Int32) = 0
  · refine o_ifYes X0.here hx (pc0 := 3) (pc' := 16) rfl (hb hby at_3) rfl ((if0 _ _).trans (teq hp).1) (by decide) (by decide) ?_
    refine o_iloadN X0.here hx (hb hby at_16) rfl ?_
    refine own_Go.of (S' := s₁.setTop (mkF m 19 #[.val (.int p1), .val (.int p2), .unset, .unset, .unset, .unset] [(.int (2147483647 : Int32)), (.int p1)])) (fun tgt kst => X0.ldcInt hx hown (mvT hZ (g_ hw 323 rfl)) (g := (mkF m 17 #[.val (.int p1), .val (.int p2), .unset, .unset, .unset, .unset] [(.int p1)])) rfl (hb hby at_17) _ kst) ?_
    refine o_iand X0.here hx (hb hby at_19) rfl ?_
    refine o_istoreN X0.here hx (hb hby at_20) rfl (l' := #[.val (.int p1), .val (.int p2), .val (.int (p1 &&& (2147483647 : Int32))), .unset, .unset, .unset]) rfl ?_
    refine o_iloadN X0.here hx (hb hby at_21) rfl ?_
    by_cases hz : p1 &&& (2147483647 : Int32) = 0
    · refine o_ifNo X0.here hx (hb hby at_22) rfl ((if0 _ _).trans (teq hz).2) ?_
      refine o_iconst X0.here hx (hb hby at_25) (z := (1 : Int32)) rfl ?_
      refine o_istoreN X0.here hx (hb hby at_26) rfl (l' := #[.val (.int p1), .val (.int p2), .val (.int (1 : Int32)), .unset, .unset, .unset]) rfl ?_
      have en : (1 : Int32) = n := by rw [← hq]; unfold own_q; rw [if_pos hp, if_pos hz]
      rw [en]
      show own_Go p e below Pst (s₁.setTop (mkF m 27 #[.val (.int p1), .val (.int p2), .val (.int n), .unset, .unset, .unset] []))
      refine o_iloadN X0.here hx (hb hby at_27) rfl ?_
      refine own_cF X0 (Jvm.LawKit.callS X0 hx (y := Mn34) hown (mvT hZ (g_ hw 0 rfl)) (mvT hZ (g_ hw 1 rfl)) (mvT hZ (g_ hw 2 rfl)) (mvT hZ (g_ hw 3 rfl)) (by decide) (backOf (W := 0) (rm_de l Z a0 hw [] n f1 f2 o kc h0 n0 Z0 O G SF SL X1 X2 Y1 Y2 W1 W2 hn) hZ (g_ hw 3 rfl) (g_ hw 2 rfl) (by decide) (by decide)) (g := (mkF m 28 #[.val (.int p1), .val (.int p2), .val (.int n), .unset, .unset, .unset] [(.int n)])) rfl (by rw [hml]; rfl) (argsL := [(.int n)]) (rest := []) (lenOf own_pd39 rfl) rfl (by show 2 * 0 + _ ≤ _; exact Nat.le_of_eq rfl) (hb hby at_28) (fun _ _ => ⟨rfl, e0, (by decide : 0 + 216 ≤ _), (by decide : 0 + 720 ≤ _)⟩)) fun v101 T101 L101 X101 hQ101 => ?_
      obtain ⟨x101, rfl, Nq101, K101, A101, S101, M101⟩ := hQ101
      have N101 := Fr.app N0 Nq101
      show own_Go p e below Pst (T101.setTop (mkF m 31 #[.val (.int p1), .val (.int p2), .val (.int n), .unset, .unset, .unset] [(.ref x101)]))
      refine o_astoreN X101.here hx (hb hby at_31) rfl rfl (l' := #[.val (.int p1), .val (.int p2), .val (.int n), .val (.ref x101), .unset, .unset]) rfl ?_
      refine o_iloadN X101.here hx (hb hby at_32) rfl ?_
      refine o_bipush X101.here hx (hb hby at_33) (z := (12 : Int32)) rfl ?_
      by_cases h12 : (12 : Int32) < n
      · refine o_icmpYes X101.here hx (pc0 := 35) (pc' := 48) rfl (hb hby at_35) rfl (tlt h12).2.2.1 (by decide) (by decide) ?_
        refine own_Go.of (S' := T101.setTop (mkF m 51 #[.val (.int p1), .val (.int p2), .val (.int n), .val (.ref x101), .unset, .unset] [(.long (3600 : Int64))])) (fun tgt kst => X101.ldc2Long hx hown (mvT hZ (g_ hw 322 rfl)) (g := (mkF m 48 #[.val (.int p1), .val (.int p2), .val (.int n), .val (.ref x101), .unset, .unset] [])) rfl (hb hby at_48) _ kst) ?_
        refine o_lstore X101.here hx (hb hby at_51) rfl (l' := #[.val (.int p1), .val (.int p2), .val (.int n), .val (.ref x101), .val (.long (3600 : Int64)), .second]) rfl ?_
        refine o_aloadN X101.here hx (hb hby at_53) rfl rfl ?_
        have c103 := (Nat.le_trans Z0 K101.1)
        obtain ⟨cq102, kq102, q102a, q102b, q102c⟩ := isOf hZ rfl A101
        refine own_cP X101 (X101.virtualBack hx (y := Mn2) (z := Mn2) hown (mvT hZ (g_ hw 20 rfl)) (mvT hZ (g_ hw 21 rfl)) (notFace_of_selects (args := #[]) (mvT hZ (g_ hw 23 rfl))) (mvT hZ (g_ hw 23 rfl)) (mvT hZ (g_ hw 22 rfl)) (by decide) (backOf (W := 0) (rm_gs l Z a0 hw [] x101 (own_d n) T101.heap n0 c103 S101) hZ (g_ hw 24 rfl) (g_ hw 12 rfl) (by decide) (by decide)) q102a q102c (g := (mkF m 54 #[.val (.int p1), .val (.int p2), .val (.int n), .val (.ref x101), .val (.long (3600 : Int64)), .second] [(.ref x101)])) rfl (by rw [hml]; rfl) (Steps.refl _) (argsL := []) (rest := []) (lenOf own_pd33 rfl) rfl (by show 2 * 0 + _ ≤ _; exact Nat.le_of_eq rfl) (hb hby at_54) (fun _ _ => ⟨rfl, rfl, (by decide : 216 + 0 ≤ _), (by decide : 720 + 0 ≤ _)⟩)) fun v102 T102 L102 X102 hQ102 => ?_
        obtain ⟨rfl, Nq102, e102⟩ := hQ102
        have N102 := Fr.app N101 Nq102
        show own_Go p e below Pst (T102.setTop (mkF m 57 #[.val (.int p1), .val (.int p2), .val (.int n), .val (.ref x101), .val (.long (3600 : Int64)), .second] [(.long (own_d n))]))
        refine o_lload X102.here hx (hb hby at_57) rfl ?_
        refine o_lcmp X102.here hx (hb hby at_59) rfl ?_
        refine o_ifNo X102.here hx (hb hby at_60) rfl ((if0 _ _).trans (teq (own_e1 h12)).2) ?_
        refine o_aloadN X102.here hx (hb hby at_63) rfl rfl ?_
        obtain ⟨cq104, kq104, q104a, q104b, q104c⟩ := isOf hZ e102 A101
        refine own_cP X102 (X102.virtualBack hx (y := Mn3) (z := Mn3) hown (mvT hZ (g_ hw 25 rfl)) (mvT hZ (g_ hw 26 rfl)) (notFace_of_selects (args := #[]) (mvT hZ (g_ hw 28 rfl))) (mvT hZ (g_ hw 28 rfl)) (mvT hZ (g_ hw 27 rfl)) (by decide) (backOf (W := 0) (rm_gn l Z a0 hw [] x101 (0 : Int32) T101.heap n0 c103 M101) hZ (g_ hw 29 rfl) (g_ hw 12 rfl) (by decide) (by decide)) q104a q104c (g := (mkF m 64 #[.val (.int p1), .val (.int p2), .val (.int n), .val (.ref x101), .val (.long (3600 : Int64)), .second] [(.ref x101)])) rfl (by rw [hml]; rfl) (Steps.refl _) (argsL := []) (rest := []) (lenOf own_pd30 rfl) rfl (by show 2 * 0 + _ ≤ _; exact Nat.le_of_eq rfl) (hb hby at_64) (fun _ _ => ⟨rfl, e102, (by decide : 216 + 0 ≤ _), (by decide : 720 + 0 ≤ _)⟩)) fun v104 T104 L104 X104 hQ104 => ?_
        obtain ⟨rfl, Nq104, e104⟩ := hQ104
        have N104 := Fr.app N102 Nq104
        show own_Go p e below Pst (T104.setTop (mkF m 67 #[.val (.int p1), .val (.int p2), .val (.int n), .val (.ref x101), .val (.long (3600 : Int64)), .second] [(.int (0 : Int32))]))
        refine o_ifNo X104.here hx (hb hby at_67) rfl ((if0 _ _).trans (teq rfl).2) ?_
        refine o_iconst X104.here hx (hb hby at_70) (z := (1 : Int32)) rfl ?_
        refine o_goto X104.here hx (pc0 := 71) (pc' := 75) rfl (hb hby at_71) (by decide) (by decide) ?_
        rw [hPst]
        exact own_retP X104 (v := (some (.int (nar .boolean (1 : Int32))))) (Q := Q0 Z p1 p2 n f1 f2 o kc h0 n0) (fun h => by rw [Bd.returns] at h; cases h) Bd.notSynchronized (fun fs hr => retN X104 hx (t := .boolean) Bd.returns (by simp) (hb hby at_75) hr) (by decide) (by decide) (by rw [e104]; exact ⟨rfl, N104⟩)
      · refine o_icmpNo X101.here hx (hb hby at_35) rfl (flt h12).2.2.1 ?_
        refine o_lconst X101.here hx (hb hby at_38) (z := (1 : Int64)) rfl ?_
        refine o_iloadN X101.here hx (hb hby at_39) rfl ?_
        refine o_iconst X101.here hx (hb hby at_40) (z := (1 : Int32)) rfl ?_
        refine o_isub X101.here hx (hb hby at_41) rfl ?_
        refine o_lshl X101.here hx (hb hby at_42) rfl ?_
        refine o_lstore X101.here hx (hb hby at_43) rfl (l' := #[.val (.int p1), .val (.int p2), .val (.int n), .val (.ref x101), .val (.long ((1 : Int64) <<< ((n - (1 : Int32)) &&& 0x3f).toInt64)), .second]) rfl ?_
        refine o_goto X101.here hx (pc0 := 45) (pc' := 53) rfl (hb hby at_45) (by decide) (by decide) ?_
        refine o_aloadN X101.here hx (hb hby at_53) rfl rfl ?_
        have c106 := (Nat.le_trans Z0 K101.1)
        obtain ⟨cq105, kq105, q105a, q105b, q105c⟩ := isOf hZ rfl A101
        refine own_cP X101 (X101.virtualBack hx (y := Mn2) (z := Mn2) hown (mvT hZ (g_ hw 20 rfl)) (mvT hZ (g_ hw 21 rfl)) (notFace_of_selects (args := #[]) (mvT hZ (g_ hw 23 rfl))) (mvT hZ (g_ hw 23 rfl)) (mvT hZ (g_ hw 22 rfl)) (by decide) (backOf (W := 0) (rm_gs l Z a0 hw [] x101 (own_d n) T101.heap n0 c106 S101) hZ (g_ hw 24 rfl) (g_ hw 12 rfl) (by decide) (by decide)) q105a q105c (g := (mkF m 54 #[.val (.int p1), .val (.int p2), .val (.int n), .val (.ref x101), .val (.long ((1 : Int64) <<< ((n - (1 : Int32)) &&& 0x3f).toInt64)), .second] [(.ref x101)])) rfl (by rw [hml]; rfl) (Steps.refl _) (argsL := []) (rest := []) (lenOf own_pd33 rfl) rfl (by show 2 * 0 + _ ≤ _; exact Nat.le_of_eq rfl) (hb hby at_54) (fun _ _ => ⟨rfl, rfl, (by decide : 216 + 0 ≤ _), (by decide : 720 + 0 ≤ _)⟩)) fun v105 T105 L105 X105 hQ105 => ?_
        obtain ⟨rfl, Nq105, e105⟩ := hQ105
        have N105 := Fr.app N101 Nq105
        show own_Go p e below Pst (T105.setTop (mkF m 57 #[.val (.int p1), .val (.int p2), .val (.int n), .val (.ref x101), .val (.long ((1 : Int64) <<< ((n - (1 : Int32)) &&& 0x3f).toInt64)), .second] [(.long (own_d n))]))
        refine o_lload X105.here hx (hb hby at_57) rfl ?_
        refine o_lcmp X105.here hx (hb hby at_59) rfl ?_
        refine o_ifNo X105.here hx (hb hby at_60) rfl ((if0 _ _).trans (teq (own_e2 h12)).2) ?_
        refine o_aloadN X105.here hx (hb hby at_63) rfl rfl ?_
        obtain ⟨cq107, kq107, q107a, q107b, q107c⟩ := isOf hZ e105 A101
        refine own_cP X105 (X105.virtualBack hx (y := Mn3) (z := Mn3) hown (mvT hZ (g_ hw 25 rfl)) (mvT hZ (g_ hw 26 rfl)) (notFace_of_selects (args := #[]) (mvT hZ (g_ hw 28 rfl))) (mvT hZ (g_ hw 28 rfl)) (mvT hZ (g_ hw 27 rfl)) (by decide) (backOf (W := 0) (rm_gn l Z a0 hw [] x101 (0 : Int32) T101.heap n0 c106 M101) hZ (g_ hw 29 rfl) (g_ hw 12 rfl) (by decide) (by decide)) q107a q107c (g := (mkF m 64 #[.val (.int p1), .val (.int p2), .val (.int n), .val (.ref x101), .val (.long ((1 : Int64) <<< ((n - (1 : Int32)) &&& 0x3f).toInt64)), .second] [(.ref x101)])) rfl (by rw [hml]; rfl) (Steps.refl _) (argsL := []) (rest := []) (lenOf own_pd30 rfl) rfl (by show 2 * 0 + _ ≤ _; exact Nat.le_of_eq rfl) (hb hby at_64) (fun _ _ => ⟨rfl, e105, (by decide : 216 + 0 ≤ _), (by decide : 720 + 0 ≤ _)⟩)) fun v107 T107 L107 X107 hQ107 => ?_
        obtain ⟨rfl, Nq107, e107⟩ := hQ107
        have N107 := Fr.app N105 Nq107
        show own_Go p e below Pst (T107.setTop (mkF m 67 #[.val (.int p1), .val (.int p2), .val (.int n), .val (.ref x101), .val (.long ((1 : Int64) <<< ((n - (1 : Int32)) &&& 0x3f).toInt64)), .second] [(.int (0 : Int32))]))
        refine o_ifNo X107.here hx (hb hby at_67) rfl ((if0 _ _).trans (teq rfl).2) ?_
        refine o_iconst X107.here hx (hb hby at_70) (z := (1 : Int32)) rfl ?_
        refine o_goto X107.here hx (pc0 := 71) (pc' := 75) rfl (hb hby at_71) (by decide) (by decide) ?_
        rw [hPst]
        exact own_retP X107 (v := (some (.int (nar .boolean (1 : Int32))))) (Q := Q0 Z p1 p2 n f1 f2 o kc h0 n0) (fun h => by rw [Bd.returns] at h; cases h) Bd.notSynchronized (fun fs hr => retN X107 hx (t := .boolean) Bd.returns (by simp) (hb hby at_75) hr) (by decide) (by decide) (by rw [e107]; exact ⟨rfl, N107⟩)
    · refine o_ifYes X0.here hx (pc0 := 22) (pc' := 27) rfl (hb hby at_22) rfl ((if0 _ _).trans (feq hz).2) (by decide) (by decide) ?_
      have en : p1 &&& (2147483647 : Int32) = n := by rw [← hq]; unfold own_q; rw [if_pos hp, if_neg hz]
      rw [en]
      show own_Go p e below Pst (s₁.setTop (mkF m 27 #[.val (.int p1), .val (.int p2), .val (.int n), .unset, .unset, .unset] []))
      refine o_iloadN X0.here hx (hb hby at_27) rfl ?_
      refine own_cF X0 (Jvm.LawKit.callS X0 hx (y := Mn34) hown (mvT hZ (g_ hw 0 rfl)) (mvT hZ (g_ hw 1 rfl)) (mvT hZ (g_ hw 2 rfl)) (mvT hZ (g_ hw 3 rfl)) (by decide) (backOf (W := 0) (rm_de l Z a0 hw [] n f1 f2 o kc h0 n0 Z0 O G SF SL X1 X2 Y1 Y2 W1 W2 hn) hZ (g_ hw 3 rfl) (g_ hw 2 rfl) (by decide) (by decide)) (g := (mkF m 28 #[.val (.int p1), .val (.int p2), .val (.int n), .unset, .unset, .unset] [(.int n)])) rfl (by rw [hml]; rfl) (argsL := [(.int n)]) (rest := []) (lenOf own_pd39 rfl) rfl (by show 2 * 0 + _ ≤ _; exact Nat.le_of_eq rfl) (hb hby at_28) (fun _ _ => ⟨rfl, e0, (by decide : 0 + 216 ≤ _), (by decide : 0 + 720 ≤ _)⟩)) fun v108 T108 L108 X108 hQ108 => ?_
      obtain ⟨x108, rfl, Nq108, K108, A108, S108, M108⟩ := hQ108
      have N108 := Fr.app N0 Nq108
      show own_Go p e below Pst (T108.setTop (mkF m 31 #[.val (.int p1), .val (.int p2), .val (.int n), .unset, .unset, .unset] [(.ref x108)]))
      refine o_astoreN X108.here hx (hb hby at_31) rfl rfl (l' := #[.val (.int p1), .val (.int p2), .val (.int n), .val (.ref x108), .unset, .unset]) rfl ?_
      refine o_iloadN X108.here hx (hb hby at_32) rfl ?_
      refine o_bipush X108.here hx (hb hby at_33) (z := (12 : Int32)) rfl ?_
      by_cases h12 : (12 : Int32) < n
      · refine o_icmpYes X108.here hx (pc0 := 35) (pc' := 48) rfl (hb hby at_35) rfl (tlt h12).2.2.1 (by decide) (by decide) ?_
        refine own_Go.of (S' := T108.setTop (mkF m 51 #[.val (.int p1), .val (.int p2), .val (.int n), .val (.ref x108), .unset, .unset] [(.long (3600 : Int64))])) (fun tgt kst => X108.ldc2Long hx hown (mvT hZ (g_ hw 322 rfl)) (g := (mkF m 48 #[.val (.int p1), .val (.int p2), .val (.int n), .val (.ref x108), .unset, .unset] [])) rfl (hb hby at_48) _ kst) ?_
        refine o_lstore X108.here hx (hb hby at_51) rfl (l' := #[.val (.int p1), .val (.int p2), .val (.int n), .val (.ref x108), .val (.long (3600 : Int64)), .second]) rfl ?_
        refine o_aloadN X108.here hx (hb hby at_53) rfl rfl ?_
        have c110 := (Nat.le_trans Z0 K108.1)
        obtain ⟨cq109, kq109, q109a, q109b, q109c⟩ := isOf hZ rfl A108
        refine own_cP X108 (X108.virtualBack hx (y := Mn2) (z := Mn2) hown (mvT hZ (g_ hw 20 rfl)) (mvT hZ (g_ hw 21 rfl)) (notFace_of_selects (args := #[]) (mvT hZ (g_ hw 23 rfl))) (mvT hZ (g_ hw 23 rfl)) (mvT hZ (g_ hw 22 rfl)) (by decide) (backOf (W := 0) (rm_gs l Z a0 hw [] x108 (own_d n) T108.heap n0 c110 S108) hZ (g_ hw 24 rfl) (g_ hw 12 rfl) (by decide) (by decide)) q109a q109c (g := (mkF m 54 #[.val (.int p1), .val (.int p2), .val (.int n), .val (.ref x108), .val (.long (3600 : Int64)), .second] [(.ref x108)])) rfl (by rw [hml]; rfl) (Steps.refl _) (argsL := []) (rest := []) (lenOf own_pd33 rfl) rfl (by show 2 * 0 + _ ≤ _; exact Nat.le_of_eq rfl) (hb hby at_54) (fun _ _ => ⟨rfl, rfl, (by decide : 216 + 0 ≤ _), (by decide : 720 + 0 ≤ _)⟩)) fun v109 T109 L109 X109 hQ109 => ?_
        obtain ⟨rfl, Nq109, e109⟩ := hQ109
        have N109 := Fr.app N108 Nq109
        show own_Go p e below Pst (T109.setTop (mkF m 57 #[.val (.int p1), .val (.int p2), .val (.int n), .val (.ref x108), .val (.long (3600 : Int64)), .second] [(.long (own_d n))]))
        refine o_lload X109.here hx (hb hby at_57) rfl ?_
        refine o_lcmp X109.here hx (hb hby at_59) rfl ?_
        refine o_ifNo X109.here hx (hb hby at_60) rfl ((if0 _ _).trans (teq (own_e1 h12)).2) ?_
        refine o_aloadN X109.here hx (hb hby at_63) rfl rfl ?_
        obtain ⟨cq111, kq111, q111a, q111b, q111c⟩ := isOf hZ e109 A108
        refine own_cP X109 (X109.virtualBack hx (y := Mn3) (z := Mn3) hown (mvT hZ (g_ hw 25 rfl)) (mvT hZ (g_ hw 26 rfl)) (notFace_of_selects (args := #[]) (mvT hZ (g_ hw 28 rfl))) (mvT hZ (g_ hw 28 rfl)) (mvT hZ (g_ hw 27 rfl)) (by decide) (backOf (W := 0) (rm_gn l Z a0 hw [] x108 (0 : Int32) T108.heap n0 c110 M108) hZ (g_ hw 29 rfl) (g_ hw 12 rfl) (by decide) (by decide)) q111a q111c (g := (mkF m 64 #[.val (.int p1), .val (.int p2), .val (.int n), .val (.ref x108), .val (.long (3600 : Int64)), .second] [(.ref x108)])) rfl (by rw [hml]; rfl) (Steps.refl _) (argsL := []) (rest := []) (lenOf own_pd30 rfl) rfl (by show 2 * 0 + _ ≤ _; exact Nat.le_of_eq rfl) (hb hby at_64) (fun _ _ => ⟨rfl, e109, (by decide : 216 + 0 ≤ _), (by decide : 720 + 0 ≤ _)⟩)) fun v111 T111 L111 X111 hQ111 => ?_
        obtain ⟨rfl, Nq111, e111⟩ := hQ111
        have N111 := Fr.app N109 Nq111
        show own_Go p e below Pst (T111.setTop (mkF m 67 #[.val (.int p1), .val (.int p2), .val (.int n), .val (.ref x108), .val (.long (3600 : Int64)), .second] [(.int (0 : Int32))]))
        refine o_ifNo X111.here hx (hb hby at_67) rfl ((if0 _ _).trans (teq rfl).2) ?_
        refine o_iconst X111.here hx (hb hby at_70) (z := (1 : Int32)) rfl ?_
        refine o_goto X111.here hx (pc0 := 71) (pc' := 75) rfl (hb hby at_71) (by decide) (by decide) ?_
        rw [hPst]
        exact own_retP X111 (v := (some (.int (nar .boolean (1 : Int32))))) (Q := Q0 Z p1 p2 n f1 f2 o kc h0 n0) (fun h => by rw [Bd.returns] at h; cases h) Bd.notSynchronized (fun fs hr => retN X111 hx (t := .boolean) Bd.returns (by simp) (hb hby at_75) hr) (by decide) (by decide) (by rw [e111]; exact ⟨rfl, N111⟩)
      · refine o_icmpNo X108.here hx (hb hby at_35) rfl (flt h12).2.2.1 ?_
        refine o_lconst X108.here hx (hb hby at_38) (z := (1 : Int64)) rfl ?_
        refine o_iloadN X108.here hx (hb hby at_39) rfl ?_
        refine o_iconst X108.here hx (hb hby at_40) (z := (1 : Int32)) rfl ?_
        refine o_isub X108.here hx (hb hby at_41) rfl ?_
        refine o_lshl X108.here hx (hb hby at_42) rfl ?_
        refine o_lstore X108.here hx (hb hby at_43) rfl (l' := #[.val (.int p1), .val (.int p2), .val (.int n), .val (.ref x108), .val (.long ((1 : Int64) <<< ((n - (1 : Int32)) &&& 0x3f).toInt64)), .second]) rfl ?_
        refine o_goto X108.here hx (pc0 := 45) (pc' := 53) rfl (hb hby at_45) (by decide) (by decide) ?_
        refine o_aloadN X108.here hx (hb hby at_53) rfl rfl ?_
        have c113 := (Nat.le_trans Z0 K108.1)
        obtain ⟨cq112, kq112, q112a, q112b, q112c⟩ := isOf hZ rfl A108
        refine own_cP X108 (X108.virtualBack hx (y := Mn2) (z := Mn2) hown (mvT hZ (g_ hw 20 rfl)) (mvT hZ (g_ hw 21 rfl)) (notFace_of_selects (args := #[]) (mvT hZ (g_ hw 23 rfl))) (mvT hZ (g_ hw 23 rfl)) (mvT hZ (g_ hw 22 rfl)) (by decide) (backOf (W := 0) (rm_gs l Z a0 hw [] x108 (own_d n) T108.heap n0 c113 S108) hZ (g_ hw 24 rfl) (g_ hw 12 rfl) (by decide) (by decide)) q112a q112c (g := (mkF m 54 #[.val (.int p1), .val (.int p2), .val (.int n), .val (.ref x108), .val (.long ((1 : Int64) <<< ((n - (1 : Int32)) &&& 0x3f).toInt64)), .second] [(.ref x108)])) rfl (by rw [hml]; rfl) (Steps.refl _) (argsL := []) (rest := []) (lenOf own_pd33 rfl) rfl (by show 2 * 0 + _ ≤ _; exact Nat.le_of_eq rfl) (hb hby at_54) (fun _ _ => ⟨rfl, rfl, (by decide : 216 + 0 ≤ _), (by decide : 720 + 0 ≤ _)⟩)) fun v112 T112 L112 X112 hQ112 => ?_
        obtain ⟨rfl, Nq112, e112⟩ := hQ112
        have N112 := Fr.app N108 Nq112
        show own_Go p e below Pst (T112.setTop (mkF m 57 #[.val (.int p1), .val (.int p2), .val (.int n), .val (.ref x108), .val (.long ((1 : Int64) <<< ((n - (1 : Int32)) &&& 0x3f).toInt64)), .second] [(.long (own_d n))]))
        refine o_lload X112.here hx (hb hby at_57) rfl ?_
        refine o_lcmp X112.here hx (hb hby at_59) rfl ?_
        refine o_ifNo X112.here hx (hb hby at_60) rfl ((if0 _ _).trans (teq (own_e2 h12)).2) ?_
        refine o_aloadN X112.here hx (hb hby at_63) rfl rfl ?_
        obtain ⟨cq114, kq114, q114a, q114b, q114c⟩ := isOf hZ e112 A108
        refine own_cP X112 (X112.virtualBack hx (y := Mn3) (z := Mn3) hown (mvT hZ (g_ hw 25 rfl)) (mvT hZ (g_ hw 26 rfl)) (notFace_of_selects (args := #[]) (mvT hZ (g_ hw 28 rfl))) (mvT hZ (g_ hw 28 rfl)) (mvT hZ (g_ hw 27 rfl)) (by decide) (backOf (W := 0) (rm_gn l Z a0 hw [] x108 (0 : Int32) T108.heap n0 c113 M108) hZ (g_ hw 29 rfl) (g_ hw 12 rfl) (by decide) (by decide)) q114a q114c (g := (mkF m 64 #[.val (.int p1), .val (.int p2), .val (.int n), .val (.ref x108), .val (.long ((1 : Int64) <<< ((n - (1 : Int32)) &&& 0x3f).toInt64)), .second] [(.ref x108)])) rfl (by rw [hml]; rfl) (Steps.refl _) (argsL := []) (rest := []) (lenOf own_pd30 rfl) rfl (by show 2 * 0 + _ ≤ _; exact Nat.le_of_eq rfl) (hb hby at_64) (fun _ _ => ⟨rfl, e112, (by decide : 216 + 0 ≤ _), (by decide : 720 + 0 ≤ _)⟩)) fun v114 T114 L114 X114 hQ114 => ?_
        obtain ⟨rfl, Nq114, e114⟩ := hQ114
        have N114 := Fr.app N112 Nq114
        show own_Go p e below Pst (T114.setTop (mkF m 67 #[.val (.int p1), .val (.int p2), .val (.int n), .val (.ref x108), .val (.long ((1 : Int64) <<< ((n - (1 : Int32)) &&& 0x3f).toInt64)), .second] [(.int (0 : Int32))]))
        refine o_ifNo X114.here hx (hb hby at_67) rfl ((if0 _ _).trans (teq rfl).2) ?_
        refine o_iconst X114.here hx (hb hby at_70) (z := (1 : Int32)) rfl ?_
        refine o_goto X114.here hx (pc0 := 71) (pc' := 75) rfl (hb hby at_71) (by decide) (by decide) ?_
        rw [hPst]
        exact own_retP X114 (v := (some (.int (nar .boolean (1 : Int32))))) (Q := Q0 Z p1 p2 n f1 f2 o kc h0 n0) (fun h => by rw [Bd.returns] at h; cases h) Bd.notSynchronized (fun fs hr => retN X114 hx (t := .boolean) Bd.returns (by simp) (hb hby at_75) hr) (by decide) (by decide) (by rw [e114]; exact ⟨rfl, N114⟩)
  · refine o_ifNo X0.here hx (hb hby at_3) rfl ((if0 _ _).trans (feq hp).1) ?_
    refine o_iloadN X0.here hx (hb hby at_6) rfl ?_
    refine o_bipush X0.here hx (hb hby at_7) (z := (15 : Int32)) rfl ?_
    refine o_iand X0.here hx (hb hby at_9) rfl ?_
    refine o_iconst X0.here hx (hb hby at_10) (z := (1 : Int32)) rfl ?_
    refine o_iadd X0.here hx (hb hby at_11) rfl ?_
    refine o_istoreN X0.here hx (hb hby at_12) rfl (l' := #[.val (.int p1), .val (.int p2), .val (.int ((p1 &&& (15 : Int32)) + (1 : Int32))), .unset, .unset, .unset]) rfl ?_
    refine o_goto X0.here hx (pc0 := 13) (pc' := 27) rfl (hb hby at_13) (by decide) (by decide) ?_
    have en : (p1 &&& (15 : Int32)) + (1 : Int32) = n := by rw [← hq]; unfold own_q; rw [if_neg hp]
    rw [en]
    show own_Go p e below Pst (s₁.setTop (mkF m 27 #[.val (.int p1), .val (.int p2), .val (.int n), .unset, .unset, .unset] []))
    refine o_iloadN X0.here hx (hb hby at_27) rfl ?_
    refine own_cF X0 (Jvm.LawKit.callS X0 hx (y := Mn34) hown (mvT hZ (g_ hw 0 rfl)) (mvT hZ (g_ hw 1 rfl)) (mvT hZ (g_ hw 2 rfl)) (mvT hZ (g_ hw 3 rfl)) (by decide) (backOf (W := 0) (rm_de l Z a0 hw [] n f1 f2 o kc h0 n0 Z0 O G SF SL X1 X2 Y1 Y2 W1 W2 hn) hZ (g_ hw 3 rfl) (g_ hw 2 rfl) (by decide) (by decide)) (g := (mkF m 28 #[.val (.int p1), .val (.int p2), .val (.int n), .unset, .unset, .unset] [(.int n)])) rfl (by rw [hml]; rfl) (argsL := [(.int n)]) (rest := []) (lenOf own_pd39 rfl) rfl (by show 2 * 0 + _ ≤ _; exact Nat.le_of_eq rfl) (hb hby at_28) (fun _ _ => ⟨rfl, e0, (by decide : 0 + 216 ≤ _), (by decide : 0 + 720 ≤ _)⟩)) fun v115 T115 L115 X115 hQ115 => ?_
    obtain ⟨x115, rfl, Nq115, K115, A115, S115, M115⟩ := hQ115
    have N115 := Fr.app N0 Nq115
    show own_Go p e below Pst (T115.setTop (mkF m 31 #[.val (.int p1), .val (.int p2), .val (.int n), .unset, .unset, .unset] [(.ref x115)]))
    refine o_astoreN X115.here hx (hb hby at_31) rfl rfl (l' := #[.val (.int p1), .val (.int p2), .val (.int n), .val (.ref x115), .unset, .unset]) rfl ?_
    refine o_iloadN X115.here hx (hb hby at_32) rfl ?_
    refine o_bipush X115.here hx (hb hby at_33) (z := (12 : Int32)) rfl ?_
    by_cases h12 : (12 : Int32) < n
    · refine o_icmpYes X115.here hx (pc0 := 35) (pc' := 48) rfl (hb hby at_35) rfl (tlt h12).2.2.1 (by decide) (by decide) ?_
      refine own_Go.of (S' := T115.setTop (mkF m 51 #[.val (.int p1), .val (.int p2), .val (.int n), .val (.ref x115), .unset, .unset] [(.long (3600 : Int64))])) (fun tgt kst => X115.ldc2Long hx hown (mvT hZ (g_ hw 322 rfl)) (g := (mkF m 48 #[.val (.int p1), .val (.int p2), .val (.int n), .val (.ref x115), .unset, .unset] [])) rfl (hb hby at_48) _ kst) ?_
      refine o_lstore X115.here hx (hb hby at_51) rfl (l' := #[.val (.int p1), .val (.int p2), .val (.int n), .val (.ref x115), .val (.long (3600 : Int64)), .second]) rfl ?_
      refine o_aloadN X115.here hx (hb hby at_53) rfl rfl ?_
      have c117 := (Nat.le_trans Z0 K115.1)
      obtain ⟨cq116, kq116, q116a, q116b, q116c⟩ := isOf hZ rfl A115
      refine own_cP X115 (X115.virtualBack hx (y := Mn2) (z := Mn2) hown (mvT hZ (g_ hw 20 rfl)) (mvT hZ (g_ hw 21 rfl)) (notFace_of_selects (args := #[]) (mvT hZ (g_ hw 23 rfl))) (mvT hZ (g_ hw 23 rfl)) (mvT hZ (g_ hw 22 rfl)) (by decide) (backOf (W := 0) (rm_gs l Z a0 hw [] x115 (own_d n) T115.heap n0 c117 S115) hZ (g_ hw 24 rfl) (g_ hw 12 rfl) (by decide) (by decide)) q116a q116c (g := (mkF m 54 #[.val (.int p1), .val (.int p2), .val (.int n), .val (.ref x115), .val (.long (3600 : Int64)), .second] [(.ref x115)])) rfl (by rw [hml]; rfl) (Steps.refl _) (argsL := []) (rest := []) (lenOf own_pd33 rfl) rfl (by show 2 * 0 + _ ≤ _; exact Nat.le_of_eq rfl) (hb hby at_54) (fun _ _ => ⟨rfl, rfl, (by decide : 216 + 0 ≤ _), (by decide : 720 + 0 ≤ _)⟩)) fun v116 T116 L116 X116 hQ116 => ?_
      obtain ⟨rfl, Nq116, e116⟩ := hQ116
      have N116 := Fr.app N115 Nq116
      show own_Go p e below Pst (T116.setTop (mkF m 57 #[.val (.int p1), .val (.int p2), .val (.int n), .val (.ref x115), .val (.long (3600 : Int64)), .second] [(.long (own_d n))]))
      refine o_lload X116.here hx (hb hby at_57) rfl ?_
      refine o_lcmp X116.here hx (hb hby at_59) rfl ?_
      refine o_ifNo X116.here hx (hb hby at_60) rfl ((if0 _ _).trans (teq (own_e1 h12)).2) ?_
      refine o_aloadN X116.here hx (hb hby at_63) rfl rfl ?_
      obtain ⟨cq118, kq118, q118a, q118b, q118c⟩ := isOf hZ e116 A115
      refine own_cP X116 (X116.virtualBack hx (y := Mn3) (z := Mn3) hown (mvT hZ (g_ hw 25 rfl)) (mvT hZ (g_ hw 26 rfl)) (notFace_of_selects (args := #[]) (mvT hZ (g_ hw 28 rfl))) (mvT hZ (g_ hw 28 rfl)) (mvT hZ (g_ hw 27 rfl)) (by decide) (backOf (W := 0) (rm_gn l Z a0 hw [] x115 (0 : Int32) T115.heap n0 c117 M115) hZ (g_ hw 29 rfl) (g_ hw 12 rfl) (by decide) (by decide)) q118a q118c (g := (mkF m 64 #[.val (.int p1), .val (.int p2), .val (.int n), .val (.ref x115), .val (.long (3600 : Int64)), .second] [(.ref x115)])) rfl (by rw [hml]; rfl) (Steps.refl _) (argsL := []) (rest := []) (lenOf own_pd30 rfl) rfl (by show 2 * 0 + _ ≤ _; exact Nat.le_of_eq rfl) (hb hby at_64) (fun _ _ => ⟨rfl, e116, (by decide : 216 + 0 ≤ _), (by decide : 720 + 0 ≤ _)⟩)) fun v118 T118 L118 X118 hQ118 => ?_
      obtain ⟨rfl, Nq118, e118⟩ := hQ118
      have N118 := Fr.app N116 Nq118
      show own_Go p e below Pst (T118.setTop (mkF m 67 #[.val (.int p1), .val (.int p2), .val (.int n), .val (.ref x115), .val (.long (3600 : Int64)), .second] [(.int (0 : Int32))]))
      refine o_ifNo X118.here hx (hb hby at_67) rfl ((if0 _ _).trans (teq rfl).2) ?_
      refine o_iconst X118.here hx (hb hby at_70) (z := (1 : Int32)) rfl ?_
      refine o_goto X118.here hx (pc0 := 71) (pc' := 75) rfl (hb hby at_71) (by decide) (by decide) ?_
      rw [hPst]
      exact own_retP X118 (v := (some (.int (nar .boolean (1 : Int32))))) (Q := Q0 Z p1 p2 n f1 f2 o kc h0 n0) (fun h => by rw [Bd.returns] at h; cases h) Bd.notSynchronized (fun fs hr => retN X118 hx (t := .boolean) Bd.returns (by simp) (hb hby at_75) hr) (by decide) (by decide) (by rw [e118]; exact ⟨rfl, N118⟩)
    · refine o_icmpNo X115.here hx (hb hby at_35) rfl (flt h12).2.2.1 ?_
      refine o_lconst X115.here hx (hb hby at_38) (z := (1 : Int64)) rfl ?_
      refine o_iloadN X115.here hx (hb hby at_39) rfl ?_
      refine o_iconst X115.here hx (hb hby at_40) (z := (1 : Int32)) rfl ?_
      refine o_isub X115.here hx (hb hby at_41) rfl ?_
      refine o_lshl X115.here hx (hb hby at_42) rfl ?_
      refine o_lstore X115.here hx (hb hby at_43) rfl (l' := #[.val (.int p1), .val (.int p2), .val (.int n), .val (.ref x115), .val (.long ((1 : Int64) <<< ((n - (1 : Int32)) &&& 0x3f).toInt64)), .second]) rfl ?_
      refine o_goto X115.here hx (pc0 := 45) (pc' := 53) rfl (hb hby at_45) (by decide) (by decide) ?_
      refine o_aloadN X115.here hx (hb hby at_53) rfl rfl ?_
      have c120 := (Nat.le_trans Z0 K115.1)
      obtain ⟨cq119, kq119, q119a, q119b, q119c⟩ := isOf hZ rfl A115
      refine own_cP X115 (X115.virtualBack hx (y := Mn2) (z := Mn2) hown (mvT hZ (g_ hw 20 rfl)) (mvT hZ (g_ hw 21 rfl)) (notFace_of_selects (args := #[]) (mvT hZ (g_ hw 23 rfl))) (mvT hZ (g_ hw 23 rfl)) (mvT hZ (g_ hw 22 rfl)) (by decide) (backOf (W := 0) (rm_gs l Z a0 hw [] x115 (own_d n) T115.heap n0 c120 S115) hZ (g_ hw 24 rfl) (g_ hw 12 rfl) (by decide) (by decide)) q119a q119c (g := (mkF m 54 #[.val (.int p1), .val (.int p2), .val (.int n), .val (.ref x115), .val (.long ((1 : Int64) <<< ((n - (1 : Int32)) &&& 0x3f).toInt64)), .second] [(.ref x115)])) rfl (by rw [hml]; rfl) (Steps.refl _) (argsL := []) (rest := []) (lenOf own_pd33 rfl) rfl (by show 2 * 0 + _ ≤ _; exact Nat.le_of_eq rfl) (hb hby at_54) (fun _ _ => ⟨rfl, rfl, (by decide : 216 + 0 ≤ _), (by decide : 720 + 0 ≤ _)⟩)) fun v119 T119 L119 X119 hQ119 => ?_
      obtain ⟨rfl, Nq119, e119⟩ := hQ119
      have N119 := Fr.app N115 Nq119
      show own_Go p e below Pst (T119.setTop (mkF m 57 #[.val (.int p1), .val (.int p2), .val (.int n), .val (.ref x115), .val (.long ((1 : Int64) <<< ((n - (1 : Int32)) &&& 0x3f).toInt64)), .second] [(.long (own_d n))]))
      refine o_lload X119.here hx (hb hby at_57) rfl ?_
      refine o_lcmp X119.here hx (hb hby at_59) rfl ?_
      refine o_ifNo X119.here hx (hb hby at_60) rfl ((if0 _ _).trans (teq (own_e2 h12)).2) ?_
      refine o_aloadN X119.here hx (hb hby at_63) rfl rfl ?_
      obtain ⟨cq121, kq121, q121a, q121b, q121c⟩ := isOf hZ e119 A115
      refine own_cP X119 (X119.virtualBack hx (y := Mn3) (z := Mn3) hown (mvT hZ (g_ hw 25 rfl)) (mvT hZ (g_ hw 26 rfl)) (notFace_of_selects (args := #[]) (mvT hZ (g_ hw 28 rfl))) (mvT hZ (g_ hw 28 rfl)) (mvT hZ (g_ hw 27 rfl)) (by decide) (backOf (W := 0) (rm_gn l Z a0 hw [] x115 (0 : Int32) T115.heap n0 c120 M115) hZ (g_ hw 29 rfl) (g_ hw 12 rfl) (by decide) (by decide)) q121a q121c (g := (mkF m 64 #[.val (.int p1), .val (.int p2), .val (.int n), .val (.ref x115), .val (.long ((1 : Int64) <<< ((n - (1 : Int32)) &&& 0x3f).toInt64)), .second] [(.ref x115)])) rfl (by rw [hml]; rfl) (Steps.refl _) (argsL := []) (rest := []) (lenOf own_pd30 rfl) rfl (by show 2 * 0 + _ ≤ _; exact Nat.le_of_eq rfl) (hb hby at_64) (fun _ _ => ⟨rfl, e119, (by decide : 216 + 0 ≤ _), (by decide : 720 + 0 ≤ _)⟩)) fun v121 T121 L121 X121 hQ121 => ?_
      obtain ⟨rfl, Nq121, e121⟩ := hQ121
      have N121 := Fr.app N119 Nq121
      show own_Go p e below Pst (T121.setTop (mkF m 67 #[.val (.int p1), .val (.int p2), .val (.int n), .val (.ref x115), .val (.long ((1 : Int64) <<< ((n - (1 : Int32)) &&& 0x3f).toInt64)), .second] [(.int (0 : Int32))]))
      refine o_ifNo X121.here hx (hb hby at_67) rfl ((if0 _ _).trans (teq rfl).2) ?_
      refine o_iconst X121.here hx (hb hby at_70) (z := (1 : Int32)) rfl ?_
      refine o_goto X121.here hx (pc0 := 71) (pc' := 75) rfl (hb hby at_71) (by decide) (by decide) ?_
      rw [hPst]
      exact own_retP X121 (v := (some (.int (nar .boolean (1 : Int32))))) (Q := Q0 Z p1 p2 n f1 f2 o kc h0 n0) (fun h => by rw [Bd.returns] at h; cases h) Bd.notSynchronized (fun fs hr => retN X121 hx (t := .boolean) Bd.returns (by simp) (hb hby at_75) hr) (by decide) (by decide) (by rw [e121]; exact ⟨rfl, N121⟩)
theorem own_qn (p1 p2 : Int32) : ¬ own_q p1 p2 < 1 := by
  have e1 : (1 : Int32).toInt = 1 := by decide
  have e15 : (15 : Int32).toInt = 15 := by decide
  have eM : (2147483647 : Int32).toInt = 2147483647 := by decide
  unfold own_q
  split
  · split
    · decide
    · rename_i h
      have q := c_and p1 (2147483647 : Int32) (by decide)
      intro r; rw [Int32.lt_iff_toInt_lt] at r
      exact h (Int32.toInt_inj.mp (by have : (0 : Int32).toInt = 0 := by decide
                                      omega))
  · have q := c_and p1 (15 : Int32) (by decide)
    have r := c_iadd (p1 &&& (15 : Int32)) (1 : Int32)
    have r2 := rng32 ((p1 &&& (15 : Int32)) + (1 : Int32))
    intro k; rw [Int32.lt_iff_toInt_lt] at k
    omega

theorem comes_1 {Post : Tables → Env → Array Value → State → Outcome → State → Prop} (hpost : ∀ tb e args s v u, (limb_1_1.after args s (.returned v) u = true ∧ limb_1_2.after args s (.returned v) u = true ∧ True) → FrameEnd s (.returned v) u (Jvm.fieldLocs frame_1_writes args s ++ Jvm.arrayLocs frame_1_arrays args s ++ Jvm.staticLocs frame_1_statics s) 400 1344 → Post tb e args s (.returned v) u) :
    ArmFor flags0 classFile x code maxLocals ret World_1 tables_1 room_1 Calls_1 rest_1 Pre_1 Post := by
  intro l hfl _ _ p e ha hc hk s m args below hf hA hF happ hP
  obtain ⟨hcalls, hrest, hpre⟩ := hP
  obtain ⟨-, -, -, hnamed, -, -, -, hat⟩ := (Spec.applies_iff hf).mp happ
  obtain ⟨hg, hn⟩ := and_e (Cond.before_iff.mp (show (Jvm.Cond.and given_1 narrow_1).before args s = true from hpre))
  obtain ⟨h1, h2⟩ := and_e hg
  obtain ⟨h3, h4⟩ := and_e h2
  obtain ⟨w0, w1, rfl⟩ : ∃ w0 w1 : Value, args = #[w0, w1] := by
    have hs : args.size = 2 := by simpa [Cond.value, given_1] using h1
    obtain ⟨L⟩ := args
    match L, hs with
    | [w0, w1], _ => exact ⟨w0, w1, rfl⟩
  have hw := fun d (hd : d ∈ tables_1) => atoms_spec (ws := Jvm.Cond.code x code maxLocals ret :: tables_1) hat d (List.mem_cons_of_mem _ hd)
  obtain ⟨i0, ei0⟩ := is_v h3
  obtain rfl : w0 = (.int i0) := Option.some.inj ei0
  obtain ⟨i1, ei1⟩ := is_v h4
  obtain rfl : w1 = (.int i1) := Option.some.inj ei1
  obtain ⟨hsets, hown0⟩ := atoms_of _ (rest_1_c_eq ▸ (show rest_1_c.before _ s = true from hrest))
  have hfit : Fit s := fun {y c} hc i hi => by
    obtain ⟨ha, rfl⟩ := Array.getElem?_eq_some_iff.mp hc
    have q := List.all_eq_true.mp ((Array.all_eq_true_iff_forall_mem.mp hF) _ (Array.getElem_mem ha)) i (List.mem_range.mpr hi)
    simpa [Array.getElem?_eq_getElem hi] using q
  obtain ⟨z0, ez0⟩ := arr_v (Cond.before_iff.mp (hsets _ (List.mem_of_getElem? (i := 18) rfl)))
  have S0 : Sta s s.heap "java/math/BigDecimal" "ZERO_THROUGH_TEN" "[Ljava/math/BigDecimal;" (.ref z0) := Sta.start (args := #[(.int i0), (.int i1)]) ez0 (Or.inl (hsets _ (List.mem_of_getElem? (i := 1) rfl)))
  obtain ⟨y20, ey20⟩ := exa_v (Cond.before_iff.mp (hsets _ (List.mem_of_getElem? (i := 22) rfl)))
  obtain ⟨y21, ey21⟩ := exa_v (Cond.before_iff.mp (hsets _ (List.mem_of_getElem? (i := 32) rfl)))
  obtain ⟨y22, ey22⟩ := exa_v (Cond.before_iff.mp (hsets _ (List.mem_of_getElem? (i := 42) rfl)))
  obtain ⟨y23, ey23⟩ := exa_v (Cond.before_iff.mp (hsets _ (List.mem_of_getElem? (i := 51) rfl)))
  obtain ⟨y24, ey24⟩ := exa_v (Cond.before_iff.mp (hsets _ (List.mem_of_getElem? (i := 59) rfl)))
  obtain ⟨y25, ey25⟩ := exa_v (Cond.before_iff.mp (hsets _ (List.mem_of_getElem? (i := 67) rfl)))
  obtain ⟨y26, ey26⟩ := exa_v (Cond.before_iff.mp (hsets _ (List.mem_of_getElem? (i := 75) rfl)))
  obtain ⟨y27, ey27⟩ := exa_v (Cond.before_iff.mp (hsets _ (List.mem_of_getElem? (i := 83) rfl)))
  obtain ⟨y28, ey28⟩ := exa_v (Cond.before_iff.mp (hsets _ (List.mem_of_getElem? (i := 91) rfl)))
  obtain ⟨y29, ey29⟩ := exa_v (Cond.before_iff.mp (hsets _ (List.mem_of_getElem? (i := 99) rfl)))
  obtain ⟨y30, ey30⟩ := exa_v (Cond.before_iff.mp (hsets _ (List.mem_of_getElem? (i := 108) rfl)))
  obtain ⟨c0, A0⟩ := Arr.start ez0 (Cond.before_iff.mp (hsets _ (List.mem_of_getElem? (i := 18) rfl)))
  have l0 := own_len (eqv_i (Term.int_eval (11)) (Cond.before_iff.mp (hsets _ (List.mem_of_getElem? (i := 20) rfl)))) ez0 A0
  have h0_0 := (elem_in ey20 ez0 (Term.int_eval (0)) A0.1).2
  have h0_1 := (elem_in ey21 ez0 (Term.int_eval (1)) A0.1).2
  have h0_2 := (elem_in ey22 ez0 (Term.int_eval (2)) A0.1).2
  have h0_3 := (elem_in ey23 ez0 (Term.int_eval (3)) A0.1).2
  have h0_4 := (elem_in ey24 ez0 (Term.int_eval (4)) A0.1).2
  have h0_5 := (elem_in ey25 ez0 (Term.int_eval (5)) A0.1).2
  have h0_6 := (elem_in ey26 ez0 (Term.int_eval (6)) A0.1).2
  have h0_7 := (elem_in ey27 ez0 (Term.int_eval (7)) A0.1).2
  have h0_8 := (elem_in ey28 ez0 (Term.int_eval (8)) A0.1).2
  have h0_9 := (elem_in ey29 ez0 (Term.int_eval (9)) A0.1).2
  have h0_10 := (elem_in ey30 ez0 (Term.int_eval (10)) A0.1).2
  have V0 := Arv.start (dv := .null) (vs := [(.ref y20), (.ref y21), (.ref y22), (.ref y23), (.ref y24), (.ref y25), (.ref y26), (.ref y27), (.ref y28), (.ref y29), (.ref y30)]) hfit A0 l0.1 l0.2 (by decide) rfl ⟨h0_0, h0_1, h0_2, h0_3, h0_4, h0_5, h0_6, h0_7, h0_8, h0_9, h0_10, trivial⟩
  obtain ⟨z1, ez1⟩ := arr_v (Cond.before_iff.mp (hsets _ (List.mem_of_getElem? (i := 123) rfl)))
  have S1 : Sta s s.heap "java/math/BigDecimal" "ZERO_SCALED_BY" "[Ljava/math/BigDecimal;" (.ref z1) := Sta.start (args := #[(.int i0), (.int i1)]) ez1 (Or.inl (hsets _ (List.mem_of_getElem? (i := 118) rfl)))
  obtain ⟨y40, ey40⟩ := exa_v (Cond.before_iff.mp (hsets _ (List.mem_of_getElem? (i := 127) rfl)))
  obtain ⟨y41, ey41⟩ := exa_v (Cond.before_iff.mp (hsets _ (List.mem_of_getElem? (i := 136) rfl)))
  obtain ⟨y42, ey42⟩ := exa_v (Cond.before_iff.mp (hsets _ (List.mem_of_getElem? (i := 145) rfl)))
  obtain ⟨y43, ey43⟩ := exa_v (Cond.before_iff.mp (hsets _ (List.mem_of_getElem? (i := 154) rfl)))
  obtain ⟨y44, ey44⟩ := exa_v (Cond.before_iff.mp (hsets _ (List.mem_of_getElem? (i := 163) rfl)))
  obtain ⟨y45, ey45⟩ := exa_v (Cond.before_iff.mp (hsets _ (List.mem_of_getElem? (i := 172) rfl)))
  obtain ⟨y46, ey46⟩ := exa_v (Cond.before_iff.mp (hsets _ (List.mem_of_getElem? (i := 181) rfl)))
  obtain ⟨y47, ey47⟩ := exa_v (Cond.before_iff.mp (hsets _ (List.mem_of_getElem? (i := 190) rfl)))
  obtain ⟨y48, ey48⟩ := exa_v (Cond.before_iff.mp (hsets _ (List.mem_of_getElem? (i := 199) rfl)))
  obtain ⟨y49, ey49⟩ := exa_v (Cond.before_iff.mp (hsets _ (List.mem_of_getElem? (i := 208) rfl)))
  obtain ⟨y50, ey50⟩ := exa_v (Cond.before_iff.mp (hsets _ (List.mem_of_getElem? (i := 217) rfl)))
  obtain ⟨y51, ey51⟩ := exa_v (Cond.before_iff.mp (hsets _ (List.mem_of_getElem? (i := 226) rfl)))
  obtain ⟨y52, ey52⟩ := exa_v (Cond.before_iff.mp (hsets _ (List.mem_of_getElem? (i := 235) rfl)))
  obtain ⟨y53, ey53⟩ := exa_v (Cond.before_iff.mp (hsets _ (List.mem_of_getElem? (i := 244) rfl)))
  obtain ⟨y54, ey54⟩ := exa_v (Cond.before_iff.mp (hsets _ (List.mem_of_getElem? (i := 253) rfl)))
  obtain ⟨y55, ey55⟩ := exa_v (Cond.before_iff.mp (hsets _ (List.mem_of_getElem? (i := 262) rfl)))
  obtain ⟨c1, A1⟩ := Arr.start ez1 (Cond.before_iff.mp (hsets _ (List.mem_of_getElem? (i := 123) rfl)))
  have l1 := own_len (eqv_i (Term.int_eval (16)) (Cond.before_iff.mp (hsets _ (List.mem_of_getElem? (i := 125) rfl)))) ez1 A1
  have h1_0 := (elem_in ey40 ez1 (Term.int_eval (0)) A1.1).2
  have h1_1 := (elem_in ey41 ez1 (Term.int_eval (1)) A1.1).2
  have h1_2 := (elem_in ey42 ez1 (Term.int_eval (2)) A1.1).2
  have h1_3 := (elem_in ey43 ez1 (Term.int_eval (3)) A1.1).2
  have h1_4 := (elem_in ey44 ez1 (Term.int_eval (4)) A1.1).2
  have h1_5 := (elem_in ey45 ez1 (Term.int_eval (5)) A1.1).2
  have h1_6 := (elem_in ey46 ez1 (Term.int_eval (6)) A1.1).2
  have h1_7 := (elem_in ey47 ez1 (Term.int_eval (7)) A1.1).2
  have h1_8 := (elem_in ey48 ez1 (Term.int_eval (8)) A1.1).2
  have h1_9 := (elem_in ey49 ez1 (Term.int_eval (9)) A1.1).2
  have h1_10 := (elem_in ey50 ez1 (Term.int_eval (10)) A1.1).2
  have h1_11 := (elem_in ey51 ez1 (Term.int_eval (11)) A1.1).2
  have h1_12 := (elem_in ey52 ez1 (Term.int_eval (12)) A1.1).2
  have h1_13 := (elem_in ey53 ez1 (Term.int_eval (13)) A1.1).2
  have h1_14 := (elem_in ey54 ez1 (Term.int_eval (14)) A1.1).2
  have h1_15 := (elem_in ey55 ez1 (Term.int_eval (15)) A1.1).2
  have V1 := Arv.start (dv := .null) (vs := [(.ref y40), (.ref y41), (.ref y42), (.ref y43), (.ref y44), (.ref y45), (.ref y46), (.ref y47), (.ref y48), (.ref y49), (.ref y50), (.ref y51), (.ref y52), (.ref y53), (.ref y54), (.ref y55)]) hfit A1 l1.1 l1.2 (by decide) rfl ⟨h1_0, h1_1, h1_2, h1_3, h1_4, h1_5, h1_6, h1_7, h1_8, h1_9, h1_10, h1_11, h1_12, h1_13, h1_14, h1_15, trivial⟩
  obtain ⟨z2, ez2⟩ := arr_v (Cond.before_iff.mp (hsets _ (List.mem_of_getElem? (i := 273) rfl)))
  have S2 : Sta s s.heap "java/math/BigDecimal" "LONG_TEN_POWERS_TABLE" "[J" (.ref z2) := Sta.start (args := #[(.int i0), (.int i1)]) ez2 (Or.inl (hsets _ (List.mem_of_getElem? (i := 272) rfl)))
  obtain ⟨c2, A2⟩ := Arr.start ez2 (Cond.before_iff.mp (hsets _ (List.mem_of_getElem? (i := 273) rfl)))
  have l2 := own_len (eqv_i (Term.int_eval (19)) (Cond.before_iff.mp (hsets _ (List.mem_of_getElem? (i := 275) rfl)))) ez2 A2
  have h2_0 := (elem_in (eqv_l (own_le (1)) (Cond.before_iff.mp (hsets _ (List.mem_of_getElem? (i := 276) rfl)))) ez2 (Term.int_eval (0)) A2.1).2
  have h2_1 := (elem_in (eqv_l (own_le (10)) (Cond.before_iff.mp (hsets _ (List.mem_of_getElem? (i := 277) rfl)))) ez2 (Term.int_eval (1)) A2.1).2
  have h2_2 := (elem_in (eqv_l (own_le (100)) (Cond.before_iff.mp (hsets _ (List.mem_of_getElem? (i := 278) rfl)))) ez2 (Term.int_eval (2)) A2.1).2
  have h2_3 := (elem_in (eqv_l (own_le (1000)) (Cond.before_iff.mp (hsets _ (List.mem_of_getElem? (i := 279) rfl)))) ez2 (Term.int_eval (3)) A2.1).2
  have h2_4 := (elem_in (eqv_l (own_le (10000)) (Cond.before_iff.mp (hsets _ (List.mem_of_getElem? (i := 280) rfl)))) ez2 (Term.int_eval (4)) A2.1).2
  have h2_5 := (elem_in (eqv_l (own_le (100000)) (Cond.before_iff.mp (hsets _ (List.mem_of_getElem? (i := 281) rfl)))) ez2 (Term.int_eval (5)) A2.1).2
  have h2_6 := (elem_in (eqv_l (own_le (1000000)) (Cond.before_iff.mp (hsets _ (List.mem_of_getElem? (i := 282) rfl)))) ez2 (Term.int_eval (6)) A2.1).2
  have h2_7 := (elem_in (eqv_l (own_le (10000000)) (Cond.before_iff.mp (hsets _ (List.mem_of_getElem? (i := 283) rfl)))) ez2 (Term.int_eval (7)) A2.1).2
  have h2_8 := (elem_in (eqv_l (own_le (100000000)) (Cond.before_iff.mp (hsets _ (List.mem_of_getElem? (i := 284) rfl)))) ez2 (Term.int_eval (8)) A2.1).2
  have h2_9 := (elem_in (eqv_l (own_le (1000000000)) (Cond.before_iff.mp (hsets _ (List.mem_of_getElem? (i := 285) rfl)))) ez2 (Term.int_eval (9)) A2.1).2
  have h2_10 := (elem_in (eqv_l (own_le (10000000000)) (Cond.before_iff.mp (hsets _ (List.mem_of_getElem? (i := 286) rfl)))) ez2 (Term.int_eval (10)) A2.1).2
  have h2_11 := (elem_in (eqv_l (own_le (100000000000)) (Cond.before_iff.mp (hsets _ (List.mem_of_getElem? (i := 287) rfl)))) ez2 (Term.int_eval (11)) A2.1).2
  have h2_12 := (elem_in (eqv_l (own_le (1000000000000)) (Cond.before_iff.mp (hsets _ (List.mem_of_getElem? (i := 288) rfl)))) ez2 (Term.int_eval (12)) A2.1).2
  have h2_13 := (elem_in (eqv_l (own_le (10000000000000)) (Cond.before_iff.mp (hsets _ (List.mem_of_getElem? (i := 289) rfl)))) ez2 (Term.int_eval (13)) A2.1).2
  have h2_14 := (elem_in (eqv_l (own_le (100000000000000)) (Cond.before_iff.mp (hsets _ (List.mem_of_getElem? (i := 290) rfl)))) ez2 (Term.int_eval (14)) A2.1).2
  have h2_15 := (elem_in (eqv_l (own_le (1000000000000000)) (Cond.before_iff.mp (hsets _ (List.mem_of_getElem? (i := 291) rfl)))) ez2 (Term.int_eval (15)) A2.1).2
  have h2_16 := (elem_in (eqv_l (own_le (10000000000000000)) (Cond.before_iff.mp (hsets _ (List.mem_of_getElem? (i := 292) rfl)))) ez2 (Term.int_eval (16)) A2.1).2
  have h2_17 := (elem_in (eqv_l (own_le (100000000000000000)) (Cond.before_iff.mp (hsets _ (List.mem_of_getElem? (i := 293) rfl)))) ez2 (Term.int_eval (17)) A2.1).2
  have h2_18 := (elem_in (eqv_l (own_le (1000000000000000000)) (Cond.before_iff.mp (hsets _ (List.mem_of_getElem? (i := 294) rfl)))) ez2 (Term.int_eval (18)) A2.1).2
  have V2 := Arv.start (dv := (.long 0)) (vs := [(.long 1), (.long 10), (.long 100), (.long 1000), (.long 10000), (.long 100000), (.long 1000000), (.long 10000000), (.long 100000000), (.long 1000000000), (.long 10000000000), (.long 100000000000), (.long 1000000000000), (.long 10000000000000), (.long 100000000000000), (.long 1000000000000000), (.long 10000000000000000), (.long 100000000000000000), (.long 1000000000000000000)]) hfit A2 l2.1 l2.2 (by decide) rfl ⟨h2_0, h2_1, h2_2, h2_3, h2_4, h2_5, h2_6, h2_7, h2_8, h2_9, h2_10, h2_11, h2_12, h2_13, h2_14, h2_15, h2_16, h2_17, h2_18, trivial⟩
  obtain ⟨z3, ez3⟩ := arr_v (Cond.before_iff.mp (hsets _ (List.mem_of_getElem? (i := 297) rfl)))
  have S3 : Sta s s.heap "java/math/BigDecimal" "THRESHOLDS_TABLE" "[J" (.ref z3) := Sta.start (args := #[(.int i0), (.int i1)]) ez3 (Or.inl (hsets _ (List.mem_of_getElem? (i := 296) rfl)))
  obtain ⟨c3, A3⟩ := Arr.start ez3 (Cond.before_iff.mp (hsets _ (List.mem_of_getElem? (i := 297) rfl)))
  have l3 := own_len (eqv_i (Term.int_eval (19)) (Cond.before_iff.mp (hsets _ (List.mem_of_getElem? (i := 299) rfl)))) ez3 A3
  have h3_0 := (elem_in (eqv_l (own_le (9223372036854775807)) (Cond.before_iff.mp (hsets _ (List.mem_of_getElem? (i := 300) rfl)))) ez3 (Term.int_eval (0)) A3.1).2
  have h3_1 := (elem_in (eqv_l (own_le (922337203685477580)) (Cond.before_iff.mp (hsets _ (List.mem_of_getElem? (i := 301) rfl)))) ez3 (Term.int_eval (1)) A3.1).2
  have h3_2 := (elem_in (eqv_l (own_le (92233720368547758)) (Cond.before_iff.mp (hsets _ (List.mem_of_getElem? (i := 302) rfl)))) ez3 (Term.int_eval (2)) A3.1).2
  have h3_3 := (elem_in (eqv_l (own_le (9223372036854775)) (Cond.before_iff.mp (hsets _ (List.mem_of_getElem? (i := 303) rfl)))) ez3 (Term.int_eval (3)) A3.1).2
  have h3_4 := (elem_in (eqv_l (own_le (922337203685477)) (Cond.before_iff.mp (hsets _ (List.mem_of_getElem? (i := 304) rfl)))) ez3 (Term.int_eval (4)) A3.1).2
  have h3_5 := (elem_in (eqv_l (own_le (92233720368547)) (Cond.before_iff.mp (hsets _ (List.mem_of_getElem? (i := 305) rfl)))) ez3 (Term.int_eval (5)) A3.1).2
  have h3_6 := (elem_in (eqv_l (own_le (9223372036854)) (Cond.before_iff.mp (hsets _ (List.mem_of_getElem? (i := 306) rfl)))) ez3 (Term.int_eval (6)) A3.1).2
  have h3_7 := (elem_in (eqv_l (own_le (922337203685)) (Cond.before_iff.mp (hsets _ (List.mem_of_getElem? (i := 307) rfl)))) ez3 (Term.int_eval (7)) A3.1).2
  have h3_8 := (elem_in (eqv_l (own_le (92233720368)) (Cond.before_iff.mp (hsets _ (List.mem_of_getElem? (i := 308) rfl)))) ez3 (Term.int_eval (8)) A3.1).2
  have h3_9 := (elem_in (eqv_l (own_le (9223372036)) (Cond.before_iff.mp (hsets _ (List.mem_of_getElem? (i := 309) rfl)))) ez3 (Term.int_eval (9)) A3.1).2
  have h3_10 := (elem_in (eqv_l (own_le (922337203)) (Cond.before_iff.mp (hsets _ (List.mem_of_getElem? (i := 310) rfl)))) ez3 (Term.int_eval (10)) A3.1).2
  have h3_11 := (elem_in (eqv_l (own_le (92233720)) (Cond.before_iff.mp (hsets _ (List.mem_of_getElem? (i := 311) rfl)))) ez3 (Term.int_eval (11)) A3.1).2
  have h3_12 := (elem_in (eqv_l (own_le (9223372)) (Cond.before_iff.mp (hsets _ (List.mem_of_getElem? (i := 312) rfl)))) ez3 (Term.int_eval (12)) A3.1).2
  have h3_13 := (elem_in (eqv_l (own_le (922337)) (Cond.before_iff.mp (hsets _ (List.mem_of_getElem? (i := 313) rfl)))) ez3 (Term.int_eval (13)) A3.1).2
  have h3_14 := (elem_in (eqv_l (own_le (92233)) (Cond.before_iff.mp (hsets _ (List.mem_of_getElem? (i := 314) rfl)))) ez3 (Term.int_eval (14)) A3.1).2
  have h3_15 := (elem_in (eqv_l (own_le (9223)) (Cond.before_iff.mp (hsets _ (List.mem_of_getElem? (i := 315) rfl)))) ez3 (Term.int_eval (15)) A3.1).2
  have h3_16 := (elem_in (eqv_l (own_le (922)) (Cond.before_iff.mp (hsets _ (List.mem_of_getElem? (i := 316) rfl)))) ez3 (Term.int_eval (16)) A3.1).2
  have h3_17 := (elem_in (eqv_l (own_le (92)) (Cond.before_iff.mp (hsets _ (List.mem_of_getElem? (i := 317) rfl)))) ez3 (Term.int_eval (17)) A3.1).2
  have h3_18 := (elem_in (eqv_l (own_le (9)) (Cond.before_iff.mp (hsets _ (List.mem_of_getElem? (i := 318) rfl)))) ez3 (Term.int_eval (18)) A3.1).2
  have V3 := Arv.start (dv := (.long 0)) (vs := [(.long 9223372036854775807), (.long 922337203685477580), (.long 92233720368547758), (.long 9223372036854775), (.long 922337203685477), (.long 92233720368547), (.long 9223372036854), (.long 922337203685), (.long 92233720368), (.long 9223372036), (.long 922337203), (.long 92233720), (.long 9223372), (.long 922337), (.long 92233), (.long 9223), (.long 922), (.long 92), (.long 9)]) hfit A3 l3.1 l3.2 (by decide) rfl ⟨h3_0, h3_1, h3_2, h3_3, h3_4, h3_5, h3_6, h3_7, h3_8, h3_9, h3_10, h3_11, h3_12, h3_13, h3_14, h3_15, h3_16, h3_17, h3_18, trivial⟩
  obtain ⟨z4, ez4⟩ := exa_v (Cond.before_iff.mp (hsets _ (List.mem_of_getElem? (i := 321) rfl)))
  have S4 : Sta s s.heap "java/time/Duration" "BI_NANOS_PER_SECOND" "Ljava/math/BigInteger;" (.ref z4) := Sta.start (args := #[(.int i0), (.int i1)]) ez4 (Or.inl (hsets _ (List.mem_of_getElem? (i := 320) rfl)))
  have E4 : Exa s s.heap z4 "java/math/BigInteger" := Exa.start ez4 (Cond.before_iff.mp (hsets _ (List.mem_of_getElem? (i := 321) rfl)))
  have G4 : Fld s s.heap z4 "java/math/BigInteger" "signum" "I" (.int (1 : Int32)) := Fld.start (by have q := eqv_i (Term.int_eval (1)) (Cond.before_iff.mp (hsets _ (List.mem_of_getElem? (i := 322) rfl))); rw [fld_at ez4] at q; exact q)
  obtain ⟨z5, ez5⟩ := arr_v (Cond.before_iff.mp (hsets _ (List.mem_of_getElem? (i := 323) rfl)))
  have M4 : Fld s s.heap z4 "java/math/BigInteger" "mag" "[I" (.ref z5) := Fld.start (by have q := ez5; rw [fld_at ez4] at q; exact q)
  obtain ⟨c5, A5⟩ := Arr.start ez5 (Cond.before_iff.mp (hsets _ (List.mem_of_getElem? (i := 323) rfl)))
  have l5 := own_len (eqv_i (Term.int_eval (1)) (Cond.before_iff.mp (hsets _ (List.mem_of_getElem? (i := 325) rfl)))) ez5 A5
  have h5_0 := (elem_in (eqv_i (Term.int_eval (1000000000)) (Cond.before_iff.mp (hsets _ (List.mem_of_getElem? (i := 326) rfl)))) ez5 (Term.int_eval (0)) A5.1).2
  have V5 := Arv.start (dv := (.int 0)) (vs := [(.int 1000000000)]) hfit A5 l5.1 l5.2 (by decide) rfl ⟨h5_0, trivial⟩
  obtain ⟨z6, ez6⟩ := exa_v (Cond.before_iff.mp (hsets _ (List.mem_of_getElem? (i := 329) rfl)))
  have S6 : Sta s s.heap "java/math/BigInteger" "ZERO" "Ljava/math/BigInteger;" (.ref z6) := Sta.start (args := #[(.int i0), (.int i1)]) ez6 (Or.inl (hsets _ (List.mem_of_getElem? (i := 5) rfl)))
  have E6 : Exa s s.heap z6 "java/math/BigInteger" := Exa.start ez6 (Cond.before_iff.mp (hsets _ (List.mem_of_getElem? (i := 329) rfl)))
  have G6 : Fld s s.heap z6 "java/math/BigInteger" "signum" "I" (.int (0 : Int32)) := Fld.start (by have q := eqv_i (Term.int_eval (0)) (Cond.before_iff.mp (hsets _ (List.mem_of_getElem? (i := 330) rfl))); rw [fld_at ez6] at q; exact q)
  obtain ⟨z7, ez7⟩ := arr_v (Cond.before_iff.mp (hsets _ (List.mem_of_getElem? (i := 331) rfl)))
  have M6 : Fld s s.heap z6 "java/math/BigInteger" "mag" "[I" (.ref z7) := Fld.start (by have q := ez7; rw [fld_at ez6] at q; exact q)
  obtain ⟨c7, A7⟩ := Arr.start ez7 (Cond.before_iff.mp (hsets _ (List.mem_of_getElem? (i := 331) rfl)))
  have l7 := own_len (eqv_i (Term.int_eval (0)) (Cond.before_iff.mp (hsets _ (List.mem_of_getElem? (i := 333) rfl)))) ez7 A7
  have V7 := Arv.start (dv := (.int 0)) (vs := []) hfit A7 l7.1 l7.2 (by decide) rfl trivial
  have E21 : Exa s s.heap y21 "java/math/BigDecimal" := Exa.start ey21 (Cond.before_iff.mp (hsets _ (List.mem_of_getElem? (i := 32) rfl)))
  have C21 : Fld s s.heap y21 "java/math/BigDecimal" "intCompact" "J" (.long (1 : Int64)) := Fld.start (by have q := eqv_l (own_le (1)) (Cond.before_iff.mp (hsets _ (List.mem_of_getElem? (i := 34) rfl))); rw [fld_at ey21] at q; exact q)
  have K21 : Fld s s.heap y21 "java/math/BigDecimal" "scale" "I" (.int (0 : Int32)) := Fld.start (by have q := eqv_i (Term.int_eval (0)) (Cond.before_iff.mp (hsets _ (List.mem_of_getElem? (i := 33) rfl))); rw [fld_at ey21] at q; exact q)
  have E22 : Exa s s.heap y22 "java/math/BigDecimal" := Exa.start ey22 (Cond.before_iff.mp (hsets _ (List.mem_of_getElem? (i := 42) rfl)))
  have C22 : Fld s s.heap y22 "java/math/BigDecimal" "intCompact" "J" (.long (2 : Int64)) := Fld.start (by have q := eqv_l (own_le (2)) (Cond.before_iff.mp (hsets _ (List.mem_of_getElem? (i := 44) rfl))); rw [fld_at ey22] at q; exact q)
  have K22 : Fld s s.heap y22 "java/math/BigDecimal" "scale" "I" (.int (0 : Int32)) := Fld.start (by have q := eqv_i (Term.int_eval (0)) (Cond.before_iff.mp (hsets _ (List.mem_of_getElem? (i := 43) rfl))); rw [fld_at ey22] at q; exact q)
  have E24 : Exa s s.heap y24 "java/math/BigDecimal" := Exa.start ey24 (Cond.before_iff.mp (hsets _ (List.mem_of_getElem? (i := 59) rfl)))
  have C24 : Fld s s.heap y24 "java/math/BigDecimal" "intCompact" "J" (.long (4 : Int64)) := Fld.start (by have q := eqv_l (own_le (4)) (Cond.before_iff.mp (hsets _ (List.mem_of_getElem? (i := 61) rfl))); rw [fld_at ey24] at q; exact q)
  have K24 : Fld s s.heap y24 "java/math/BigDecimal" "scale" "I" (.int (0 : Int32)) := Fld.start (by have q := eqv_i (Term.int_eval (0)) (Cond.before_iff.mp (hsets _ (List.mem_of_getElem? (i := 60) rfl))); rw [fld_at ey24] at q; exact q)
  have E28 : Exa s s.heap y28 "java/math/BigDecimal" := Exa.start ey28 (Cond.before_iff.mp (hsets _ (List.mem_of_getElem? (i := 91) rfl)))
  have C28 : Fld s s.heap y28 "java/math/BigDecimal" "intCompact" "J" (.long (8 : Int64)) := Fld.start (by have q := eqv_l (own_le (8)) (Cond.before_iff.mp (hsets _ (List.mem_of_getElem? (i := 93) rfl))); rw [fld_at ey28] at q; exact q)
  have K28 : Fld s s.heap y28 "java/math/BigDecimal" "scale" "I" (.int (0 : Int32)) := Fld.start (by have q := eqv_i (Term.int_eval (0)) (Cond.before_iff.mp (hsets _ (List.mem_of_getElem? (i := 92) rfl))); rw [fld_at ey28] at q; exact q)
  have E49 : Exa s s.heap y49 "java/math/BigDecimal" := Exa.start ey49 (Cond.before_iff.mp (hsets _ (List.mem_of_getElem? (i := 208) rfl)))
  have C49 : Fld s s.heap y49 "java/math/BigDecimal" "intCompact" "J" (.long (0 : Int64)) := Fld.start (by have q := eqv_l (own_le (0)) (Cond.before_iff.mp (hsets _ (List.mem_of_getElem? (i := 210) rfl))); rw [fld_at ey49] at q; exact q)
  have K49 : Fld s s.heap y49 "java/math/BigDecimal" "scale" "I" (.int (9 : Int32)) := Fld.start (by have q := eqv_i (Term.int_eval (9)) (Cond.before_iff.mp (hsets _ (List.mem_of_getElem? (i := 209) rfl))); rw [fld_at ey49] at q; exact q)
  have G : own_G s (fun i => ([z0, z1, z2, z3, z4, z5, z6, z7, 0, 0, 0, 0, 0, 0, 0, 0, 0, 0, 0, 0, y20, y21, y22, y23, y24, y25, y26, y27, y28, y29, y30, 0, 0, 0, 0, 0, 0, 0, 0, 0, y40, y41, y42, y43, y44, y45, y46, y47, y48, y49, y50, y51, y52, y53, y54, y55] : List Addr).getD i 0) (fun i => ([c0.cls, c1.cls, c2.cls, c3.cls, 0, c5.cls, 0, c7.cls] : List ClassId).getD i 0) := ⟨S0, V0, S1, V1, S2, V2, S3, V3, S4, E4, G4, M4, V5, S6, E6, G6, M6, V7, E21, C21, K21, E22, C22, K22, E24, C24, K24, E28, C28, K28, E49, C49, K49⟩
  obtain ⟨n1, n2⟩ := and_e hn
  obtain ⟨n3, n4⟩ := and_e n2
  obtain ⟨n5, n6⟩ := and_e n4
  obtain ⟨n7, n8⟩ := and_e n6
  obtain ⟨n9, n10⟩ := and_e n8
  obtain ⟨f1, ef1⟩ := exa_v n1
  have SF1 : Sta s s.heap "com/example/tidewheel/tidewheel/rules/Retries" "FIRST_DELAY" "Ljava/time/Duration;" (.ref f1) := Sta.start (args := #[(.int i0), (.int i1)]) ef1 (Or.inr ⟨(g_ hw 2 rfl), (g_ hw 5 rfl)⟩)
  have X1 : Exa s s.heap f1 "java/time/Duration" := Exa.start ef1 n1
  have Y1 : Fld s s.heap f1 "java/time/Duration" "seconds" "J" (.long (1 : Int64)) := Fld.start (by have q := eqv_l (own_le (1)) n5; rw [fld_at ef1] at q; exact q)
  have W1 : Fld s s.heap f1 "java/time/Duration" "nanos" "I" (.int (0 : Int32)) := Fld.start (by have q := eqv_i (Term.int_eval (0)) n9; rw [fld_at ef1] at q; exact q)
  obtain ⟨f2, ef2⟩ := exa_v n3
  have SF2 : Sta s s.heap "com/example/tidewheel/tidewheel/rules/Retries" "LONGEST_DELAY" "Ljava/time/Duration;" (.ref f2) := Sta.start (args := #[(.int i0), (.int i1)]) ef2 (Or.inr ⟨(g_ hw 2 rfl), (g_ hw 7 rfl)⟩)
  have X2 : Exa s s.heap f2 "java/time/Duration" := Exa.start ef2 n3
  have Y2 : Fld s s.heap f2 "java/time/Duration" "seconds" "J" (.long (3600 : Int64)) := Fld.start (by have q := eqv_l (own_le (3600)) n7; rw [fld_at ef2] at q; exact q)
  have W2 : Fld s s.heap f2 "java/time/Duration" "nanos" "I" (.int (0 : Int32)) := Fld.start (by have q := eqv_i (Term.int_eval (0)) n10; rw [fld_at ef2] at q; exact q)
  obtain ⟨n, o, h1, h2, h3, _, L, rfl, ⟨rfl, N⟩, hq⟩ := rm0 l s _ hw tables_1 i0 i1 (own_q i0 i1) f1 f2 _ _ s.heap s.heap.size (Nat.le_refl _) (Old.start s) G SF1 SF2 X1 X2 Y1 Y2 W1 W2 rfl (own_qn i0 i1) p e ha hc hk s m _ below hf ((Spec.applies_iff_loose hf).mp happ).1 ⟨rfl, State.Warmed39.refl s, rfl⟩ trivial
  refine ⟨n, _, h1, h2, h3, hpost _ _ _ _ _ _ ⟨Cond.after_iff.mpr rfl, Cond.after_iff.mpr (eq_i res_at (Term.int_eval (1)) rfl), trivial⟩ ⟨hq.1, hq.2.1, (hq.2.2.sift fun y hy => Or.inr (N y hy)).mono (by decide) (by decide)⟩⟩
theorem main_1_1 : Claimed_1_1 := comes_1 fun _ _ _ _ _ _ h hF => ⟨h.1, hF⟩
theorem main_1_2 : Claimed_1_2 := comes_1 fun _ _ _ _ _ _ h hF => ⟨h.2.1, hF⟩
end Jvm.Pilot.@@N@@
namespace Jvm.Pilot.@@N@@
open Jvm Jvm.ClassFile Sem Op Lib Jvm.Free Jvm.Stand Jvm.Pilot.@@N@@.Jvm.D
/-! MADE BY PROGRAM (witnessworld.py) out of the Statement's table words and the real class files: 27 classes; the members and pool entries that the words name. The judged class is class 1, her method 1. -/
namespace start1
open Jvm.ClassFile
def u (s : String) : CpInfo := .utf8 (stringToUtf16 s)
/-- a pool by its gaps: so many unusable entries, then the entry; so many at the end -/
def gap : Nat → List CpInfo → List CpInfo
  | 0, r => r
  | n + 1, r => .unusable :: gap n r
def poolList (es : List (Nat × CpInfo)) (last : Nat) : List CpInfo := es.foldr (fun e r => gap e.1 (e.2 :: r)) (gap last [])
def pool (es : List (Nat × CpInfo)) (last : Nat) : Array CpInfo := ⟨poolList es last⟩
def fileOf (pool : Array CpInfo) (this : Nat) (attrs : Array Attribute := #[]) (ms : Array MethodInfo := #[]) (fl : Nat := 33) (sup : Nat := 0) (ifs : Array Nat := #[]) (fds : Array FieldInfo := #[]) : ClassFile where
  minorVersion := 0
  majorVersion := 65
  constantPool := pool
  accessFlags := fl
  thisClass := this
  superClass := sup
  interfaces := ifs
  fields := fds
  methods := ms
  attributes := attrs
def plain (name : String) (sup : Option ClassId) : Class where
  name := name
  kind := .ordinary
  loader := none
  accessFlags := 33
  super := sup
  interfaces := #[]
  cf := none
  fields := #[]
  methods := #[]
  instanceTypes := #[]
  staticTypes := #[]
  resolved := #[]
  callSites := []
  init := .initialized
  statics := none
  mirror := none

def pool0 : Array CpInfo := pool [(5, u "<init>"), (0, u "()V"), (1, .class_ 10), (1, u "java/lang/Object")] 113

def k0c0 : Code := { maxStack := 0, maxLocals := 1, code := object_method_1_code, exceptionTable := #[], attributes := #[] }
def k0m0 : Method := { name := "<init>", desc := "()V", sig := { parameters := [], returnType := none }, accessFlags := 1, code := some k0c0 }
/-- java/lang/Object -/
def k0 : Class := { plain "java/lang/Object" none with
  accessFlags := 33
  interfaces := #[]
  cf := some (fileOf pool0 8 #[] #[{ accessFlags := 1, nameIndex := 5, descriptorIndex := 6, attributes := #[] }] 33 0 #[] #[])
  fields := #[]
  methods := #[k0m0]
  instanceTypes := #[]
  staticTypes := #[]
  resolved := Array.replicate 124 none
  statics := none }

def pool1 : Array CpInfo := pool [(2, .class_ 4), (1, u "java/lang/Object"), (0, u "<init>"), (0, u "()V"), (0, .integer 2147483647), (0, .methodref 9 10), (0, .class_ 11), (0, .nameAndType 12 13), (0, u "com/example/tidewheel/tidewheel/rules/Retries"), (0, u "delay"), (0, u "(I)Ljava/time/Duration;"), (0, .long 3600), (1, .methodref 17 18), (0, .class_ 19), (0, .nameAndType 20 21), (0, u "java/time/Duration"), (0, u "getSeconds"), (0, u "()J"), (0, .methodref 17 23), (0, .nameAndType 24 25), (0, u "getNano"), (0, u "()I"), (0, .class_ 27), (0, u "com/example/tidewheel/tidewheel/rules/RetriesDelayPinLaw"), (2, u "law"), (0, u "(II)Z")] 3

def k1m0 : Method := { name := "<init>", desc := "()V", sig := { parameters := [], returnType := none }, accessFlags := 1, code := none }
def k1c1 : Code := { maxStack := 4, maxLocals := 6, code := code, exceptionTable := #[], attributes := #[] }
def k1m1 : Method := { name := "law", desc := "(II)Z", sig := { parameters := [.int, .int], returnType := some .boolean }, accessFlags := 9, code := some k1c1 }
/-- com/example/tidewheel/tidewheel/rules/RetriesDelayPinLaw -/
def k1 : Class := { plain "com/example/tidewheel/tidewheel/rules/RetriesDelayPinLaw" (some 0) with
  accessFlags := 49
  interfaces := #[]
  cf := some (fileOf pool1 26 #[] #[{ accessFlags := 1, nameIndex := 5, descriptorIndex := 6, attributes := #[] }, { accessFlags := 9, nameIndex := 30, descriptorIndex := 31, attributes := #[] }] 49 2 #[] #[])
  fields := #[]
  methods := #[k1m0, k1m1]
  instanceTypes := #[]
  staticTypes := #[]
  resolved := Array.replicate 35 none
  statics := none }

def pool2 : Array CpInfo := pool [(2, .class_ 4), (1, u "java/lang/Object"), (0, u "<init>"), (0, u "()V"), (19, .fieldref 27 28), (0, .class_ 29), (0, .nameAndType 30 31), (0, u "com/example/tidewheel/tidewheel/rules/Retries"), (0, u "FIRST_DELAY"), (0, u "Ljava/time/Duration;"), (0, .fieldref 27 33), (0, .nameAndType 34 31), (0, u "LONGEST_DELAY"), (0, .methodref 36 37), (0, .class_ 38), (0, .nameAndType 39 40), (0, u "java/time/Duration"), (0, u "compareTo"), (0, u "(Ljava/time/Duration;)I"), (0, .long 2), (1, .methodref 36 44), (0, .nameAndType 45 46), (0, u "multipliedBy"), (0, u "(J)Ljava/time/Duration;"), (6, u "DEFAULT_MAX_ATTEMPTS"), (0, u "I"), (4, u "delay"), (0, u "(I)Ljava/time/Duration;")] 4

def k2m0 : Method := { name := "<init>", desc := "()V", sig := { parameters := [], returnType := none }, accessFlags := 2, code := none }
def k2c1 : Code := { maxStack := 7, maxLocals := 3, code := prog_34_method_2_code, exceptionTable := #[], attributes := #[] }
def k2m1 : Method := { name := "delay", desc := "(I)Ljava/time/Duration;", sig := { parameters := [.int], returnType := some (.object "java/time/Duration") }, accessFlags := 9, code := some k2c1 }
/-- com/example/tidewheel/tidewheel/rules/Retries -/
def k2 : Class := { plain "com/example/tidewheel/tidewheel/rules/Retries" (some 0) with
  accessFlags := 49
  interfaces := #[]
  cf := some (fileOf pool2 27 #[] #[{ accessFlags := 2, nameIndex := 5, descriptorIndex := 6, attributes := #[] }, { accessFlags := 9, nameIndex := 59, descriptorIndex := 60, attributes := #[] }] 49 2 #[] #[{ accessFlags := 25, nameIndex := 53, descriptorIndex := 54, attributes := #[] }, { accessFlags := 25, nameIndex := 30, descriptorIndex := 31, attributes := #[] }, { accessFlags := 25, nameIndex := 34, descriptorIndex := 31, attributes := #[] }])
  fields := #[{ name := "DEFAULT_MAX_ATTEMPTS", type := .int, accessFlags := 25, slot := 0, constantValue := 0 }, { name := "FIRST_DELAY", type := (.object "java/time/Duration"), accessFlags := 25, slot := 1, constantValue := 0 }, { name := "LONGEST_DELAY", type := (.object "java/time/Duration"), accessFlags := 25, slot := 2, constantValue := 0 }]
  methods := #[k2m0, k2m1]
  instanceTypes := #[]
  staticTypes := #[.int, (.object "java/time/Duration"), (.object "java/time/Duration")]
  resolved := Array.replicate 65 none
  statics := some 0 }

def pool3 : Array CpInfo := pool [(1, .class_ 2), (0, u "java/time/temporal/TemporalAmount"), (0, .class_ 4), (0, u "java/lang/Object")] 11

/-- java/time/temporal/TemporalAmount -/
def k3 : Class := { plain "java/time/temporal/TemporalAmount" (some 0) with
  accessFlags := 1537
  interfaces := #[]
  cf := some (fileOf pool3 1 #[] #[] 1537 3 #[] #[])
  fields := #[]
  methods := #[]
  instanceTypes := #[]
  staticTypes := #[]
  resolved := Array.replicate 16 none
  statics := none }

def pool4 : Array CpInfo := pool [(1, .class_ 2), (0, u "java/lang/Comparable"), (0, .class_ 4), (0, u "java/lang/Object")] 7

/-- java/lang/Comparable -/
def k4 : Class := { plain "java/lang/Comparable" (some 0) with
  accessFlags := 1537
  interfaces := #[]
  cf := some (fileOf pool4 1 #[] #[] 1537 3 #[] #[])
  fields := #[]
  methods := #[]
  instanceTypes := #[]
  staticTypes := #[]
  resolved := Array.replicate 12 none
  statics := none }

def pool5 : Array CpInfo := pool [(1, .class_ 2), (0, u "java/io/Serializable"), (0, .class_ 4), (0, u "java/lang/Object")] 2

/-- java/io/Serializable -/
def k5 : Class := { plain "java/io/Serializable" (some 0) with
  accessFlags := 1537
  interfaces := #[]
  cf := some (fileOf pool5 1 #[] #[] 1537 3 #[] #[])
  fields := #[]
  methods := #[]
  instanceTypes := #[]
  staticTypes := #[]
  resolved := Array.replicate 7 none
  statics := none }

def pool6 : Array CpInfo := pool [(5, .class_ 7), (1, u "java/lang/Math"), (2, .methodref 11 12), (0, .class_ 13), (0, .nameAndType 14 15), (0, u "java/time/Duration"), (0, u "create"), (0, u "(JI)Ljava/time/Duration;"), (0, .long 1000000000), (1, .methodref 5 19), (0, .nameAndType 20 21), (0, u "floorDiv"), (0, u "(JJ)J"), (0, .methodref 5 23), (0, .nameAndType 24 21), (0, u "addExact"), (0, .methodref 5 26), (0, .nameAndType 27 21), (0, u "floorMod"), (6, u "ZERO"), (0, u "Ljava/time/Duration;"), (13, .class_ 51), (1, u "java/time/temporal/TemporalAmount"), (27, .class_ 81), (1, u "java/time/Duration$Lazy"), (35, u "seconds"), (21, u "<init>"), (7, .class_ 149), (1, u "java/lang/Long"), (7, .nameAndType 139 158), (0, u "()V"), (17, .methodref 11 177), (0, .nameAndType 178 179), (0, u "ofSeconds"), (0, u "(JJ)Ljava/time/Duration;"), (19, u "(J)Ljava/time/Duration;"), (15, .methodref 11 216), (0, .nameAndType 139 217), (0, u "(JI)V"), (0, .methodref 219 157), (0, .class_ 220), (0, u "java/lang/Object"), (0, .fieldref 11 222), (0, .nameAndType 117 223), (0, u "J"), (0, .fieldref 11 225), (0, .nameAndType 226 227), (0, u "nanos"), (0, u "I"), (11, .class_ 241), (1, u "java/time/Duration$DurationUnits"), (8, u "getSeconds"), (0, u "()J"), (2, u "getNano"), (0, u "()I"), (13, .class_ 271), (1, u "java/time/Duration$1"), (21, u "multipliedBy"), (15, .methodref 11 310), (0, .nameAndType 311 312), (0, u "toBigDecimalSeconds"), (0, u "()Ljava/math/BigDecimal;"), (0, .methodref 314 315), (0, .class_ 316), (0, .nameAndType 317 318), (0, u "java/math/BigDecimal"), (0, u "valueOf"), (0, u "(J)Ljava/math/BigDecimal;"), (0, .methodref 314 320), (0, .nameAndType 321 322), (0, u "multiply"), (0, u "(Ljava/math/BigDecimal;)Ljava/math/BigDecimal;"), (0, .methodref 11 324), (0, .nameAndType 14 325), (0, u "(Ljava/math/BigDecimal;)Ljava/time/Duration;"), (21, .methodref 314 348), (0, .nameAndType 317 349), (0, u "(JI)Ljava/math/BigDecimal;"), (0, .methodref 314 351), (0, .nameAndType 352 322), (0, u "add"), (0, .methodref 314 354), (0, .nameAndType 355 356), (0, u "movePointRight"), (0, u "(I)Ljava/math/BigDecimal;"), (0, .methodref 314 358), (0, .nameAndType 359 360), (0, u "toBigIntegerExact"), (0, u "()Ljava/math/BigInteger;"), (0, .fieldref 11 362), (0, .nameAndType 363 364), (0, u "BI_NANOS_PER_SECOND"), (0, u "Ljava/math/BigInteger;"), (0, .methodref 366 367), (0, .class_ 368), (0, .nameAndType 369 370), (0, u "java/math/BigInteger"), (0, u "divideAndRemainder"), (0, u "(Ljava/math/BigInteger;)[Ljava/math/BigInteger;"), (0, .methodref 366 372), (0, .nameAndType 373 255), (0, u "bitLength"), (2, .methodref 366 377), (0, .nameAndType 378 251), (0, u "longValue"), (0, .methodref 366 380), (0, .nameAndType 381 255), (0, u "intValue"), (34, .methodref 147 417), (0, .nameAndType 418 419), (0, u "compare"), (0, u "(JJ)I"), (60, u "compareTo"), (0, u "(Ljava/time/Duration;)I"), (3, .class_ 486), (0, u "java/lang/Comparable"), (0, .class_ 488), (0, u "java/io/Serializable"), (0, u "serialVersionUID")] 166

def k6c0 : Code := { maxStack := 6, maxLocals := 7, code := jdk_2316_method_5_code, exceptionTable := #[], attributes := #[] }
def k6m0 : Method := { name := "ofSeconds", desc := "(JJ)Ljava/time/Duration;", sig := { parameters := [.long, .long], returnType := some (.object "java/time/Duration") }, accessFlags := 9, code := some k6c0 }
def k6c1 : Code := { maxStack := 5, maxLocals := 3, code := jdk_2316_method_16_code, exceptionTable := #[], attributes := #[] }
def k6m1 : Method := { name := "create", desc := "(JI)Ljava/time/Duration;", sig := { parameters := [.long, .int], returnType := some (.object "java/time/Duration") }, accessFlags := 10, code := some k6c1 }
def k6c2 : Code := { maxStack := 3, maxLocals := 4, code := jdk_2316_method_17_code, exceptionTable := #[], attributes := #[] }
def k6m2 : Method := { name := "<init>", desc := "(JI)V", sig := { parameters := [.long, .int], returnType := none }, accessFlags := 2, code := some k6c2 }
def k6c3 : Code := { maxStack := 2, maxLocals := 1, code := jdk_2316_method_23_code, exceptionTable := #[], attributes := #[] }
def k6m3 : Method := { name := "getSeconds", desc := "()J", sig := { parameters := [], returnType := some .long }, accessFlags := 1, code := some k6c3 }
def k6c4 : Code := { maxStack := 1, maxLocals := 1, code := jdk_2316_method_24_code, exceptionTable := #[], attributes := #[] }
def k6m4 : Method := { name := "getNano", desc := "()I", sig := { parameters := [], returnType := some .int }, accessFlags := 1, code := some k6c4 }
def k6c5 : Code := { maxStack := 4, maxLocals := 3, code := jdk_2316_method_44_code, exceptionTable := #[], attributes := #[] }
def k6m5 : Method := { name := "multipliedBy", desc := "(J)Ljava/time/Duration;", sig := { parameters := [.long], returnType := some (.object "java/time/Duration") }, accessFlags := 1, code := some k6c5 }
def k6c6 : Code := { maxStack := 4, maxLocals := 1, code := jdk_2316_method_47_code, exceptionTable := #[], attributes := #[] }
def k6m6 : Method := { name := "toBigDecimalSeconds", desc := "()Ljava/math/BigDecimal;", sig := { parameters := [], returnType := some (.object "java/math/BigDecimal") }, accessFlags := 2, code := some k6c6 }
def k6c7 : Code := { maxStack := 4, maxLocals := 3, code := jdk_2316_method_48_code, exceptionTable := #[], attributes := #[] }
def k6m7 : Method := { name := "create", desc := "(Ljava/math/BigDecimal;)Ljava/time/Duration;", sig := { parameters := [(.object "java/math/BigDecimal")], returnType := some (.object "java/time/Duration") }, accessFlags := 10, code := some k6c7 }
def k6c8 : Code := { maxStack := 4, maxLocals := 3, code := jdk_2316_method_66_code, exceptionTable := #[], attributes := #[] }
def k6m8 : Method := { name := "compareTo", desc := "(Ljava/time/Duration;)I", sig := { parameters := [(.object "java/time/Duration")], returnType := some .int }, accessFlags := 1, code := some k6c8 }
/-- java/time/Duration -/
def k6 : Class := { plain "java/time/Duration" (some 0) with
  accessFlags := 49
  interfaces := #[3, 4, 5]
  cf := some (fileOf pool6 11 #[.nestMembers #[269, 239, 79]] #[{ accessFlags := 9, nameIndex := 178, descriptorIndex := 179, attributes := #[] }, { accessFlags := 10, nameIndex := 14, descriptorIndex := 15, attributes := #[] }, { accessFlags := 2, nameIndex := 139, descriptorIndex := 217, attributes := #[] }, { accessFlags := 1, nameIndex := 250, descriptorIndex := 251, attributes := #[] }, { accessFlags := 1, nameIndex := 254, descriptorIndex := 255, attributes := #[] }, { accessFlags := 1, nameIndex := 293, descriptorIndex := 199, attributes := #[] }, { accessFlags := 2, nameIndex := 311, descriptorIndex := 312, attributes := #[] }, { accessFlags := 10, nameIndex := 14, descriptorIndex := 325, attributes := #[] }, { accessFlags := 1, nameIndex := 480, descriptorIndex := 481, attributes := #[] }] 49 219 #[49, 485, 487] #[{ accessFlags := 25, nameIndex := 34, descriptorIndex := 35, attributes := #[] }, { accessFlags := 26, nameIndex := 489, descriptorIndex := 223, attributes := #[] }, { accessFlags := 26, nameIndex := 363, descriptorIndex := 364, attributes := #[] }, { accessFlags := 18, nameIndex := 117, descriptorIndex := 223, attributes := #[] }, { accessFlags := 18, nameIndex := 226, descriptorIndex := 227, attributes := #[] }])
  fields := #[{ name := "ZERO", type := (.object "java/time/Duration"), accessFlags := 25, slot := 0, constantValue := 0 }, { name := "serialVersionUID", type := .long, accessFlags := 26, slot := 1, constantValue := 0 }, { name := "BI_NANOS_PER_SECOND", type := (.object "java/math/BigInteger"), accessFlags := 26, slot := 2, constantValue := 0 }, { name := "seconds", type := .long, accessFlags := 18, slot := 0, constantValue := 0 }, { name := "nanos", type := .int, accessFlags := 18, slot := 1, constantValue := 0 }]
  methods := #[k6m0, k6m1, k6m2, k6m3, k6m4, k6m5, k6m6, k6m7, k6m8]
  instanceTypes := #[.long, .int]
  staticTypes := #[(.object "java/time/Duration"), .long, (.object "java/math/BigInteger")]
  resolved := Array.replicate 656 none
  statics := some 1 }

def pool7 : Array CpInfo := pool [(1, .methodref 2 3), (0, .class_ 4), (0, .nameAndType 5 6), (0, u "java/lang/Object"), (0, u "<init>"), (0, u "()V"), (1, .class_ 10), (1, u "java/lang/Number"), (2, .class_ 14), (0, u "java/io/Serializable"), (0, u "serialVersionUID"), (0, u "J")] 20

def k7c0 : Code := { maxStack := 1, maxLocals := 1, code := jdk_18_method_1_code, exceptionTable := #[], attributes := #[] }
def k7m0 : Method := { name := "<init>", desc := "()V", sig := { parameters := [], returnType := none }, accessFlags := 1, code := some k7c0 }
/-- java/lang/Number -/
def k7 : Class := { plain "java/lang/Number" (some 0) with
  accessFlags := 1057
  interfaces := #[5]
  cf := some (fileOf pool7 8 #[] #[{ accessFlags := 1, nameIndex := 5, descriptorIndex := 6, attributes := #[] }] 1057 2 #[13] #[{ accessFlags := 26, nameIndex := 15, descriptorIndex := 16, attributes := #[] }])
  fields := #[{ name := "serialVersionUID", type := .long, accessFlags := 26, slot := 0, constantValue := 0 }]
  methods := #[k7m0]
  instanceTypes := #[]
  staticTypes := #[.long]
  resolved := Array.replicate 37 none
  statics := none }

def pool8 : Array CpInfo := pool [(1, .class_ 2), (0, u "java/lang/constant/Constable"), (0, .class_ 4), (0, u "java/lang/Object")] 6

/-- java/lang/constant/Constable -/
def k8 : Class := { plain "java/lang/constant/Constable" (some 0) with
  accessFlags := 1537
  interfaces := #[]
  cf := some (fileOf pool8 1 #[] #[] 1537 3 #[] #[])
  fields := #[]
  methods := #[]
  instanceTypes := #[]
  staticTypes := #[]
  resolved := Array.replicate 11 none
  statics := none }

def pool9 : Array CpInfo := pool [(1, .class_ 2), (0, u "java/lang/constant/ConstantDesc"), (0, .class_ 4), (0, u "java/lang/Object")] 32

/-- java/lang/constant/ConstantDesc -/
def k9 : Class := { plain "java/lang/constant/ConstantDesc" (some 0) with
  accessFlags := 1537
  interfaces := #[]
  cf := some (fileOf pool9 1 #[] #[] 1537 3 #[] #[])
  fields := #[]
  methods := #[]
  instanceTypes := #[]
  staticTypes := #[]
  resolved := Array.replicate 37 none
  statics := none }

def pool10 : Array CpInfo := pool [(1, .class_ 2), (0, u "java/lang/Long"), (232, .class_ 237), (1, u "java/lang/Long$LongCache"), (33, .class_ 272), (0, u "java/lang/Number"), (2, u "value"), (0, u "J"), (27, u "compare"), (0, u "(JJ)I"), (55, u "TYPE"), (0, u "Ljava/lang/Class;"), (0, .class_ 364), (0, u "java/lang/Comparable"), (0, .class_ 366), (0, u "java/lang/constant/Constable"), (0, .class_ 368), (0, u "java/lang/constant/ConstantDesc"), (0, u "MIN_VALUE"), (1, u "MAX_VALUE"), (4, u "SIZE"), (0, u "I"), (1, u "BYTES"), (1, u "serialVersionUID")] 142

def k10c0 : Code := { maxStack := 4, maxLocals := 4, code := jdk_35_method_42_code, exceptionTable := #[], attributes := #[] }
def k10m0 : Method := { name := "compare", desc := "(JJ)I", sig := { parameters := [.long, .long], returnType := some .int }, accessFlags := 9, code := some k10c0 }
/-- java/lang/Long -/
def k10 : Class := { plain "java/lang/Long" (some 7) with
  accessFlags := 49
  interfaces := #[4, 8, 9]
  cf := some (fileOf pool10 1 #[.nestMembers #[235]] #[{ accessFlags := 9, nameIndex := 304, descriptorIndex := 305, attributes := #[] }] 49 271 #[363, 365, 367] #[{ accessFlags := 25, nameIndex := 369, descriptorIndex := 276, attributes := #[] }, { accessFlags := 25, nameIndex := 371, descriptorIndex := 276, attributes := #[] }, { accessFlags := 25, nameIndex := 361, descriptorIndex := 362, attributes := #[] }, { accessFlags := 18, nameIndex := 275, descriptorIndex := 276, attributes := #[] }, { accessFlags := 25, nameIndex := 376, descriptorIndex := 377, attributes := #[] }, { accessFlags := 25, nameIndex := 379, descriptorIndex := 377, attributes := #[] }, { accessFlags := 26, nameIndex := 381, descriptorIndex := 276, attributes := #[] }])
  fields := #[{ name := "MIN_VALUE", type := .long, accessFlags := 25, slot := 0, constantValue := 0 }, { name := "MAX_VALUE", type := .long, accessFlags := 25, slot := 1, constantValue := 0 }, { name := "TYPE", type := (.object "java/lang/Class"), accessFlags := 25, slot := 2, constantValue := 0 }, { name := "value", type := .long, accessFlags := 18, slot := 0, constantValue := 0 }, { name := "SIZE", type := .int, accessFlags := 25, slot := 3, constantValue := 0 }, { name := "BYTES", type := .int, accessFlags := 25, slot := 4, constantValue := 0 }, { name := "serialVersionUID", type := .long, accessFlags := 26, slot := 5, constantValue := 0 }]
  methods := #[k10m0]
  instanceTypes := #[.long]
  staticTypes := #[.long, .long, (.object "java/lang/Class"), .int, .int, .long]
  resolved := Array.replicate 524 none
  statics := none }

def pool11 : Array CpInfo := pool [(3, .class_ 4), (0, u "java/math/BigDecimal"), (4, .class_ 10), (0, u "java/math/BigInteger"), (0, .methodref 12 13), (0, .class_ 14), (0, .nameAndType 15 16), (0, u "java/lang/Number"), (0, u "<init>"), (0, u "()V"), (0, .fieldref 3 18), (0, .nameAndType 19 20), (0, u "scale"), (0, u "I"), (0, .fieldref 3 22), (0, .nameAndType 23 20), (0, u "precision"), (0, .fieldref 3 25), (0, .nameAndType 26 27), (0, u "intCompact"), (0, u "J"), (0, .fieldref 3 29), (0, .nameAndType 30 31), (0, u "intVal"), (0, u "Ljava/math/BigInteger;"), (63, .fieldref 3 96), (0, .nameAndType 97 98), (0, u "LONG_TEN_POWERS_TABLE"), (0, u "[J"), (16, u "(J)I"), (9, .long 9223372036854775808), (61, u "ZERO"), (2, u "INFLATED_BIGINT"), (2, .methodref 9 194), (0, .nameAndType 195 196), (0, u "valueOf"), (0, u "(J)Ljava/math/BigInteger;"), (6, u "multiply"), (2, u "TWO"), (31, u "(J)Ljava/math/BigDecimal;"), (0, .methodref 3 240), (0, .nameAndType 241 242), (0, u "zeroValueOf"), (0, u "(I)Ljava/math/BigDecimal;"), (0, .methodref 3 244), (0, .nameAndType 15 245), (0, u "(Ljava/math/BigInteger;JII)V"), (0, .fieldref 3 247), (0, .nameAndType 248 249), (0, u "ZERO_THROUGH_TEN"), (0, u "[Ljava/math/BigDecimal;"), (0, .fieldref 3 251), (0, .nameAndType 252 249), (0, u "ZERO_SCALED_BY"), (4, .methodref 3 258), (0, .nameAndType 259 260), (0, u "add"), (0, u "(JIJI)Ljava/math/BigDecimal;"), (8, u "(Ljava/math/BigDecimal;)Ljava/math/BigDecimal;"), (6, .class_ 278), (1, u "java/lang/Math"), (14, u "setScale"), (8, .methodref 3 303), (0, .nameAndType 304 305), (0, u "inflated"), (0, u "()Ljava/math/BigInteger;"), (7, u "$assertionsDisabled"), (0, u "Z"), (7, u "(JJ)J"), (2, .methodref 3 326), (0, .nameAndType 327 115), (0, u "checkScale"), (0, .methodref 3 329), (0, .nameAndType 195 330), (0, u "(JI)Ljava/math/BigDecimal;"), (11, .methodref 3 343), (0, .nameAndType 203 344), (0, u "(JJI)Ljava/math/BigDecimal;"), (74, .methodref 3 420), (0, .nameAndType 293 421), (0, u "(II)Ljava/math/BigDecimal;"), (18, .methodref 276 441), (0, .nameAndType 442 443), (0, u "abs"), (0, u "(J)J"), (34, u "ONE_TENTH"), (0, u "Ljava/math/BigDecimal;"), (5, u "TEN"), (14, .class_ 502), (1, u "java/math/BigDecimal$1"), (15, u "ONE_HALF"), (16, u "ONE"), (63, .methodref 3 600), (0, .nameAndType 601 602), (0, u "longMultiplyPowerTen"), (0, u "(JI)J"), (32, u "(JJ)I"), (7, u "stringCache"), (0, u "Ljava/lang/String;"), (52, .class_ 699), (1, u "java/math/BigDecimal$LongOverflow"), (8, u "FLOAT_10_POW"), (0, u "[F"), (39, u "DOUBLE_10_POW"), (0, u "[D"), (19, .class_ 772), (1, u "java/math/BigDecimal$StringBuilderHelper"), (35, u "BIG_TEN_POWERS_TABLE_MAX"), (2, u "BIG_TEN_POWERS_TABLE"), (0, u "[Ljava/math/BigInteger;"), (12, .fieldref 3 826), (0, .nameAndType 827 98), (0, u "THRESHOLDS_TABLE"), (23, .class_ 853), (1, u "java/math/BigDecimal$UnsafeHolder"), (140, .methodref 3 995), (0, .nameAndType 327 635), (0, .methodref 3 997), (0, .nameAndType 259 322), (2, .methodref 3 1001), (0, .nameAndType 259 344), (53, .methodref 3 1056), (0, .nameAndType 203 322), (11, u "LONGLONG_TEN_POWERS_TABLE"), (0, u "[[J"), (112, u "BIG_TEN_POWERS_TABLE_INITLEN"), (113, .class_ 1297), (0, u "java/lang/Comparable"), (0, u "L"), (0, u "D"), (1, u "P_F"), (1, u "Q_MIN_F"), (1, u "Q_MAX_F"), (1, u "P_D"), (1, u "Q_MIN_D"), (1, u "Q_MAX_D"), (1, u "INFLATED"), (0, u "MAX_COMPACT_DIGITS"), (1, u "serialVersionUID"), (2, u "HALF_LONG_MAX_VALUE"), (0, u "HALF_LONG_MIN_VALUE"), (0, u "ROUND_UP"), (6, u "ROUND_DOWN"), (1, u "ROUND_CEILING"), (1, u "ROUND_FLOOR"), (1, u "ROUND_HALF_UP"), (1, u "ROUND_HALF_DOWN"), (1, u "ROUND_HALF_EVEN"), (1, u "ROUND_UNNECESSARY"), (1, u "DIV_NUM_BASE"), (116, u "movePointRight"), (22, u "toBigIntegerExact")] 154

def k11c0 : Code := { maxStack := 3, maxLocals := 6, code := jdk_17_method_1_code, exceptionTable := #[], attributes := #[] }
def k11m0 : Method := { name := "<init>", desc := "(Ljava/math/BigInteger;JII)V", sig := { parameters := [(.object "java/math/BigInteger"), .long, .int, .int], returnType := none }, accessFlags := 0, code := some k11c0 }
def k11c1 : Code := { maxStack := 7, maxLocals := 3, code := jdk_17_method_20_code, exceptionTable := #[], attributes := #[] }
def k11m1 : Method := { name := "valueOf", desc := "(JI)Ljava/math/BigDecimal;", sig := { parameters := [.long, .int], returnType := some (.object "java/math/BigDecimal") }, accessFlags := 9, code := some k11c1 }
def k11c2 : Code := { maxStack := 7, maxLocals := 2, code := jdk_17_method_21_code, exceptionTable := #[], attributes := #[] }
def k11m2 : Method := { name := "valueOf", desc := "(J)Ljava/math/BigDecimal;", sig := { parameters := [.long], returnType := some (.object "java/math/BigDecimal") }, accessFlags := 9, code := some k11c2 }
def k11c3 : Code := { maxStack := 7, maxLocals := 1, code := jdk_17_method_24_code, exceptionTable := #[], attributes := #[] }
def k11m3 : Method := { name := "zeroValueOf", desc := "(I)Ljava/math/BigDecimal;", sig := { parameters := [.int], returnType := some (.object "java/math/BigDecimal") }, accessFlags := 8, code := some k11c3 }
def k11c4 : Code := { maxStack := 6, maxLocals := 2, code := jdk_17_method_26_code, exceptionTable := #[], attributes := #[] }
def k11m4 : Method := { name := "add", desc := "(Ljava/math/BigDecimal;)Ljava/math/BigDecimal;", sig := { parameters := [(.object "java/math/BigDecimal")], returnType := some (.object "java/math/BigDecimal") }, accessFlags := 1, code := some k11c4 }
def k11c5 : Code := { maxStack := 5, maxLocals := 3, code := jdk_17_method_31_code, exceptionTable := #[], attributes := #[] }
def k11m5 : Method := { name := "multiply", desc := "(Ljava/math/BigDecimal;)Ljava/math/BigDecimal;", sig := { parameters := [(.object "java/math/BigDecimal")], returnType := some (.object "java/math/BigDecimal") }, accessFlags := 1, code := some k11c5 }
def k11c6 : Code := { maxStack := 8, maxLocals := 8, code := jdk_17_method_64_code, exceptionTable := #[], attributes := #[] }
def k11m6 : Method := { name := "setScale", desc := "(II)Ljava/math/BigDecimal;", sig := { parameters := [.int, .int], returnType := some (.object "java/math/BigDecimal") }, accessFlags := 1, code := some k11c6 }
def k11c7 : Code := { maxStack := 7, maxLocals := 4, code := jdk_17_method_67_code, exceptionTable := #[], attributes := #[] }
def k11m7 : Method := { name := "movePointRight", desc := "(I)Ljava/math/BigDecimal;", sig := { parameters := [.int], returnType := some (.object "java/math/BigDecimal") }, accessFlags := 1, code := some k11c7 }
def k11c8 : Code := { maxStack := 3, maxLocals := 1, code := jdk_17_method_81_code, exceptionTable := #[], attributes := #[] }
def k11m8 : Method := { name := "toBigIntegerExact", desc := "()Ljava/math/BigInteger;", sig := { parameters := [], returnType := some (.object "java/math/BigInteger") }, accessFlags := 1, code := some k11c8 }
def k11c9 : Code := { maxStack := 4, maxLocals := 7, code := jdk_17_method_97_code, exceptionTable := #[], attributes := #[] }
def k11m9 : Method := { name := "longMultiplyPowerTen", desc := "(JI)J", sig := { parameters := [.long, .int], returnType := some .long }, accessFlags := 10, code := some k11c9 }
def k11c10 : Code := { maxStack := 2, maxLocals := 1, code := jdk_17_method_99_code, exceptionTable := #[], attributes := #[] }
def k11m10 : Method := { name := "inflated", desc := "()Ljava/math/BigInteger;", sig := { parameters := [], returnType := some (.object "java/math/BigInteger") }, accessFlags := 2, code := some k11c10 }
def k11c11 : Code := { maxStack := 4, maxLocals := 5, code := jdk_17_method_106_code, exceptionTable := #[], attributes := #[] }
def k11m11 : Method := { name := "checkScale", desc := "(J)I", sig := { parameters := [.long], returnType := some .int }, accessFlags := 2, code := some k11c11 }
def k11c12 : Code := { maxStack := 4, maxLocals := 5, code := jdk_17_method_113_code, exceptionTable := #[], attributes := #[] }
def k11m12 : Method := { name := "checkScale", desc := "(JJ)I", sig := { parameters := [.long, .long], returnType := some .int }, accessFlags := 10, code := some k11c12 }
def k11c13 : Code := { maxStack := 6, maxLocals := 6, code := jdk_17_method_132_code, exceptionTable := #[], attributes := #[] }
def k11m13 : Method := { name := "add", desc := "(JJ)J", sig := { parameters := [.long, .long], returnType := some .long }, accessFlags := 10, code := some k11c13 }
def k11c14 : Code := { maxStack := 5, maxLocals := 7, code := jdk_17_method_133_code, exceptionTable := #[], attributes := #[] }
def k11m14 : Method := { name := "add", desc := "(JJI)Ljava/math/BigDecimal;", sig := { parameters := [.long, .long, .int], returnType := some (.object "java/math/BigDecimal") }, accessFlags := 10, code := some k11c14 }
def k11c15 : Code := { maxStack := 7, maxLocals := 12, code := jdk_17_method_134_code, exceptionTable := #[], attributes := #[] }
def k11m15 : Method := { name := "add", desc := "(JIJI)Ljava/math/BigDecimal;", sig := { parameters := [.long, .int, .long, .int], returnType := some (.object "java/math/BigDecimal") }, accessFlags := 10, code := some k11c15 }
def k11c16 : Code := { maxStack := 4, maxLocals := 10, code := jdk_17_method_156_code, exceptionTable := #[], attributes := #[] }
def k11m16 : Method := { name := "multiply", desc := "(JJ)J", sig := { parameters := [.long, .long], returnType := some .long }, accessFlags := 10, code := some k11c16 }
def k11c17 : Code := { maxStack := 7, maxLocals := 7, code := jdk_17_method_157_code, exceptionTable := #[], attributes := #[] }
def k11m17 : Method := { name := "multiply", desc := "(JJI)Ljava/math/BigDecimal;", sig := { parameters := [.long, .long, .int], returnType := some (.object "java/math/BigDecimal") }, accessFlags := 10, code := some k11c17 }
/-- java/math/BigDecimal -/
def k11 : Class := { plain "java/math/BigDecimal" (some 7) with
  accessFlags := 33
  interfaces := #[4]
  cf := some (fileOf pool11 3 #[.nestMembers #[500, 851, 770, 697]] #[{ accessFlags := 0, nameIndex := 15, descriptorIndex := 245, attributes := #[] }, { accessFlags := 9, nameIndex := 195, descriptorIndex := 330, attributes := #[] }, { accessFlags := 9, nameIndex := 195, descriptorIndex := 238, attributes := #[] }, { accessFlags := 8, nameIndex := 241, descriptorIndex := 242, attributes := #[] }, { accessFlags := 1, nameIndex := 259, descriptorIndex := 269, attributes := #[] }, { accessFlags := 1, nameIndex := 203, descriptorIndex := 269, attributes := #[] }, { accessFlags := 1, nameIndex := 293, descriptorIndex := 421, attributes := #[] }, { accessFlags := 1, nameIndex := 1459, descriptorIndex := 242, attributes := #[] }, { accessFlags := 1, nameIndex := 1482, descriptorIndex := 305, attributes := #[] }, { accessFlags := 10, nameIndex := 601, descriptorIndex := 602, attributes := #[] }, { accessFlags := 2, nameIndex := 304, descriptorIndex := 305, attributes := #[] }, { accessFlags := 2, nameIndex := 327, descriptorIndex := 115, attributes := #[] }, { accessFlags := 10, nameIndex := 327, descriptorIndex := 635, attributes := #[] }, { accessFlags := 10, nameIndex := 259, descriptorIndex := 322, attributes := #[] }, { accessFlags := 10, nameIndex := 259, descriptorIndex := 344, attributes := #[] }, { accessFlags := 10, nameIndex := 259, descriptorIndex := 260, attributes := #[] }, { accessFlags := 10, nameIndex := 203, descriptorIndex := 322, attributes := #[] }, { accessFlags := 10, nameIndex := 203, descriptorIndex := 344, attributes := #[] }] 33 12 #[1296] #[{ accessFlags := 26, nameIndex := 1298, descriptorIndex := 1299, attributes := #[] }, { accessFlags := 26, nameIndex := 1301, descriptorIndex := 20, attributes := #[] }, { accessFlags := 26, nameIndex := 1303, descriptorIndex := 20, attributes := #[] }, { accessFlags := 26, nameIndex := 1305, descriptorIndex := 20, attributes := #[] }, { accessFlags := 26, nameIndex := 1307, descriptorIndex := 20, attributes := #[] }, { accessFlags := 26, nameIndex := 1309, descriptorIndex := 20, attributes := #[] }, { accessFlags := 26, nameIndex := 1311, descriptorIndex := 20, attributes := #[] }, { accessFlags := 18, nameIndex := 30, descriptorIndex := 31, attributes := #[] }, { accessFlags := 18, nameIndex := 19, descriptorIndex := 20, attributes := #[] }, { accessFlags := 130, nameIndex := 23, descriptorIndex := 20, attributes := #[] }, { accessFlags := 130, nameIndex := 643, descriptorIndex := 644, attributes := #[] }, { accessFlags := 24, nameIndex := 1313, descriptorIndex := 27, attributes := #[] }, { accessFlags := 26, nameIndex := 190, descriptorIndex := 31, attributes := #[] }, { accessFlags := 146, nameIndex := 26, descriptorIndex := 27, attributes := #[] }, { accessFlags := 26, nameIndex := 1314, descriptorIndex := 20, attributes := #[] }, { accessFlags := 26, nameIndex := 1316, descriptorIndex := 27, attributes := #[] }, { accessFlags := 26, nameIndex := 248, descriptorIndex := 249, attributes := #[] }, { accessFlags := 26, nameIndex := 252, descriptorIndex := 249, attributes := #[] }, { accessFlags := 26, nameIndex := 1319, descriptorIndex := 27, attributes := #[] }, { accessFlags := 26, nameIndex := 1320, descriptorIndex := 27, attributes := #[] }, { accessFlags := 25, nameIndex := 187, descriptorIndex := 479, attributes := #[] }, { accessFlags := 25, nameIndex := 535, descriptorIndex := 479, attributes := #[] }, { accessFlags := 25, nameIndex := 206, descriptorIndex := 479, attributes := #[] }, { accessFlags := 25, nameIndex := 485, descriptorIndex := 479, attributes := #[] }, { accessFlags := 26, nameIndex := 478, descriptorIndex := 479, attributes := #[] }, { accessFlags := 26, nameIndex := 518, descriptorIndex := 479, attributes := #[] }, { accessFlags := 25, nameIndex := 1321, descriptorIndex := 20, attributes := #[] }, { accessFlags := 25, nameIndex := 1328, descriptorIndex := 20, attributes := #[] }, { accessFlags := 25, nameIndex := 1330, descriptorIndex := 20, attributes := #[] }, { accessFlags := 25, nameIndex := 1332, descriptorIndex := 20, attributes := #[] }, { accessFlags := 25, nameIndex := 1334, descriptorIndex := 20, attributes := #[] }, { accessFlags := 25, nameIndex := 1336, descriptorIndex := 20, attributes := #[] }, { accessFlags := 25, nameIndex := 1338, descriptorIndex := 20, attributes := #[] }, { accessFlags := 25, nameIndex := 1340, descriptorIndex := 20, attributes := #[] }, { accessFlags := 26, nameIndex := 749, descriptorIndex := 750, attributes := #[] }, { accessFlags := 26, nameIndex := 708, descriptorIndex := 709, attributes := #[] }, { accessFlags := 26, nameIndex := 97, descriptorIndex := 98, attributes := #[] }, { accessFlags := 74, nameIndex := 811, descriptorIndex := 812, attributes := #[] }, { accessFlags := 26, nameIndex := 1182, descriptorIndex := 20, attributes := #[] }, { accessFlags := 26, nameIndex := 808, descriptorIndex := 20, attributes := #[] }, { accessFlags := 26, nameIndex := 827, descriptorIndex := 98, attributes := #[] }, { accessFlags := 26, nameIndex := 1342, descriptorIndex := 27, attributes := #[] }, { accessFlags := 26, nameIndex := 1068, descriptorIndex := 1069, attributes := #[] }, { accessFlags := 4120, nameIndex := 313, descriptorIndex := 314, attributes := #[] }])
  fields := #[{ name := "L", type := .double, accessFlags := 26, slot := 0, constantValue := 0 }, { name := "P_F", type := .int, accessFlags := 26, slot := 1, constantValue := 0 }, { name := "Q_MIN_F", type := .int, accessFlags := 26, slot := 2, constantValue := 0 }, { name := "Q_MAX_F", type := .int, accessFlags := 26, slot := 3, constantValue := 0 }, { name := "P_D", type := .int, accessFlags := 26, slot := 4, constantValue := 0 }, { name := "Q_MIN_D", type := .int, accessFlags := 26, slot := 5, constantValue := 0 }, { name := "Q_MAX_D", type := .int, accessFlags := 26, slot := 6, constantValue := 0 }, { name := "intVal", type := (.object "java/math/BigInteger"), accessFlags := 18, slot := 0, constantValue := 0 }, { name := "scale", type := .int, accessFlags := 18, slot := 1, constantValue := 0 }, { name := "precision", type := .int, accessFlags := 130, slot := 2, constantValue := 0 }, { name := "stringCache", type := (.object "java/lang/String"), accessFlags := 130, slot := 3, constantValue := 0 }, { name := "INFLATED", type := .long, accessFlags := 24, slot := 7, constantValue := 0 }, { name := "INFLATED_BIGINT", type := (.object "java/math/BigInteger"), accessFlags := 26, slot := 8, constantValue := 0 }, { name := "intCompact", type := .long, accessFlags := 146, slot := 4, constantValue := 0 }, { name := "MAX_COMPACT_DIGITS", type := .int, accessFlags := 26, slot := 9, constantValue := 0 }, { name := "serialVersionUID", type := .long, accessFlags := 26, slot := 10, constantValue := 0 }, { name := "ZERO_THROUGH_TEN", type := (.array (.object "java/math/BigDecimal")), accessFlags := 26, slot := 11, constantValue := 0 }, { name := "ZERO_SCALED_BY", type := (.array (.object "java/math/BigDecimal")), accessFlags := 26, slot := 12, constantValue := 0 }, { name := "HALF_LONG_MAX_VALUE", type := .long, accessFlags := 26, slot := 13, constantValue := 0 }, { name := "HALF_LONG_MIN_VALUE", type := .long, accessFlags := 26, slot := 14, constantValue := 0 }, { name := "ZERO", type := (.object "java/math/BigDecimal"), accessFlags := 25, slot := 15, constantValue := 0 }, { name := "ONE", type := (.object "java/math/BigDecimal"), accessFlags := 25, slot := 16, constantValue := 0 }, { name := "TWO", type := (.object "java/math/BigDecimal"), accessFlags := 25, slot := 17, constantValue := 0 }, { name := "TEN", type := (.object "java/math/BigDecimal"), accessFlags := 25, slot := 18, constantValue := 0 }, { name := "ONE_TENTH", type := (.object "java/math/BigDecimal"), accessFlags := 26, slot := 19, constantValue := 0 }, { name := "ONE_HALF", type := (.object "java/math/BigDecimal"), accessFlags := 26, slot := 20, constantValue := 0 }, { name := "ROUND_UP", type := .int, accessFlags := 25, slot := 21, constantValue := 0 }, { name := "ROUND_DOWN", type := .int, accessFlags := 25, slot := 22, constantValue := 0 }, { name := "ROUND_CEILING", type := .int, accessFlags := 25, slot := 23, constantValue := 0 }, { name := "ROUND_FLOOR", type := .int, accessFlags := 25, slot := 24, constantValue := 0 }, { name := "ROUND_HALF_UP", type := .int, accessFlags := 25, slot := 25, constantValue := 0 }, { name := "ROUND_HALF_DOWN", type := .int, accessFlags := 25, slot := 26, constantValue := 0 }, { name := "ROUND_HALF_EVEN", type := .int, accessFlags := 25, slot := 27, constantValue := 0 }, { name := "ROUND_UNNECESSARY", type := .int, accessFlags := 25, slot := 28, constantValue := 0 }, { name := "DOUBLE_10_POW", type := (.array .double), accessFlags := 26, slot := 29, constantValue := 0 }, { name := "FLOAT_10_POW", type := (.array .float), accessFlags := 26, slot := 30, constantValue := 0 }, { name := "LONG_TEN_POWERS_TABLE", type := (.array .long), accessFlags := 26, slot := 31, constantValue := 0 }, { name := "BIG_TEN_POWERS_TABLE", type := (.array (.object "java/math/BigInteger")), accessFlags := 74, slot := 32, constantValue := 0 }, { name := "BIG_TEN_POWERS_TABLE_INITLEN", type := .int, accessFlags := 26, slot := 33, constantValue := 0 }, { name := "BIG_TEN_POWERS_TABLE_MAX", type := .int, accessFlags := 26, slot := 34, constantValue := 0 }, { name := "THRESHOLDS_TABLE", type := (.array .long), accessFlags := 26, slot := 35, constantValue := 0 }, { name := "DIV_NUM_BASE", type := .long, accessFlags := 26, slot := 36, constantValue := 0 }, { name := "LONGLONG_TEN_POWERS_TABLE", type := (.array (.array .long)), accessFlags := 26, slot := 37, constantValue := 0 }, { name := "$assertionsDisabled", type := .boolean, accessFlags := 4120, slot := 38, constantValue := 0 }]
  methods := #[k11m0, k11m1, k11m2, k11m3, k11m4, k11m5, k11m6, k11m7, k11m8, k11m9, k11m10, k11m11, k11m12, k11m13, k11m14, k11m15, k11m16, k11m17]
  instanceTypes := #[(.object "java/math/BigInteger"), .int, .int, (.object "java/lang/String"), .long]
  staticTypes := #[.double, .int, .int, .int, .int, .int, .int, .long, (.object "java/math/BigInteger"), .int, .long, (.array (.object "java/math/BigDecimal")), (.array (.object "java/math/BigDecimal")), .long, .long, (.object "java/math/BigDecimal"), (.object "java/math/BigDecimal"), (.object "java/math/BigDecimal"), (.object "java/math/BigDecimal"), (.object "java/math/BigDecimal"), (.object "java/math/BigDecimal"), .int, .int, .int, .int, .int, .int, .int, .int, (.array .double), (.array .float), (.array .long), (.array (.object "java/math/BigInteger")), .int, .int, (.array .long), .long, (.array (.array .long)), .boolean]
  resolved := Array.replicate 1637 none
  statics := some 2 }

def pool12 : Array CpInfo := pool [(1, .class_ 2), (0, u "java/lang/Math"), (1, .class_ 6), (1, u "java/lang/Object"), (0, u "<init>"), (0, u "()V"), (89, .class_ 100), (1, u "java/lang/Math$RandomNumberGeneratorHolder"), (20, u "(JJ)J"), (2, u "abs"), (0, u "(J)J"), (19, u "floorDiv"), (2, u "floorMod"), (23, u "negativeZeroFloatBits"), (0, u "J"), (2, u "negativeZeroDoubleBits"), (24, u "min"), (43, u "$assertionsDisabled"), (0, u "Z"), (88, u "(II)I"), (2, u "twoToTheDoubleScaleDown"), (0, u "D"), (4, u "twoToTheDoubleScaleUp"), (9, u "E"), (3, u "PI"), (2, u "TAU"), (2, u "DEGREES_TO_RADIANS"), (0, u "RADIANS_TO_DEGREES"), (27, u "addExact")] 66

def k12m0 : Method := { name := "<init>", desc := "()V", sig := { parameters := [], returnType := none }, accessFlags := 2, code := none }
def k12c1 : Code := { maxStack := 6, maxLocals := 6, code := jdk_29_method_25_code, exceptionTable := #[], attributes := #[] }
def k12m1 : Method := { name := "addExact", desc := "(JJ)J", sig := { parameters := [.long, .long], returnType := some .long }, accessFlags := 9, code := some k12c1 }
def k12c2 : Code := { maxStack := 4, maxLocals := 6, code := jdk_29_method_49_code, exceptionTable := #[], attributes := #[] }
def k12m2 : Method := { name := "floorDiv", desc := "(JJ)J", sig := { parameters := [.long, .long], returnType := some .long }, accessFlags := 9, code := some k12c2 }
def k12c3 : Code := { maxStack := 4, maxLocals := 6, code := jdk_29_method_52_code, exceptionTable := #[], attributes := #[] }
def k12m3 : Method := { name := "floorMod", desc := "(JJ)J", sig := { parameters := [.long, .long], returnType := some .long }, accessFlags := 9, code := some k12c3 }
def k12c4 : Code := { maxStack := 4, maxLocals := 2, code := jdk_29_method_61_code, exceptionTable := #[], attributes := #[] }
def k12m4 : Method := { name := "abs", desc := "(J)J", sig := { parameters := [.long], returnType := some .long }, accessFlags := 9, code := some k12c4 }
def k12c5 : Code := { maxStack := 2, maxLocals := 2, code := jdk_29_method_69_code, exceptionTable := #[], attributes := #[] }
def k12m5 : Method := { name := "min", desc := "(II)I", sig := { parameters := [.int, .int], returnType := some .int }, accessFlags := 9, code := some k12c5 }
/-- java/lang/Math -/
def k12 : Class := { plain "java/lang/Math" (some 0) with
  accessFlags := 49
  interfaces := #[]
  cf := some (fileOf pool12 1 #[.nestMembers #[98]] #[{ accessFlags := 2, nameIndex := 7, descriptorIndex := 8, attributes := #[] }, { accessFlags := 9, nameIndex := 393, descriptorIndex := 121, attributes := #[] }, { accessFlags := 9, nameIndex := 145, descriptorIndex := 121, attributes := #[] }, { accessFlags := 9, nameIndex := 148, descriptorIndex := 121, attributes := #[] }, { accessFlags := 9, nameIndex := 124, descriptorIndex := 125, attributes := #[] }, { accessFlags := 9, nameIndex := 201, descriptorIndex := 335, attributes := #[] }] 49 4 #[] #[{ accessFlags := 25, nameIndex := 354, descriptorIndex := 339, attributes := #[] }, { accessFlags := 25, nameIndex := 358, descriptorIndex := 339, attributes := #[] }, { accessFlags := 25, nameIndex := 361, descriptorIndex := 339, attributes := #[] }, { accessFlags := 26, nameIndex := 364, descriptorIndex := 339, attributes := #[] }, { accessFlags := 26, nameIndex := 365, descriptorIndex := 339, attributes := #[] }, { accessFlags := 26, nameIndex := 172, descriptorIndex := 173, attributes := #[] }, { accessFlags := 26, nameIndex := 176, descriptorIndex := 173, attributes := #[] }, { accessFlags := 8, nameIndex := 344, descriptorIndex := 339, attributes := #[] }, { accessFlags := 8, nameIndex := 338, descriptorIndex := 339, attributes := #[] }, { accessFlags := 4120, nameIndex := 245, descriptorIndex := 246, attributes := #[] }])
  fields := #[{ name := "E", type := .double, accessFlags := 25, slot := 0, constantValue := 0 }, { name := "PI", type := .double, accessFlags := 25, slot := 1, constantValue := 0 }, { name := "TAU", type := .double, accessFlags := 25, slot := 2, constantValue := 0 }, { name := "DEGREES_TO_RADIANS", type := .double, accessFlags := 26, slot := 3, constantValue := 0 }, { name := "RADIANS_TO_DEGREES", type := .double, accessFlags := 26, slot := 4, constantValue := 0 }, { name := "negativeZeroFloatBits", type := .long, accessFlags := 26, slot := 5, constantValue := 0 }, { name := "negativeZeroDoubleBits", type := .long, accessFlags := 26, slot := 6, constantValue := 0 }, { name := "twoToTheDoubleScaleUp", type := .double, accessFlags := 8, slot := 7, constantValue := 0 }, { name := "twoToTheDoubleScaleDown", type := .double, accessFlags := 8, slot := 8, constantValue := 0 }, { name := "$assertionsDisabled", type := .boolean, accessFlags := 4120, slot := 9, constantValue := 0 }]
  methods := #[k12m0, k12m1, k12m2, k12m3, k12m4, k12m5]
  instanceTypes := #[]
  staticTypes := #[.double, .double, .double, .double, .double, .long, .long, .double, .double, .boolean]
  resolved := Array.replicate 460 none
  statics := none }

def pool13 : Array CpInfo := pool [(1, .class_ 2), (0, u "java/lang/Integer"), (0, .methodref 4 5), (0, .class_ 6), (0, .nameAndType 7 8), (0, u "java/lang/Number"), (0, u "<init>"), (0, u "()V"), (14, .class_ 25), (1, u "java/math/BigInteger"), (0, u "ZERO"), (0, u "Ljava/math/BigInteger;"), (0, .fieldref 23 29), (0, .nameAndType 30 31), (0, u "mag"), (0, u "[I"), (0, .fieldref 23 33), (0, .nameAndType 34 35), (0, u "signum"), (0, u "I"), (7, .integer 67108864), (30, u "()I"), (7, u "(I)I"), (12, u "bitsPerDigit"), (0, u "[J"), (9, u "digitsPerInt"), (12, u "intRadix"), (10, .long 4294967295), (46, u "([II)V"), (2, u "SMALL_PRIME_PRODUCT"), (6, u "longValue"), (0, u "()J"), (30, u "(I)Ljava/math/BigInteger;"), (14, u "bitLength"), (2, u "valueOf"), (0, u "(J)Ljava/math/BigInteger;"), (21, u "ONE"), (6, u "TWO"), (40, u "intValue"), (2, u "$assertionsDisabled"), (0, u "Z"), (32, .long 16), (3, u "posConst"), (0, u "[Ljava/math/BigInteger;"), (4, u "negConst"), (0, .methodref 23 357), (0, .nameAndType 7 358), (0, u "(J)V"), (1, .nameAndType 7 361), (0, u "([I)V"), (110, .class_ 474), (1, u "java/math/BigInteger$RecursiveOp"), (62, u "divideKnuth"), (3, .class_ 542), (0, u "java/math/MutableBigInteger"), (0, .methodref 541 5), (0, .methodref 541 360), (3, .methodref 541 549), (0, .nameAndType 550 219), (0, u "toBigInteger"), (0, .methodref 23 552), (0, .nameAndType 553 554), (0, u "divideAndRemainderKnuth"), (0, u "(Ljava/math/BigInteger;)[Ljava/math/BigInteger;"), (3, .methodref 541 559), (0, .nameAndType 537 560), (0, u "(Ljava/math/MutableBigInteger;Ljava/math/MutableBigInteger;)Ljava/math/MutableBigInteger;"), (20, u "NEGATIVE_ONE"), (20, .methodref 1 603), (0, .nameAndType 604 82), (0, u "numberOfLeadingZeros"), (0, .methodref 23 606), (0, .nameAndType 607 82), (0, u "bitLengthForInt"), (65, u "bnExpModThreshTable"), (62, .methodref 23 737), (0, .nameAndType 738 82), (0, u "getInt"), (7, u "lowestSetBitPlusTwo"), (0, .fieldref 23 748), (0, .nameAndType 749 35), (0, u "bitLengthPlusOne"), (2, u "bitCountPlusOne"), (6, u "LOG_TWO"), (0, u "D"), (2, u "logCache"), (0, u "[D"), (13, u "NUM_ZEROS"), (2, u "ZEROS"), (0, u "Ljava/lang/String;"), (9, u "longRadix"), (5, u "digitsPerLong"), (19, u "divideAndRemainder"), (2, u "powerCache"), (0, u "[[Ljava/math/BigInteger;"), (37, .methodref 23 861), (0, .nameAndType 862 74), (0, u "signInt"), (5, u "firstNonzeroIntNumPlusTwo"), (38, .class_ 909), (1, u "java/math/BigInteger$UnsafeHolder"), (141, u "TEN"), (106, u "serialPersistentFields"), (0, u "[Ljava/io/ObjectStreamField;"), (0, .class_ 1161), (0, u "java/lang/Comparable"), (0, u "LONG_MASK"), (0, u "J"), (1, u "MAX_MAG_LENGTH"), (0, u "PRIME_SEARCH_BIT_LENGTH_LIMIT"), (1, u "KARATSUBA_THRESHOLD"), (1, u "TOOM_COOK_THRESHOLD"), (1, u "KARATSUBA_SQUARE_THRESHOLD"), (1, u "TOOM_COOK_SQUARE_THRESHOLD"), (1, u "BURNIKEL_ZIEGLER_THRESHOLD"), (0, u "BURNIKEL_ZIEGLER_OFFSET"), (1, u "SCHOENHAGE_BASE_CONVERSION_THRESHOLD"), (1, u "MULTIPLY_SQUARE_THRESHOLD"), (0, u "MONTGOMERY_INTRINSIC_THRESHOLD"), (1, u "SMALL_PRIME_THRESHOLD"), (1, u "DEFAULT_PRIME_CERTAINTY"), (1, u "MAX_CONSTANT"), (3, u "serialVersionUID"), (338, .class_ 1532), (0, u "java/math/BigInteger$RecursiveOp$RecursiveSquare"), (0, .class_ 1534), (0, u "java/math/BigInteger$RecursiveOp$RecursiveMultiply")] 7

def k13c0 : Code := { maxStack := 2, maxLocals := 3, code := jdk_2097_method_25_code, exceptionTable := #[], attributes := #[] }
def k13m0 : Method := { name := "<init>", desc := "([II)V", sig := { parameters := [(.array .int), .int], returnType := none }, accessFlags := 0, code := some k13c0 }
def k13c1 : Code := { maxStack := 4, maxLocals := 2, code := jdk_2097_method_29_code, exceptionTable := #[], attributes := #[] }
def k13m1 : Method := { name := "valueOf", desc := "(J)Ljava/math/BigInteger;", sig := { parameters := [.long], returnType := some (.object "java/math/BigInteger") }, accessFlags := 9, code := some k13c1 }
def k13c2 : Code := { maxStack := 4, maxLocals := 4, code := jdk_2097_method_30_code, exceptionTable := #[], attributes := #[] }
def k13m2 : Method := { name := "<init>", desc := "(J)V", sig := { parameters := [.long], returnType := none }, accessFlags := 2, code := some k13c2 }
def k13c3 : Code := { maxStack := 2, maxLocals := 2, code := jdk_2097_method_63_code, exceptionTable := #[], attributes := #[] }
def k13m3 : Method := { name := "divideAndRemainder", desc := "(Ljava/math/BigInteger;)[Ljava/math/BigInteger;", sig := { parameters := [(.object "java/math/BigInteger")], returnType := some (.array (.object "java/math/BigInteger")) }, accessFlags := 1, code := some k13c3 }
def k13c4 : Code := { maxStack := 5, maxLocals := 7, code := jdk_2097_method_64_code, exceptionTable := #[], attributes := #[] }
def k13m4 : Method := { name := "divideAndRemainderKnuth", desc := "(Ljava/math/BigInteger;)[Ljava/math/BigInteger;", sig := { parameters := [(.object "java/math/BigInteger")], returnType := some (.array (.object "java/math/BigInteger")) }, accessFlags := 2, code := some k13c4 }
def k13c5 : Code := { maxStack := 2, maxLocals := 1, code := jdk_2097_method_74_code, exceptionTable := #[], attributes := #[] }
def k13m5 : Method := { name := "bitLengthForInt", desc := "(I)I", sig := { parameters := [.int], returnType := some .int }, accessFlags := 8, code := some k13c5 }
def k13c6 : Code := { maxStack := 3, maxLocals := 7, code := jdk_2097_method_118_code, exceptionTable := #[], attributes := #[] }
def k13m6 : Method := { name := "bitLength", desc := "()I", sig := { parameters := [], returnType := some .int }, accessFlags := 1, code := some k13c6 }
def k13c7 : Code := { maxStack := 2, maxLocals := 2, code := jdk_2097_method_135_code, exceptionTable := #[], attributes := #[] }
def k13m7 : Method := { name := "intValue", desc := "()I", sig := { parameters := [], returnType := some .int }, accessFlags := 1, code := some k13c7 }
def k13c8 : Code := { maxStack := 6, maxLocals := 4, code := jdk_2097_method_136_code, exceptionTable := #[], attributes := #[] }
def k13m8 : Method := { name := "longValue", desc := "()J", sig := { parameters := [], returnType := some .long }, accessFlags := 1, code := some k13c8 }
def k13c9 : Code := { maxStack := 1, maxLocals := 1, code := jdk_2097_method_147_code, exceptionTable := #[], attributes := #[] }
def k13m9 : Method := { name := "signInt", desc := "()I", sig := { parameters := [], returnType := some .int }, accessFlags := 2, code := some k13c9 }
def k13c10 : Code := { maxStack := 3, maxLocals := 3, code := jdk_2097_method_148_code, exceptionTable := #[], attributes := #[] }
def k13m10 : Method := { name := "getInt", desc := "(I)I", sig := { parameters := [.int], returnType := some .int }, accessFlags := 2, code := some k13c10 }
/-- java/math/BigInteger -/
def k13 : Class := { plain "java/math/BigInteger" (some 7) with
  accessFlags := 33
  interfaces := #[4]
  cf := some (fileOf pool13 23 #[.nestMembers #[907, 472, 1531, 1533]] #[{ accessFlags := 0, nameIndex := 7, descriptorIndex := 177, attributes := #[] }, { accessFlags := 9, nameIndex := 237, descriptorIndex := 238, attributes := #[] }, { accessFlags := 2, nameIndex := 7, descriptorIndex := 358, attributes := #[] }, { accessFlags := 1, nameIndex := 818, descriptorIndex := 554, attributes := #[] }, { accessFlags := 2, nameIndex := 553, descriptorIndex := 554, attributes := #[] }, { accessFlags := 8, nameIndex := 607, descriptorIndex := 82, attributes := #[] }, { accessFlags := 1, nameIndex := 234, descriptorIndex := 74, attributes := #[] }, { accessFlags := 1, nameIndex := 308, descriptorIndex := 74, attributes := #[] }, { accessFlags := 1, nameIndex := 187, descriptorIndex := 188, attributes := #[] }, { accessFlags := 2, nameIndex := 862, descriptorIndex := 74, attributes := #[] }, { accessFlags := 2, nameIndex := 738, descriptorIndex := 82, attributes := #[] }] 33 4 #[1160] #[{ accessFlags := 16, nameIndex := 34, descriptorIndex := 35, attributes := #[] }, { accessFlags := 16, nameIndex := 30, descriptorIndex := 31, attributes := #[] }, { accessFlags := 2, nameIndex := 752, descriptorIndex := 35, attributes := #[] }, { accessFlags := 2, nameIndex := 749, descriptorIndex := 35, attributes := #[] }, { accessFlags := 2, nameIndex := 746, descriptorIndex := 35, attributes := #[] }, { accessFlags := 2, nameIndex := 868, descriptorIndex := 35, attributes := #[] }, { accessFlags := 24, nameIndex := 1162, descriptorIndex := 1163, attributes := #[] }, { accessFlags := 26, nameIndex := 1165, descriptorIndex := 35, attributes := #[] }, { accessFlags := 26, nameIndex := 1166, descriptorIndex := 35, attributes := #[] }, { accessFlags := 26, nameIndex := 1168, descriptorIndex := 35, attributes := #[] }, { accessFlags := 26, nameIndex := 1170, descriptorIndex := 35, attributes := #[] }, { accessFlags := 26, nameIndex := 1172, descriptorIndex := 35, attributes := #[] }, { accessFlags := 26, nameIndex := 1174, descriptorIndex := 35, attributes := #[] }, { accessFlags := 24, nameIndex := 1176, descriptorIndex := 35, attributes := #[] }, { accessFlags := 24, nameIndex := 1177, descriptorIndex := 35, attributes := #[] }, { accessFlags := 26, nameIndex := 1179, descriptorIndex := 35, attributes := #[] }, { accessFlags := 26, nameIndex := 1181, descriptorIndex := 35, attributes := #[] }, { accessFlags := 26, nameIndex := 1182, descriptorIndex := 35, attributes := #[] }, { accessFlags := 10, nameIndex := 95, descriptorIndex := 96, attributes := #[] }, { accessFlags := 26, nameIndex := 1184, descriptorIndex := 35, attributes := #[] }, { accessFlags := 26, nameIndex := 1186, descriptorIndex := 35, attributes := #[] }, { accessFlags := 26, nameIndex := 180, descriptorIndex := 27, attributes := #[] }, { accessFlags := 26, nameIndex := 1188, descriptorIndex := 35, attributes := #[] }, { accessFlags := 26, nameIndex := 349, descriptorIndex := 350, attributes := #[] }, { accessFlags := 26, nameIndex := 355, descriptorIndex := 350, attributes := #[] }, { accessFlags := 74, nameIndex := 821, descriptorIndex := 822, attributes := #[] }, { accessFlags := 26, nameIndex := 763, descriptorIndex := 764, attributes := #[] }, { accessFlags := 26, nameIndex := 759, descriptorIndex := 760, attributes := #[] }, { accessFlags := 25, nameIndex := 26, descriptorIndex := 27, attributes := #[] }, { accessFlags := 25, nameIndex := 260, descriptorIndex := 27, attributes := #[] }, { accessFlags := 25, nameIndex := 267, descriptorIndex := 27, attributes := #[] }, { accessFlags := 26, nameIndex := 581, descriptorIndex := 27, attributes := #[] }, { accessFlags := 25, nameIndex := 1051, descriptorIndex := 27, attributes := #[] }, { accessFlags := 8, nameIndex := 673, descriptorIndex := 31, attributes := #[] }, { accessFlags := 10, nameIndex := 778, descriptorIndex := 35, attributes := #[] }, { accessFlags := 26, nameIndex := 781, descriptorIndex := 782, attributes := #[] }, { accessFlags := 10, nameIndex := 798, descriptorIndex := 31, attributes := #[] }, { accessFlags := 10, nameIndex := 792, descriptorIndex := 350, attributes := #[] }, { accessFlags := 10, nameIndex := 106, descriptorIndex := 31, attributes := #[] }, { accessFlags := 10, nameIndex := 119, descriptorIndex := 31, attributes := #[] }, { accessFlags := 26, nameIndex := 1192, descriptorIndex := 1163, attributes := #[] }, { accessFlags := 26, nameIndex := 1158, descriptorIndex := 1159, attributes := #[] }, { accessFlags := 4120, nameIndex := 311, descriptorIndex := 312, attributes := #[] }])
  fields := #[{ name := "signum", type := .int, accessFlags := 16, slot := 0, constantValue := 0 }, { name := "mag", type := (.array .int), accessFlags := 16, slot := 1, constantValue := 0 }, { name := "bitCountPlusOne", type := .int, accessFlags := 2, slot := 2, constantValue := 0 }, { name := "bitLengthPlusOne", type := .int, accessFlags := 2, slot := 3, constantValue := 0 }, { name := "lowestSetBitPlusTwo", type := .int, accessFlags := 2, slot := 4, constantValue := 0 }, { name := "firstNonzeroIntNumPlusTwo", type := .int, accessFlags := 2, slot := 5, constantValue := 0 }, { name := "LONG_MASK", type := .long, accessFlags := 24, slot := 0, constantValue := 0 }, { name := "MAX_MAG_LENGTH", type := .int, accessFlags := 26, slot := 1, constantValue := 0 }, { name := "PRIME_SEARCH_BIT_LENGTH_LIMIT", type := .int, accessFlags := 26, slot := 2, constantValue := 0 }, { name := "KARATSUBA_THRESHOLD", type := .int, accessFlags := 26, slot := 3, constantValue := 0 }, { name := "TOOM_COOK_THRESHOLD", type := .int, accessFlags := 26, slot := 4, constantValue := 0 }, { name := "KARATSUBA_SQUARE_THRESHOLD", type := .int, accessFlags := 26, slot := 5, constantValue := 0 }, { name := "TOOM_COOK_SQUARE_THRESHOLD", type := .int, accessFlags := 26, slot := 6, constantValue := 0 }, { name := "BURNIKEL_ZIEGLER_THRESHOLD", type := .int, accessFlags := 24, slot := 7, constantValue := 0 }, { name := "BURNIKEL_ZIEGLER_OFFSET", type := .int, accessFlags := 24, slot := 8, constantValue := 0 }, { name := "SCHOENHAGE_BASE_CONVERSION_THRESHOLD", type := .int, accessFlags := 26, slot := 9, constantValue := 0 }, { name := "MULTIPLY_SQUARE_THRESHOLD", type := .int, accessFlags := 26, slot := 10, constantValue := 0 }, { name := "MONTGOMERY_INTRINSIC_THRESHOLD", type := .int, accessFlags := 26, slot := 11, constantValue := 0 }, { name := "bitsPerDigit", type := (.array .long), accessFlags := 10, slot := 12, constantValue := 0 }, { name := "SMALL_PRIME_THRESHOLD", type := .int, accessFlags := 26, slot := 13, constantValue := 0 }, { name := "DEFAULT_PRIME_CERTAINTY", type := .int, accessFlags := 26, slot := 14, constantValue := 0 }, { name := "SMALL_PRIME_PRODUCT", type := (.object "java/math/BigInteger"), accessFlags := 26, slot := 15, constantValue := 0 }, { name := "MAX_CONSTANT", type := .int, accessFlags := 26, slot := 16, constantValue := 0 }, { name := "posConst", type := (.array (.object "java/math/BigInteger")), accessFlags := 26, slot := 17, constantValue := 0 }, { name := "negConst", type := (.array (.object "java/math/BigInteger")), accessFlags := 26, slot := 18, constantValue := 0 }, { name := "powerCache", type := (.array (.array (.object "java/math/BigInteger"))), accessFlags := 74, slot := 19, constantValue := 0 }, { name := "logCache", type := (.array .double), accessFlags := 26, slot := 20, constantValue := 0 }, { name := "LOG_TWO", type := .double, accessFlags := 26, slot := 21, constantValue := 0 }, { name := "ZERO", type := (.object "java/math/BigInteger"), accessFlags := 25, slot := 22, constantValue := 0 }, { name := "ONE", type := (.object "java/math/BigInteger"), accessFlags := 25, slot := 23, constantValue := 0 }, { name := "TWO", type := (.object "java/math/BigInteger"), accessFlags := 25, slot := 24, constantValue := 0 }, { name := "NEGATIVE_ONE", type := (.object "java/math/BigInteger"), accessFlags := 26, slot := 25, constantValue := 0 }, { name := "TEN", type := (.object "java/math/BigInteger"), accessFlags := 25, slot := 26, constantValue := 0 }, { name := "bnExpModThreshTable", type := (.array .int), accessFlags := 8, slot := 27, constantValue := 0 }, { name := "NUM_ZEROS", type := .int, accessFlags := 10, slot := 28, constantValue := 0 }, { name := "ZEROS", type := (.object "java/lang/String"), accessFlags := 26, slot := 29, constantValue := 0 }, { name := "digitsPerLong", type := (.array .int), accessFlags := 10, slot := 30, constantValue := 0 }, { name := "longRadix", type := (.array (.object "java/math/BigInteger")), accessFlags := 10, slot := 31, constantValue := 0 }, { name := "digitsPerInt", type := (.array .int), accessFlags := 10, slot := 32, constantValue := 0 }, { name := "intRadix", type := (.array .int), accessFlags := 10, slot := 33, constantValue := 0 }, { name := "serialVersionUID", type := .long, accessFlags := 26, slot := 34, constantValue := 0 }, { name := "serialPersistentFields", type := (.array (.object "java/io/ObjectStreamField")), accessFlags := 26, slot := 35, constantValue := 0 }, { name := "$assertionsDisabled", type := .boolean, accessFlags := 4120, slot := 36, constantValue := 0 }]
  methods := #[k13m0, k13m1, k13m2, k13m3, k13m4, k13m5, k13m6, k13m7, k13m8, k13m9, k13m10]
  instanceTypes := #[.int, (.array .int), .int, .int, .int, .int]
  staticTypes := #[.long, .int, .int, .int, .int, .int, .int, .int, .int, .int, .int, .int, (.array .long), .int, .int, (.object "java/math/BigInteger"), .int, (.array (.object "java/math/BigInteger")), (.array (.object "java/math/BigInteger")), (.array (.array (.object "java/math/BigInteger"))), (.array .double), .double, (.object "java/math/BigInteger"), (.object "java/math/BigInteger"), (.object "java/math/BigInteger"), (.object "java/math/BigInteger"), (.object "java/math/BigInteger"), (.array .int), .int, (.object "java/lang/String"), (.array .int), (.array (.object "java/math/BigInteger")), (.array .int), (.array .int), .long, (.array (.object "java/io/ObjectStreamField")), .boolean]
  resolved := Array.replicate 1542 none
  statics := some 3 }

def pool14 : Array CpInfo := pool [(1, .class_ 2), (0, u "java/math/BigInteger"), (2, .methodref 6 7), (0, .class_ 8), (0, .nameAndType 9 10), (0, u "java/lang/Object"), (0, u "<init>"), (0, u "()V"), (0, .fieldref 12 13), (0, .class_ 14), (0, .nameAndType 15 16), (0, u "java/math/MutableBigInteger"), (0, u "offset"), (0, u "I"), (0, .fieldref 12 18), (0, .nameAndType 19 20), (0, u "value"), (0, u "[I"), (0, .fieldref 12 22), (0, .nameAndType 23 16), (0, u "intLen"), (4, .class_ 30), (1, u "java/util/Arrays"), (2, .methodref 28 34), (0, .nameAndType 35 36), (0, u "copyOfRange"), (0, u "([III)[I"), (0, .methodref 28 38), (0, .nameAndType 39 40), (0, u "fill"), (0, u "([II)V"), (2, u "$assertionsDisabled"), (0, u "Z"), (7, .long 4294967295), (1, .fieldref 1 55), (0, .nameAndType 56 57), (0, u "ZERO"), (0, u "Ljava/math/BigInteger;"), (0, .methodref 12 59), (0, .nameAndType 60 61), (0, u "getMagnitudeArray"), (0, u "()[I"), (0, .methodref 1 63), (0, .nameAndType 9 40), (0, .methodref 12 65), (0, .nameAndType 66 10), (0, u "normalize"), (6, u "toBigInteger"), (0, u "(I)Ljava/math/BigInteger;"), (13, .integer 2147483648), (1, .class_ 92), (1, u "java/lang/Integer"), (1, u "(I)I"), (47, .methodref 12 143), (0, .nameAndType 144 145), (0, u "compare"), (0, u "(Ljava/math/MutableBigInteger;)I"), (3, .methodref 12 150), (0, .nameAndType 151 10), (0, u "clear"), (0, .methodref 90 153), (0, .nameAndType 154 94), (0, u "numberOfLeadingZeros"), (7, u "(Ljava/math/MutableBigInteger;Ljava/math/MutableBigInteger;Z)Ljava/math/MutableBigInteger;"), (0, .methodref 12 164), (0, .nameAndType 165 162), (0, u "divideKnuth"), (3, u "(Ljava/math/MutableBigInteger;Ljava/math/MutableBigInteger;)Ljava/math/MutableBigInteger;"), (7, .methodref 12 7), (0, .methodref 12 179), (0, .nameAndType 180 181), (0, u "divideOneWord"), (0, u "(ILjava/math/MutableBigInteger;)I"), (75, u "ONE"), (0, u "Ljava/math/MutableBigInteger;"), (2, u "([I)V"), (149, u "KNUTH_POW2_THRESH_LEN"), (2, u "KNUTH_POW2_THRESH_ZEROS")] 175

def k14c0 : Code := { maxStack := 2, maxLocals := 1, code := jdk_2101_method_1_code, exceptionTable := #[], attributes := #[] }
def k14m0 : Method := { name := "<init>", desc := "()V", sig := { parameters := [], returnType := none }, accessFlags := 0, code := some k14c0 }
def k14c1 : Code := { maxStack := 2, maxLocals := 2, code := jdk_2101_method_3_code, exceptionTable := #[], attributes := #[] }
def k14m1 : Method := { name := "<init>", desc := "([I)V", sig := { parameters := [(.array .int)], returnType := none }, accessFlags := 0, code := some k14c1 }
def k14c2 : Code := { maxStack := 4, maxLocals := 2, code := jdk_2101_method_7_code, exceptionTable := #[], attributes := #[] }
def k14m2 : Method := { name := "getMagnitudeArray", desc := "()[I", sig := { parameters := [], returnType := some (.array .int) }, accessFlags := 2, code := some k14c2 }
def k14c3 : Code := { maxStack := 4, maxLocals := 2, code := jdk_2101_method_9_code, exceptionTable := #[], attributes := #[] }
def k14m3 : Method := { name := "toBigInteger", desc := "(I)Ljava/math/BigInteger;", sig := { parameters := [.int], returnType := some (.object "java/math/BigInteger") }, accessFlags := 0, code := some k14c3 }
def k14c4 : Code := { maxStack := 4, maxLocals := 3, code := jdk_2101_method_13_code, exceptionTable := #[], attributes := #[] }
def k14m4 : Method := { name := "clear", desc := "()V", sig := { parameters := [], returnType := none }, accessFlags := 0, code := some k14c4 }
def k14c5 : Code := { maxStack := 3, maxLocals := 8, code := jdk_2101_method_15_code, exceptionTable := #[], attributes := #[] }
def k14m5 : Method := { name := "compare", desc := "(Ljava/math/MutableBigInteger;)I", sig := { parameters := [(.object "java/math/MutableBigInteger")], returnType := some .int }, accessFlags := 16, code := some k14c5 }
def k14c6 : Code := { maxStack := 3, maxLocals := 4, code := jdk_2101_method_21_code, exceptionTable := #[], attributes := #[] }
def k14m6 : Method := { name := "normalize", desc := "()V", sig := { parameters := [], returnType := none }, accessFlags := 16, code := some k14c6 }
def k14c7 : Code := { maxStack := 6, maxLocals := 15, code := jdk_2101_method_53_code, exceptionTable := #[], attributes := #[] }
def k14m7 : Method := { name := "divideOneWord", desc := "(ILjava/math/MutableBigInteger;)I", sig := { parameters := [.int, (.object "java/math/MutableBigInteger")], returnType := some .int }, accessFlags := 0, code := some k14c7 }
def k14c8 : Code := { maxStack := 4, maxLocals := 3, code := jdk_2101_method_56_code, exceptionTable := #[], attributes := #[] }
def k14m8 : Method := { name := "divideKnuth", desc := "(Ljava/math/MutableBigInteger;Ljava/math/MutableBigInteger;)Ljava/math/MutableBigInteger;", sig := { parameters := [(.object "java/math/MutableBigInteger"), (.object "java/math/MutableBigInteger")], returnType := some (.object "java/math/MutableBigInteger") }, accessFlags := 0, code := some k14c8 }
def k14c9 : Code := { maxStack := 5, maxLocals := 8, code := jdk_2101_method_57_code, exceptionTable := #[], attributes := #[] }
def k14m9 : Method := { name := "divideKnuth", desc := "(Ljava/math/MutableBigInteger;Ljava/math/MutableBigInteger;Z)Ljava/math/MutableBigInteger;", sig := { parameters := [(.object "java/math/MutableBigInteger"), (.object "java/math/MutableBigInteger"), .boolean], returnType := some (.object "java/math/MutableBigInteger") }, accessFlags := 0, code := some k14c9 }
/-- java/math/MutableBigInteger -/
def k14 : Class := { plain "java/math/MutableBigInteger" (some 0) with
  accessFlags := 32
  interfaces := #[]
  cf := some (fileOf pool14 12 #[] #[{ accessFlags := 0, nameIndex := 9, descriptorIndex := 10, attributes := #[] }, { accessFlags := 0, nameIndex := 9, descriptorIndex := 261, attributes := #[] }, { accessFlags := 2, nameIndex := 60, descriptorIndex := 61, attributes := #[] }, { accessFlags := 0, nameIndex := 73, descriptorIndex := 74, attributes := #[] }, { accessFlags := 0, nameIndex := 151, descriptorIndex := 10, attributes := #[] }, { accessFlags := 16, nameIndex := 144, descriptorIndex := 145, attributes := #[] }, { accessFlags := 16, nameIndex := 66, descriptorIndex := 10, attributes := #[] }, { accessFlags := 0, nameIndex := 180, descriptorIndex := 181, attributes := #[] }, { accessFlags := 0, nameIndex := 165, descriptorIndex := 169, attributes := #[] }, { accessFlags := 0, nameIndex := 165, descriptorIndex := 162, attributes := #[] }] 32 6 #[] #[{ accessFlags := 0, nameIndex := 19, descriptorIndex := 20, attributes := #[] }, { accessFlags := 0, nameIndex := 23, descriptorIndex := 16, attributes := #[] }, { accessFlags := 0, nameIndex := 15, descriptorIndex := 16, attributes := #[] }, { accessFlags := 24, nameIndex := 257, descriptorIndex := 258, attributes := #[] }, { accessFlags := 24, nameIndex := 411, descriptorIndex := 16, attributes := #[] }, { accessFlags := 24, nameIndex := 414, descriptorIndex := 16, attributes := #[] }, { accessFlags := 4120, nameIndex := 43, descriptorIndex := 44, attributes := #[] }])
  fields := #[{ name := "value", type := (.array .int), accessFlags := 0, slot := 0, constantValue := 0 }, { name := "intLen", type := .int, accessFlags := 0, slot := 1, constantValue := 0 }, { name := "offset", type := .int, accessFlags := 0, slot := 2, constantValue := 0 }, { name := "ONE", type := (.object "java/math/MutableBigInteger"), accessFlags := 24, slot := 0, constantValue := 0 }, { name := "KNUTH_POW2_THRESH_LEN", type := .int, accessFlags := 24, slot := 1, constantValue := 0 }, { name := "KNUTH_POW2_THRESH_ZEROS", type := .int, accessFlags := 24, slot := 2, constantValue := 0 }, { name := "$assertionsDisabled", type := .boolean, accessFlags := 4120, slot := 3, constantValue := 0 }]
  methods := #[k14m0, k14m1, k14m2, k14m3, k14m4, k14m5, k14m6, k14m7, k14m8, k14m9]
  instanceTypes := #[(.array .int), .int, .int]
  staticTypes := #[(.object "java/math/MutableBigInteger"), .int, .int, .boolean]
  resolved := Array.replicate 590 none
  statics := none }

def pool15 : Array CpInfo := pool [(1, .class_ 2), (0, u "java/lang/Integer"), (16, u "digits"), (0, u "[C"), (32, u "numberOfLeadingZeros"), (0, u "(I)I"), (30, u "DigitOnes"), (0, u "[B"), (2, u "DigitTens"), (99, .class_ 190), (0, u "java/lang/Integer$IntegerCache"), (3, u "I"), (8, .class_ 204), (0, u "java/lang/Number"), (2, u "value"), (56, .integer 65536), (37, u "TYPE"), (0, u "Ljava/lang/Class;"), (0, .class_ 305), (0, u "java/lang/Comparable"), (0, .class_ 307), (0, u "java/lang/constant/Constable"), (0, .class_ 309), (0, u "java/lang/constant/ConstantDesc"), (0, u "MIN_VALUE"), (1, u "MAX_VALUE"), (3, u "SIZE"), (1, u "BYTES"), (1, u "serialVersionUID"), (0, u "J")] 131

def k15c0 : Code := { maxStack := 3, maxLocals := 2, code := jdk_33_method_47_code, exceptionTable := #[], attributes := #[] }
def k15m0 : Method := { name := "numberOfLeadingZeros", desc := "(I)I", sig := { parameters := [.int], returnType := some .int }, accessFlags := 9, code := some k15c0 }
/-- java/lang/Integer -/
def k15 : Class := { plain "java/lang/Integer" (some 7) with
  accessFlags := 49
  interfaces := #[4, 8, 9]
  cf := some (fileOf pool15 1 #[.nestMembers #[189]] #[{ accessFlags := 9, nameIndex := 53, descriptorIndex := 54, attributes := #[] }] 49 203 #[304, 306, 308] #[{ accessFlags := 25, nameIndex := 310, descriptorIndex := 194, attributes := #[] }, { accessFlags := 25, nameIndex := 312, descriptorIndex := 194, attributes := #[] }, { accessFlags := 25, nameIndex := 302, descriptorIndex := 303, attributes := #[] }, { accessFlags := 24, nameIndex := 19, descriptorIndex := 20, attributes := #[] }, { accessFlags := 24, nameIndex := 89, descriptorIndex := 86, attributes := #[] }, { accessFlags := 24, nameIndex := 85, descriptorIndex := 86, attributes := #[] }, { accessFlags := 18, nameIndex := 207, descriptorIndex := 194, attributes := #[] }, { accessFlags := 25, nameIndex := 316, descriptorIndex := 194, attributes := #[] }, { accessFlags := 25, nameIndex := 318, descriptorIndex := 194, attributes := #[] }, { accessFlags := 26, nameIndex := 320, descriptorIndex := 321, attributes := #[] }])
  fields := #[{ name := "MIN_VALUE", type := .int, accessFlags := 25, slot := 0, constantValue := 0 }, { name := "MAX_VALUE", type := .int, accessFlags := 25, slot := 1, constantValue := 0 }, { name := "TYPE", type := (.object "java/lang/Class"), accessFlags := 25, slot := 2, constantValue := 0 }, { name := "digits", type := (.array .char), accessFlags := 24, slot := 3, constantValue := 0 }, { name := "DigitTens", type := (.array .byte), accessFlags := 24, slot := 4, constantValue := 0 }, { name := "DigitOnes", type := (.array .byte), accessFlags := 24, slot := 5, constantValue := 0 }, { name := "value", type := .int, accessFlags := 18, slot := 0, constantValue := 0 }, { name := "SIZE", type := .int, accessFlags := 25, slot := 6, constantValue := 0 }, { name := "BYTES", type := .int, accessFlags := 25, slot := 7, constantValue := 0 }, { name := "serialVersionUID", type := .long, accessFlags := 26, slot := 8, constantValue := 0 }]
  methods := #[k15m0]
  instanceTypes := #[.int]
  staticTypes := #[.int, .int, (.object "java/lang/Class"), (.array .char), (.array .byte), (.array .byte), .int, .int, .long]
  resolved := Array.replicate 453 none
  statics := none }

def pool16 : Array CpInfo := pool [(2, .class_ 4), (1, u "java/lang/Object"), (0, u "<init>"), (0, u "()V"), (7, .class_ 16), (1, u "java/util/Arrays"), (57, .class_ 76), (1, u "java/util/Arrays$NaturalOrder"), (36, .class_ 115), (1, u "java/util/Arrays$LegacyMergeSort"), (1, u "Z"), (21, u "copyOfRange"), (10, .methodref 151 152), (0, .class_ 153), (0, .nameAndType 154 155), (0, u "java/lang/System"), (0, u "arraycopy"), (0, u "(Ljava/lang/Object;ILjava/lang/Object;II)V"), (148, .methodref 305 306), (0, .class_ 307), (0, .nameAndType 308 309), (0, u "java/lang/Math"), (0, u "min"), (0, u "(II)I"), (33, .methodref 14 344), (0, .nameAndType 345 346), (0, u "checkLength"), (0, u "(II)V"), (4, .methodref 14 352), (0, .nameAndType 353 354), (0, u "copyOfRangeInt"), (0, u "([III)[I"), (20, .class_ 376), (0, u "java/util/Arrays$ArrayList"), (68, u "$assertionsDisabled"), (269, u "MIN_ARRAY_SORT_GRAN"), (0, u "I"), (2, u "INSERTIONSORT_THRESHOLD"), (120, u "fill"), (4, u "([II)V"), (129, .class_ 976), (0, u "java/util/Arrays$ArrayItr")] 52

def k16m0 : Method := { name := "<init>", desc := "()V", sig := { parameters := [], returnType := none }, accessFlags := 2, code := none }
def k16c1 : Code := { maxStack := 3, maxLocals := 4, code := jdk_65_method_103_code, exceptionTable := #[], attributes := #[] }
def k16m1 : Method := { name := "fill", desc := "([II)V", sig := { parameters := [(.array .int), .int], returnType := none }, accessFlags := 9, code := some k16c1 }
def k16c2 : Code := { maxStack := 4, maxLocals := 2, code := jdk_65_method_131_code, exceptionTable := #[], attributes := #[] }
def k16m2 : Method := { name := "checkLength", desc := "(II)V", sig := { parameters := [.int, .int], returnType := none }, accessFlags := 10, code := some k16c2 }
def k16c3 : Code := { maxStack := 3, maxLocals := 3, code := jdk_65_method_136_code, exceptionTable := #[], attributes := #[] }
def k16m3 : Method := { name := "copyOfRange", desc := "([III)[I", sig := { parameters := [(.array .int), .int, .int], returnType := some (.array .int) }, accessFlags := 9, code := some k16c3 }
def k16c4 : Code := { maxStack := 6, maxLocals := 5, code := jdk_65_method_137_code, exceptionTable := #[], attributes := #[] }
def k16m4 : Method := { name := "copyOfRangeInt", desc := "([III)[I", sig := { parameters := [(.array .int), .int, .int], returnType := some (.array .int) }, accessFlags := 10, code := some k16c4 }
/-- java/util/Arrays -/
def k16 : Class := { plain "java/util/Arrays" (some 0) with
  accessFlags := 49
  interfaces := #[]
  cf := some (fileOf pool16 14 #[.nestMembers #[975, 375, 113, 74]] #[{ accessFlags := 2, nameIndex := 5, descriptorIndex := 6, attributes := #[] }, { accessFlags := 9, nameIndex := 840, descriptorIndex := 845, attributes := #[] }, { accessFlags := 10, nameIndex := 345, descriptorIndex := 346, attributes := #[] }, { accessFlags := 9, nameIndex := 139, descriptorIndex := 354, attributes := #[] }, { accessFlags := 10, nameIndex := 353, descriptorIndex := 354, attributes := #[] }] 49 2 #[] #[{ accessFlags := 26, nameIndex := 715, descriptorIndex := 716, attributes := #[] }, { accessFlags := 26, nameIndex := 719, descriptorIndex := 716, attributes := #[] }, { accessFlags := 4120, nameIndex := 445, descriptorIndex := 117, attributes := #[] }])
  fields := #[{ name := "MIN_ARRAY_SORT_GRAN", type := .int, accessFlags := 26, slot := 0, constantValue := 0 }, { name := "INSERTIONSORT_THRESHOLD", type := .int, accessFlags := 26, slot := 1, constantValue := 0 }, { name := "$assertionsDisabled", type := .boolean, accessFlags := 4120, slot := 2, constantValue := 0 }]
  methods := #[k16m0, k16m1, k16m2, k16m3, k16m4]
  instanceTypes := #[]
  staticTypes := #[.int, .int, .boolean]
  resolved := Array.replicate 1029 none
  statics := none }

def pool17 : Array CpInfo := pool [(2, .class_ 4), (1, u "java/lang/Object"), (0, u "<init>"), (0, u "()V"), (1, .class_ 10), (1, u "java/lang/System"), (0, u "allowSecurityManager"), (0, u "I"), (16, u "cons"), (0, u "Ljava/io/Console;"), (77, .class_ 110), (1, u "java/lang/System$CallersHolder"), (43, u "initialErrStream"), (0, u "Ljava/io/PrintStream;"), (19, u "security"), (0, u "Ljava/lang/SecurityManager;"), (31, .class_ 209), (0, u "java/lang/System$1"), (7, u "props"), (0, u "Ljava/util/Properties;"), (2, u "lineSeparator"), (0, u "Ljava/lang/String;"), (96, .class_ 321), (1, u "java/lang/System$LoggerFinder"), (5, .class_ 328), (0, u "java/lang/System$Logger"), (67, u "err"), (2, u "out"), (91, u "notSupportedJnuEncoding"), (15, u "in"), (17, u "initialIn"), (0, u "Ljava/io/InputStream;"), (35, u "bootLayer"), (0, u "Ljava/lang/ModuleLayer;"), (99, .class_ 664), (0, u "java/lang/System$2"), (9, u "NEVER"), (2, u "MAYBE"), (49, u "arraycopy"), (0, u "(Ljava/lang/Object;ILjava/lang/Object;II)V"), (72, .class_ 802), (0, u "java/lang/System$Logger$Level")] 31

def k17m0 : Method := { name := "<init>", desc := "()V", sig := { parameters := [], returnType := none }, accessFlags := 2, code := none }
def k17m1 : Method := { name := "arraycopy", desc := "(Ljava/lang/Object;ILjava/lang/Object;II)V", sig := { parameters := [(.object "java/lang/Object"), .int, (.object "java/lang/Object"), .int, .int], returnType := none }, accessFlags := 265, code := none }
/-- java/lang/System -/
def k17 : Class := { plain "java/lang/System" (some 0) with
  accessFlags := 49
  interfaces := #[]
  cf := some (fileOf pool17 8 #[.nestMembers #[319, 327, 801, 108, 663, 208]] #[{ accessFlags := 2, nameIndex := 5, descriptorIndex := 6, attributes := #[] }, { accessFlags := 265, nameIndex := 727, descriptorIndex := 728, attributes := #[] }] 49 2 #[] #[{ accessFlags := 25, nameIndex := 507, descriptorIndex := 526, attributes := #[] }, { accessFlags := 25, nameIndex := 399, descriptorIndex := 155, attributes := #[] }, { accessFlags := 25, nameIndex := 396, descriptorIndex := 155, attributes := #[] }, { accessFlags := 10, nameIndex := 525, descriptorIndex := 526, attributes := #[] }, { accessFlags := 26, nameIndex := 674, descriptorIndex := 12, attributes := #[] }, { accessFlags := 26, nameIndex := 677, descriptorIndex := 12, attributes := #[] }, { accessFlags := 10, nameIndex := 11, descriptorIndex := 12, attributes := #[] }, { accessFlags := 74, nameIndex := 175, descriptorIndex := 176, attributes := #[] }, { accessFlags := 10, nameIndex := 491, descriptorIndex := 222, attributes := #[] }, { accessFlags := 74, nameIndex := 29, descriptorIndex := 30, attributes := #[] }, { accessFlags := 74, nameIndex := 154, descriptorIndex := 155, attributes := #[] }, { accessFlags := 10, nameIndex := 217, descriptorIndex := 218, attributes := #[] }, { accessFlags := 10, nameIndex := 221, descriptorIndex := 222, attributes := #[] }, { accessFlags := 8, nameIndex := 562, descriptorIndex := 563, attributes := #[] }])
  fields := #[{ name := "in", type := (.object "java/io/InputStream"), accessFlags := 25, slot := 0, constantValue := 0 }, { name := "out", type := (.object "java/io/PrintStream"), accessFlags := 25, slot := 1, constantValue := 0 }, { name := "err", type := (.object "java/io/PrintStream"), accessFlags := 25, slot := 2, constantValue := 0 }, { name := "initialIn", type := (.object "java/io/InputStream"), accessFlags := 10, slot := 3, constantValue := 0 }, { name := "NEVER", type := .int, accessFlags := 26, slot := 4, constantValue := 0 }, { name := "MAYBE", type := .int, accessFlags := 26, slot := 5, constantValue := 0 }, { name := "allowSecurityManager", type := .int, accessFlags := 10, slot := 6, constantValue := 0 }, { name := "security", type := (.object "java/lang/SecurityManager"), accessFlags := 74, slot := 7, constantValue := 0 }, { name := "notSupportedJnuEncoding", type := (.object "java/lang/String"), accessFlags := 10, slot := 8, constantValue := 0 }, { name := "cons", type := (.object "java/io/Console"), accessFlags := 74, slot := 9, constantValue := 0 }, { name := "initialErrStream", type := (.object "java/io/PrintStream"), accessFlags := 74, slot := 10, constantValue := 0 }, { name := "props", type := (.object "java/util/Properties"), accessFlags := 10, slot := 11, constantValue := 0 }, { name := "lineSeparator", type := (.object "java/lang/String"), accessFlags := 10, slot := 12, constantValue := 0 }, { name := "bootLayer", type := (.object "java/lang/ModuleLayer"), accessFlags := 8, slot := 13, constantValue := 0 }]
  methods := #[k17m0, k17m1]
  instanceTypes := #[]
  staticTypes := #[(.object "java/io/InputStream"), (.object "java/io/PrintStream"), (.object "java/io/PrintStream"), (.object "java/io/InputStream"), .int, .int, .int, (.object "java/lang/SecurityManager"), (.object "java/lang/String"), (.object "java/io/Console"), (.object "java/io/PrintStream"), (.object "java/util/Properties"), (.object "java/lang/String"), (.object "java/lang/ModuleLayer")]
  resolved := Array.replicate 834 none
  statics := none }

def pool18 : Array CpInfo := pool [(1, u "java/lang/Cloneable"), (0, .class_ 1), (0, u "java/lang/Object"), (0, .class_ 3)] 3

/-- java/lang/Cloneable -/
def k18 : Class := { plain "java/lang/Cloneable" (some 0) with
  accessFlags := 1537
  interfaces := #[]
  cf := some (fileOf pool18 2 #[] #[] 1537 4 #[] #[])
  fields := #[]
  methods := #[]
  instanceTypes := #[]
  staticTypes := #[]
  resolved := Array.replicate 8 none
  statics := none }

/-- the primitive byte -/
def k19 : Class := { plain "byte" none with kind := .primitive 'B', accessFlags := 0x411 }
/-- [B -/
def k20 : Class := { plain "[B" (some 0) with kind := .array 19 .byte, interfaces := #[18, 5], accessFlags := 1041 }

/-- the primitive int -/
def k21 : Class := { plain "int" none with kind := .primitive 'I', accessFlags := 0x411 }
/-- [I -/
def k22 : Class := { plain "[I" (some 0) with kind := .array 21 .int, interfaces := #[18, 5], accessFlags := 1041 }

/-- the primitive long -/
def k23 : Class := { plain "long" none with kind := .primitive 'J', accessFlags := 0x411 }
/-- [J -/
def k24 : Class := { plain "[J" (some 0) with kind := .array 23 .long, interfaces := #[18, 5], accessFlags := 1041 }

/-- [Ljava/math/BigDecimal; -/
def k25 : Class := { plain "[Ljava/math/BigDecimal;" (some 0) with kind := .array 11 (.object "java/math/BigDecimal"), interfaces := #[18, 5], accessFlags := 1041 }

/-- [Ljava/math/BigInteger; -/
def k26 : Class := { plain "[Ljava/math/BigInteger;" (some 0) with kind := .array 13 (.object "java/math/BigInteger"), interfaces := #[18, 5], accessFlags := 1041 }

def heap : Heap := #[{ cls := 2, slots := #[.int 0, .ref 6, .ref 7], vm := .statics 2 },
  { cls := 6, slots := #[.null, .long 0, .ref 58], vm := .statics 6 },
  { cls := 11, slots := #[.double 0, .int 0, .int 0, .int 0, .int 0, .int 0, .int 0, .long 0, .null, .int 0, .long 0, .ref 4, .ref 5, .long 0, .long 0, .ref 8, .ref 11, .ref 14, .ref 38, .null, .null, .int 0, .int 0, .int 0, .int 0, .int 0, .int 0, .int 0, .int 0, .null, .null, .ref 56, .null, .int 0, .int 0, .ref 57, .long 0, .null, .int 0], vm := .statics 11 },
  { cls := 13, slots := #[.long 0, .int 0, .int 0, .int 0, .int 0, .int 0, .int 0, .int 0, .int 0, .int 0, .int 0, .int 0, .null, .int 0, .int 0, .null, .int 0, .null, .null, .null, .null, .double 0, .ref 9, .ref 12, .ref 15, .null, .ref 39, .null, .int 0, .null, .null, .null, .null, .null, .long 0, .null, .int 0], vm := .statics 13 },
  { cls := 25, slots := #[.ref 8, .ref 11, .ref 14, .ref 17, .ref 20, .ref 23, .ref 26, .ref 29, .ref 32, .ref 35, .ref 38], vm := .none },
  { cls := 25, slots := #[.ref 8, .ref 41, .ref 42, .ref 43, .ref 44, .ref 45, .ref 46, .ref 47, .ref 48, .ref 49, .ref 50, .ref 51, .ref 52, .ref 53, .ref 54, .ref 55], vm := .none },
  { cls := 6, slots := #[.long 1, .int 0], vm := .none },
  { cls := 6, slots := #[.long 3600, .int 0], vm := .none },
  { cls := 11, slots := #[.ref 9, .int 0, .int 0, .null, .long 0], vm := .none },
  { cls := 13, slots := #[.int 0, .ref 10, .int 0, .int 0, .int 0, .int 0], vm := .none },
  { cls := 22, slots := #[], vm := .none },
  { cls := 11, slots := #[.ref 12, .int 0, .int 0, .null, .long 1], vm := .none },
  { cls := 13, slots := #[.int 1, .ref 13, .int 0, .int 0, .int 0, .int 0], vm := .none },
  { cls := 22, slots := #[.int 0], vm := .none },
  { cls := 11, slots := #[.ref 15, .int 0, .int 0, .null, .long 2], vm := .none },
  { cls := 13, slots := #[.int 1, .ref 16, .int 0, .int 0, .int 0, .int 0], vm := .none },
  { cls := 22, slots := #[.int 0], vm := .none },
  { cls := 11, slots := #[.ref 18, .int 0, .int 0, .null, .long 3], vm := .none },
  { cls := 13, slots := #[.int 1, .ref 19, .int 0, .int 0, .int 0, .int 0], vm := .none },
  { cls := 22, slots := #[.int 0], vm := .none },
  { cls := 11, slots := #[.ref 21, .int 0, .int 0, .null, .long 4], vm := .none },
  { cls := 13, slots := #[.int 1, .ref 22, .int 0, .int 0, .int 0, .int 0], vm := .none },
  { cls := 22, slots := #[.int 0], vm := .none },
  { cls := 11, slots := #[.ref 24, .int 0, .int 0, .null, .long 5], vm := .none },
  { cls := 13, slots := #[.int 1, .ref 25, .int 0, .int 0, .int 0, .int 0], vm := .none },
  { cls := 22, slots := #[.int 0], vm := .none },
  { cls := 11, slots := #[.ref 27, .int 0, .int 0, .null, .long 6], vm := .none },
  { cls := 13, slots := #[.int 1, .ref 28, .int 0, .int 0, .int 0, .int 0], vm := .none },
  { cls := 22, slots := #[.int 0], vm := .none },
  { cls := 11, slots := #[.ref 30, .int 0, .int 0, .null, .long 7], vm := .none },
  { cls := 13, slots := #[.int 1, .ref 31, .int 0, .int 0, .int 0, .int 0], vm := .none },
  { cls := 22, slots := #[.int 0], vm := .none },
  { cls := 11, slots := #[.ref 33, .int 0, .int 0, .null, .long 8], vm := .none },
  { cls := 13, slots := #[.int 1, .ref 34, .int 0, .int 0, .int 0, .int 0], vm := .none },
  { cls := 22, slots := #[.int 0], vm := .none },
  { cls := 11, slots := #[.ref 36, .int 0, .int 0, .null, .long 9], vm := .none },
  { cls := 13, slots := #[.int 1, .ref 37, .int 0, .int 0, .int 0, .int 0], vm := .none },
  { cls := 22, slots := #[.int 0], vm := .none },
  { cls := 11, slots := #[.ref 39, .int 0, .int 0, .null, .long 10], vm := .none },
  { cls := 13, slots := #[.int 1, .ref 40, .int 0, .int 0, .int 0, .int 0], vm := .none },
  { cls := 22, slots := #[.int 0], vm := .none },
  { cls := 11, slots := #[.ref 9, .int 1, .int 0, .null, .long 0], vm := .none },
  { cls := 11, slots := #[.ref 9, .int 2, .int 0, .null, .long 0], vm := .none },
  { cls := 11, slots := #[.ref 9, .int 3, .int 0, .null, .long 0], vm := .none },
  { cls := 11, slots := #[.ref 9, .int 4, .int 0, .null, .long 0], vm := .none },
  { cls := 11, slots := #[.ref 9, .int 5, .int 0, .null, .long 0], vm := .none },
  { cls := 11, slots := #[.ref 9, .int 6, .int 0, .null, .long 0], vm := .none },
  { cls := 11, slots := #[.ref 9, .int 7, .int 0, .null, .long 0], vm := .none },
  { cls := 11, slots := #[.ref 9, .int 8, .int 0, .null, .long 0], vm := .none },
  { cls := 11, slots := #[.ref 9, .int 9, .int 0, .null, .long 0], vm := .none },
  { cls := 11, slots := #[.ref 9, .int 10, .int 0, .null, .long 0], vm := .none },
  { cls := 11, slots := #[.ref 9, .int 11, .int 0, .null, .long 0], vm := .none },
  { cls := 11, slots := #[.ref 9, .int 12, .int 0, .null, .long 0], vm := .none },
  { cls := 11, slots := #[.ref 9, .int 13, .int 0, .null, .long 0], vm := .none },
  { cls := 11, slots := #[.ref 9, .int 14, .int 0, .null, .long 0], vm := .none },
  { cls := 11, slots := #[.ref 9, .int 15, .int 0, .null, .long 0], vm := .none },
  { cls := 24, slots := #[.long 1, .long 10, .long 100, .long 1000, .long 10000, .long 100000, .long 1000000, .long 10000000, .long 100000000, .long 1000000000, .long 10000000000, .long 100000000000, .long 1000000000000, .long 10000000000000, .long 100000000000000, .long 1000000000000000, .long 10000000000000000, .long 100000000000000000, .long 1000000000000000000], vm := .none },
  { cls := 24, slots := #[.long 9223372036854775807, .long 922337203685477580, .long 92233720368547758, .long 9223372036854775, .long 922337203685477, .long 92233720368547, .long 9223372036854, .long 922337203685, .long 92233720368, .long 9223372036, .long 922337203, .long 92233720, .long 9223372, .long 922337, .long 92233, .long 9223, .long 922, .long 92, .long 9], vm := .none },
  { cls := 13, slots := #[.int 1, .ref 59, .int 0, .int 0, .int 0, .int 0], vm := .none },
  { cls := 22, slots := #[.int 1000000000], vm := .none }]
def classes : Array Class := #[k0, k1, k2, k3, k4, k5, k6, k7, k8, k9, k10, k11, k12, k13, k14, k15, k16, k17, k18, k19, k20, k21, k22, k23, k24, k25, k26]
def interned : List (Array UInt16 × Addr) := []
def slotsUsed : Nat := 364
def theMethod : MethodId := ⟨1, 1⟩
def args0 : Array Value := #[.int 5, .int 5]
def aboutOver (below : List Frame) : State where
  vm := { classes := classes, interned := interned.toArray }
  heap := heap
  slotsUsed := slotsUsed
  threads := #[{ frames := .invoking theMethod args0 :: below }]
def below0 : List Frame := [.native { method := ⟨0, 0⟩, args := #[] }]
def about1 : State := aboutOver below0
def p0 : Program := .bare "" "" ""
def e0 : Env := launch0.env 0 0 0
theorem w_frames : about1.frames = Frame.invoking theMethod args0 :: below0 := rfl
set_option maxRecDepth 65536 in
theorem w_args : argsFit about1.vm theMethod args0 = true := by decide +kernel
set_option maxRecDepth 65536 in
theorem w_heap : heapFits about1 = true := by decide +kernel
set_option maxRecDepth 65536 in
theorem w_runnable : about1.curStatus? = some .runnable := by decide +kernel
set_option maxRecDepth 65536 in
theorem w_alone : about1.alone = true := by decide +kernel
set_option maxRecDepth 65536 in
theorem w_named : about1.methodNamed? x = some theMethod := by decide +kernel
set_option maxRecDepth 65536 in
theorem w_hears : about1.hears theMethod below0 = true := by decide +kernel
set_option maxRecDepth 65536 in
theorem w_ripe : about1.ripe theMethod args0 below0 = true := by decide +kernel
theorem w_running : about1.status = .running := rfl
set_option maxRecDepth 65536 in
theorem w_room : about1.hasRoom e0.platform room_1 = true :=
  launch0.hasRoom_least _ room_1 (by decide +kernel) (by decide +kernel) (by decide +kernel) (by decide +kernel) (by decide +kernel) (by decide +kernel)
theorem allAtoms_all (ts : List Jvm.Cond) (a : Array Jvm.Value) (st : Jvm.State) : (allAtoms ts).before a st = ts.all (fun c => c.before a st) := by
  induction ts with
  | nil => rfl
  | cons c t ih =>
    show (Jvm.Cond.and c (allAtoms t)).before a st = _
    rw [Jvm.Cond.before_and, ih, List.all_cons]
def words1 : List Jvm.Cond := Jvm.Cond.code x code maxLocals ret :: tables_1
/-- a 'code' word, met by the world's own term for the bytes: nothing is compared byte by byte -/
theorem code_word {y : MethodName} {bytes : ByteArray} {mx : Nat} {rt : Option FieldType} {a : Array Value} {s : State} {m : MethodId} {meth : Method} {c : Code} (h1 : s.methodNamed? y = some m) (h2 : s.vm.method? m = some meth) (h3 : meth.code = some c) (h4 : c.code = bytes)
    (h5 : (c.maxLocals == mx && c.exceptionTable.isEmpty && decide (c.maxStack ≤ mostOperands) && decide (meth.sig.returnType = rt) && !meth.locks && decide (parseMethodDescriptor y.desc = some meth.sig)) = true) : (Jvm.Cond.code y bytes mx rt).before a s = true := by
  simp only [Bool.and_eq_true, beq_iff_eq, Bool.not_eq_true', decide_eq_true_eq] at h5
  obtain ⟨⟨⟨⟨⟨g1, g2⟩, g3⟩, g4⟩, g5⟩, g6⟩ := h5
  simp [Cond.before, Cond.holds, Cond.value, h1, h2, h3, h4, g1, g2, g3, g4, g5, g6]
def isCode : Jvm.Cond → Bool
  | .code _ _ _ _ => true
  | _ => false
theorem all_split {L : List Jvm.Cond} {P : Jvm.Cond → Bool} (h1 : L.all (fun c => isCode c || P c) = true) (h2 : ∀ c ∈ L.filter isCode, P c = true) : L.all P = true := by
  refine List.all_eq_true.mpr fun c hc => ?_
  have h := List.all_eq_true.mp h1 c hc
  rcases Bool.eq_false_or_eq_true (isCode c) with hi | hi
  · exact h2 c (List.mem_filter.mpr ⟨hc, hi⟩)
  · simpa [hi] using h
set_option maxRecDepth 65536 in
theorem w_c0 : (Jvm.Cond.code x code maxLocals ret).before args0 about1 = true := code_word (m := ⟨1, 1⟩) (meth := k1m1) (c := k1c1) (by decide +kernel) rfl rfl rfl (by decide +kernel)
set_option maxRecDepth 65536 in
theorem w_c1 : (Jvm.Cond.code ({ cls := "com/example/tidewheel/tidewheel/rules/Retries", name := "delay", desc := "(I)Ljava/time/Duration;" } : Jvm.MethodName) prog_34_method_2_code (3 : Nat) (Option.some (Jvm.ClassFile.FieldType.object "java/time/Duration"))).before args0 about1 = true := code_word (m := ⟨2, 1⟩) (meth := k2m1) (c := k2c1) (by decide +kernel) rfl rfl rfl (by decide +kernel)
set_option maxRecDepth 65536 in
theorem w_c2 : (Jvm.Cond.code ({ cls := "java/time/Duration", name := "compareTo", desc := "(Ljava/time/Duration;)I" } : Jvm.MethodName) jdk_2316_method_66_code (3 : Nat) (Option.some Jvm.ClassFile.FieldType.int)).before args0 about1 = true := code_word (m := ⟨6, 8⟩) (meth := k6m8) (c := k6c8) (by decide +kernel) rfl rfl rfl (by decide +kernel)
set_option maxRecDepth 65536 in
theorem w_c3 : (Jvm.Cond.code ({ cls := "java/lang/Long", name := "compare", desc := "(JJ)I" } : Jvm.MethodName) jdk_35_method_42_code (4 : Nat) (Option.some Jvm.ClassFile.FieldType.int)).before args0 about1 = true := code_word (m := ⟨10, 0⟩) (meth := k10m0) (c := k10c0) (by decide +kernel) rfl rfl rfl (by decide +kernel)
set_option maxRecDepth 65536 in
theorem w_c4 : (Jvm.Cond.code ({ cls := "java/time/Duration", name := "getSeconds", desc := "()J" } : Jvm.MethodName) jdk_2316_method_23_code (1 : Nat) (Option.some Jvm.ClassFile.FieldType.long)).before args0 about1 = true := code_word (m := ⟨6, 3⟩) (meth := k6m3) (c := k6c3) (by decide +kernel) rfl rfl rfl (by decide +kernel)
set_option maxRecDepth 65536 in
theorem w_c5 : (Jvm.Cond.code ({ cls := "java/time/Duration", name := "getNano", desc := "()I" } : Jvm.MethodName) jdk_2316_method_24_code (1 : Nat) (Option.some Jvm.ClassFile.FieldType.int)).before args0 about1 = true := code_word (m := ⟨6, 4⟩) (meth := k6m4) (c := k6c4) (by decide +kernel) rfl rfl rfl (by decide +kernel)
set_option maxRecDepth 65536 in
theorem w_c6 : (Jvm.Cond.code ({ cls := "java/time/Duration", name := "multipliedBy", desc := "(J)Ljava/time/Duration;" } : Jvm.MethodName) jdk_2316_method_44_code (3 : Nat) (Option.some (Jvm.ClassFile.FieldType.object "java/time/Duration"))).before args0 about1 = true := code_word (m := ⟨6, 5⟩) (meth := k6m5) (c := k6c5) (by decide +kernel) rfl rfl rfl (by decide +kernel)
set_option maxRecDepth 65536 in
theorem w_c7 : (Jvm.Cond.code ({ cls := "java/time/Duration", name := "toBigDecimalSeconds", desc := "()Ljava/math/BigDecimal;" } : Jvm.MethodName) jdk_2316_method_47_code (1 : Nat) (Option.some (Jvm.ClassFile.FieldType.object "java/math/BigDecimal"))).before args0 about1 = true := code_word (m := ⟨6, 6⟩) (meth := k6m6) (c := k6c6) (by decide +kernel) rfl rfl rfl (by decide +kernel)
set_option maxRecDepth 65536 in
theorem w_c8 : (Jvm.Cond.code ({ cls := "java/math/BigDecimal", name := "valueOf", desc := "(J)Ljava/math/BigDecimal;" } : Jvm.MethodName) jdk_17_method_21_code (2 : Nat) (Option.some (Jvm.ClassFile.FieldType.object "java/math/BigDecimal"))).before args0 about1 = true := code_word (m := ⟨11, 2⟩) (meth := k11m2) (c := k11c2) (by decide +kernel) rfl rfl rfl (by decide +kernel)
set_option maxRecDepth 65536 in
theorem w_c9 : (Jvm.Cond.code ({ cls := "java/math/BigDecimal", name := "valueOf", desc := "(JI)Ljava/math/BigDecimal;" } : Jvm.MethodName) jdk_17_method_20_code (3 : Nat) (Option.some (Jvm.ClassFile.FieldType.object "java/math/BigDecimal"))).before args0 about1 = true := code_word (m := ⟨11, 1⟩) (meth := k11m1) (c := k11c1) (by decide +kernel) rfl rfl rfl (by decide +kernel)
set_option maxRecDepth 65536 in
theorem w_c10 : (Jvm.Cond.code ({ cls := "java/math/BigDecimal", name := "zeroValueOf", desc := "(I)Ljava/math/BigDecimal;" } : Jvm.MethodName) jdk_17_method_24_code (1 : Nat) (Option.some (Jvm.ClassFile.FieldType.object "java/math/BigDecimal"))).before args0 about1 = true := code_word (m := ⟨11, 3⟩) (meth := k11m3) (c := k11c3) (by decide +kernel) rfl rfl rfl (by decide +kernel)
set_option maxRecDepth 65536 in
theorem w_c11 : (Jvm.Cond.code ({ cls := "java/math/BigDecimal", name := "add", desc := "(Ljava/math/BigDecimal;)Ljava/math/BigDecimal;" } : Jvm.MethodName) jdk_17_method_26_code (2 : Nat) (Option.some (Jvm.ClassFile.FieldType.object "java/math/BigDecimal"))).before args0 about1 = true := code_word (m := ⟨11, 4⟩) (meth := k11m4) (c := k11c4) (by decide +kernel) rfl rfl rfl (by decide +kernel)
set_option maxRecDepth 65536 in
theorem w_c12 : (Jvm.Cond.code ({ cls := "java/math/BigDecimal", name := "add", desc := "(JIJI)Ljava/math/BigDecimal;" } : Jvm.MethodName) jdk_17_method_134_code (12 : Nat) (Option.some (Jvm.ClassFile.FieldType.object "java/math/BigDecimal"))).before args0 about1 = true := code_word (m := ⟨11, 15⟩) (meth := k11m15) (c := k11c15) (by decide +kernel) rfl rfl rfl (by decide +kernel)
set_option maxRecDepth 65536 in
theorem w_c13 : (Jvm.Cond.code ({ cls := "java/math/BigDecimal", name := "checkScale", desc := "(JJ)I" } : Jvm.MethodName) jdk_17_method_113_code (5 : Nat) (Option.some Jvm.ClassFile.FieldType.int)).before args0 about1 = true := code_word (m := ⟨11, 12⟩) (meth := k11m12) (c := k11c12) (by decide +kernel) rfl rfl rfl (by decide +kernel)
set_option maxRecDepth 65536 in
theorem w_c14 : (Jvm.Cond.code ({ cls := "java/math/BigDecimal", name := "longMultiplyPowerTen", desc := "(JI)J" } : Jvm.MethodName) jdk_17_method_97_code (7 : Nat) (Option.some Jvm.ClassFile.FieldType.long)).before args0 about1 = true := code_word (m := ⟨11, 9⟩) (meth := k11m9) (c := k11c9) (by decide +kernel) rfl rfl rfl (by decide +kernel)
set_option maxRecDepth 65536 in
theorem w_c15 : (Jvm.Cond.code ({ cls := "java/math/BigDecimal", name := "add", desc := "(JJI)Ljava/math/BigDecimal;" } : Jvm.MethodName) jdk_17_method_133_code (7 : Nat) (Option.some (Jvm.ClassFile.FieldType.object "java/math/BigDecimal"))).before args0 about1 = true := code_word (m := ⟨11, 14⟩) (meth := k11m14) (c := k11c14) (by decide +kernel) rfl rfl rfl (by decide +kernel)
set_option maxRecDepth 65536 in
theorem w_c16 : (Jvm.Cond.code ({ cls := "java/math/BigDecimal", name := "add", desc := "(JJ)J" } : Jvm.MethodName) jdk_17_method_132_code (6 : Nat) (Option.some Jvm.ClassFile.FieldType.long)).before args0 about1 = true := code_word (m := ⟨11, 13⟩) (meth := k11m13) (c := k11c13) (by decide +kernel) rfl rfl rfl (by decide +kernel)
set_option maxRecDepth 65536 in
theorem w_c17 : (Jvm.Cond.code ({ cls := "java/math/BigDecimal", name := "<init>", desc := "(Ljava/math/BigInteger;JII)V" } : Jvm.MethodName) jdk_17_method_1_code (6 : Nat) (Option.none : Option Jvm.ClassFile.FieldType)).before args0 about1 = true := code_word (m := ⟨11, 0⟩) (meth := k11m0) (c := k11c0) (by decide +kernel) rfl rfl rfl (by decide +kernel)
set_option maxRecDepth 65536 in
theorem w_c18 : (Jvm.Cond.code ({ cls := "java/lang/Number", name := "<init>", desc := "()V" } : Jvm.MethodName) jdk_18_method_1_code (1 : Nat) (Option.none : Option Jvm.ClassFile.FieldType)).before args0 about1 = true := code_word (m := ⟨7, 0⟩) (meth := k7m0) (c := k7c0) (by decide +kernel) rfl rfl rfl (by decide +kernel)
set_option maxRecDepth 65536 in
theorem w_c19 : (Jvm.Cond.code ({ cls := "java/lang/Object", name := "<init>", desc := "()V" } : Jvm.MethodName) object_method_1_code (1 : Nat) (Option.none : Option Jvm.ClassFile.FieldType)).before args0 about1 = true := code_word (m := ⟨0, 0⟩) (meth := k0m0) (c := k0c0) (by decide +kernel) rfl rfl rfl (by decide +kernel)
set_option maxRecDepth 65536 in
theorem w_c20 : (Jvm.Cond.code ({ cls := "java/math/BigDecimal", name := "multiply", desc := "(Ljava/math/BigDecimal;)Ljava/math/BigDecimal;" } : Jvm.MethodName) jdk_17_method_31_code (3 : Nat) (Option.some (Jvm.ClassFile.FieldType.object "java/math/BigDecimal"))).before args0 about1 = true := code_word (m := ⟨11, 5⟩) (meth := k11m5) (c := k11c5) (by decide +kernel) rfl rfl rfl (by decide +kernel)
set_option maxRecDepth 65536 in
theorem w_c21 : (Jvm.Cond.code ({ cls := "java/math/BigDecimal", name := "checkScale", desc := "(J)I" } : Jvm.MethodName) jdk_17_method_106_code (5 : Nat) (Option.some Jvm.ClassFile.FieldType.int)).before args0 about1 = true := code_word (m := ⟨11, 11⟩) (meth := k11m11) (c := k11c11) (by decide +kernel) rfl rfl rfl (by decide +kernel)
set_option maxRecDepth 65536 in
theorem w_c22 : (Jvm.Cond.code ({ cls := "java/math/BigDecimal", name := "multiply", desc := "(JJI)Ljava/math/BigDecimal;" } : Jvm.MethodName) jdk_17_method_157_code (7 : Nat) (Option.some (Jvm.ClassFile.FieldType.object "java/math/BigDecimal"))).before args0 about1 = true := code_word (m := ⟨11, 17⟩) (meth := k11m17) (c := k11c17) (by decide +kernel) rfl rfl rfl (by decide +kernel)
set_option maxRecDepth 65536 in
theorem w_c23 : (Jvm.Cond.code ({ cls := "java/math/BigDecimal", name := "multiply", desc := "(JJ)J" } : Jvm.MethodName) jdk_17_method_156_code (10 : Nat) (Option.some Jvm.ClassFile.FieldType.long)).before args0 about1 = true := code_word (m := ⟨11, 16⟩) (meth := k11m16) (c := k11c16) (by decide +kernel) rfl rfl rfl (by decide +kernel)
set_option maxRecDepth 65536 in
theorem w_c24 : (Jvm.Cond.code ({ cls := "java/lang/Math", name := "abs", desc := "(J)J" } : Jvm.MethodName) jdk_29_method_61_code (2 : Nat) (Option.some Jvm.ClassFile.FieldType.long)).before args0 about1 = true := code_word (m := ⟨12, 4⟩) (meth := k12m4) (c := k12c4) (by decide +kernel) rfl rfl rfl (by decide +kernel)
set_option maxRecDepth 65536 in
theorem w_c25 : (Jvm.Cond.code ({ cls := "java/time/Duration", name := "create", desc := "(Ljava/math/BigDecimal;)Ljava/time/Duration;" } : Jvm.MethodName) jdk_2316_method_48_code (3 : Nat) (Option.some (Jvm.ClassFile.FieldType.object "java/time/Duration"))).before args0 about1 = true := code_word (m := ⟨6, 7⟩) (meth := k6m7) (c := k6c7) (by decide +kernel) rfl rfl rfl (by decide +kernel)
set_option maxRecDepth 65536 in
theorem w_c26 : (Jvm.Cond.code ({ cls := "java/math/BigDecimal", name := "movePointRight", desc := "(I)Ljava/math/BigDecimal;" } : Jvm.MethodName) jdk_17_method_67_code (4 : Nat) (Option.some (Jvm.ClassFile.FieldType.object "java/math/BigDecimal"))).before args0 about1 = true := code_word (m := ⟨11, 7⟩) (meth := k11m7) (c := k11c7) (by decide +kernel) rfl rfl rfl (by decide +kernel)
set_option maxRecDepth 65536 in
theorem w_c27 : (Jvm.Cond.code ({ cls := "java/math/BigDecimal", name := "toBigIntegerExact", desc := "()Ljava/math/BigInteger;" } : Jvm.MethodName) jdk_17_method_81_code (1 : Nat) (Option.some (Jvm.ClassFile.FieldType.object "java/math/BigInteger"))).before args0 about1 = true := code_word (m := ⟨11, 8⟩) (meth := k11m8) (c := k11c8) (by decide +kernel) rfl rfl rfl (by decide +kernel)
set_option maxRecDepth 65536 in
theorem w_c28 : (Jvm.Cond.code ({ cls := "java/math/BigDecimal", name := "setScale", desc := "(II)Ljava/math/BigDecimal;" } : Jvm.MethodName) jdk_17_method_64_code (8 : Nat) (Option.some (Jvm.ClassFile.FieldType.object "java/math/BigDecimal"))).before args0 about1 = true := code_word (m := ⟨11, 6⟩) (meth := k11m6) (c := k11c6) (by decide +kernel) rfl rfl rfl (by decide +kernel)
set_option maxRecDepth 65536 in
theorem w_c29 : (Jvm.Cond.code ({ cls := "java/math/BigDecimal", name := "inflated", desc := "()Ljava/math/BigInteger;" } : Jvm.MethodName) jdk_17_method_99_code (1 : Nat) (Option.some (Jvm.ClassFile.FieldType.object "java/math/BigInteger"))).before args0 about1 = true := code_word (m := ⟨11, 10⟩) (meth := k11m10) (c := k11c10) (by decide +kernel) rfl rfl rfl (by decide +kernel)
set_option maxRecDepth 65536 in
theorem w_c30 : (Jvm.Cond.code ({ cls := "java/math/BigInteger", name := "valueOf", desc := "(J)Ljava/math/BigInteger;" } : Jvm.MethodName) jdk_2097_method_29_code (2 : Nat) (Option.some (Jvm.ClassFile.FieldType.object "java/math/BigInteger"))).before args0 about1 = true := code_word (m := ⟨13, 1⟩) (meth := k13m1) (c := k13c1) (by decide +kernel) rfl rfl rfl (by decide +kernel)
set_option maxRecDepth 65536 in
theorem w_c31 : (Jvm.Cond.code ({ cls := "java/math/BigInteger", name := "<init>", desc := "(J)V" } : Jvm.MethodName) jdk_2097_method_30_code (4 : Nat) (Option.none : Option Jvm.ClassFile.FieldType)).before args0 about1 = true := code_word (m := ⟨13, 2⟩) (meth := k13m2) (c := k13c2) (by decide +kernel) rfl rfl rfl (by decide +kernel)
set_option maxRecDepth 65536 in
theorem w_c32 : (Jvm.Cond.code ({ cls := "java/math/BigInteger", name := "divideAndRemainder", desc := "(Ljava/math/BigInteger;)[Ljava/math/BigInteger;" } : Jvm.MethodName) jdk_2097_method_63_code (2 : Nat) (Option.some (Jvm.ClassFile.FieldType.array (Jvm.ClassFile.FieldType.object "java/math/BigInteger")))).before args0 about1 = true := code_word (m := ⟨13, 3⟩) (meth := k13m3) (c := k13c3) (by decide +kernel) rfl rfl rfl (by decide +kernel)
set_option maxRecDepth 65536 in
theorem w_c33 : (Jvm.Cond.code ({ cls := "java/math/BigInteger", name := "divideAndRemainderKnuth", desc := "(Ljava/math/BigInteger;)[Ljava/math/BigInteger;" } : Jvm.MethodName) jdk_2097_method_64_code (7 : Nat) (Option.some (Jvm.ClassFile.FieldType.array (Jvm.ClassFile.FieldType.object "java/math/BigInteger")))).before args0 about1 = true := code_word (m := ⟨13, 4⟩) (meth := k13m4) (c := k13c4) (by decide +kernel) rfl rfl rfl (by decide +kernel)
set_option maxRecDepth 65536 in
theorem w_c34 : (Jvm.Cond.code ({ cls := "java/math/MutableBigInteger", name := "<init>", desc := "()V" } : Jvm.MethodName) jdk_2101_method_1_code (1 : Nat) (Option.none : Option Jvm.ClassFile.FieldType)).before args0 about1 = true := code_word (m := ⟨14, 0⟩) (meth := k14m0) (c := k14c0) (by decide +kernel) rfl rfl rfl (by decide +kernel)
set_option maxRecDepth 65536 in
theorem w_c35 : (Jvm.Cond.code ({ cls := "java/math/MutableBigInteger", name := "<init>", desc := "([I)V" } : Jvm.MethodName) jdk_2101_method_3_code (2 : Nat) (Option.none : Option Jvm.ClassFile.FieldType)).before args0 about1 = true := code_word (m := ⟨14, 1⟩) (meth := k14m1) (c := k14c1) (by decide +kernel) rfl rfl rfl (by decide +kernel)
set_option maxRecDepth 65536 in
theorem w_c36 : (Jvm.Cond.code ({ cls := "java/math/MutableBigInteger", name := "divideKnuth", desc := "(Ljava/math/MutableBigInteger;Ljava/math/MutableBigInteger;)Ljava/math/MutableBigInteger;" } : Jvm.MethodName) jdk_2101_method_56_code (3 : Nat) (Option.some (Jvm.ClassFile.FieldType.object "java/math/MutableBigInteger"))).before args0 about1 = true := code_word (m := ⟨14, 8⟩) (meth := k14m8) (c := k14c8) (by decide +kernel) rfl rfl rfl (by decide +kernel)
set_option maxRecDepth 65536 in
theorem w_c37 : (Jvm.Cond.code ({ cls := "java/math/MutableBigInteger", name := "divideKnuth", desc := "(Ljava/math/MutableBigInteger;Ljava/math/MutableBigInteger;Z)Ljava/math/MutableBigInteger;" } : Jvm.MethodName) jdk_2101_method_57_code (8 : Nat) (Option.some (Jvm.ClassFile.FieldType.object "java/math/MutableBigInteger"))).before args0 about1 = true := code_word (m := ⟨14, 9⟩) (meth := k14m9) (c := k14c9) (by decide +kernel) rfl rfl rfl (by decide +kernel)
set_option maxRecDepth 65536 in
theorem w_c38 : (Jvm.Cond.code ({ cls := "java/math/MutableBigInteger", name := "compare", desc := "(Ljava/math/MutableBigInteger;)I" } : Jvm.MethodName) jdk_2101_method_15_code (8 : Nat) (Option.some Jvm.ClassFile.FieldType.int)).before args0 about1 = true := code_word (m := ⟨14, 5⟩) (meth := k14m5) (c := k14c5) (by decide +kernel) rfl rfl rfl (by decide +kernel)
set_option maxRecDepth 65536 in
theorem w_c39 : (Jvm.Cond.code ({ cls := "java/math/MutableBigInteger", name := "clear", desc := "()V" } : Jvm.MethodName) jdk_2101_method_13_code (3 : Nat) (Option.none : Option Jvm.ClassFile.FieldType)).before args0 about1 = true := code_word (m := ⟨14, 4⟩) (meth := k14m4) (c := k14c4) (by decide +kernel) rfl rfl rfl (by decide +kernel)
set_option maxRecDepth 65536 in
theorem w_c40 : (Jvm.Cond.code ({ cls := "java/math/MutableBigInteger", name := "divideOneWord", desc := "(ILjava/math/MutableBigInteger;)I" } : Jvm.MethodName) jdk_2101_method_53_code (15 : Nat) (Option.some Jvm.ClassFile.FieldType.int)).before args0 about1 = true := code_word (m := ⟨14, 7⟩) (meth := k14m7) (c := k14c7) (by decide +kernel) rfl rfl rfl (by decide +kernel)
set_option maxRecDepth 65536 in
theorem w_c41 : (Jvm.Cond.code ({ cls := "java/math/MutableBigInteger", name := "toBigInteger", desc := "(I)Ljava/math/BigInteger;" } : Jvm.MethodName) jdk_2101_method_9_code (2 : Nat) (Option.some (Jvm.ClassFile.FieldType.object "java/math/BigInteger"))).before args0 about1 = true := code_word (m := ⟨14, 3⟩) (meth := k14m3) (c := k14c3) (by decide +kernel) rfl rfl rfl (by decide +kernel)
set_option maxRecDepth 65536 in
theorem w_c42 : (Jvm.Cond.code ({ cls := "java/math/MutableBigInteger", name := "getMagnitudeArray", desc := "()[I" } : Jvm.MethodName) jdk_2101_method_7_code (2 : Nat) (Option.some (Jvm.ClassFile.FieldType.array Jvm.ClassFile.FieldType.int))).before args0 about1 = true := code_word (m := ⟨14, 2⟩) (meth := k14m2) (c := k14c2) (by decide +kernel) rfl rfl rfl (by decide +kernel)
set_option maxRecDepth 65536 in
theorem w_c43 : (Jvm.Cond.code ({ cls := "java/math/BigInteger", name := "<init>", desc := "([II)V" } : Jvm.MethodName) jdk_2097_method_25_code (3 : Nat) (Option.none : Option Jvm.ClassFile.FieldType)).before args0 about1 = true := code_word (m := ⟨13, 0⟩) (meth := k13m0) (c := k13c0) (by decide +kernel) rfl rfl rfl (by decide +kernel)
set_option maxRecDepth 65536 in
theorem w_c44 : (Jvm.Cond.code ({ cls := "java/math/BigInteger", name := "bitLength", desc := "()I" } : Jvm.MethodName) jdk_2097_method_118_code (7 : Nat) (Option.some Jvm.ClassFile.FieldType.int)).before args0 about1 = true := code_word (m := ⟨13, 6⟩) (meth := k13m6) (c := k13c6) (by decide +kernel) rfl rfl rfl (by decide +kernel)
set_option maxRecDepth 65536 in
theorem w_c45 : (Jvm.Cond.code ({ cls := "java/math/BigInteger", name := "bitLengthForInt", desc := "(I)I" } : Jvm.MethodName) jdk_2097_method_74_code (1 : Nat) (Option.some Jvm.ClassFile.FieldType.int)).before args0 about1 = true := code_word (m := ⟨13, 5⟩) (meth := k13m5) (c := k13c5) (by decide +kernel) rfl rfl rfl (by decide +kernel)
set_option maxRecDepth 65536 in
theorem w_c46 : (Jvm.Cond.code ({ cls := "java/lang/Integer", name := "numberOfLeadingZeros", desc := "(I)I" } : Jvm.MethodName) jdk_33_method_47_code (2 : Nat) (Option.some Jvm.ClassFile.FieldType.int)).before args0 about1 = true := code_word (m := ⟨15, 0⟩) (meth := k15m0) (c := k15c0) (by decide +kernel) rfl rfl rfl (by decide +kernel)
set_option maxRecDepth 65536 in
theorem w_c47 : (Jvm.Cond.code ({ cls := "java/math/BigInteger", name := "longValue", desc := "()J" } : Jvm.MethodName) jdk_2097_method_136_code (4 : Nat) (Option.some Jvm.ClassFile.FieldType.long)).before args0 about1 = true := code_word (m := ⟨13, 8⟩) (meth := k13m8) (c := k13c8) (by decide +kernel) rfl rfl rfl (by decide +kernel)
set_option maxRecDepth 65536 in
theorem w_c48 : (Jvm.Cond.code ({ cls := "java/math/BigInteger", name := "getInt", desc := "(I)I" } : Jvm.MethodName) jdk_2097_method_148_code (3 : Nat) (Option.some Jvm.ClassFile.FieldType.int)).before args0 about1 = true := code_word (m := ⟨13, 10⟩) (meth := k13m10) (c := k13c10) (by decide +kernel) rfl rfl rfl (by decide +kernel)
set_option maxRecDepth 65536 in
theorem w_c49 : (Jvm.Cond.code ({ cls := "java/math/BigInteger", name := "signInt", desc := "()I" } : Jvm.MethodName) jdk_2097_method_147_code (1 : Nat) (Option.some Jvm.ClassFile.FieldType.int)).before args0 about1 = true := code_word (m := ⟨13, 9⟩) (meth := k13m9) (c := k13c9) (by decide +kernel) rfl rfl rfl (by decide +kernel)
set_option maxRecDepth 65536 in
theorem w_c50 : (Jvm.Cond.code ({ cls := "java/math/BigInteger", name := "intValue", desc := "()I" } : Jvm.MethodName) jdk_2097_method_135_code (2 : Nat) (Option.some Jvm.ClassFile.FieldType.int)).before args0 about1 = true := code_word (m := ⟨13, 7⟩) (meth := k13m7) (c := k13c7) (by decide +kernel) rfl rfl rfl (by decide +kernel)
set_option maxRecDepth 65536 in
theorem w_c51 : (Jvm.Cond.code ({ cls := "java/time/Duration", name := "ofSeconds", desc := "(JJ)Ljava/time/Duration;" } : Jvm.MethodName) jdk_2316_method_5_code (7 : Nat) (Option.some (Jvm.ClassFile.FieldType.object "java/time/Duration"))).before args0 about1 = true := code_word (m := ⟨6, 0⟩) (meth := k6m0) (c := k6c0) (by decide +kernel) rfl rfl rfl (by decide +kernel)
set_option maxRecDepth 65536 in
theorem w_c52 : (Jvm.Cond.code ({ cls := "java/lang/Math", name := "floorDiv", desc := "(JJ)J" } : Jvm.MethodName) jdk_29_method_49_code (6 : Nat) (Option.some Jvm.ClassFile.FieldType.long)).before args0 about1 = true := code_word (m := ⟨12, 2⟩) (meth := k12m2) (c := k12c2) (by decide +kernel) rfl rfl rfl (by decide +kernel)
set_option maxRecDepth 65536 in
theorem w_c53 : (Jvm.Cond.code ({ cls := "java/lang/Math", name := "addExact", desc := "(JJ)J" } : Jvm.MethodName) jdk_29_method_25_code (6 : Nat) (Option.some Jvm.ClassFile.FieldType.long)).before args0 about1 = true := code_word (m := ⟨12, 1⟩) (meth := k12m1) (c := k12c1) (by decide +kernel) rfl rfl rfl (by decide +kernel)
set_option maxRecDepth 65536 in
theorem w_c54 : (Jvm.Cond.code ({ cls := "java/lang/Math", name := "floorMod", desc := "(JJ)J" } : Jvm.MethodName) jdk_29_method_52_code (6 : Nat) (Option.some Jvm.ClassFile.FieldType.long)).before args0 about1 = true := code_word (m := ⟨12, 3⟩) (meth := k12m3) (c := k12c3) (by decide +kernel) rfl rfl rfl (by decide +kernel)
set_option maxRecDepth 65536 in
theorem w_c55 : (Jvm.Cond.code ({ cls := "java/time/Duration", name := "create", desc := "(JI)Ljava/time/Duration;" } : Jvm.MethodName) jdk_2316_method_16_code (3 : Nat) (Option.some (Jvm.ClassFile.FieldType.object "java/time/Duration"))).before args0 about1 = true := code_word (m := ⟨6, 1⟩) (meth := k6m1) (c := k6c1) (by decide +kernel) rfl rfl rfl (by decide +kernel)
set_option maxRecDepth 65536 in
theorem w_c56 : (Jvm.Cond.code ({ cls := "java/time/Duration", name := "<init>", desc := "(JI)V" } : Jvm.MethodName) jdk_2316_method_17_code (4 : Nat) (Option.none : Option Jvm.ClassFile.FieldType)).before args0 about1 = true := code_word (m := ⟨6, 2⟩) (meth := k6m2) (c := k6c2) (by decide +kernel) rfl rfl rfl (by decide +kernel)
set_option maxRecDepth 65536 in
theorem w_c57 : (Jvm.Cond.code ({ cls := "java/math/MutableBigInteger", name := "normalize", desc := "()V" } : Jvm.MethodName) jdk_2101_method_21_code (4 : Nat) (Option.none : Option Jvm.ClassFile.FieldType)).before args0 about1 = true := code_word (m := ⟨14, 6⟩) (meth := k14m6) (c := k14c6) (by decide +kernel) rfl rfl rfl (by decide +kernel)
set_option maxRecDepth 65536 in
theorem w_c58 : (Jvm.Cond.code ({ cls := "java/util/Arrays", name := "copyOfRange", desc := "([III)[I" } : Jvm.MethodName) jdk_65_method_136_code (3 : Nat) (Option.some (Jvm.ClassFile.FieldType.array Jvm.ClassFile.FieldType.int))).before args0 about1 = true := code_word (m := ⟨16, 3⟩) (meth := k16m3) (c := k16c3) (by decide +kernel) rfl rfl rfl (by decide +kernel)
set_option maxRecDepth 65536 in
theorem w_c59 : (Jvm.Cond.code ({ cls := "java/util/Arrays", name := "copyOfRangeInt", desc := "([III)[I" } : Jvm.MethodName) jdk_65_method_137_code (5 : Nat) (Option.some (Jvm.ClassFile.FieldType.array Jvm.ClassFile.FieldType.int))).before args0 about1 = true := code_word (m := ⟨16, 4⟩) (meth := k16m4) (c := k16c4) (by decide +kernel) rfl rfl rfl (by decide +kernel)
set_option maxRecDepth 65536 in
theorem w_c60 : (Jvm.Cond.code ({ cls := "java/util/Arrays", name := "checkLength", desc := "(II)V" } : Jvm.MethodName) jdk_65_method_131_code (2 : Nat) (Option.none : Option Jvm.ClassFile.FieldType)).before args0 about1 = true := code_word (m := ⟨16, 2⟩) (meth := k16m2) (c := k16c2) (by decide +kernel) rfl rfl rfl (by decide +kernel)
set_option maxRecDepth 65536 in
theorem w_c61 : (Jvm.Cond.code ({ cls := "java/lang/Math", name := "min", desc := "(II)I" } : Jvm.MethodName) jdk_29_method_69_code (2 : Nat) (Option.some Jvm.ClassFile.FieldType.int)).before args0 about1 = true := code_word (m := ⟨12, 5⟩) (meth := k12m5) (c := k12c5) (by decide +kernel) rfl rfl rfl (by decide +kernel)
set_option maxRecDepth 65536 in
theorem w_c62 : (Jvm.Cond.code ({ cls := "java/util/Arrays", name := "fill", desc := "([II)V" } : Jvm.MethodName) jdk_65_method_103_code (4 : Nat) (Option.none : Option Jvm.ClassFile.FieldType)).before args0 about1 = true := code_word (m := ⟨16, 1⟩) (meth := k16m1) (c := k16c1) (by decide +kernel) rfl rfl rfl (by decide +kernel)
def codes1 : List Jvm.Cond := [Jvm.Cond.code x code maxLocals ret, Jvm.Cond.code ({ cls := "com/example/tidewheel/tidewheel/rules/Retries", name := "delay", desc := "(I)Ljava/time/Duration;" } : Jvm.MethodName) prog_34_method_2_code (3 : Nat) (Option.some (Jvm.ClassFile.FieldType.object "java/time/Duration")), Jvm.Cond.code ({ cls := "java/time/Duration", name := "compareTo", desc := "(Ljava/time/Duration;)I" } : Jvm.MethodName) jdk_2316_method_66_code (3 : Nat) (Option.some Jvm.ClassFile.FieldType.int), Jvm.Cond.code ({ cls := "java/lang/Long", name := "compare", desc := "(JJ)I" } : Jvm.MethodName) jdk_35_method_42_code (4 : Nat) (Option.some Jvm.ClassFile.FieldType.int), Jvm.Cond.code ({ cls := "java/time/Duration", name := "getSeconds", desc := "()J" } : Jvm.MethodName) jdk_2316_method_23_code (1 : Nat) (Option.some Jvm.ClassFile.FieldType.long), Jvm.Cond.code ({ cls := "java/time/Duration", name := "getNano", desc := "()I" } : Jvm.MethodName) jdk_2316_method_24_code (1 : Nat) (Option.some Jvm.ClassFile.FieldType.int), Jvm.Cond.code ({ cls := "java/time/Duration", name := "multipliedBy", desc := "(J)Ljava/time/Duration;" } : Jvm.MethodName) jdk_2316_method_44_code (3 : Nat) (Option.some (Jvm.ClassFile.FieldType.object "java/time/Duration")), Jvm.Cond.code ({ cls := "java/time/Duration", name := "toBigDecimalSeconds", desc := "()Ljava/math/BigDecimal;" } : Jvm.MethodName) jdk_2316_method_47_code (1 : Nat) (Option.some (Jvm.ClassFile.FieldType.object "java/math/BigDecimal")), Jvm.Cond.code ({ cls := "java/math/BigDecimal", name := "valueOf", desc := "(J)Ljava/math/BigDecimal;" } : Jvm.MethodName) jdk_17_method_21_code (2 : Nat) (Option.some (Jvm.ClassFile.FieldType.object "java/math/BigDecimal")), Jvm.Cond.code ({ cls := "java/math/BigDecimal", name := "valueOf", desc := "(JI)Ljava/math/BigDecimal;" } : Jvm.MethodName) jdk_17_method_20_code (3 : Nat) (Option.some (Jvm.ClassFile.FieldType.object "java/math/BigDecimal")), Jvm.Cond.code ({ cls := "java/math/BigDecimal", name := "zeroValueOf", desc := "(I)Ljava/math/BigDecimal;" } : Jvm.MethodName) jdk_17_method_24_code (1 : Nat) (Option.some (Jvm.ClassFile.FieldType.object "java/math/BigDecimal")), Jvm.Cond.code ({ cls := "java/math/BigDecimal", name := "add", desc := "(Ljava/math/BigDecimal;)Ljava/math/BigDecimal;" } : Jvm.MethodName) jdk_17_method_26_code (2 : Nat) (Option.some (Jvm.ClassFile.FieldType.object "java/math/BigDecimal")), Jvm.Cond.code ({ cls := "java/math/BigDecimal", name := "add", desc := "(JIJI)Ljava/math/BigDecimal;" } : Jvm.MethodName) jdk_17_method_134_code (12 : Nat) (Option.some (Jvm.ClassFile.FieldType.object "java/math/BigDecimal")), Jvm.Cond.code ({ cls := "java/math/BigDecimal", name := "checkScale", desc := "(JJ)I" } : Jvm.MethodName) jdk_17_method_113_code (5 : Nat) (Option.some Jvm.ClassFile.FieldType.int), Jvm.Cond.code ({ cls := "java/math/BigDecimal", name := "longMultiplyPowerTen", desc := "(JI)J" } : Jvm.MethodName) jdk_17_method_97_code (7 : Nat) (Option.some Jvm.ClassFile.FieldType.long), Jvm.Cond.code ({ cls := "java/math/BigDecimal", name := "add", desc := "(JJI)Ljava/math/BigDecimal;" } : Jvm.MethodName) jdk_17_method_133_code (7 : Nat) (Option.some (Jvm.ClassFile.FieldType.object "java/math/BigDecimal")), Jvm.Cond.code ({ cls := "java/math/BigDecimal", name := "add", desc := "(JJ)J" } : Jvm.MethodName) jdk_17_method_132_code (6 : Nat) (Option.some Jvm.ClassFile.FieldType.long), Jvm.Cond.code ({ cls := "java/math/BigDecimal", name := "<init>", desc := "(Ljava/math/BigInteger;JII)V" } : Jvm.MethodName) jdk_17_method_1_code (6 : Nat) (Option.none : Option Jvm.ClassFile.FieldType), Jvm.Cond.code ({ cls := "java/lang/Number", name := "<init>", desc := "()V" } : Jvm.MethodName) jdk_18_method_1_code (1 : Nat) (Option.none : Option Jvm.ClassFile.FieldType), Jvm.Cond.code ({ cls := "java/lang/Object", name := "<init>", desc := "()V" } : Jvm.MethodName) object_method_1_code (1 : Nat) (Option.none : Option Jvm.ClassFile.FieldType), Jvm.Cond.code ({ cls := "java/math/BigDecimal", name := "multiply", desc := "(Ljava/math/BigDecimal;)Ljava/math/BigDecimal;" } : Jvm.MethodName) jdk_17_method_31_code (3 : Nat) (Option.some (Jvm.ClassFile.FieldType.object "java/math/BigDecimal")), Jvm.Cond.code ({ cls := "java/math/BigDecimal", name := "checkScale", desc := "(J)I" } : Jvm.MethodName) jdk_17_method_106_code (5 : Nat) (Option.some Jvm.ClassFile.FieldType.int), Jvm.Cond.code ({ cls := "java/math/BigDecimal", name := "multiply", desc := "(JJI)Ljava/math/BigDecimal;" } : Jvm.MethodName) jdk_17_method_157_code (7 : Nat) (Option.some (Jvm.ClassFile.FieldType.object "java/math/BigDecimal")), Jvm.Cond.code ({ cls := "java/math/BigDecimal", name := "multiply", desc := "(JJ)J" } : Jvm.MethodName) jdk_17_method_156_code (10 : Nat) (Option.some Jvm.ClassFile.FieldType.long), Jvm.Cond.code ({ cls := "java/lang/Math", name := "abs", desc := "(J)J" } : Jvm.MethodName) jdk_29_method_61_code (2 : Nat) (Option.some Jvm.ClassFile.FieldType.long), Jvm.Cond.code ({ cls := "java/time/Duration", name := "create", desc := "(Ljava/math/BigDecimal;)Ljava/time/Duration;" } : Jvm.MethodName) jdk_2316_method_48_code (3 : Nat) (Option.some (Jvm.ClassFile.FieldType.object "java/time/Duration")), Jvm.Cond.code ({ cls := "java/math/BigDecimal", name := "movePointRight", desc := "(I)Ljava/math/BigDecimal;" } : Jvm.MethodName) jdk_17_method_67_code (4 : Nat) (Option.some (Jvm.ClassFile.FieldType.object "java/math/BigDecimal")), Jvm.Cond.code ({ cls := "java/math/BigDecimal", name := "toBigIntegerExact", desc := "()Ljava/math/BigInteger;" } : Jvm.MethodName) jdk_17_method_81_code (1 : Nat) (Option.some (Jvm.ClassFile.FieldType.object "java/math/BigInteger")), Jvm.Cond.code ({ cls := "java/math/BigDecimal", name := "setScale", desc := "(II)Ljava/math/BigDecimal;" } : Jvm.MethodName) jdk_17_method_64_code (8 : Nat) (Option.some (Jvm.ClassFile.FieldType.object "java/math/BigDecimal")), Jvm.Cond.code ({ cls := "java/math/BigDecimal", name := "inflated", desc := "()Ljava/math/BigInteger;" } : Jvm.MethodName) jdk_17_method_99_code (1 : Nat) (Option.some (Jvm.ClassFile.FieldType.object "java/math/BigInteger")), Jvm.Cond.code ({ cls := "java/math/BigInteger", name := "valueOf", desc := "(J)Ljava/math/BigInteger;" } : Jvm.MethodName) jdk_2097_method_29_code (2 : Nat) (Option.some (Jvm.ClassFile.FieldType.object "java/math/BigInteger")), Jvm.Cond.code ({ cls := "java/math/BigInteger", name := "<init>", desc := "(J)V" } : Jvm.MethodName) jdk_2097_method_30_code (4 : Nat) (Option.none : Option Jvm.ClassFile.FieldType), Jvm.Cond.code ({ cls := "java/math/BigInteger", name := "divideAndRemainder", desc := "(Ljava/math/BigInteger;)[Ljava/math/BigInteger;" } : Jvm.MethodName) jdk_2097_method_63_code (2 : Nat) (Option.some (Jvm.ClassFile.FieldType.array (Jvm.ClassFile.FieldType.object "java/math/BigInteger"))), Jvm.Cond.code ({ cls := "java/math/BigInteger", name := "divideAndRemainderKnuth", desc := "(Ljava/math/BigInteger;)[Ljava/math/BigInteger;" } : Jvm.MethodName) jdk_2097_method_64_code (7 : Nat) (Option.some (Jvm.ClassFile.FieldType.array (Jvm.ClassFile.FieldType.object "java/math/BigInteger"))), Jvm.Cond.code ({ cls := "java/math/MutableBigInteger", name := "<init>", desc := "()V" } : Jvm.MethodName) jdk_2101_method_1_code (1 : Nat) (Option.none : Option Jvm.ClassFile.FieldType), Jvm.Cond.code ({ cls := "java/math/MutableBigInteger", name := "<init>", desc := "([I)V" } : Jvm.MethodName) jdk_2101_method_3_code (2 : Nat) (Option.none : Option Jvm.ClassFile.FieldType), Jvm.Cond.code ({ cls := "java/math/MutableBigInteger", name := "divideKnuth", desc := "(Ljava/math/MutableBigInteger;Ljava/math/MutableBigInteger;)Ljava/math/MutableBigInteger;" } : Jvm.MethodName) jdk_2101_method_56_code (3 : Nat) (Option.some (Jvm.ClassFile.FieldType.object "java/math/MutableBigInteger")), Jvm.Cond.code ({ cls := "java/math/MutableBigInteger", name := "divideKnuth", desc := "(Ljava/math/MutableBigInteger;Ljava/math/MutableBigInteger;Z)Ljava/math/MutableBigInteger;" } : Jvm.MethodName) jdk_2101_method_57_code (8 : Nat) (Option.some (Jvm.ClassFile.FieldType.object "java/math/MutableBigInteger")), Jvm.Cond.code ({ cls := "java/math/MutableBigInteger", name := "compare", desc := "(Ljava/math/MutableBigInteger;)I" } : Jvm.MethodName) jdk_2101_method_15_code (8 : Nat) (Option.some Jvm.ClassFile.FieldType.int), Jvm.Cond.code ({ cls := "java/math/MutableBigInteger", name := "clear", desc := "()V" } : Jvm.MethodName) jdk_2101_method_13_code (3 : Nat) (Option.none : Option Jvm.ClassFile.FieldType), Jvm.Cond.code ({ cls := "java/math/MutableBigInteger", name := "divideOneWord", desc := "(ILjava/math/MutableBigInteger;)I" } : Jvm.MethodName) jdk_2101_method_53_code (15 : Nat) (Option.some Jvm.ClassFile.FieldType.int), Jvm.Cond.code ({ cls := "java/math/MutableBigInteger", name := "toBigInteger", desc := "(I)Ljava/math/BigInteger;" } : Jvm.MethodName) jdk_2101_method_9_code (2 : Nat) (Option.some (Jvm.ClassFile.FieldType.object "java/math/BigInteger")), Jvm.Cond.code ({ cls := "java/math/MutableBigInteger", name := "getMagnitudeArray", desc := "()[I" } : Jvm.MethodName) jdk_2101_method_7_code (2 : Nat) (Option.some (Jvm.ClassFile.FieldType.array Jvm.ClassFile.FieldType.int)), Jvm.Cond.code ({ cls := "java/math/BigInteger", name := "<init>", desc := "([II)V" } : Jvm.MethodName) jdk_2097_method_25_code (3 : Nat) (Option.none : Option Jvm.ClassFile.FieldType), Jvm.Cond.code ({ cls := "java/math/BigInteger", name := "bitLength", desc := "()I" } : Jvm.MethodName) jdk_2097_method_118_code (7 : Nat) (Option.some Jvm.ClassFile.FieldType.int), Jvm.Cond.code ({ cls := "java/math/BigInteger", name := "bitLengthForInt", desc := "(I)I" } : Jvm.MethodName) jdk_2097_method_74_code (1 : Nat) (Option.some Jvm.ClassFile.FieldType.int), Jvm.Cond.code ({ cls := "java/lang/Integer", name := "numberOfLeadingZeros", desc := "(I)I" } : Jvm.MethodName) jdk_33_method_47_code (2 : Nat) (Option.some Jvm.ClassFile.FieldType.int), Jvm.Cond.code ({ cls := "java/math/BigInteger", name := "longValue", desc := "()J" } : Jvm.MethodName) jdk_2097_method_136_code (4 : Nat) (Option.some Jvm.ClassFile.FieldType.long), Jvm.Cond.code ({ cls := "java/math/BigInteger", name := "getInt", desc := "(I)I" } : Jvm.MethodName) jdk_2097_method_148_code (3 : Nat) (Option.some Jvm.ClassFile.FieldType.int), Jvm.Cond.code ({ cls := "java/math/BigInteger", name := "signInt", desc := "()I" } : Jvm.MethodName) jdk_2097_method_147_code (1 : Nat) (Option.some Jvm.ClassFile.FieldType.int), Jvm.Cond.code ({ cls := "java/math/BigInteger", name := "intValue", desc := "()I" } : Jvm.MethodName) jdk_2097_method_135_code (2 : Nat) (Option.some Jvm.ClassFile.FieldType.int), Jvm.Cond.code ({ cls := "java/time/Duration", name := "ofSeconds", desc := "(JJ)Ljava/time/Duration;" } : Jvm.MethodName) jdk_2316_method_5_code (7 : Nat) (Option.some (Jvm.ClassFile.FieldType.object "java/time/Duration")), Jvm.Cond.code ({ cls := "java/lang/Math", name := "floorDiv", desc := "(JJ)J" } : Jvm.MethodName) jdk_29_method_49_code (6 : Nat) (Option.some Jvm.ClassFile.FieldType.long), Jvm.Cond.code ({ cls := "java/lang/Math", name := "addExact", desc := "(JJ)J" } : Jvm.MethodName) jdk_29_method_25_code (6 : Nat) (Option.some Jvm.ClassFile.FieldType.long), Jvm.Cond.code ({ cls := "java/lang/Math", name := "floorMod", desc := "(JJ)J" } : Jvm.MethodName) jdk_29_method_52_code (6 : Nat) (Option.some Jvm.ClassFile.FieldType.long), Jvm.Cond.code ({ cls := "java/time/Duration", name := "create", desc := "(JI)Ljava/time/Duration;" } : Jvm.MethodName) jdk_2316_method_16_code (3 : Nat) (Option.some (Jvm.ClassFile.FieldType.object "java/time/Duration")), Jvm.Cond.code ({ cls := "java/time/Duration", name := "<init>", desc := "(JI)V" } : Jvm.MethodName) jdk_2316_method_17_code (4 : Nat) (Option.none : Option Jvm.ClassFile.FieldType), Jvm.Cond.code ({ cls := "java/math/MutableBigInteger", name := "normalize", desc := "()V" } : Jvm.MethodName) jdk_2101_method_21_code (4 : Nat) (Option.none : Option Jvm.ClassFile.FieldType), Jvm.Cond.code ({ cls := "java/util/Arrays", name := "copyOfRange", desc := "([III)[I" } : Jvm.MethodName) jdk_65_method_136_code (3 : Nat) (Option.some (Jvm.ClassFile.FieldType.array Jvm.ClassFile.FieldType.int)), Jvm.Cond.code ({ cls := "java/util/Arrays", name := "copyOfRangeInt", desc := "([III)[I" } : Jvm.MethodName) jdk_65_method_137_code (5 : Nat) (Option.some (Jvm.ClassFile.FieldType.array Jvm.ClassFile.FieldType.int)), Jvm.Cond.code ({ cls := "java/util/Arrays", name := "checkLength", desc := "(II)V" } : Jvm.MethodName) jdk_65_method_131_code (2 : Nat) (Option.none : Option Jvm.ClassFile.FieldType), Jvm.Cond.code ({ cls := "java/lang/Math", name := "min", desc := "(II)I" } : Jvm.MethodName) jdk_29_method_69_code (2 : Nat) (Option.some Jvm.ClassFile.FieldType.int), Jvm.Cond.code ({ cls := "java/util/Arrays", name := "fill", desc := "([II)V" } : Jvm.MethodName) jdk_65_method_103_code (4 : Nat) (Option.none : Option Jvm.ClassFile.FieldType)]
set_option maxRecDepth 65536 in
theorem codes_eq : words1.filter isCode = codes1 := rfl
theorem w_codes : ∀ c ∈ words1.filter isCode, c.before args0 about1 = true := by
  rw [codes_eq]
  intro c hc
  simp only [codes1, List.mem_cons, List.not_mem_nil, or_false] at hc
  rcases hc with rfl | rfl | rfl | rfl | rfl | rfl | rfl | rfl | rfl | rfl | rfl | rfl | rfl | rfl | rfl | rfl | rfl | rfl | rfl | rfl | rfl | rfl | rfl | rfl | rfl | rfl | rfl | rfl | rfl | rfl | rfl | rfl | rfl | rfl | rfl | rfl | rfl | rfl | rfl | rfl | rfl | rfl | rfl | rfl | rfl | rfl | rfl | rfl | rfl | rfl | rfl | rfl | rfl | rfl | rfl | rfl | rfl | rfl | rfl | rfl | rfl | rfl | rfl
  · exact w_c0
  · exact w_c1
  · exact w_c2
  · exact w_c3
  · exact w_c4
  · exact w_c5
  · exact w_c6
  · exact w_c7
  · exact w_c8
  · exact w_c9
  · exact w_c10
  · exact w_c11
  · exact w_c12
  · exact w_c13
  · exact w_c14
  · exact w_c15
  · exact w_c16
  · exact w_c17
  · exact w_c18
  · exact w_c19
  · exact w_c20
  · exact w_c21
  · exact w_c22
  · exact w_c23
  · exact w_c24
  · exact w_c25
  · exact w_c26
  · exact w_c27
  · exact w_c28
  · exact w_c29
  · exact w_c30
  · exact w_c31
  · exact w_c32
  · exact w_c33
  · exact w_c34
  · exact w_c35
  · exact w_c36
  · exact w_c37
  · exact w_c38
  · exact w_c39
  · exact w_c40
  · exact w_c41
  · exact w_c42
  · exact w_c43
  · exact w_c44
  · exact w_c45
  · exact w_c46
  · exact w_c47
  · exact w_c48
  · exact w_c49
  · exact w_c50
  · exact w_c51
  · exact w_c52
  · exact w_c53
  · exact w_c54
  · exact w_c55
  · exact w_c56
  · exact w_c57
  · exact w_c58
  · exact w_c59
  · exact w_c60
  · exact w_c61
  · exact w_c62
set_option maxRecDepth 65536 in
theorem w_t1 : (words1.take 24).all (fun c => isCode c || c.before args0 about1) = true := by decide +kernel
set_option maxRecDepth 65536 in
theorem w_t2 : ((words1.drop 24).take 24).all (fun c => isCode c || c.before args0 about1) = true := by decide +kernel
set_option maxRecDepth 65536 in
theorem w_t3 : (((words1.drop 24).drop 24).take 24).all (fun c => isCode c || c.before args0 about1) = true := by decide +kernel
set_option maxRecDepth 65536 in
theorem w_t4 : ((((words1.drop 24).drop 24).drop 24).take 24).all (fun c => isCode c || c.before args0 about1) = true := by decide +kernel
set_option maxRecDepth 65536 in
theorem w_t5 : (((((words1.drop 24).drop 24).drop 24).drop 24).take 24).all (fun c => isCode c || c.before args0 about1) = true := by decide +kernel
set_option maxRecDepth 65536 in
theorem w_t6 : ((((((words1.drop 24).drop 24).drop 24).drop 24).drop 24).take 24).all (fun c => isCode c || c.before args0 about1) = true := by decide +kernel
set_option maxRecDepth 65536 in
theorem w_t7 : (((((((words1.drop 24).drop 24).drop 24).drop 24).drop 24).drop 24).take 24).all (fun c => isCode c || c.before args0 about1) = true := by decide +kernel
set_option maxRecDepth 65536 in
theorem w_t8 : ((((((((words1.drop 24).drop 24).drop 24).drop 24).drop 24).drop 24).drop 24).take 24).all (fun c => isCode c || c.before args0 about1) = true := by decide +kernel
set_option maxRecDepth 65536 in
theorem w_t9 : (((((((((words1.drop 24).drop 24).drop 24).drop 24).drop 24).drop 24).drop 24).drop 24).take 24).all (fun c => isCode c || c.before args0 about1) = true := by decide +kernel
set_option maxRecDepth 65536 in
theorem w_t10 : ((((((((((words1.drop 24).drop 24).drop 24).drop 24).drop 24).drop 24).drop 24).drop 24).drop 24).take 24).all (fun c => isCode c || c.before args0 about1) = true := by decide +kernel
set_option maxRecDepth 65536 in
theorem w_t11 : (((((((((((words1.drop 24).drop 24).drop 24).drop 24).drop 24).drop 24).drop 24).drop 24).drop 24).drop 24).take 24).all (fun c => isCode c || c.before args0 about1) = true := by decide +kernel
set_option maxRecDepth 65536 in
theorem w_t12 : ((((((((((((words1.drop 24).drop 24).drop 24).drop 24).drop 24).drop 24).drop 24).drop 24).drop 24).drop 24).drop 24).take 24).all (fun c => isCode c || c.before args0 about1) = true := by decide +kernel
set_option maxRecDepth 65536 in
theorem w_t13 : (((((((((((((words1.drop 24).drop 24).drop 24).drop 24).drop 24).drop 24).drop 24).drop 24).drop 24).drop 24).drop 24).drop 24).take 24).all (fun c => isCode c || c.before args0 about1) = true := by decide +kernel
set_option maxRecDepth 65536 in
theorem w_t14 : (((((((((((((words1.drop 24).drop 24).drop 24).drop 24).drop 24).drop 24).drop 24).drop 24).drop 24).drop 24).drop 24).drop 24).drop 24).all (fun c => isCode c || c.before args0 about1) = true := by decide +kernel
theorem w_tables : (allAtoms (Jvm.Cond.code x code maxLocals ret :: tables_1)).before args0 about1 = true := by
  rw [allAtoms_all]
  show words1.all (fun c => c.before args0 about1) = true
  refine all_split ?_ w_codes
  rw [← List.take_append_drop 24 words1, List.all_append, w_t1, ← List.take_append_drop 24 (words1.drop 24), List.all_append, w_t2, ← List.take_append_drop 24 ((words1.drop 24).drop 24), List.all_append, w_t3, ← List.take_append_drop 24 (((words1.drop 24).drop 24).drop 24), List.all_append, w_t4, ← List.take_append_drop 24 ((((words1.drop 24).drop 24).drop 24).drop 24), List.all_append, w_t5, ← List.take_append_drop 24 (((((words1.drop 24).drop 24).drop 24).drop 24).drop 24), List.all_append, w_t6, ← List.take_append_drop 24 ((((((words1.drop 24).drop 24).drop 24).drop 24).drop 24).drop 24), List.all_append, w_t7, ← List.take_append_drop 24 (((((((words1.drop 24).drop 24).drop 24).drop 24).drop 24).drop 24).drop 24), List.all_append, w_t8, ← List.take_append_drop 24 ((((((((words1.drop 24).drop 24).drop 24).drop 24).drop 24).drop 24).drop 24).drop 24), List.all_append, w_t9, ← List.take_append_drop 24 (((((((((words1.drop 24).drop 24).drop 24).drop 24).drop 24).drop 24).drop 24).drop 24).drop 24), List.all_append, w_t10, ← List.take_append_drop 24 ((((((((((words1.drop 24).drop 24).drop 24).drop 24).drop 24).drop 24).drop 24).drop 24).drop 24).drop 24), List.all_append, w_t11, ← List.take_append_drop 24 (((((((((((words1.drop 24).drop 24).drop 24).drop 24).drop 24).drop 24).drop 24).drop 24).drop 24).drop 24).drop 24), List.all_append, w_t12, ← List.take_append_drop 24 ((((((((((((words1.drop 24).drop 24).drop 24).drop 24).drop 24).drop 24).drop 24).drop 24).drop 24).drop 24).drop 24).drop 24), List.all_append, w_t13, w_t14]
  rfl
set_option maxRecDepth 65536 in
theorem w_rest : rest_1_c.before args0 about1 = true := by decide +kernel
set_option maxRecDepth 65536 in
theorem w_case : (Jvm.Cond.and given_1 narrow_1).before args0 about1 = true := by decide +kernel
theorem w_applies : (headSpec (Jvm.Cond.code x code maxLocals ret :: tables_1) room_1).applies x e0.platform about1 = true :=
  (Spec.applies_iff w_frames).mpr ⟨w_running, w_runnable, w_alone, w_named, w_hears, w_ripe, w_room, w_tables⟩
theorem atStart : AtStart classFile x code maxLocals ret World_1 tables_1 room_1 Calls_1 rest_1 Pre_1 launch0 p0 e0 about1 theMethod args0 below0 :=
  ⟨lists_1, trivial, launch0.admits_env _ _ _, launch0.least_env, fairChoices_fair.cas, fairChoices_fair.clock, w_frames, w_args, w_heap, w_applies, trivial, w_rest, w_case⟩
end start1
theorem witness_1 : WitnessClaimed_1 := ⟨start1.p0, start1.e0, start1.about1, start1.theMethod, start1.args0, start1.below0, start1.atStart⟩
end Jvm.Pilot.@@N@@
