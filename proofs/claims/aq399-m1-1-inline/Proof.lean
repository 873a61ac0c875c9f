import JvmDerived
import JvmDerived.Pilot.@@N@@Statement
import JvmDerived.Pilot.@@N@@Code
set_option linter.unusedVariables false
set_option linter.unusedSimpArgs false
set_option maxRecDepth 65536
set_option maxHeartbeats 40000000
/- laws to paste: Road.backV, Road.eqW, Road.codOf (cut by pick.py; bodies as the Statement names them) -/
namespace Jvm.Pilot.@@N@@
namespace StrChars
open Jvm Sem ClassFile Op Lib Jvm.Stand Jvm.Free.XT Jvm.Free.ALB Jvm.Free.JM Jvm.Free
open Jvm.Lib.Cold (StaticIs)
/-- a char array whose places are chars -/
def Ch (a : Addr) (A : Cell) (U : State) : Prop := Arr .char a A U ∧ Typed .char A
theorem Ch.mv {a : Addr} {A : Cell} {U U' : State} (h : Ch a A U) (hal : U.vm.Alike U'.vm) (hh : U'.heap = U.heap) : Ch a A U' := ⟨h.1.mv hal hh, h.2⟩
theorem Ch.keep {a : Addr} {A : Cell} {U U' : State} (h : Ch a A U) (hal : U.vm.Alike U'.vm) (hk : U'.heap[a]? = some A) : Ch a A U' := ⟨h.1.keep hal hk, h.2⟩
/-- what place i of a char[]'s cell holds -/
def cv (A : Cell) (i : Nat) : Int32 := match A.slots[i]? with | some (.int x) => x | _ => 0
theorem Ch.get {a : Addr} {A : Cell} {U : State} (h : Ch a A U) {i : Nat} (hi : i < A.slots.size) : A.slots[i]? = some (.int (cv A i)) := by
  have e := Array.getElem?_eq_getElem hi
  have f := h.2 i _ e
  unfold cv; rw [e]
  generalize A.slots[i] = v at f
  cases v <;> simp [fits] at f ⊢
/-- the byte that i2b leaves of a char -/
def lo8 (x : Int32) : Int32 := x.toInt8.toInt32
theorem fits_lo8 (y : Int32) : fits .byte (.int (lo8 y)) = true := by
  have h1 := y.toInt8.le_toInt
  have h2 := y.toInt8.toInt_lt
  simp only [lo8, fits, Bool.and_eq_true, decide_eq_true_eq, Int32.le_iff_toInt_le, Int8.toInt_toInt32, show (-128 : Int32).toInt = -128 from by decide, show (127 : Int32).toInt = 127 from by decide]
  omega
/-- A' is A but that each place j of lo .. hi - 1 holds f j -/
def Laid (A A' : Cell) (lo hi : Nat) (f : Nat → Value) : Prop := A'.cls = A.cls ∧ A'.vm = A.vm ∧ A'.slots.size = A.slots.size ∧ ∀ i, A'.slots[i]? = if lo ≤ i ∧ i < hi then some (f i) else A.slots[i]?
theorem Laid.zero (A : Cell) (lo : Nat) (f : Nat → Value) : Laid A A lo (lo + 0) f := ⟨rfl, rfl, rfl, fun i => by rw [if_neg (by omega)]⟩
theorem Laid.step {A Ak : Cell} {lo k : Nat} {f : Nat → Value} {v : Value} (h : Laid A Ak lo k f) (hlo : lo ≤ k) (hk : k < Ak.slots.size) (hv : v = f k) : Laid A (Ak.setSlot k v) lo (k + 1) f := by
  refine ⟨h.1, h.2.1, by simpa [Cell.setSlot] using h.2.2.1, fun i => ?_⟩
  by_cases e : k = i
  · subst e; rw [Cell.slots_setSlot_self v hk, if_pos (by omega), hv]
  · rw [Cell.slots_setSlot_ne v e, h.2.2.2 i]
    by_cases q : lo ≤ i ∧ i < k
    · rw [if_pos q, if_pos (by omega)]
    · rw [if_neg q, if_neg (by omega)]
def U16 : String := "java/lang/StringUTF16"
namespace Cmp5
def yN : MethodName := ⟨"java/lang/StringUTF16", "compress", "([CI[BII)I"⟩
abbrev yB : ByteArray := jdk_52_method_21_code
theorem d0 : decode yB 0 = .ok (.iconst 0, 1) := by decide +kernel
theorem d1 : decode yB 1 = .ok (.istore 5, 2) := by decide +kernel
theorem d3 : decode yB 3 = .ok (.iload 5, 2) := by decide +kernel
theorem d5 : decode yB 5 = .ok (.iload 4, 2) := by decide +kernel
theorem d7 : decode yB 7 = .ok (.if_icmp (.ge) 37, 3) := by decide +kernel
theorem d10 : decode yB 10 = .ok (.aload_n 0, 1) := by decide +kernel
theorem d11 : decode yB 11 = .ok (.iload_n 1, 1) := by decide +kernel
theorem d12 : decode yB 12 = .ok (.caload, 1) := by decide +kernel
theorem d13 : decode yB 13 = .ok (.istore 6, 2) := by decide +kernel
theorem d15 : decode yB 15 = .ok (.iload 6, 2) := by decide +kernel
theorem d17 : decode yB 17 = .ok (.sipush 255, 3) := by decide +kernel
theorem d20 : decode yB 20 = .ok (.if_icmp (.le) 6, 3) := by decide +kernel
theorem d26 : decode yB 26 = .ok (.aload_n 2, 1) := by decide +kernel
theorem d27 : decode yB 27 = .ok (.iload_n 3, 1) := by decide +kernel
theorem d28 : decode yB 28 = .ok (.iload 6, 2) := by decide +kernel
theorem d30 : decode yB 30 = .ok (.i2b, 1) := by decide +kernel
theorem d31 : decode yB 31 = .ok (.bastore, 1) := by decide +kernel
theorem d32 : decode yB 32 = .ok (.iinc 1 1, 3) := by decide +kernel
theorem d35 : decode yB 35 = .ok (.iinc 3 1, 3) := by decide +kernel
theorem d38 : decode yB 38 = .ok (.iinc 5 1, 3) := by decide +kernel
theorem d41 : decode yB 41 = .ok (.goto (-38), 3) := by decide +kernel
theorem d44 : decode yB 44 = .ok (.iload 4, 2) := by decide +kernel
theorem d46 : decode yB 46 = .ok (.ireturn, 1) := by decide +kernel
def site : List Cond := []
def tab : Cond := tabOf yN yB 7 (some .int) site
def P (b : Addr) (A : Cell) (d : Addr) (B : Cell) (o q len : Nat) (args : Array Value) (s : State) : Prop := args = #[.ref b, .int (Int32.ofNat o), .ref d, .int (Int32.ofNat q), .int (Int32.ofNat len)] ∧ Ch b A s ∧ Arr .byte d B s ∧ b ≠ d ∧ o + len ≤ A.slots.size ∧ q + len ≤ B.slots.size ∧ ∀ i, i < len → ¬ 255 < cv A (o + i)
def E (b : Addr) (A : Cell) (d : Addr) (B : Cell) (o q len : Nat) (r : Option Value) (s u : State) : Prop := r = some (.int (Int32.ofNat len)) ∧ ∃ B', Put d B' s u ∧ Laid B B' q (q + len) (fun j => Value.int (lo8 (cv A (o + (j - q)))))
/-- no char of the range above 255: len; the places written hold each char's low byte -/
theorem law (l : Launch) (b : Addr) (A : Cell) (d : Addr) (B : Cell) (o q len : Nat) : Law l yN 5 5 0 0 yB 7 (some .int) site (P b A d B o q len) (E b A d B o q len) (copyLocs d q len) 0 0 := by
  refine Law.of_walk (plainFor_of_name (by decide +kernel)) (by decide +kernel) (by decide +kernel) (by decide) (fun _ _ h => by rw [h.1]; rfl) (fun _ U U' hal hh h => ⟨h.1, h.2.1.mv hal hh, h.2.2.1.mv hal hh, h.2.2.2⟩) (fun r U U' V V' h1 hal h2 h => ⟨h.1, h.2.elim fun B' q => ⟨B', q.1.mv h1 h2, q.2⟩⟩) ?_
  intro p e s m args below meth c s₁ X0 hexec hbytes hml hret hlk hnm hown hh0 W hP
  obtain ⟨rfl, hA, hB, hne, l1, l2, hp⟩ := hP
  have c1 : Steps p.tables e below (s₁.setTop (entryFrame m #[.ref b, .int (Int32.ofNat o), .ref d, .int (Int32.ofNat q), .int (Int32.ofNat len)] 7)) (s₁.setTop (mkF m 0 #[.val (.ref b), .val (.int (Int32.ofNat o)), .val (.ref d), .val (.int (Int32.ofNat q)), .val (.int (Int32.ofNat len)), .unset, .unset] [])) := entry rfl
  have hA0 := hA.1.mv X0.warmed.alike hh0
  have hB0 := hB.mv X0.warmed.alike hh0
  have a31 := hA.1.2.2.2
  have c2 : Steps p.tables e below (s₁.setTop (entryFrame m #[.ref b, .int (Int32.ofNat o), .ref d, .int (Int32.ofNat q), .int (Int32.ofNat len)] 7)) (s₁.setTop (mkF m 3 #[.val (.ref b), .val (.int (Int32.ofNat o)), .val (.ref d), .val (.int (Int32.ofNat q)), .val (.int (Int32.ofNat len)), .val (.int 0), .unset] [])) := c1.trans (by
    refine iconstV X0.here hexec rfl 0 (hb hbytes d0) (by decide) ?_
    refine XS.istore X0.here hexec rfl (hb hbytes d1) rfl rfl ?_
    exact Steps.refl _)
  have loop : ∀ (r i : Nat), i + r = len → ∀ (z : Slot), (z = .unset ∨ ∃ w, z = .val w ∧ w.category = 1) → ∀ (Tl : State) (Bk : Cell), Stand p l e { frames := 0, locals := 0, cells := 0, slots := 0 } s m #[.ref b, .int (Int32.ofNat o), .ref d, .int (Int32.ofNat q), .int (Int32.ofNat len)] below meth c Tl ([] ++ copyLocs d q i) 0 0 → Put d Bk s₁ Tl → Laid B Bk q (q + i) (fun j => Value.int (lo8 (cv A (o + (j - q))))) →
      Steps p.tables e below (s₁.setTop (entryFrame m #[.ref b, .int (Int32.ofNat o), .ref d, .int (Int32.ofNat q), .int (Int32.ofNat len)] 7)) (Tl.setTop (mkF m 3 #[.val (.ref b), .val (.int (Int32.ofNat (o + i))), .val (.ref d), .val (.int (Int32.ofNat (q + i))), .val (.int (Int32.ofNat len)), .val (.int (Int32.ofNat i)), z] [])) → ∃ (T' : State) (B' : Cell) (z' : Slot), Stand p l e { frames := 0, locals := 0, cells := 0, slots := 0 } s m #[.ref b, .int (Int32.ofNat o), .ref d, .int (Int32.ofNat q), .int (Int32.ofNat len)] below meth c T' ([] ++ copyLocs d q len) 0 0 ∧ Put d B' s₁ T' ∧ Laid B B' q (q + len) (fun j => Value.int (lo8 (cv A (o + (j - q))))) ∧
      Steps p.tables e below (s₁.setTop (entryFrame m #[.ref b, .int (Int32.ofNat o), .ref d, .int (Int32.ofNat q), .int (Int32.ofNat len)] 7)) (T'.setTop (mkF m 3 #[.val (.ref b), .val (.int (Int32.ofNat (o + len))), .val (.ref d), .val (.int (Int32.ofNat (q + len))), .val (.int (Int32.ofNat len)), .val (.int (Int32.ofNat len)), z'] [])) := by
    intro r
    induction r with
    | zero =>
      intro i hi z hz Tl Bk Xl pl fl cl
      have hil : i = len := by omega
      rw [hil] at Xl fl cl
      exact ⟨Tl, Bk, z, Xl, pl, fl, cl⟩
    | succ r ih =>
      intro i hi z hz Tl Bk Xl pl fl cl
      have all := X0.warmed.alike.symm.trans Xl.warmed.alike
      have hAl := hA0.keep all (pl.other hne hA0.1)
      have hBk := hB0.like all pl.1 fl.1 fl.2.1 fl.2.2.1
      have hlt : q + i < Bk.slots.size := by rw [fl.2.2.1]; omega
      have c3 : Steps p.tables e below (s₁.setTop (entryFrame m #[.ref b, .int (Int32.ofNat o), .ref d, .int (Int32.ofNat q), .int (Int32.ofNat len)] 7)) (Tl.setTop (mkF m 12 #[.val (.ref b), .val (.int (Int32.ofNat (o + i))), .val (.ref d), .val (.int (Int32.ofNat (q + i))), .val (.int (Int32.ofNat len)), .val (.int (Int32.ofNat i)), z] [.int (Int32.ofNat (o + i)), .ref b])) := cl.trans (by
        refine XS.iload Xl.here hexec rfl (hb hbytes d3) rfl ?_
        refine XS.iload Xl.here hexec rfl (hb hbytes d5) rfl ?_
        refine XS.icmpNo Xl.here hexec rfl (hb hbytes d7) rfl (ii_ge_f (lt32 (by omega) (by omega))) ?_
        refine XS.aloadN Xl.here hexec rfl (hb hbytes d10) rfl rfl ?_
        refine XS.iloadN Xl.here hexec rfl (hb hbytes d11) rfl ?_
        exact Steps.refl _)
      have c4 : Steps p.tables e below (s₁.setTop (entryFrame m #[.ref b, .int (Int32.ofNat o), .ref d, .int (Int32.ofNat q), .int (Int32.ofNat len)] 7)) (Tl.setTop (mkF m 13 #[.val (.ref b), .val (.int (Int32.ofNat (o + i))), .val (.ref d), .val (.int (Int32.ofNat (q + i))), .val (.int (Int32.ofNat len)), .val (.int (Int32.ofNat i)), z] [.int (cv A (o + i))])) := c3.trans (by
        refine Xl.aget hexec hAl rfl (hA.get (i := o + i) (by omega)) rfl rfl (hb hbytes d12) ?_
        exact Steps.refl _)
      have c5 : Steps p.tables e below (s₁.setTop (entryFrame m #[.ref b, .int (Int32.ofNat o), .ref d, .int (Int32.ofNat q), .int (Int32.ofNat len)] 7)) (Tl.setTop (mkF m 15 #[.val (.ref b), .val (.int (Int32.ofNat (o + i))), .val (.ref d), .val (.int (Int32.ofNat (q + i))), .val (.int (Int32.ofNat len)), .val (.int (Int32.ofNat i)), .val (.int (cv A (o + i)))] [])) := c4.trans (by
        refine XS.istoreS Xl.here hexec rfl (hb hbytes d13) rfl rfl hz ?_
        exact Steps.refl _)
      have c6 : Steps p.tables e below (s₁.setTop (entryFrame m #[.ref b, .int (Int32.ofNat o), .ref d, .int (Int32.ofNat q), .int (Int32.ofNat len)] 7)) (Tl.setTop (mkF m 31 #[.val (.ref b), .val (.int (Int32.ofNat (o + i))), .val (.ref d), .val (.int (Int32.ofNat (q + i))), .val (.int (Int32.ofNat len)), .val (.int (Int32.ofNat i)), .val (.int (cv A (o + i)))] [.int (lo8 (cv A (o + i))), .int (Int32.ofNat (q + i)), .ref d])) := c5.trans (by
        refine XS.iload Xl.here hexec rfl (hb hbytes d15) rfl ?_
        refine sipushV Xl.here hexec rfl 255 (hb hbytes d17) (by decide) ?_
        refine XS.icmpYes Xl.here hexec rfl (pc0 := 20) rfl (hb hbytes d20) rfl (ii_le_t (hp i (by omega))) (by decide) rfl ?_
        refine XS.aloadN Xl.here hexec rfl (hb hbytes d26) rfl rfl ?_
        refine XS.iloadN Xl.here hexec rfl (hb hbytes d27) rfl ?_
        refine XS.iload Xl.here hexec rfl (hb hbytes d28) rfl ?_
        refine i2b Xl.here hexec rfl (hb hbytes d30) rfl ?_
        exact Steps.refl _)
      obtain ⟨T7, X7, p7, st7⟩ := Xl.aput hexec hBk rfl hlt rfl (fits_lo8 (cv A (o + i))) (g := (mkF m 31 #[.val (.ref b), .val (.int (Int32.ofNat (o + i))), .val (.ref d), .val (.int (Int32.ofNat (q + i))), .val (.int (Int32.ofNat len)), .val (.int (Int32.ofNat i)), .val (.int (cv A (o + i)))] [.int (lo8 (cv A (o + i))), .int (Int32.ofNat (q + i)), .ref d])) rfl (rest := []) rfl (hb hbytes d31)
      have c8 : Steps p.tables e below (s₁.setTop (entryFrame m #[.ref b, .int (Int32.ofNat o), .ref d, .int (Int32.ofNat q), .int (Int32.ofNat len)] 7)) (T7.setTop (mkF m 32 #[.val (.ref b), .val (.int (Int32.ofNat (o + i))), .val (.ref d), .val (.int (Int32.ofNat (q + i))), .val (.int (Int32.ofNat len)), .val (.int (Int32.ofNat i)), .val (.int (cv A (o + i)))] [])) := c6.trans (st7 _ (Steps.refl _))
      have c9 : Steps p.tables e below (s₁.setTop (entryFrame m #[.ref b, .int (Int32.ofNat o), .ref d, .int (Int32.ofNat q), .int (Int32.ofNat len)] 7)) (T7.setTop (mkF m 3 #[.val (.ref b), .val (.int (Int32.ofNat (o + i) + 1)), .val (.ref d), .val (.int (Int32.ofNat (q + i) + 1)), .val (.int (Int32.ofNat len)), .val (.int (Int32.ofNat i + 1)), .val (.int (cv A (o + i)))] [])) := c8.trans (by
        refine iincV X7.here hexec rfl 1 (hb hbytes d32) (by decide) rfl rfl ?_
        refine iincV X7.here hexec rfl 1 (hb hbytes d35) (by decide) rfl rfl ?_
        refine iincV X7.here hexec rfl 1 (hb hbytes d38) (by decide) rfl rfl ?_
        refine XS.goto X7.here hexec rfl (pc0 := 41) rfl (hb hbytes d41) (by decide) rfl ?_
        exact Steps.refl _)
      have c10 : Steps p.tables e below (s₁.setTop (entryFrame m #[.ref b, .int (Int32.ofNat o), .ref d, .int (Int32.ofNat q), .int (Int32.ofNat len)] 7)) (T7.setTop (mkF m 3 #[.val (.ref b), .val (.int (Int32.ofNat (o + (i + 1)))), .val (.ref d), .val (.int (Int32.ofNat (q + (i + 1)))), .val (.int (Int32.ofNat len)), .val (.int (Int32.ofNat (i + 1))), .val (.int (cv A (o + i)))] [])) := by
        have := c9
        rw [succ32, succ32, succ32] at this
        exact this
      exact ih (i + 1) (by omega) _ (Or.inr ⟨_, rfl, rfl⟩) T7 _ (by rw [copyLocs_step, ← List.append_assoc]; exact X7) (pl.trans p7) (fl.step (by omega) hlt (by simp)) c10
  obtain ⟨T9, B9, z9, X9, p9, f9, g9⟩ := loop len 0 (by omega) .unset (Or.inl rfl) s₁ B (by simpa [copyLocs] using X0) ⟨hB0.1, fun _ _ => rfl, rfl⟩ (Laid.zero _ _ _) c2
  have c11 : Steps p.tables e below (s₁.setTop (entryFrame m #[.ref b, .int (Int32.ofNat o), .ref d, .int (Int32.ofNat q), .int (Int32.ofNat len)] 7)) (T9.setTop (mkF m 46 #[.val (.ref b), .val (.int (Int32.ofNat (o + len))), .val (.ref d), .val (.int (Int32.ofNat (q + len))), .val (.int (Int32.ofNat len)), .val (.int (Int32.ofNat len)), z9] [.int (Int32.ofNat len)])) := g9.trans (by
    refine XS.iload X9.here hexec rfl (hb hbytes d3) rfl ?_
    refine XS.iload X9.here hexec rfl (hb hbytes d5) rfl ?_
    refine XS.icmpYes X9.here hexec rfl (pc0 := 7) rfl (hb hbytes d7) rfl (ii_ge_t (nlt32 (by omega) (Nat.le_refl _))) (by decide) rfl ?_
    refine XS.iload X9.here hexec rfl (hb hbytes d44) rfl ?_
    exact Steps.refl _)
  exact ⟨T9, some (.int (Int32.ofNat len)), _, _, _, X9, by simp, rfl, rfl, (fun h => by cases h), ⟨rfl, B9, p9.from hh0, f9⟩, fun fs hl => c11.trans (X9.ireturnOut hexec hret rfl (Or.inl rfl) (hb hbytes d46) hl)⟩
end Cmp5
namespace Cmp3
def yN : MethodName := ⟨"java/lang/StringUTF16", "compress", "([CII)[B"⟩
abbrev yB : ByteArray := jdk_52_method_16_code
theorem d0 : decode yB 0 = .ok (.iload_n 2, 1) := by decide +kernel
theorem d1 : decode yB 1 = .ok (.newarray .byte, 2) := by decide +kernel
theorem d3 : decode yB 3 = .ok (.astore_n 3, 1) := by decide +kernel
theorem d4 : decode yB 4 = .ok (.aload_n 0, 1) := by decide +kernel
theorem d5 : decode yB 5 = .ok (.iload_n 1, 1) := by decide +kernel
theorem d6 : decode yB 6 = .ok (.aload_n 3, 1) := by decide +kernel
theorem d7 : decode yB 7 = .ok (.iconst 0, 1) := by decide +kernel
theorem d8 : decode yB 8 = .ok (.iload_n 2, 1) := by decide +kernel
theorem d9 : decode yB 9 = .ok (.invokestatic 115, 3) := by decide +kernel
theorem d12 : decode yB 12 = .ok (.istore 4, 2) := by decide +kernel
theorem d14 : decode yB 14 = .ok (.iload 4, 2) := by decide +kernel
theorem d16 : decode yB 16 = .ok (.iload_n 2, 1) := by decide +kernel
theorem d17 : decode yB 17 = .ok (.if_icmp (.eq) 40, 3) := by decide +kernel
theorem d57 : decode yB 57 = .ok (.aload_n 3, 1) := by decide +kernel
theorem d58 : decode yB 58 = .ok (.areturn, 1) := by decide +kernel
def site : List Cond := [.arrayClass .byte, Cmp5.tab] ++ staticW U16 115 Cmp5.yN
def tab : Cond := tabOf yN yB 6 (some (.array .byte)) site
def P (b : Addr) (A : Cell) (o len : Nat) (args : Array Value) (s : State) : Prop := args = #[.ref b, .int (Int32.ofNat o), .int (Int32.ofNat len)] ∧ Ch b A s ∧ o + len ≤ A.slots.size ∧ len ≤ 536870912 ∧ ∀ i, i < len → ¬ 255 < cv A (o + i)
def E (b : Addr) (A : Cell) (o len : Nat) (r : Option Value) (s u : State) : Prop := NewArr .byte "[B" len (fun j => .int (lo8 (cv A (o + j)))) r s u ∧ u.heap.size = s.heap.size + 1
/-- no char of the range above 255: a new byte[] of their low bytes -/
theorem law (l : Launch) (b : Addr) (A : Cell) (o len : Nat) : Law l yN 3 3 1 18 yB 6 (some (.array .byte)) site (P b A o len) (E b A o len) [] 1 len := by
  refine Law.of_walk (plainFor_of_name (by decide +kernel)) (by decide +kernel) (by decide +kernel) (by decide) (fun _ _ h => by rw [h.1]; rfl) (fun _ U U' hal hh h => ⟨h.1, h.2.1.mv hal hh, h.2.2⟩) (fun r U U' V V' h1 hal h2 h => ⟨NewArr.mv r U U' V V' h1 hal h2 h.1, by rw [h1, h2]; exact h.2⟩) ?_
  intro p e s m args below meth c s₁ X0 hexec hbytes hml hret hlk hnm hown hh0 W hP
  obtain ⟨rfl, hA, l1, l2, hp⟩ := hP
  have a31 := hA.1.2.2.2
  have c1 : Steps p.tables e below (s₁.setTop (entryFrame m #[.ref b, .int (Int32.ofNat o), .int (Int32.ofNat len)] 6)) (s₁.setTop (mkF m 0 #[.val (.ref b), .val (.int (Int32.ofNat o)), .val (.int (Int32.ofNat len)), .unset, .unset, .unset] [])) := entry rfl
  have c2 : Steps p.tables e below (s₁.setTop (entryFrame m #[.ref b, .int (Int32.ofNat o), .int (Int32.ofNat len)] 6)) (s₁.setTop (mkF m 1 #[.val (.ref b), .val (.int (Int32.ofNat o)), .val (.int (Int32.ofNat len)), .unset, .unset, .unset] [.int (Int32.ofNat len)])) := c1.trans (by
    refine XS.iloadN X0.here hexec rfl (hb hbytes d0) rfl ?_
    exact Steps.refl _)
  obtain ⟨T3, B3, X3, ba3, bs3, bv3, bh3, bf3, st3⟩ := X0.anew hexec (atype := .byte) (wk W (.arrayClass .byte)) rfl (by show len * 1 ≤ _; omega) (by omega) (g := (mkF m 1 #[.val (.ref b), .val (.int (Int32.ofNat o)), .val (.int (Int32.ofNat len)), .unset, .unset, .unset] [.int (Int32.ofNat len)])) rfl (hb hbytes d1) (rest := []) rfl (Nat.le_refl _) (by show 0 + len ≤ len; omega)
  rw [hh0] at ba3 st3
  have kp3 : XT.Kept s T3 := (XT.Kept.of_eq hh0).push bh3
  have hA3 := hA.keep X3.warmed.alike (kp3 _ _ hA.1.1)
  have hne : b ≠ s.heap.size := hA.1.ne
  have c4 : Steps p.tables e below (s₁.setTop (entryFrame m #[.ref b, .int (Int32.ofNat o), .int (Int32.ofNat len)] 6)) (T3.setTop (mkF m 3 #[.val (.ref b), .val (.int (Int32.ofNat o)), .val (.int (Int32.ofNat len)), .unset, .unset, .unset] [.ref s.heap.size])) := c2.trans (st3 _ (Steps.refl _))
  have c5 : Steps p.tables e below (s₁.setTop (entryFrame m #[.ref b, .int (Int32.ofNat o), .int (Int32.ofNat len)] 6)) (T3.setTop (mkF m 9 #[.val (.ref b), .val (.int (Int32.ofNat o)), .val (.int (Int32.ofNat len)), .val (.ref s.heap.size), .unset, .unset] [.int (Int32.ofNat len), .int 0, .ref s.heap.size, .int (Int32.ofNat o), .ref b])) := c4.trans (by
    refine XS.astoreN X3.here hexec rfl (hb hbytes d3) rfl rfl rfl ?_
    refine XS.aloadN X3.here hexec rfl (hb hbytes d4) rfl rfl ?_
    refine XS.iloadN X3.here hexec rfl (hb hbytes d5) rfl ?_
    refine XS.aloadN X3.here hexec rfl (hb hbytes d6) rfl rfl ?_
    refine iconstV X3.here hexec rfl 0 (hb hbytes d7) (by decide) ?_
    refine XS.iloadN X3.here hexec rfl (hb hbytes d8) rfl ?_
    exact Steps.refl _)
  obtain ⟨v6, T6, X6, E6, g6⟩ := X3.callS hexec (Cmp5.law l b A s.heap.size B3 o 0 len) hown (wks W (staticW U16 115 Cmp5.yN)) (wk W Cmp5.tab) (W := 0) (Nat.le_of_ble_eq_true rfl) (Nat.le_of_ble_eq_true rfl) (Nat.le_refl _) (by show 0 + len + 0 ≤ len; omega) (g := (mkF m 9 #[.val (.ref b), .val (.int (Int32.ofNat o)), .val (.int (Int32.ofNat len)), .val (.ref s.heap.size), .unset, .unset] [.int (Int32.ofNat len), .int (Int32.ofNat 0), .ref s.heap.size, .int (Int32.ofNat o), .ref b])) rfl (by rw [hml]; rfl) c5 (argsL := [.ref b, .int (Int32.ofNat o), .ref s.heap.size, .int (Int32.ofNat 0), .int (Int32.ofNat len)]) (rest := []) rfl rfl (by show 2 * 0 + 0 ≤ _; decide) (hb hbytes d9) (⟨rfl, hA3, ba3, hne, l1, by rw [bs3]; simp, hp⟩)
  obtain ⟨rfl, B6, p6, f6⟩ := E6
  have c7 : Steps p.tables e below (s₁.setTop (entryFrame m #[.ref b, .int (Int32.ofNat o), .int (Int32.ofNat len)] 6)) (T6.setTop (mkF m 12 #[.val (.ref b), .val (.int (Int32.ofNat o)), .val (.int (Int32.ofNat len)), .val (.ref s.heap.size), .unset, .unset] [.int (Int32.ofNat len)])) := g6
  have c8 : Steps p.tables e below (s₁.setTop (entryFrame m #[.ref b, .int (Int32.ofNat o), .int (Int32.ofNat len)] 6)) (T6.setTop (mkF m 58 #[.val (.ref b), .val (.int (Int32.ofNat o)), .val (.int (Int32.ofNat len)), .val (.ref s.heap.size), .val (.int (Int32.ofNat len)), .unset] [.ref s.heap.size])) := c7.trans (by
    refine XS.istore X6.here hexec rfl (hb hbytes d12) rfl rfl ?_
    refine XS.iload X6.here hexec rfl (hb hbytes d14) rfl ?_
    refine XS.iloadN X6.here hexec rfl (hb hbytes d16) rfl ?_
    refine XS.icmpYes X6.here hexec rfl (pc0 := 17) rfl (hb hbytes d17) rfl (ii_eq_t rfl) (by decide) rfl ?_
    refine XS.aloadN X6.here hexec rfl (hb hbytes d57) rfl rfl ?_
    exact Steps.refl _)
  have X8 := X6.wide (L' := []) (cells' := 1) (slots' := len) (fun x hx hlt => by
    simp only [List.nil_append, copyLocs, List.mem_map, List.mem_range] at hx
    obtain ⟨i, -, rfl⟩ := hx
    exact absurd hlt (Nat.lt_irrefl _)) (Nat.le_refl _) (by omega)
  exact ⟨T6, some (.ref s.heap.size), _, _, _, X8, rfl, rfl, rfl, (fun h => by cases h), ⟨⟨rfl, B6, ba3.like (X3.warmed.alike.symm.trans X6.warmed.alike) p6.1 f6.1 f6.2.1 f6.2.2.1, f6.2.1.trans bv3, by rw [X6.warmed.alike.findClass, f6.1]; exact bf3, by rw [f6.2.2.1, bs3]; simp, fun j hj => by rw [f6.2.2.2 j, if_pos (by omega)]; rfl, kp3.put p6 (Nat.le_refl _)⟩, by rw [p6.2.2, bh3, hh0]; simp⟩, fun fs hl => c8.trans (X8.areturnOut hexec rfl hret rfl (hb hbytes d58) hl)⟩
end Cmp3
namespace CodL
def yN : MethodName := ⟨"java/lang/StringUTF16", "coderFromArrayLen", "([BI)B"⟩
abbrev yB : ByteArray := jdk_52_method_15_code
theorem d0 : decode yB 0 = .ok (.iload_n 1, 1) := by decide +kernel
theorem d1 : decode yB 1 = .ok (.aload_n 0, 1) := by decide +kernel
theorem d2 : decode yB 2 = .ok (.arraylength, 1) := by decide +kernel
theorem d3 : decode yB 3 = .ok (.isub, 1) := by decide +kernel
theorem d4 : decode yB 4 = .ok (.bipush 31, 2) := by decide +kernel
theorem d6 : decode yB 6 = .ok (.iushr, 1) := by decide +kernel
theorem d7 : decode yB 7 = .ok (.i2b, 1) := by decide +kernel
theorem d8 : decode yB 8 = .ok (.ireturn, 1) := by decide +kernel
def site : List Cond := []
def tab : Cond := tabOf yN yB 2 (some .byte) site
def P (d : Addr) (B : Cell) (args : Array Value) (s : State) : Prop := args = #[.ref d, .int (Int32.ofNat B.slots.size)] ∧ Arr .byte d B s
def E (r : Option Value) (s u : State) : Prop := XT.PureE (some (.int 0)) r s u
/-- an array as long as the number of chars: LATIN1 -/
theorem law (l : Launch) (d : Addr) (B : Cell) : Law l yN 2 2 0 0 yB 2 (some .byte) site (P d B) E [] 0 0 := by
  refine Law.of_walk (plainFor_of_name (by decide +kernel)) (by decide +kernel) (by decide +kernel) (by decide) (fun _ _ h => by rw [h.1]; rfl) (fun _ U U' hal hh h => ⟨h.1, h.2.mv hal hh⟩) (fun r U U' V V' h1 hal h2 h => XT.PureE.mv r U U' V V' h1 hal h2 h) ?_
  intro p e s m args below meth c s₁ X0 hexec hbytes hml hret hlk hnm hown hh0 W hP
  obtain ⟨rfl, hB⟩ := hP
  have hB0 := hB.mv X0.warmed.alike hh0
  have c1 : Steps p.tables e below (s₁.setTop (entryFrame m #[.ref d, .int (Int32.ofNat B.slots.size)] 2)) (s₁.setTop (mkF m 0 #[.val (.ref d), .val (.int (Int32.ofNat B.slots.size))] [])) := entry rfl
  have c2 : Steps p.tables e below (s₁.setTop (entryFrame m #[.ref d, .int (Int32.ofNat B.slots.size)] 2)) (s₁.setTop (mkF m 2 #[.val (.ref d), .val (.int (Int32.ofNat B.slots.size))] [.ref d, .int (Int32.ofNat B.slots.size)])) := c1.trans (by
    refine XS.iloadN X0.here hexec rfl (hb hbytes d0) rfl ?_
    refine XS.aloadN X0.here hexec rfl (hb hbytes d1) rfl rfl ?_
    exact Steps.refl _)
  have c3 : Steps p.tables e below (s₁.setTop (entryFrame m #[.ref d, .int (Int32.ofNat B.slots.size)] 2)) (s₁.setTop (mkF m 8 #[.val (.ref d), .val (.int (Int32.ofNat B.slots.size))] [.int (lo8 (ushr (Int32.ofNat B.slots.size - Int32.ofNat B.slots.size) 31))])) := c2.trans (by
    refine X0.alen hexec hB0 rfl rfl (hb hbytes d2) ?_
    refine XS.isub X0.here hexec rfl (hb hbytes d3) rfl ?_
    refine bipushV X0.here hexec rfl 31 (hb hbytes d4) (by decide) ?_
    refine iushr X0.here hexec rfl (hb hbytes d6) rfl ?_
    refine i2b X0.here hexec rfl (hb hbytes d7) rfl ?_
    exact Steps.refl _)
  have e0 : lo8 (ushr (Int32.ofNat B.slots.size - Int32.ofNat B.slots.size) 31) = 0 := by rw [Int32.sub_self]; decide
  rw [e0] at c3
  exact ⟨s₁, some (.int 0), _, _, _, X0, rfl, rfl, rfl, (fun h => by cases h), ⟨rfl, hh0⟩, fun fs hl => c3.trans (X0.ireturnOut hexec hret rfl (Or.inr (Or.inr (Or.inl rfl))) (hb hbytes d8) hl)⟩
end CodL
/-- the String at a is Latin-1 over a new byte[] (the heap's one new cell): the low bytes of the len chars of A from o on; every cell but a is kept -/
def Got (a : Addr) (D : Cell) (fV fC : Field) (A : Cell) (o len : Nat) (r : Option Value) (s u : State) : Prop := r = none ∧ ∃ D' V : Cell, Blank "java/lang/String" a D' u ∧ Same D D' [fV.slot, fC.slot] ∧ D'.slots[fV.slot]? = some (.ref s.heap.size) ∧ D'.slots[fC.slot]? = some (.int 0) ∧ Arr .byte s.heap.size V u ∧ V.vm = .none ∧ u.vm.findClass "[B" = some V.cls ∧ V.slots.size = len ∧ (∀ j, j < len → V.slots[j]? = some (.int (lo8 (cv A (o + j))))) ∧ (∀ (y : Addr) (c : Cell), y ≠ a → s.heap[y]? = some c → u.heap[y]? = some c) ∧ u.heap.size = s.heap.size + 1
theorem Got.mv {a : Addr} {D A : Cell} {fV fC : Field} {o len : Nat} : ∀ r (U U' V V' : State), U'.heap = U.heap → V.vm.Alike V'.vm → V'.heap = V.heap → Got a D fV fC A o len r U V → Got a D fV fC A o len r U' V' :=
  fun r U U' V V' h1 hal h2 ⟨e0, D', X, a1, a2, a3, a4, a5, a6, a7, a8, a9, a10, a11⟩ => ⟨e0, D', X, a1.mv hal h2, a2, by rw [h1]; exact a3, a4, by rw [h1]; exact a5.mv hal h2, a6, by rw [hal.findClass]; exact a7, a8, a9, by rw [h1, h2]; exact a10, by rw [h1, h2]; exact a11⟩
namespace New4
def yN : MethodName := ⟨"java/lang/String", "<init>", "([CIILjava/lang/Void;)V"⟩
abbrev yB : ByteArray := jdk_42_method_149_code
theorem d0 : decode yB 0 = .ok (.aload_n 0, 1) := by decide +kernel
theorem d1 : decode yB 1 = .ok (.invokespecial 1, 3) := by decide +kernel
theorem d4 : decode yB 4 = .ok (.iload_n 3, 1) := by decide +kernel
theorem d5 : decode yB 5 = .ok (.ifCond (.ne) 22, 3) := by decide +kernel
theorem d27 : decode yB 27 = .ok (.getstatic 38, 3) := by decide +kernel
theorem d30 : decode yB 30 = .ok (.ifCond (.eq) 28, 3) := by decide +kernel
theorem d33 : decode yB 33 = .ok (.aload_n 1, 1) := by decide +kernel
theorem d34 : decode yB 34 = .ok (.iload_n 2, 1) := by decide +kernel
theorem d35 : decode yB 35 = .ok (.iload_n 3, 1) := by decide +kernel
theorem d36 : decode yB 36 = .ok (.invokestatic 177, 3) := by decide +kernel
theorem d39 : decode yB 39 = .ok (.astore 5, 2) := by decide +kernel
theorem d41 : decode yB 41 = .ok (.aload_n 0, 1) := by decide +kernel
theorem d42 : decode yB 42 = .ok (.aload 5, 2) := by decide +kernel
theorem d44 : decode yB 44 = .ok (.iload_n 3, 1) := by decide +kernel
theorem d45 : decode yB 45 = .ok (.invokestatic 47, 3) := by decide +kernel
theorem d48 : decode yB 48 = .ok (.putfield 15, 3) := by decide +kernel
theorem d51 : decode yB 51 = .ok (.aload_n 0, 1) := by decide +kernel
theorem d52 : decode yB 52 = .ok (.aload 5, 2) := by decide +kernel
theorem d54 : decode yB 54 = .ok (.putfield 9, 3) := by decide +kernel
theorem d57 : decode yB 57 = .ok (.return_, 1) := by decide +kernel
def site : List Cond := [.fieldLink "java/lang/String" 38 "java/lang/String" "COMPACT_STRINGS" "Z", Cmp3.tab, CodL.tab, .laysFinal "java/lang/String" "java/lang/String" "value" "[B", .fieldLink "java/lang/String" 9 "java/lang/String" "value" "[B", .laysFinal "java/lang/String" "java/lang/String" "coder" "B", .fieldLink "java/lang/String" 15 "java/lang/String" "coder" "B"] ++ objW "java/lang/String" 1 ++ staticW "java/lang/String" 177 Cmp3.yN ++ staticW "java/lang/String" 47 CodL.yN
def tab : Cond := tabOf yN yB 6 none site
def P (a : Addr) (D : Cell) (fV fC : Field) (b : Addr) (A : Cell) (z : Int32) (o len : Nat) (args : Array Value) (s : State) : Prop := args = #[.ref a, .ref b, .int (Int32.ofNat o), .int (Int32.ofNat len), .null] ∧ Blank "java/lang/String" a D s ∧ Found "java/lang/String" "value" "[B" fV s ∧ Found "java/lang/String" "coder" "B" fC s ∧ Ch b A s ∧ StaticIs s "java/lang/String" "COMPACT_STRINGS" "Z" (.int z) ∧ ¬ z = 0 ∧ 0 < len ∧ o + len ≤ A.slots.size ∧ len ≤ 536870912 ∧ ∀ i, i < len → ¬ 255 < cv A (o + i)
def E (a : Addr) (D : Cell) (fV fC : Field) (A : Cell) (o len : Nat) (r : Option Value) (s u : State) : Prop := Got a D fV fC A o len r s u
/-- len > 0, no char of the range above 255: a Latin-1 String of their low bytes -/
theorem law (l : Launch) (a : Addr) (D : Cell) (fV fC : Field) (b : Addr) (A : Cell) (z : Int32) (o len : Nat) : Law l yN 5 4 2 35 yB 6 none site (P a D fV fC b A z o len) (E a D fV fC A o len) [⟨a, fC.slot⟩, ⟨a, fV.slot⟩] 1 len := by
  refine Law.of_walk (plainFor_of_name (by decide +kernel)) (by decide +kernel) (by decide +kernel) (by decide) (fun _ _ h => by rw [h.1]; rfl) (fun _ U U' hal hh h => ⟨h.1, h.2.1.mv hal hh, h.2.2.1.al hal, h.2.2.2.1.al hal, h.2.2.2.2.1.mv hal hh, h.2.2.2.2.2.1.there hal hh, h.2.2.2.2.2.2⟩) (fun r U U' V V' h1 hal h2 h => Got.mv r U U' V V' h1 hal h2 h) ?_
  intro p e s m args below meth c s₁ X0 hexec hbytes hml hret hlk hnm hown hh0 W hP
  obtain ⟨rfl, hB, f1, f2, hA, s1, hz, l0, l1, l2, hp⟩ := hP
  have a31 := hA.1.2.2.2
  have c1 : Steps p.tables e below (s₁.setTop (entryFrame m #[.ref a, .ref b, .int (Int32.ofNat o), .int (Int32.ofNat len), .null] 6)) (s₁.setTop (mkF m 0 #[.val (.ref a), .val (.ref b), .val (.int (Int32.ofNat o)), .val (.int (Int32.ofNat len)), .val .null, .unset] [])) := entry rfl
  have c2 : Steps p.tables e below (s₁.setTop (entryFrame m #[.ref a, .ref b, .int (Int32.ofNat o), .int (Int32.ofNat len), .null] 6)) (s₁.setTop (mkF m 1 #[.val (.ref a), .val (.ref b), .val (.int (Int32.ofNat o)), .val (.int (Int32.ofNat len)), .val .null, .unset] [.ref a])) := c1.trans (by
    refine XS.aloadN X0.here hexec rfl (hb hbytes d0) rfl rfl ?_
    exact Steps.refl _)
  obtain ⟨T3, X3, q3, st3⟩ := X0.oinit hexec hown (wks W (objW "java/lang/String" 1)) (g := (mkF m 1 #[.val (.ref a), .val (.ref b), .val (.int (Int32.ofNat o)), .val (.int (Int32.ofNat len)), .val .null, .unset] [.ref a])) rfl (by rw [hml]; rfl) (rest := []) rfl (hb hbytes d1) (W := 0) (by show 2 * 0 + 0 ≤ _; decide) (Nat.le_of_ble_eq_true rfl) (Nat.le_of_ble_eq_true rfl)
  have hh3 := q3.trans hh0
  have c4 : Steps p.tables e below (s₁.setTop (entryFrame m #[.ref a, .ref b, .int (Int32.ofNat o), .int (Int32.ofNat len), .null] 6)) (T3.setTop (mkF m 27 #[.val (.ref a), .val (.ref b), .val (.int (Int32.ofNat o)), .val (.int (Int32.ofNat len)), .val .null, .unset] [])) := (c2.trans (st3 _ (Steps.refl _))).trans (by
    refine XS.iloadN X3.here hexec rfl (hb hbytes d4) rfl ?_
    refine XS.ifYes X3.here hexec rfl (pc0 := 5) rfl (hb hbytes d5) rfl (i0_ne_t (nz32 (by omega) l0)) (by decide) rfl ?_
    exact Steps.refl _)
  obtain ⟨T5, X5, q5, st5⟩ := X3.sget hexec hown (wk W (.fieldLink "java/lang/String" 38 "java/lang/String" "COMPACT_STRINGS" "Z")) s1 (fun _ _ h => by rw [hh3]; exact h) (g := (mkF m 27 #[.val (.ref a), .val (.ref b), .val (.int (Int32.ofNat o)), .val (.int (Int32.ofNat len)), .val .null, .unset] [])) rfl (hb hbytes d27)
  have hh5 := q5.trans hh3
  have c6 : Steps p.tables e below (s₁.setTop (entryFrame m #[.ref a, .ref b, .int (Int32.ofNat o), .int (Int32.ofNat len), .null] 6)) (T5.setTop (mkF m 30 #[.val (.ref a), .val (.ref b), .val (.int (Int32.ofNat o)), .val (.int (Int32.ofNat len)), .val .null, .unset] [.int z])) := c4.trans (st5 _ (Steps.refl _))
  have c7 : Steps p.tables e below (s₁.setTop (entryFrame m #[.ref a, .ref b, .int (Int32.ofNat o), .int (Int32.ofNat len), .null] 6)) (T5.setTop (mkF m 36 #[.val (.ref a), .val (.ref b), .val (.int (Int32.ofNat o)), .val (.int (Int32.ofNat len)), .val .null, .unset] [.int (Int32.ofNat len), .int (Int32.ofNat o), .ref b])) := c6.trans (by
    refine XS.ifNo X5.here hexec rfl (hb hbytes d30) rfl (i0_eq_f hz) ?_
    refine XS.aloadN X5.here hexec rfl (hb hbytes d33) rfl rfl ?_
    refine XS.iloadN X5.here hexec rfl (hb hbytes d34) rfl ?_
    refine XS.iloadN X5.here hexec rfl (hb hbytes d35) rfl ?_
    exact Steps.refl _)
  obtain ⟨v8, T8, X8, E8, g8⟩ := X5.callS hexec (Cmp3.law l b A o len) hown (wks W (staticW "java/lang/String" 177 Cmp3.yN)) (wk W Cmp3.tab) (W := 0) (Nat.le_of_ble_eq_true rfl) (Nat.le_of_ble_eq_true rfl) (Nat.le_refl _) (by show 0 + len ≤ len; omega) (g := (mkF m 36 #[.val (.ref a), .val (.ref b), .val (.int (Int32.ofNat o)), .val (.int (Int32.ofNat len)), .val .null, .unset] [.int (Int32.ofNat len), .int (Int32.ofNat o), .ref b])) rfl (by rw [hml]; rfl) c7 (argsL := [.ref b, .int (Int32.ofNat o), .int (Int32.ofNat len)]) (rest := []) rfl rfl (by show 2 * 0 + 0 ≤ _; decide) (hb hbytes d36) (⟨rfl, hA.mv X5.warmed.alike hh5, l1, l2, hp⟩)
  obtain ⟨e8, z8⟩ := E8
  obtain ⟨rfl, N, n1, n2, n3, n4, n5, n6⟩ := NewArr.mv _ T5 s _ _ hh5.symm (Vm.Alike.refl _) rfl e8
  rw [hh5] at z8
  have hB1 := hB.keep X8.warmed.alike (n6 _ _ hB.1)
  have hne : s.heap.size ≠ a := (Nat.ne_of_lt (Array.getElem?_eq_some_iff.mp hB.1).1).symm
  have c9 : Steps p.tables e below (s₁.setTop (entryFrame m #[.ref a, .ref b, .int (Int32.ofNat o), .int (Int32.ofNat len), .null] 6)) (T8.setTop (mkF m 39 #[.val (.ref a), .val (.ref b), .val (.int (Int32.ofNat o)), .val (.int (Int32.ofNat len)), .val .null, .unset] [.ref s.heap.size])) := g8
  have c10 : Steps p.tables e below (s₁.setTop (entryFrame m #[.ref a, .ref b, .int (Int32.ofNat o), .int (Int32.ofNat len), .null] 6)) (T8.setTop (mkF m 45 #[.val (.ref a), .val (.ref b), .val (.int (Int32.ofNat o)), .val (.int (Int32.ofNat len)), .val .null, .val (.ref s.heap.size)] [.int (Int32.ofNat N.slots.size), .ref s.heap.size, .ref a])) := by
    have hc : Steps p.tables e below (s₁.setTop (entryFrame m #[.ref a, .ref b, .int (Int32.ofNat o), .int (Int32.ofNat len), .null] 6)) (T8.setTop (mkF m 45 #[.val (.ref a), .val (.ref b), .val (.int (Int32.ofNat o)), .val (.int (Int32.ofNat len)), .val .null, .val (.ref s.heap.size)] [.int (Int32.ofNat len), .ref s.heap.size, .ref a])) := c9.trans (by
      refine XS.astore X8.here hexec rfl (hb hbytes d39) rfl rfl rfl ?_
      refine XS.aloadN X8.here hexec rfl (hb hbytes d41) rfl rfl ?_
      refine XS.aload X8.here hexec rfl (hb hbytes d42) rfl rfl ?_
      refine XS.iloadN X8.here hexec rfl (hb hbytes d44) rfl ?_
      exact Steps.refl _)
    rw [n4]; exact hc
  obtain ⟨v11, T11, X11, E11, g11⟩ := X8.callS hexec (CodL.law l s.heap.size N) hown (wks W (staticW "java/lang/String" 47 CodL.yN)) (wk W CodL.tab) (W := 1) (Nat.le_of_ble_eq_true rfl) (Nat.le_of_ble_eq_true rfl) (Nat.le_refl _) (by show 0 + len + 0 ≤ len; omega) (g := (mkF m 45 #[.val (.ref a), .val (.ref b), .val (.int (Int32.ofNat o)), .val (.int (Int32.ofNat len)), .val .null, .val (.ref s.heap.size)] [.int (Int32.ofNat N.slots.size), .ref s.heap.size, .ref a])) rfl (by rw [hml]; rfl) c10 (argsL := [.ref s.heap.size, .int (Int32.ofNat N.slots.size)]) (rest := [.ref a]) rfl rfl (by show 2 * 0 + (1 + 0) ≤ _; decide) (hb hbytes d45) (⟨rfl, n1⟩)
  obtain ⟨rfl, q11⟩ := E11
  have hB11 := hB1.mv (X8.warmed.alike.symm.trans X11.warmed.alike) q11
  have c12 : Steps p.tables e below (s₁.setTop (entryFrame m #[.ref a, .ref b, .int (Int32.ofNat o), .int (Int32.ofNat len), .null] 6)) (T11.setTop (mkF m 48 #[.val (.ref a), .val (.ref b), .val (.int (Int32.ofNat o)), .val (.int (Int32.ofNat len)), .val .null, .val (.ref s.heap.size)] [.int 0, .ref a])) := g11
  obtain ⟨T13, X13, p13, bl13, sl13, st13⟩ := X11.finit hexec hown (wk W (.fieldLink "java/lang/String" 15 "java/lang/String" "coder" "B")) (Or.inr ⟨_, (wk W (.laysFinal "java/lang/String" "java/lang/String" "coder" "B"))⟩) (Or.inl ⟨rfl, hnm⟩) f2 (Or.inl rfl) hB11 (t := .byte) (by decide +kernel) rfl (g := (mkF m 48 #[.val (.ref a), .val (.ref b), .val (.int (Int32.ofNat o)), .val (.int (Int32.ofNat len)), .val .null, .val (.ref s.heap.size)] [.int 0, .ref a])) rfl (rest := []) rfl (hb hbytes d48)
  have c14 : Steps p.tables e below (s₁.setTop (entryFrame m #[.ref a, .ref b, .int (Int32.ofNat o), .int (Int32.ofNat len), .null] 6)) (T13.setTop (mkF m 54 #[.val (.ref a), .val (.ref b), .val (.int (Int32.ofNat o)), .val (.int (Int32.ofNat len)), .val .null, .val (.ref s.heap.size)] [.ref s.heap.size, .ref a])) := (c12.trans (st13 _ (Steps.refl _))).trans (by
    refine XS.aloadN X13.here hexec rfl (hb hbytes d51) rfl rfl ?_
    refine XS.aload X13.here hexec rfl (hb hbytes d52) rfl rfl ?_
    exact Steps.refl _)
  obtain ⟨T15, X15, p15, bl15, sl15, st15⟩ := X13.finit hexec hown (wk W (.fieldLink "java/lang/String" 9 "java/lang/String" "value" "[B")) (Or.inr ⟨_, (wk W (.laysFinal "java/lang/String" "java/lang/String" "value" "[B"))⟩) (Or.inl ⟨rfl, hnm⟩) f1 (Or.inl rfl) bl13 (t := (.array .byte)) (by decide +kernel) rfl (g := (mkF m 54 #[.val (.ref a), .val (.ref b), .val (.int (Int32.ofNat o)), .val (.int (Int32.ofNat len)), .val .null, .val (.ref s.heap.size)] [.ref s.heap.size, .ref a])) rfl (rest := []) rfl (hb hbytes d54)
  have c16 : Steps p.tables e below (s₁.setTop (entryFrame m #[.ref a, .ref b, .int (Int32.ofNat o), .int (Int32.ofNat len), .null] 6)) (T15.setTop (mkF m 57 #[.val (.ref a), .val (.ref b), .val (.int (Int32.ofNat o)), .val (.int (Int32.ofNat len)), .val .null, .val (.ref s.heap.size)] [])) := c14.trans (st15 _ (Steps.refl _))
  have ap := apart (Or.inr ⟨_, (wk W (.laysFinal "java/lang/String" "java/lang/String" "value" "[B"))⟩) (Or.inr ⟨_, (wk W (.laysFinal "java/lang/String" "java/lang/String" "coder" "B"))⟩) f1 f2 (t₁ := .array .byte) (t₂ := .byte) (by decide +kernel) (by decide +kernel) (by decide)
  have al := X8.warmed.alike.symm.trans X15.warmed.alike
  have n7 : T11.heap[s.heap.size]? = some N := by rw [q11]; exact n1.1
  exact ⟨T15, none, _, _, _, X15, by simp, rfl, by omega, (fun _ => rfl), ⟨rfl, _, N, bl15, ((Same.refl D _).set _ (by simp)).set _ (by simp), sl15, (Cell.slots_setSlot_ne _ ap).trans sl13, n1.keep al (p15.other hne (p13.other hne n7)), n2, by rw [al.findClass]; exact n3, n4, n5, fun y c h1 h2 => p15.other h1 (p13.other h1 (by rw [q11]; exact n6 y c h2)), by rw [p15.2.2, p13.2.2, q11]; exact z8⟩, fun fs hl => c16.trans (X15.returnOut hexec hret (hb hbytes d57) hl)⟩
end New4
namespace New1
def yN : MethodName := ⟨"java/lang/String", "<init>", "([C)V"⟩
abbrev yB : ByteArray := jdk_42_method_3_code
theorem d0 : decode yB 0 = .ok (.aload_n 0, 1) := by decide +kernel
theorem d1 : decode yB 1 = .ok (.aload_n 1, 1) := by decide +kernel
theorem d2 : decode yB 2 = .ok (.iconst 0, 1) := by decide +kernel
theorem d3 : decode yB 3 = .ok (.aload_n 1, 1) := by decide +kernel
theorem d4 : decode yB 4 = .ok (.arraylength, 1) := by decide +kernel
theorem d5 : decode yB 5 = .ok (.aconst_null, 1) := by decide +kernel
theorem d6 : decode yB 6 = .ok (.invokespecial 27, 3) := by decide +kernel
theorem d9 : decode yB 9 = .ok (.return_, 1) := by decide +kernel
def site : List Cond := [New4.tab] ++ initW "java/lang/String" 27 New4.yN
def tab : Cond := tabOf yN yB 2 none site
def P (a : Addr) (D : Cell) (fV fC : Field) (b : Addr) (A : Cell) (z : Int32) (args : Array Value) (s : State) : Prop := args = #[.ref a, .ref b] ∧ Blank "java/lang/String" a D s ∧ Found "java/lang/String" "value" "[B" fV s ∧ Found "java/lang/String" "coder" "B" fC s ∧ Ch b A s ∧ StaticIs s "java/lang/String" "COMPACT_STRINGS" "Z" (.int z) ∧ ¬ z = 0 ∧ 0 < A.slots.size ∧ A.slots.size ≤ 536870912 ∧ ∀ i, i < A.slots.size → ¬ 255 < cv A i
def E (a : Addr) (D : Cell) (fV fC : Field) (A : Cell) (r : Option Value) (s u : State) : Prop := Got a D fV fC A 0 A.slots.size r s u
/-- new String(chars), not empty, no char above 255: a Latin-1 String of their low bytes -/
theorem law (l : Launch) (a : Addr) (D : Cell) (fV fC : Field) (b : Addr) (A : Cell) (z : Int32) : Law l yN 2 1 3 52 yB 2 none site (P a D fV fC b A z) (E a D fV fC A) [⟨a, fC.slot⟩, ⟨a, fV.slot⟩] 1 A.slots.size := by
  refine Law.of_walk (plainFor_of_name (by decide +kernel)) (by decide +kernel) (by decide +kernel) (by decide) (fun _ _ h => by rw [h.1]; rfl) (fun _ U U' hal hh h => ⟨h.1, h.2.1.mv hal hh, h.2.2.1.al hal, h.2.2.2.1.al hal, h.2.2.2.2.1.mv hal hh, h.2.2.2.2.2.1.there hal hh, h.2.2.2.2.2.2⟩) (fun r U U' V V' h1 hal h2 h => Got.mv r U U' V V' h1 hal h2 h) ?_
  intro p e s m args below meth c s₁ X0 hexec hbytes hml hret hlk hnm hown hh0 W hP
  obtain ⟨rfl, hB, f1, f2, hA, s1, hz, l0, l2, hp⟩ := hP
  have c1 : Steps p.tables e below (s₁.setTop (entryFrame m #[.ref a, .ref b] 2)) (s₁.setTop (mkF m 0 #[.val (.ref a), .val (.ref b)] [])) := entry rfl
  have c2 : Steps p.tables e below (s₁.setTop (entryFrame m #[.ref a, .ref b] 2)) (s₁.setTop (mkF m 6 #[.val (.ref a), .val (.ref b)] [.null, .int (Int32.ofNat A.slots.size), .int 0, .ref b, .ref a])) := c1.trans (by
    refine XS.aloadN X0.here hexec rfl (hb hbytes d0) rfl rfl ?_
    refine XS.aloadN X0.here hexec rfl (hb hbytes d1) rfl rfl ?_
    refine iconstV X0.here hexec rfl 0 (hb hbytes d2) (by decide) ?_
    refine XS.aloadN X0.here hexec rfl (hb hbytes d3) rfl rfl ?_
    refine X0.alen hexec (hA.1.mv X0.warmed.alike hh0) rfl rfl (hb hbytes d4) ?_
    refine XS.aconstNull X0.here hexec rfl (hb hbytes d5) ?_
    exact Steps.refl _)
  obtain ⟨v3, T3, X3, E3, g3⟩ := X0.callN hexec (New4.law l a D fV fC b A z 0 A.slots.size) rfl hown (wks W (initW "java/lang/String" 27 New4.yN)) (W New4.tab (by simp only [site, List.mem_cons, List.mem_append, true_or, or_true])) (W := 0) (Nat.le_of_ble_eq_true rfl) (Nat.le_of_ble_eq_true rfl) (Nat.le_refl _) (by show 0 + A.slots.size ≤ A.slots.size; omega) (g := (mkF m 6 #[.val (.ref a), .val (.ref b)] [.null, .int (Int32.ofNat A.slots.size), .int (Int32.ofNat 0), .ref b, .ref a])) rfl (by rw [hml]; rfl) c2 (argsL := [.ref b, .int (Int32.ofNat 0), .int (Int32.ofNat A.slots.size), .null]) (rest := []) rfl rfl (by show 2 * 0 + 0 ≤ _; decide) (hb hbytes d6) (⟨rfl, hB.mv X0.warmed.alike hh0, f1.al X0.warmed.alike, f2.al X0.warmed.alike, hA.mv X0.warmed.alike hh0, s1.there X0.warmed.alike hh0, hz, l0, by omega, l2, fun i hi => by rw [Nat.zero_add]; exact hp i hi⟩)
  have e0 := Got.mv _ s₁ s _ _ hh0.symm (Vm.Alike.refl _) rfl E3
  obtain rfl := e0.1
  have c4 : Steps p.tables e below (s₁.setTop (entryFrame m #[.ref a, .ref b] 2)) (T3.setTop (mkF m 9 #[.val (.ref a), .val (.ref b)] [])) := g3
  exact ⟨T3, none, _, _, _, X3, by simp, rfl, by omega, (fun _ => rfl), e0, fun fs hl => c4.trans (X3.returnOut hexec hret (hb hbytes d9) hl)⟩
theorem pays {l : Launch} {R : Room} {p : Program} {e : Env} {below : List Frame} {s : State} {sargs : Array Value} {len W : Nat} (a : Addr) (D : Cell) (fV fC : Field) (b : Addr) (A : Cell) (z : Int32) (htab : tab.before sargs s = true) (hfr : 4 ≤ R.frames) (hlo : W + 65 ≤ R.locals) :
    Back l R p e below s sargs yN len W (fun A₁ a₁ => A₁.cells + 1 ≤ R.cells ∧ A₁.slots + A.slots.size ≤ R.slots ∧ P a D fV fC b A z a₁ A₁.U) (fun A₁ _ v₁ B₁ => E a D fV fC A v₁ A₁.U B₁.U ∧ B₁.locs = A₁.locs ++ [⟨a, fC.slot⟩, ⟨a, fV.slot⟩] ∧ B₁.cells = A₁.cells + 1 ∧ B₁.slots = A₁.slots + A.slots.size) :=
  (law l a D fV fC b A z).pays htab hfr (by omega)
end New1
/-- the byte, read back as charAt reads it, is the char -/
theorem lo8_mask {x : Int32} (h0 : ¬ x < 0) (h1 : ¬ 255 < x) : lo8 x &&& 255 = x := by
  have t : ∀ k : Fin 256, lo8 (Int32.ofNat k.val) &&& 255 = Int32.ofNat k.val := by decide +kernel
  rw [Int32.lt_iff_toInt_lt] at h0 h1
  have e0 : (0 : Int32).toInt = 0 := rfl
  have e1 : (255 : Int32).toInt = 255 := rfl
  obtain ⟨k, hk⟩ : ∃ k : Nat, x.toInt = k := ⟨x.toInt.toNat, by omega⟩
  have hx : x = Int32.ofNat k := Int32.toInt_inj.mp (by rw [hk, Int32.toInt_ofNat_small (by omega)])
  rw [hx]
  exact t ⟨k, by omega⟩
end StrChars
namespace StrChars.Road
open Jvm Sem ClassFile Op Lib Jvm.Stand Jvm.Free Jvm.Free.XT
open Jvm.Lib.Cold (StaticIs)
abbrev ST : String := "java/lang/String"
/-- every table word that New1's law asks, flat -/
abbrev words : List Jvm.Cond := [.code New1.yN New1.yB 2 none, .initialized ST, .methodLink ST 27 New4.yN, .instanceMethod New4.yN,
  .code New4.yN New4.yB 6 none, .fieldLink ST 38 ST "COMPACT_STRINGS" "Z", .laysFinal ST ST "value" "[B", .fieldLink ST 9 ST "value" "[B", .laysFinal ST ST "coder" "B", .fieldLink ST 15 ST "coder" "B",
  .methodLink ST 1 Lib.objectInit, .instanceMethod Lib.objectInit, .code Lib.objectInit ⟨#[0xb1]⟩ 1 none, .methodLink ST 177 Cmp3.yN, .static Cmp3.yN, .methodLink ST 47 CodL.yN, .static CodL.yN,
  .code Cmp3.yN Cmp3.yB 6 (some (.array .byte)), .initialized U16, .arrayClass .byte, .methodLink U16 115 Cmp5.yN, .static Cmp5.yN, .code Cmp5.yN Cmp5.yB 7 (some .int), .code CodL.yN CodL.yB 2 (some .byte)]
theorem tab_of {a : Array Value} {s : State} (h : ∀ w ∈ words, w.before a s = true) : New1.tab.before a s = true := by
  have h5 : Cmp5.tab.before a s = true := unparts (wk h (.code Cmp5.yN Cmp5.yB 7 (some .int))) (wks h (.initialized Cmp5.yN.cls :: Cmp5.site))
  have hc : CodL.tab.before a s = true := unparts (wk h (.code CodL.yN CodL.yB 2 (some .byte))) (wks h (.initialized CodL.yN.cls :: CodL.site))
  have q5 : ∀ w ∈ Cmp5.tab :: words, w.before a s = true := fun w hw => (List.mem_cons.mp hw).elim (fun e => e ▸ h5) (h w)
  have h3 : Cmp3.tab.before a s = true := unparts (wk q5 (.code Cmp3.yN Cmp3.yB 6 (some (.array .byte)))) (wks q5 (.initialized Cmp3.yN.cls :: Cmp3.site))
  have q3 : ∀ w ∈ Cmp3.tab :: CodL.tab :: words, w.before a s = true := fun w hw => (List.mem_cons.mp hw).elim (fun e => e ▸ h3) fun hw => (List.mem_cons.mp hw).elim (fun e => e ▸ hc) (h w)
  have h4 : New4.tab.before a s = true := unparts (wk q3 (.code New4.yN New4.yB 6 none)) (wks q3 (.initialized New4.yN.cls :: New4.site))
  have q4 : ∀ w ∈ New4.tab :: words, w.before a s = true := fun w hw => (List.mem_cons.mp hw).elim (fun e => e ▸ h4) (h w)
  exact unparts (wk q4 (.code New1.yN New1.yB 2 none)) (wks q4 (.initialized New1.yN.cls :: New1.site))
/-- the words ride from the start Z to the walk's own state -/
theorem moved {Z s : State} {a0 args : Array Value} (hZ : Z.Warmed39 s.vm) (hw : ∀ d ∈ words, d.before a0 Z = true) : ∀ d ∈ words, d.before args s = true := fun d hd => by
  have q := hw d hd
  have t : ∀ d ∈ words, d = .arrayClass .byte ∨ (d.onTables && d.keepsFace) = true := by decide +kernel
  rcases t d hd with rfl | t
  · exact RoadKit.mvA hZ q
  · exact RoadKit.mv hZ q t
/-- WHAT COMES BACK, over the tables of the start Z: h the heap at the call, h' behind it -/
def Q (Z : State) (x : Addr) (A : Cell) (h : Heap) (v : Option Value) (h' : Heap) (L : List Loc) : Prop := v = none ∧ (∀ y ∈ L, y.base = x) ∧ RoadKit.Keep h h' [x] ∧ h'.size = h.size + 1 ∧ RoadKit.Exa Z h' x ST ∧ RoadKit.Fld Z h' x ST "value" "[B" (.ref h.size) ∧ RoadKit.Fld Z h' x ST "coder" "B" (.int 0) ∧
  (∃ V : Cell, RoadKit.Arr Z h' h.size V .byte ∧ V.vm = .none ∧ Z.vm.findClass "[B" = some V.cls ∧ V.slots.size = A.slots.size ∧ ∀ j, j < A.slots.size → V.slots[j]? = some (.int (lo8 (cv A j)))) ∧
  ∀ (O n d : String) (w : Value), RoadKit.Fld Z h x O n d w → RoadKit.slotOf Z O n d ≠ RoadKit.slotOf Z ST "value" "[B" → RoadKit.slotOf Z O n d ≠ RoadKit.slotOf Z ST "coder" "B" → RoadKit.Fld Z h' x O n d w
/-- **new String(chars) AT A CALL, IN THE ROAD'S FORM**: for specialBack behind newO: x the fresh String, b the char[] with the cell A -/
theorem back {p : Program} {l : Launch} {e : Env} {R : Room} {s : State} {args : Array Value} {below : List Frame} {len W : Nat} {Z : State} {a0 : Array Value} {h : Heap} (hZ : Z.Warmed39 s.vm) (hw : ∀ d ∈ words, d.before a0 Z = true) {kI : Nat} (wi : (Jvm.Cond.instantiable ST kI).before a0 Z = true)
    {x b : Addr} {A : Cell} {z : Int32} {v0 c0 : Value} (E : RoadKit.Exa Z h x ST) (V : RoadKit.Fld Z h x ST "value" "[B" v0) (C : RoadKit.Fld Z h x ST "coder" "B" c0) (K : RoadKit.Arr Z h b A .char) (hty : Typed .char A) (S : RoadKit.Sta Z h ST "COMPACT_STRINGS" "Z" (.int z)) (hz : ¬ z = 0)
    (l0 : 0 < A.slots.size) (l2 : A.slots.size ≤ 536870912) (hp : ∀ i, i < A.slots.size → ¬ 255 < cv A i) (hfr : 4 ≤ R.frames) (hlo : W + 65 ≤ R.locals) :
    Back l R p e below s args New1.yN len W (fun P a => a = #[.ref x, .ref b] ∧ P.U.heap = h ∧ P.cells + 1 ≤ R.cells ∧ P.slots + A.slots.size ≤ R.slots)
      (fun P _ v B => ∃ L, Q Z x A h v B.U.heap L ∧ B.locs = P.locs ++ L ∧ B.cells = P.cells + 1 ∧ B.slots = P.slots + A.slots.size) := by
  intro m meth c P g ig mk a X hg hsize hdg hW hn hp'
  obtain ⟨rfl, rfl, r1, r2⟩ := hp'
  have al : Z.vm.Alike P.U.vm := hZ.alike.trans X.warmed.alike
  obtain ⟨D, cfV, kV, iV, fV, hD, gV, stV, knV, obV, asV, slV⟩ := id V
  obtain ⟨D', cfC, kC, iC, fC, hD', gC, stC, -, -, asC, slC⟩ := id C
  cases hD.symm.trans hD'
  obtain ⟨D2, kD, e1, e2, e3, e4, e5⟩ := id E
  cases hD.symm.trans e1
  obtain ⟨c2, k2, i1, i2, i3, -⟩ := Cond.instantiable_spec wi
  cases e2.symm.trans i1
  cases e3.symm.trans i2
  obtain ⟨kU, u1, u2⟩ := al.2.2 _ _ e3
  have hB : Blank ST x D P.U := ⟨hD, ⟨knV, fun q hq => by rw [hq] at obV; cases obV⟩, by rw [al.findClass]; exact e2, kU, u1, by rw [u2]; exact i3, by rw [u2]; exact e5 i3⟩
  have F1 : Found ST "value" "[B" fV P.U := ⟨SBG.found_only al ⟨cfV, kV, iV, gV⟩, stV⟩
  have F2 : Found ST "coder" "B" fC P.U := ⟨SBG.found_only al ⟨cfC, kC, iC, gC⟩, stC⟩
  have hA : Ch b A P.U := ⟨⟨K.1, State.isArrayOf_alike al K.2.1, K.2.2, by omega⟩, hty⟩
  have hS : StaticIs P.U ST "COMPACT_STRINGS" "Z" (.int z) := by
    obtain ⟨cfS, iS, kS, fS, st, cS, t1, t2, t3, t4, t5, t6, t7⟩ := S
    exact StaticIs.there (s := { Z with heap := P.U.heap }) ⟨cfS, iS, kS, fS, st, cS, t1, t2, t3, t4, t5, (fun q => by rw [q] at t6; cases t6), t7⟩ al rfl
  obtain ⟨v, B, X', ⟨⟨hv, E', V', q1, q2, q3, q4, q5, q6, q7, q8, q9, q10, q11⟩, hl, hc, hs⟩, st⟩ := New1.pays x D fV fC b A z (tab_of (moved hZ hw)) hfr hlo m meth c P g ig mk _ X hg hsize hdg hW hn ⟨r1, r2, rfl, hB, F1, F2, hA, hS, hz, l0, l2, hp⟩
  have al' : Z.vm.Alike B.U.vm := hZ.alike.trans X'.warmed.alike
  have hsz : E'.slots.size = D.slots.size := by
    obtain ⟨-, -, -, kB, w1, w2, w3⟩ := q1
    obtain ⟨kB', y1, y2⟩ := al'.2.2 _ _ e3
    rw [q2.2.1] at w1
    cases w1.symm.trans y1
    rw [w3, e5 i3, y2]
  refine ⟨v, B, X', ⟨_, ⟨hv, ?_, ⟨by omega, fun y cy hy hn' => q10 y cy (by simpa using hn') hy, fun y cy hy => ?_⟩, q11, ⟨E', _, q1.1, by rw [q2.2.1]; exact e2, by rw [q2.2.1]; exact e3, by rw [q2.1]; exact obV, fun _ => by rw [hsz]; exact e5 i3⟩,
    ⟨E', cfV, kV, iV, fV, q1.1, gV, stV, by rw [q2.1]; exact knV, by rw [q2.1]; exact obV, by rw [q2.2.1]; exact asV, q3⟩, ⟨E', cfC, kC, iC, fC, q1.1, gC, stC, by rw [q2.1]; exact knV, by rw [q2.1]; exact obV, by rw [q2.2.1]; exact asC, q4⟩,
    ⟨V', ⟨q5.1, State.isArrayOf_alike al'.symm q5.2.1, q5.2.2.1⟩, q6, by rw [← al'.findClass]; exact q7, q8, fun j hj => by have := q9 j hj; rwa [Nat.zero_add] at this⟩, fun O n d w F n1 n2 => ?_⟩, hl, hc, hs⟩, st⟩
  · intro y hy
    simp only [List.mem_cons, List.not_mem_nil, or_false] at hy
    rcases hy with rfl | rfl <;> rfl
  · by_cases q : y = x
    · subst q
      cases hD.symm.trans hy
      exact ⟨E', q1.1, q2.2.1, q2.1, hsz⟩
    · exact ⟨cy, q10 y cy q hy, rfl, rfl, rfl⟩
  · obtain ⟨D3, cf, k, i, f, g1, g2, g3, g4, g5, g6, g7⟩ := F
    cases hD.symm.trans g1
    simp only [RoadKit.slotOf, g2, gV, gC, Option.map_some, Option.getD_some] at n1 n2
    exact ⟨E', cf, k, i, f, q1.1, g2, g3, by rw [q2.1]; exact g4, by rw [q2.1]; exact g5, by rw [q2.2.1]; exact g6, by rw [q2.2.2 f.slot (by simp [n1, n2])]; exact g7⟩
end StrChars.Road
namespace StrChars.Road
open Jvm Sem ClassFile Op Lib Jvm.Stand Jvm.Free Jvm.Free.XT
/-- WHAT COMES BACK, the byte[] as a list of values -/
def QA (Z : State) (x : Addr) (zn : Int32) (cs : List Int32) (h : Heap) (v : Option Value) (h' : Heap) (L : List Loc) : Prop := v = none ∧ (∀ y ∈ L, y.base = x) ∧ RoadKit.Keep h h' [x] ∧ h'.size = h.size + 1 ∧ RoadKit.Exa Z h' x ST ∧ RoadKit.Fld Z h' x ST "value" "[B" (.ref h.size) ∧ RoadKit.Fld Z h' x ST "coder" "B" (.int 0) ∧
  (∃ kb, Z.vm.findClass "[B" = some kb ∧ RoadKit.Arv Z h' h.size kb .byte zn (cs.map fun c => .int (lo8 c)) (.int 0)) ∧
  ∀ (O n d : String) (w : Value), RoadKit.Fld Z h x O n d w → RoadKit.slotOf Z O n d ≠ RoadKit.slotOf Z ST "value" "[B" → RoadKit.slotOf Z O n d ≠ RoadKit.slotOf Z ST "coder" "B" → RoadKit.Fld Z h' x O n d w
/-- **new String(chars) AT A CALL, THE ARRAYS AS LISTS**: the char[] at b holds cs, not empty, no char above 255 -/
theorem backArv {p : Program} {l : Launch} {e : Env} {R : Room} {s : State} {args : Array Value} {below : List Frame} {len W : Nat} {Z : State} {a0 : Array Value} {h : Heap} (hZ : Z.Warmed39 s.vm) (hw : ∀ d ∈ words, d.before a0 Z = true) {kI : Nat} (wi : (Jvm.Cond.instantiable ST kI).before a0 Z = true)
    {x b : Addr} {k : ClassId} {zn z : Int32} {cs : List Int32} {dv v0 c0 : Value} (E : RoadKit.Exa Z h x ST) (V : RoadKit.Fld Z h x ST "value" "[B" v0) (C : RoadKit.Fld Z h x ST "coder" "B" c0) (K : RoadKit.Arv Z h b k .char zn (cs.map Value.int) dv) (S : RoadKit.Sta Z h ST "COMPACT_STRINGS" "Z" (.int z)) (hz : ¬ z = 0)
    (hlen : zn.toNatClampNeg = cs.length) (h0 : 0 < cs.length) (hbig : cs.length ≤ 536870912) (hall : ∀ c ∈ cs, ¬ 255 < c) (hfr : 4 ≤ R.frames) (hlo : W + 65 ≤ R.locals) :
    Back l R p e below s args New1.yN len W (fun P a => a = #[.ref x, .ref b] ∧ P.U.heap = h ∧ P.cells + 1 ≤ R.cells ∧ P.slots + cs.length ≤ R.slots)
      (fun P _ v B => ∃ L, QA Z x zn cs h v B.U.heap L ∧ B.locs = P.locs ++ L ∧ B.cells = P.cells + 1 ∧ B.slots = P.slots + cs.length) := by
  obtain ⟨A, K1, K2, K3, K4, K5, K6⟩ := K
  have e : A.slots.size = cs.length := K3.trans hlen
  have hat : ∀ (i : Nat) (hi : i < cs.length), A.slots[i]? = some (.int cs[i]) := fun i hi => by rw [K5 i (by omega)]; simp [List.getD_eq_getElem?_getD, hi]
  have hcv : ∀ (i : Nat) (hi : i < cs.length), cv A i = cs[i] := fun i hi => by unfold cv; rw [hat i hi]
  have hty : Typed .char A := fun i v hv => by
    have hi : i < A.slots.size := (Array.getElem?_eq_some_iff.mp hv).1
    have q := K5 i hi
    rw [hv] at q
    rw [Option.some.inj q]
    exact K6 i hi
  refine Back.mono (back hZ hw wi E V C K1 hty S hz (by omega) (by omega) (fun i hi => by rw [hcv i (by omega)]; exact hall _ (List.getElem_mem _)) hfr hlo) (fun P a hp => ⟨hp.1, hp.2.1, hp.2.2.1, by rw [e]; exact hp.2.2.2⟩) (fun P a v B hp hq => ?_)
  obtain ⟨L, ⟨q1, q2, q3, q4, q5, q6, q7, ⟨V', v1, v2, v3, v4, v5⟩, q9⟩, hl, hc, hs⟩ := hq
  refine ⟨L, ⟨q1, q2, q3, q4, q5, q6, q7, ⟨V'.cls, v3, V', v1, rfl, by rw [v4, e, hlen], K4, fun i hi => ?_, fun i hi => ?_⟩, q9⟩, hl, hc, by rw [hs, e]⟩
  · have hi' : i < cs.length := by omega
    rw [v5 i (by omega), hcv i hi']; simp [List.getD_eq_getElem?_getD, hi']
  · have hi' : i < cs.length := by omega
    simp only [List.getD_eq_getElem?_getD, List.getElem?_map, List.getElem?_eq_getElem hi', Option.map_some, Option.getD_some]
    exact fits_lo8 _
end StrChars.Road
namespace StrChars.Road
open Jvm Sem ClassFile Op Lib Jvm.Stand Jvm.Free Jvm.Free.XT
/-- WHAT COMES BACK, in the writer's own shape -/
def QV (Z : State) (x : Addr) (N : Int32) (bs : List Int32) (h : Heap) (n0 : Nat) (v : Option Value) (h' : Heap) (L : List Loc) : Prop := v = none ∧ RoadKit.Fr n0 L ∧ RoadKit.Keep h h' [x] ∧ RoadKit.Exa Z h' x ST ∧ RoadKit.Fld Z h' x ST "coder" "B" (.int 0) ∧
  ∃ (t : Addr) (kb : ClassId), n0 ≤ t ∧ h.size ≤ t ∧ ¬ t = x ∧ RoadKit.Fld Z h' x ST "value" "[B" (.ref t) ∧ RoadKit.Arv Z h' t kb .byte N (bs.map Value.int) (.int 0)
/-- **new String(chars) AT A CALL, FOR THE WRITER**: a char[] of n known ints, each 0 to 255 -/
theorem backV {p : Program} {l : Launch} {e : Env} {R : Room} {s : State} {args : Array Value} {below : List Frame} {len W : Nat} {Z : State} {a0 : Array Value} {h : Heap} (hZ : Z.Warmed39 s.vm) (hw : ∀ d ∈ words, d.before a0 Z = true) {kI : Nat} (wi : (Jvm.Cond.instantiable ST kI).before a0 Z = true)
    {x b : Addr} {kC : ClassId} {cs bs : List Int32} {d v0 c0 : Value} {z N : Int32} {n n0 : Nat} (hx0 : n0 ≤ x) (hh0 : n0 ≤ h.size) (E : RoadKit.Exa Z h x ST) (V : RoadKit.Fld Z h x ST "value" "[B" v0) (C : RoadKit.Fld Z h x ST "coder" "B" c0) (K : RoadKit.Arv Z h b kC .char N (cs.map Value.int) d) (S : RoadKit.Sta Z h ST "COMPACT_STRINGS" "Z" (.int z)) (hz : ¬ z = 0)
    (hn : cs.length = n) (hN : N = Int32.ofNat n) (l0 : 0 < n) (l2 : n ≤ 4000) (hp : ∀ c ∈ cs, ¬ c < 0 ∧ ¬ (255 : Int32) < c) (hb : bs = cs.map (fun c => c.toInt8.toInt32)) (hfr : 4 ≤ R.frames) (hlo : W + 65 ≤ R.locals) :
    Back l R p e below s args (⟨"java/lang/String", "<init>", "([C)V"⟩ : MethodName) len W (fun P a => a = #[.ref x, .ref b] ∧ P.U.heap = h ∧ P.cells + 1 ≤ R.cells ∧ P.slots + n ≤ R.slots)
      (fun P _ v B => ∃ L, QV Z x N bs h n0 v B.U.heap L ∧ B.locs = P.locs ++ L ∧ B.cells = P.cells + 1 ∧ B.slots = P.slots + n) := by
  subst hn hN hb
  refine Back.mono (backArv hZ hw wi E V C K S hz (n32 (by omega)) l0 (by omega) (fun c hc => (hp c hc).2) hfr hlo) (fun P a hp => hp) (fun P a v B hp hq => ?_)
  obtain ⟨L, ⟨q1, q2, q3, q4, q5, q6, q7, ⟨kb, v1, v2⟩, q9⟩, hl, hc, hs⟩ := hq
  exact ⟨L, ⟨q1, fun y hy => by rw [q2 y hy]; exact hx0, q3, q5, q7, h.size, kb, hh0, Nat.le_refl _, Nat.ne_of_gt E.lt, q6, by rw [List.map_map]; exact v2⟩, hl, hc, hs⟩
end StrChars.Road
namespace StrChars
open Jvm Sem ClassFile Op Lib Jvm.Stand Jvm.Free.XT Jvm.Free.ALB Jvm.Free.JM Jvm.Free
open Jvm.Lib.Cold (StaticIs)
def hi8 (x : Int32) : Int32 := lo8 (x >>> ((8 : Int32) &&& 31))
/-- what StringUTF16.getChar makes of two bytes -/
def pairCh (u v : Int32) : Int32 := (((u &&& 255) <<< ((0 : Int32) &&& 31)) ||| ((v &&& 255) <<< ((8 : Int32) &&& 31))).toUInt32.toUInt16.toUInt32.toInt32
theorem lo8_and (x : Int32) : (lo8 x &&& 255).toBitVec.toNat = x.toBitVec.toNat % 256 := by
  have h : (lo8 x).toBitVec = (x.toBitVec.signExtend 8).signExtend 32 := by rw [lo8, Int8.toBitVec_toInt32, Int32.toBitVec_toInt8]
  rw [Int32.toBitVec_and, BitVec.toNat_and, h]
  have e : ((x.toBitVec.signExtend 8).signExtend 32).toNat % 256 = x.toBitVec.toNat % 256 := by
    rw [BitVec.toNat_signExtend]
    have hlt := x.toBitVec.isLt
    simp only [BitVec.toNat_setWidth, BitVec.toNat_signExtend]
    split <;> split <;> omega
  rw [← e]
  exact Nat.and_two_pow_sub_one_eq_mod _ 8
theorem pair_says {c : Int32} (h0 : ¬ c < 0) (h1 : ¬ 65535 < c) : pairCh (lo8 c) (hi8 c) = c := by
  rw [Int32.lt_iff_toInt_lt] at h0 h1
  have e0 : (0 : Int32).toInt = 0 := rfl
  have e1 : (65535 : Int32).toInt = 65535 := rfl
  have hc : c.toInt = c.toBitVec.toNat := by
    have := c.toBitVec.isLt
    have e : c.toInt = c.toBitVec.toInt := rfl
    rw [e] at h0 h1
    rw [e]
    rw [BitVec.toInt_eq_toNat_cond] at h0 h1 ⊢
    split at h0 <;> split <;> omega
  have hn : c.toBitVec.toNat < 65536 := by omega
  have a1 := lo8_and c
  have a2 : (hi8 c &&& 255).toBitVec.toNat = c.toBitVec.toNat / 256 := by
    rw [hi8, lo8_and]
    have e : ((8 : Int32) &&& 31) = 8 := by decide
    rw [e, Int32.toBitVec_shiftRight]
    have e2 : ((8 : Int32).toBitVec.smod 32) = 8#32 := by decide
    rw [e2, BitVec.sshiftRight_eq', BitVec.toNat_sshiftRight_of_msb_false (by rw [BitVec.msb_eq_false_iff_two_mul_lt]; omega)]
    show c.toBitVec.toNat >>> 8 % 256 = _
    rw [Nat.shiftRight_eq_div_pow]
    omega
  unfold pairCh
  apply Int32.toBitVec_inj.mp
  apply BitVec.eq_of_toNat_eq
  have f0 : ((0 : Int32) &&& 31) = 0 := by decide
  have f8 : ((8 : Int32) &&& 31) = 8 := by decide
  rw [f0, f8]
  have g : (((lo8 c &&& 255) <<< (0 : Int32)) ||| ((hi8 c &&& 255) <<< (8 : Int32))).toBitVec.toNat = c.toBitVec.toNat := by
    rw [Int32.toBitVec_or, Int32.toBitVec_shiftLeft, Int32.toBitVec_shiftLeft]
    have s0 : ((0 : Int32).toBitVec.smod 32) = 0#32 := by decide
    have s8 : ((8 : Int32).toBitVec.smod 32) = 8#32 := by decide
    rw [s0, s8, BitVec.toNat_or]
    simp only [BitVec.shiftLeft_eq', BitVec.toNat_shiftLeft, a1, a2]
    show (c.toBitVec.toNat % 256) <<< 0 % 2 ^ 32 ||| (c.toBitVec.toNat / 256) <<< 8 % 2 ^ 32 = _
    rw [Nat.shiftLeft_zero, Nat.mod_eq_of_lt (show c.toBitVec.toNat % 256 < 2 ^ 32 by omega), Nat.mod_eq_of_lt (show (c.toBitVec.toNat / 256) <<< 8 < 2 ^ 32 by rw [Nat.shiftLeft_eq]; omega), Nat.or_comm, ← Nat.shiftLeft_add_eq_or_of_lt (by omega), Nat.shiftLeft_eq]
    omega
  show BitVec.toNat (((((lo8 c &&& 255) <<< (0 : Int32)) ||| ((hi8 c &&& 255) <<< (8 : Int32))).toBitVec.setWidth 16).setWidth 32) = _
  rw [BitVec.toNat_setWidth, BitVec.toNat_setWidth, g]
  omega
end StrChars
namespace StrChars
open Jvm Sem ClassFile Op Lib Jvm.Stand Jvm.Free.XT Jvm.Free.ALB Jvm.Free.JM Jvm.Free
open Jvm.Lib.Cold (StaticIs)
/-- the array's cell V codes the n chars f 0 .. f (n - 1) by the coder cd, as the JDK does: coder 1 just where some char is above 255 -/
def Cod (cd : Int32) (n : Nat) (f : Nat → Int32) (V : Cell) : Prop := (cd = 0 ∧ V.slots.size = n ∧ ∀ j, j < n → V.slots[j]? = some (.int (lo8 (f j))) ∧ ¬ 255 < f j) ∨ (cd = 1 ∧ V.slots.size = 2 * n ∧ (∀ j, j < n → V.slots[2 * j]? = some (.int (lo8 (f j))) ∧ V.slots[2 * j + 1]? = some (.int (hi8 (f j)))) ∧ ∃ j, j < n ∧ 255 < f j)
/-- **x is a String of the n chars f 0 .. f (n - 1)**, Latin-1 or UTF-16; its array at t has the cell V -/
def Txt (x t : Addr) (V : Cell) (cd : Int32) (n : Nat) (f : Nat → Int32) (U : State) : Prop := Exact "java/lang/String" x U ∧ Has x "java/lang/String" "value" "[B" (.ref t) U ∧ Has x "java/lang/String" "coder" "B" (.int cd) U ∧ XT.Arr .byte t V U ∧ Cod cd n f V ∧ ∀ j, j < n → ¬ f j < 0 ∧ ¬ 65535 < f j
theorem Txt.mv {x t : Addr} {V : Cell} {cd : Int32} {n : Nat} {f : Nat → Int32} {U U' : State} (h : Txt x t V cd n f U) (hal : U.vm.Alike U'.vm) (hh : U'.heap = U.heap) : Txt x t V cd n f U' := ⟨h.1.mv hal hh, h.2.1.mv hal hh, h.2.2.1.mv hal hh, h.2.2.2.1.mv hal hh, h.2.2.2.2⟩
end StrChars
namespace StrChars.Road
open Jvm Sem ClassFile Op Lib Jvm.Stand Jvm.Free Jvm.Free.XT
open Jvm.Lib.Cold (StaticIs)
theorem consq {a : Array Value} {s : State} {c : Jvm.Cond} {L : List Jvm.Cond} (h0 : c.before a s = true) (h : ∀ w ∈ L, w.before a s = true) : ∀ w ∈ c :: L, w.before a s = true := fun w hw => (List.mem_cons.mp hw).elim (fun e => e ▸ h0) (h w)
/-- the bytes of the chars cs, low before high -/
def wideBytes : List Int32 → List Value
  | [] => []
  | c :: cs => .int (lo8 c) :: .int (hi8 c) :: wideBytes cs
theorem wide_lo (d : Value) : ∀ (cs : List Int32) (j : Nat), j < cs.length → (wideBytes cs).getD (2 * j) d = .int (lo8 (cs.getD j 0))
  | [], j, h => absurd h (Nat.not_lt_zero j)
  | c :: cs, 0, _ => rfl
  | c :: cs, j + 1, h => by
    have q := wide_lo d cs j (by simpa using h)
    rw [show 2 * (j + 1) = 2 * j + 1 + 1 from by omega]
    simpa [wideBytes] using q
theorem wide_hi (d : Value) : ∀ (cs : List Int32) (j : Nat), j < cs.length → (wideBytes cs).getD (2 * j + 1) d = .int (hi8 (cs.getD j 0))
  | [], j, h => absurd h (Nat.not_lt_zero j)
  | c :: cs, 0, _ => rfl
  | c :: cs, j + 1, h => by
    have q := wide_hi d cs j (by simpa using h)
    rw [show 2 * (j + 1) + 1 = 2 * j + 1 + 1 + 1 from by omega]
    simpa [wideBytes] using q
theorem low_at (d : Value) (cs : List Int32) (j : Nat) (h : j < cs.length) : (cs.map fun c => Value.int (lo8 c)).getD j d = .int (lo8 (cs.getD j 0)) := by
  simp [List.getD_eq_getElem?_getD, h]
/-- an array of N2 bytes vs codes the chars cs by the coder cd -/
def CodA (cs : List Int32) (cd N2 : Int32) (vs : List Value) : Prop := (cd = 0 ∧ N2 = Int32.ofNat cs.length ∧ vs = (cs.map fun c => Value.int (lo8 c)) ∧ ∀ c ∈ cs, ¬ 255 < c) ∨ (cd = 1 ∧ N2 = Int32.ofNat (2 * cs.length) ∧ vs = wideBytes cs ∧ ∃ c ∈ cs, 255 < c)
theorem CodA.cod {cs : List Int32} {cd N2 : Int32} {vs : List Value} {V : Cell} (h : CodA cs cd N2 vs) (hn : 2 * cs.length < 2 ^ 31) (hs : V.slots.size = N2.toNatClampNeg) (hv : RoadKit.Has V vs (.int 0)) : Cod cd cs.length (fun j => cs.getD j 0) V := by
  rcases h with ⟨rfl, rfl, rfl, h⟩ | ⟨rfl, rfl, rfl, c, hc, hw⟩
  · rw [n32 (by omega)] at hs
    exact Or.inl ⟨rfl, hs, fun j hj => ⟨by rw [hv j (by omega), low_at _ _ _ hj], by
      have e : cs.getD j 0 = cs[j] := by simp [List.getD_eq_getElem?_getD, hj]
      show ¬ 255 < cs.getD j 0
      rw [e]; exact h _ (List.getElem_mem _)⟩⟩
  · rw [n32 (by omega)] at hs
    obtain ⟨j, hj, rfl⟩ := List.getElem_of_mem hc
    exact Or.inr ⟨rfl, hs, fun j hj => ⟨by rw [hv _ (by omega), wide_lo _ _ _ hj], by rw [hv _ (by omega), wide_hi _ _ _ hj]⟩, j, hj, by
      have e : cs.getD j 0 = cs[j] := by simp [List.getD_eq_getElem?_getD, hj]
      show 255 < cs.getD j 0
      rw [e]; exact hw⟩
/-- an object of exactly java/lang/String, its two fields found: as the laws ask it -/
theorem strObj {Z U : State} {a0 : Array Value} {kI : Nat} (wi : (Jvm.Cond.instantiable ST kI).before a0 Z = true) (al : Z.vm.Alike U.vm) {x : Addr} {v0 c0 : Value} (E : RoadKit.Exa Z U.heap x ST) (V : RoadKit.Fld Z U.heap x ST "value" "[B" v0) (C : RoadKit.Fld Z U.heap x ST "coder" "B" c0) :
    ∃ (D : Cell) (fV fC : Field), Blank ST x D U ∧ Found ST "value" "[B" fV U ∧ Found ST "coder" "B" fC U ∧ D.slots[fV.slot]? = some v0 ∧ D.slots[fC.slot]? = some c0 ∧ RoadKit.slotOf Z ST "value" "[B" = fV.slot ∧ RoadKit.slotOf Z ST "coder" "B" = fC.slot := by
  obtain ⟨D, cfV, kV, iV, fV, hD, gV, stV, knV, obV, asV, slV⟩ := V
  obtain ⟨D', cfC, kC, iC, fC, hD', gC, stC, -, -, asC, slC⟩ := C
  cases hD.symm.trans hD'
  obtain ⟨D2, kD, e1, e2, e3, e4, e5⟩ := E
  cases hD.symm.trans e1
  obtain ⟨c2, k2, i1, i2, i3, -⟩ := Cond.instantiable_spec wi
  cases e2.symm.trans i1
  cases e3.symm.trans i2
  obtain ⟨kU, u1, u2⟩ := al.2.2 _ _ e3
  exact ⟨D, fV, fC, ⟨hD, ⟨knV, fun q hq => by rw [hq] at obV; cases obV⟩, by rw [al.findClass]; exact e2, kU, u1, by rw [u2]; exact i3, by rw [u2]; exact e5 i3⟩, ⟨SBG.found_only al ⟨cfV, kV, iV, gV⟩, stV⟩, ⟨SBG.found_only al ⟨cfC, kC, iC, gC⟩, stC⟩, slV, slC, by simp [RoadKit.slotOf, gV], by simp [RoadKit.slotOf, gC]⟩
theorem sta_is {Z U : State} (al : Z.vm.Alike U.vm) {C n d : String} {v : Value} (S : RoadKit.Sta Z U.heap C n d v) : StaticIs U C n d v := by
  obtain ⟨cfS, iS, kS, fS, st, cS, t1, t2, t3, t4, t5, t6, t7⟩ := S
  exact StaticIs.there (s := { Z with heap := U.heap }) ⟨cfS, iS, kS, fS, st, cS, t1, t2, t3, t4, t5, (fun q => by rw [q] at t6; cases t6), t7⟩ al rfl
end StrChars.Road
namespace StrChars
open Jvm Sem ClassFile Op Lib Jvm.Stand Jvm.Free.XT Jvm.Free.ALB Jvm.Free.JM Jvm.Free
open Jvm.Lib.Cold (StaticIs)
/-- what place i of a byte[]'s cell holds -/
def yv (A : Cell) (i : Nat) : Int32 := match A.slots[i]? with | some (.int x) => x | _ => 0
theorem yv_get {a : Addr} {A : Cell} {U : State} (h : XT.Arr .byte a A U) (ht : Typed .byte A) {i : Nat} (hi : i < A.slots.size) : A.slots[i]? = some (.int (yv A i)) := by
  have e := Array.getElem?_eq_getElem hi
  have f := ht i _ e
  unfold yv; rw [e]
  generalize A.slots[i] = v at f
  cases v <;> simp [fits] at f ⊢
/-- the two arrays are equal, place for place -/
def EqC (A B : Cell) : Prop := A.slots.size = B.slots.size ∧ ∀ i, i < A.slots.size → yv A i = yv B i
/-- a boolean that says whether p -/
def Says01 (q : Prop) (r : Option Value) (s u : State) : Prop := ∃ v : Int32, r = some (.int v) ∧ u.heap = s.heap ∧ ((v = 1 ∧ q) ∨ (v = 0 ∧ ¬ q))
theorem Says01.mv {q : Prop} : ∀ r (U U' V V' : State), U'.heap = U.heap → V.vm.Alike V'.vm → V'.heap = V.heap → Says01 q r U V → Says01 q r U' V' :=
  fun r U U' V V' h1 _ h2 ⟨v, a, b, c⟩ => ⟨v, a, by rw [h1, h2]; exact b, c⟩
namespace LEq
def yN : MethodName := ⟨"java/lang/StringLatin1", "equals", "([B[B)Z"⟩
abbrev yB : ByteArray := jdk_43_method_13_code
theorem d0 : decode yB 0 = .ok (.aload_n 0, 1) := by decide +kernel
theorem d1 : decode yB 1 = .ok (.arraylength, 1) := by decide +kernel
theorem d2 : decode yB 2 = .ok (.aload_n 1, 1) := by decide +kernel
theorem d3 : decode yB 3 = .ok (.arraylength, 1) := by decide +kernel
theorem d4 : decode yB 4 = .ok (.if_icmp (.ne) 30, 3) := by decide +kernel
theorem d7 : decode yB 7 = .ok (.iconst 0, 1) := by decide +kernel
theorem d8 : decode yB 8 = .ok (.istore_n 2, 1) := by decide +kernel
theorem d9 : decode yB 9 = .ok (.iload_n 2, 1) := by decide +kernel
theorem d10 : decode yB 10 = .ok (.aload_n 0, 1) := by decide +kernel
theorem d11 : decode yB 11 = .ok (.arraylength, 1) := by decide +kernel
theorem d12 : decode yB 12 = .ok (.if_icmp (.ge) 20, 3) := by decide +kernel
theorem d15 : decode yB 15 = .ok (.aload_n 0, 1) := by decide +kernel
theorem d16 : decode yB 16 = .ok (.iload_n 2, 1) := by decide +kernel
theorem d17 : decode yB 17 = .ok (.baload, 1) := by decide +kernel
theorem d18 : decode yB 18 = .ok (.aload_n 1, 1) := by decide +kernel
theorem d19 : decode yB 19 = .ok (.iload_n 2, 1) := by decide +kernel
theorem d20 : decode yB 20 = .ok (.baload, 1) := by decide +kernel
theorem d21 : decode yB 21 = .ok (.if_icmp (.eq) 5, 3) := by decide +kernel
theorem d24 : decode yB 24 = .ok (.iconst 0, 1) := by decide +kernel
theorem d25 : decode yB 25 = .ok (.ireturn, 1) := by decide +kernel
theorem d26 : decode yB 26 = .ok (.iinc 2 1, 3) := by decide +kernel
theorem d29 : decode yB 29 = .ok (.goto (-20), 3) := by decide +kernel
theorem d32 : decode yB 32 = .ok (.iconst 1, 1) := by decide +kernel
theorem d33 : decode yB 33 = .ok (.ireturn, 1) := by decide +kernel
theorem d34 : decode yB 34 = .ok (.iconst 0, 1) := by decide +kernel
theorem d35 : decode yB 35 = .ok (.ireturn, 1) := by decide +kernel
def site : List Cond := []
def tab : Cond := tabOf yN yB 3 (some .boolean) site
def P (a : Addr) (A : Cell) (b : Addr) (B : Cell) (args : Array Value) (s : State) : Prop := args = #[.ref a, .ref b] ∧ XT.Arr .byte a A s ∧ Typed .byte A ∧ XT.Arr .byte b B s ∧ Typed .byte B
/-- whether two byte[] are equal, place for place -/
theorem law (l : Launch) (a : Addr) (A : Cell) (b : Addr) (B : Cell) : Law l yN 2 2 0 0 yB 3 (some .boolean) site (P a A b B) (Says01 (EqC A B)) [] 0 0 := by
  refine Law.of_walk (plainFor_of_name (by decide +kernel)) (by decide +kernel) (by decide +kernel) (by decide) (fun _ _ h => by rw [h.1]; rfl) (fun _ U U' hal hh h => ⟨h.1, h.2.1.mv hal hh, h.2.2.1, h.2.2.2.1.mv hal hh, h.2.2.2.2⟩) (fun r U U' V V' h1 hal h2 h => Says01.mv r U U' V V' h1 hal h2 h) ?_
  intro p e s m args below meth c s₁ X0 hexec hbytes hml hret hlk hnm hown hh0 W hP
  obtain ⟨rfl, hA, tA, hB, tB⟩ := hP
  have a31 := hA.2.2.2
  have b31 := hB.2.2.2
  have hA0 := hA.mv X0.warmed.alike hh0
  have hB0 := hB.mv X0.warmed.alike hh0
  have c1 : Steps p.tables e below (s₁.setTop (entryFrame m #[.ref a, .ref b] 3)) (s₁.setTop (mkF m 0 #[.val (.ref a), .val (.ref b), .unset] [])) := entry rfl
  have c2 : Steps p.tables e below (s₁.setTop (entryFrame m #[.ref a, .ref b] 3)) (s₁.setTop (mkF m 4 #[.val (.ref a), .val (.ref b), .unset] [.int (Int32.ofNat B.slots.size), .int (Int32.ofNat A.slots.size)])) := c1.trans (by
    refine XS.aloadN X0.here hexec rfl (hb hbytes d0) rfl rfl ?_
    refine X0.alen hexec hA0 rfl rfl (hb hbytes d1) ?_
    refine XS.aloadN X0.here hexec rfl (hb hbytes d2) rfl rfl ?_
    refine X0.alen hexec hB0 rfl rfl (hb hbytes d3) ?_
    exact Steps.refl _)
  by_cases hs : A.slots.size = B.slots.size
  · have c3 : Steps p.tables e below (s₁.setTop (entryFrame m #[.ref a, .ref b] 3)) (s₁.setTop (mkF m 9 #[.val (.ref a), .val (.ref b), .val (.int 0)] [])) := c2.trans (by
      refine XS.icmpNo X0.here hexec rfl (hb hbytes d4) rfl (ii_ne_f (by rw [hs])) ?_
      refine iconstV X0.here hexec rfl 0 (hb hbytes d7) (by decide) ?_
      refine XS.istoreN X0.here hexec rfl (hb hbytes d8) rfl rfl ?_
      exact Steps.refl _)
    have loop : ∀ (r i : Nat), i + r = A.slots.size → (∀ j, j < i → yv A j = yv B j) → Steps p.tables e below (s₁.setTop (entryFrame m #[.ref a, .ref b] 3)) (s₁.setTop (mkF m 9 #[.val (.ref a), .val (.ref b), .val (.int (Int32.ofNat i))] [])) → ∃ (pc : Nat) (Ls : Array Slot) (v : Int32), (pc = 25 ∨ pc = 33) ∧ ((v = 1 ∧ EqC A B) ∨ (v = 0 ∧ ¬ EqC A B)) ∧ Steps p.tables e below (s₁.setTop (entryFrame m #[.ref a, .ref b] 3)) (s₁.setTop (mkF m pc Ls [.int v])) := by
      intro r
      induction r with
      | zero =>
        intro i hi he cl
        exact ⟨33, _, 1, Or.inr rfl, Or.inl ⟨rfl, hs, fun j hj => he j (by omega)⟩, cl.trans (by
          refine XS.iloadN X0.here hexec rfl (hb hbytes d9) rfl ?_
          refine XS.aloadN X0.here hexec rfl (hb hbytes d10) rfl rfl ?_
          refine X0.alen hexec hA0 rfl rfl (hb hbytes d11) ?_
          refine XS.icmpYes X0.here hexec rfl (pc0 := 12) rfl (hb hbytes d12) rfl (ii_ge_t (nlt32 (by omega) (by omega))) (by decide) rfl ?_
          refine iconstV X0.here hexec rfl 1 (hb hbytes d32) (by decide) ?_
          exact Steps.refl _)⟩
      | succ r ih =>
        intro i hi he cl
        have c4 : Steps p.tables e below (s₁.setTop (entryFrame m #[.ref a, .ref b] 3)) (s₁.setTop (mkF m 21 #[.val (.ref a), .val (.ref b), .val (.int (Int32.ofNat i))] [.int (yv B i), .int (yv A i)])) := cl.trans (by
          refine XS.iloadN X0.here hexec rfl (hb hbytes d9) rfl ?_
          refine XS.aloadN X0.here hexec rfl (hb hbytes d10) rfl rfl ?_
          refine X0.alen hexec hA0 rfl rfl (hb hbytes d11) ?_
          refine XS.icmpNo X0.here hexec rfl (hb hbytes d12) rfl (ii_ge_f (lt32 (by omega) (by omega))) ?_
          refine XS.aloadN X0.here hexec rfl (hb hbytes d15) rfl rfl ?_
          refine XS.iloadN X0.here hexec rfl (hb hbytes d16) rfl ?_
          refine X0.aget hexec hA0 rfl (yv_get hA tA (i := i) (by omega)) rfl rfl (hb hbytes d17) ?_
          refine XS.aloadN X0.here hexec rfl (hb hbytes d18) rfl rfl ?_
          refine XS.iloadN X0.here hexec rfl (hb hbytes d19) rfl ?_
          refine X0.aget hexec hB0 rfl (yv_get hB tB (i := i) (by omega)) rfl rfl (hb hbytes d20) ?_
          exact Steps.refl _)
        by_cases hv : yv A i = yv B i
        · have c5 : Steps p.tables e below (s₁.setTop (entryFrame m #[.ref a, .ref b] 3)) (s₁.setTop (mkF m 9 #[.val (.ref a), .val (.ref b), .val (.int (Int32.ofNat i + 1))] [])) := c4.trans (by
            refine XS.icmpYes X0.here hexec rfl (pc0 := 21) rfl (hb hbytes d21) rfl (ii_eq_t hv) (by decide) rfl ?_
            refine iincV X0.here hexec rfl 1 (hb hbytes d26) (by decide) rfl rfl ?_
            refine XS.goto X0.here hexec rfl (pc0 := 29) rfl (hb hbytes d29) (by decide) rfl ?_
            exact Steps.refl _)
          rw [succ32] at c5
          exact ih (i + 1) (by omega) (fun j hj => by
            by_cases e : j = i
            · rw [e]; exact hv
            · exact he j (by omega)) c5
        · exact ⟨25, _, 0, Or.inl rfl, Or.inr ⟨rfl, fun q => hv (q.2 i (by omega))⟩, c4.trans (by
            refine XS.icmpNo X0.here hexec rfl (hb hbytes d21) rfl (ii_eq_f hv) ?_
            refine iconstV X0.here hexec rfl 0 (hb hbytes d24) (by decide) ?_
            exact Steps.refl _)⟩
    obtain ⟨pc, Ls, v, hpc, hv, cz⟩ := loop A.slots.size 0 (by omega) (fun j hj => absurd hj (Nat.not_lt_zero j)) c3
    have nv : narrow .boolean (.int v) = .int v := by rcases hv with ⟨rfl, -⟩ | ⟨rfl, -⟩ <;> rfl
    rcases hpc with rfl | rfl
    · exact ⟨s₁, some (.int v), _, _, _, X0, rfl, rfl, rfl, (fun h => by cases h), ⟨v, rfl, hh0, hv⟩, fun fs hl => cz.trans (X0.ireturnOut hexec hret nv (Or.inr (Or.inl rfl)) (hb hbytes d25) hl)⟩
    · exact ⟨s₁, some (.int v), _, _, _, X0, rfl, rfl, rfl, (fun h => by cases h), ⟨v, rfl, hh0, hv⟩, fun fs hl => cz.trans (X0.ireturnOut hexec hret nv (Or.inr (Or.inl rfl)) (hb hbytes d33) hl)⟩
  · have c3 : Steps p.tables e below (s₁.setTop (entryFrame m #[.ref a, .ref b] 3)) (s₁.setTop (mkF m 35 #[.val (.ref a), .val (.ref b), .unset] [.int 0])) := c2.trans (by
      refine XS.icmpYes X0.here hexec rfl (pc0 := 4) rfl (hb hbytes d4) rfl (ii_ne_t (ne32 a31 b31 hs)) (by decide) rfl ?_
      refine iconstV X0.here hexec rfl 0 (hb hbytes d34) (by decide) ?_
      exact Steps.refl _)
    exact ⟨s₁, some (.int 0), _, _, _, X0, rfl, rfl, rfl, (fun h => by cases h), ⟨0, rfl, hh0, Or.inr ⟨rfl, fun q => hs q.1⟩⟩, fun fs hl => c3.trans (X0.ireturnOut hexec hret rfl (Or.inr (Or.inl rfl)) (hb hbytes d35) hl)⟩
end LEq
theorem Cod.ty {cd : Int32} {n : Nat} {f : Nat → Int32} {V : Cell} (h : Cod cd n f V) : Typed .byte V := fun i v hv => by
  have hi : i < V.slots.size := (Array.getElem?_eq_some_iff.mp hv).1
  rcases h with ⟨-, k1, k2⟩ | ⟨-, k1, k2, -⟩
  · rw [(k2 i (by omega)).1] at hv; cases hv; exact fits_lo8 _
  · rcases Nat.mod_two_eq_zero_or_one i with e | e
    · obtain ⟨j, rfl⟩ : ∃ j, i = 2 * j := ⟨i / 2, by omega⟩
      rw [(k2 j (by omega)).1] at hv; cases hv; exact fits_lo8 _
    · obtain ⟨j, rfl⟩ : ∃ j, i = 2 * j + 1 := ⟨i / 2, by omega⟩
      rw [(k2 j (by omega)).2] at hv; cases hv; exact fits_lo8 _
/-- the same text -/
def SameT (n : Nat) (f : Nat → Int32) (k : Nat) (g : Nat → Int32) : Prop := n = k ∧ ∀ j, j < n → f j = g j
theorem lo8_inj {x y : Int32} (h0 : ¬ x < 0) (h1 : ¬ 255 < x) (k0 : ¬ y < 0) (k1 : ¬ 255 < y) (h : lo8 x = lo8 y) : x = y := by
  rw [← lo8_mask h0 h1, ← lo8_mask k0 k1, h]
/-- arrays coded by one coder are equal just where the texts are -/
theorem Cod.eqv {cd : Int32} {n k : Nat} {f g : Nat → Int32} {V V' : Cell} (h : Cod cd n f V) (h' : Cod cd k g V') (hf : ∀ j, j < n → ¬ f j < 0 ∧ ¬ 65535 < f j) (hg : ∀ j, j < k → ¬ g j < 0 ∧ ¬ 65535 < g j) : EqC V V' ↔ SameT n f k g := by
  have yvv : ∀ {W : Cell} {i : Nat} {x : Int32}, W.slots[i]? = some (.int x) → yv W i = x := fun q => by unfold yv; rw [q]
  rcases h with ⟨rfl, k1, k2⟩ | ⟨rfl, k1, k2, -⟩
  · rcases h' with ⟨-, m1, m2⟩ | ⟨e, -⟩
    · constructor
      · rintro ⟨e1, e2⟩
        refine ⟨by omega, fun j hj => ?_⟩
        have q := e2 j (by omega)
        rw [yvv (k2 j hj).1, yvv (m2 j (by omega)).1] at q
        exact lo8_inj (hf j hj).1 (k2 j hj).2 (hg j (by omega)).1 (m2 j (by omega)).2 q
      · rintro ⟨rfl, e2⟩
        refine ⟨by omega, fun j hj => ?_⟩
        rw [yvv (k2 j (by omega)).1, yvv (m2 j (by omega)).1, e2 j (by omega)]
    · exact absurd e (by decide)
  · rcases h' with ⟨e, -⟩ | ⟨-, m1, m2, -⟩
    · exact absurd e (by decide)
    · constructor
      · rintro ⟨e1, e2⟩
        refine ⟨by omega, fun j hj => ?_⟩
        have q1 := e2 (2 * j) (by omega)
        have q2 := e2 (2 * j + 1) (by omega)
        rw [yvv (k2 j hj).1, yvv (m2 j (by omega)).1] at q1
        rw [yvv (k2 j hj).2, yvv (m2 j (by omega)).2] at q2
        rw [← pair_says (hf j hj).1 (hf j hj).2, ← pair_says (hg j (by omega)).1 (hg j (by omega)).2, q1, q2]
      · rintro ⟨rfl, e2⟩
        refine ⟨by omega, fun i hi => ?_⟩
        rcases Nat.mod_two_eq_zero_or_one i with e | e
        · obtain ⟨j, rfl⟩ : ∃ j, i = 2 * j := ⟨i / 2, by omega⟩
          rw [yvv (k2 j (by omega)).1, yvv (m2 j (by omega)).1, e2 j (by omega)]
        · obtain ⟨j, rfl⟩ : ∃ j, i = 2 * j + 1 := ⟨i / 2, by omega⟩
          rw [yvv (k2 j (by omega)).2, yvv (m2 j (by omega)).2, e2 j (by omega)]
/-- two codings differ: so do the texts -/
theorem Cod.dif {cd cd' : Int32} {n k : Nat} {f g : Nat → Int32} {V V' : Cell} (h : Cod cd n f V) (h' : Cod cd' k g V') (hne : ¬ cd = cd') : ¬ SameT n f k g := by
  rintro ⟨rfl, e⟩
  rcases h with ⟨rfl, -, k2⟩ | ⟨rfl, -, -, j, hj, hw⟩
  · rcases h' with ⟨rfl, -⟩ | ⟨-, -, -, j, hj, hw⟩
    · exact hne rfl
    · exact (k2 j hj).2 (by rw [e j hj]; exact hw)
  · rcases h' with ⟨-, -, m2⟩ | ⟨rfl, -⟩
    · exact (m2 j hj).2 (by rw [← e j hj]; exact hw)
    · exact hne rfl
/-- an object of exactly C is an instance of C -/
theorem cinst {p : Program} {l : Launch} {e : Env} {R : Room} {s : State} {m : MethodId} {args : Array Value} {below : List Frame} {meth : Method} {c : Code} {T : State} {locs : List Loc} {cells slots : Nat} (X : Stand p l e R s m args below meth c T locs cells slots) (hexec : p.tables.exec = Jvm.exec) {own C : String} {index : Nat} (hown : s.vm.findClass own = some m.cls) (hlink : (Cond.classLink own index C).before args s = true) {a : Addr} (hE : Exact C a T)
    {g : JFrame} (hg : g.method = m) {rest : List Value} (hstack : g.stack = .ref a :: rest) (hdg : decode c.code g.pc = .ok (.instanceof index, 3)) :
    ∃ T', Stand p l e R s m args below meth c T' locs cells slots ∧ T'.heap = T.heap ∧ ∀ target, Steps p.tables e below (T'.setTop { g with pc := g.pc + 3, stack := .int 1 :: rest }) target → Steps p.tables e below (T.setTop g) target := by
  obtain ⟨cB, h1, D, h2, h3, h4⟩ := hE
  have h1' : s.vm.findClass C = some cB := by rw [← X.warmed.alike.findClass]; exact h1
  obtain ⟨vm', X', st⟩ := X.instanceofYes hexec hown hlink h2 h4 h1' (by rw [h3]; exact Jvm.Free.SB.assignable_self _ _) hg hstack hdg
  exact ⟨_, X', rfl, st⟩
theorem cself {p : Program} {l : Launch} {e : Env} {R : Room} {s : State} {m : MethodId} {args : Array Value} {below : List Frame} {meth : Method} {c : Code} {T : State} {locs : List Loc} {cells slots : Nat} (X : Stand p l e R s m args below meth c T locs cells slots) (hexec : p.tables.exec = Jvm.exec) {own C : String} {index : Nat} (hown : s.vm.findClass own = some m.cls) (hlink : (Cond.classLink own index C).before args s = true) {a : Addr} (hE : Exact C a T)
    {g : JFrame} (hg : g.method = m) {rest : List Value} (hstack : g.stack = .ref a :: rest) (hdg : decode c.code g.pc = .ok (.checkcast index, 3)) :
    ∃ T', Stand p l e R s m args below meth c T' locs cells slots ∧ T'.heap = T.heap ∧ ∀ target, Steps p.tables e below (T'.setTop { g with pc := g.pc + 3, stack := .ref a :: rest }) target → Steps p.tables e below (T.setTop g) target := by
  obtain ⟨cB, h1, D, h2, h3, h4⟩ := hE
  have h1' : s.vm.findClass C = some cB := by rw [← X.warmed.alike.findClass]; exact h1
  obtain ⟨vm', X', st⟩ := X.checkcastYes hexec hown hlink h2 h4 h1' (by rw [h3]; exact Jvm.Free.SB.assignable_self _ _) hg hstack hdg
  exact ⟨_, X', rfl, fun t h => st t (by rw [← hstack] at h; exact h)⟩
namespace SEq
def yN : MethodName := ⟨"java/lang/String", "equals", "(Ljava/lang/Object;)Z"⟩
abbrev yB : ByteArray := jdk_42_method_66_code
theorem d0 : decode yB 0 = .ok (.aload_n 0, 1) := by decide +kernel
theorem d1 : decode yB 1 = .ok (.aload_n 1, 1) := by decide +kernel
theorem d2 : decode yB 2 = .ok (.if_acmp (.ne) 5, 3) := by decide +kernel
theorem d5 : decode yB 5 = .ok (.iconst 1, 1) := by decide +kernel
theorem d6 : decode yB 6 = .ok (.ireturn, 1) := by decide +kernel
theorem d7 : decode yB 7 = .ok (.aload_n 1, 1) := by decide +kernel
theorem d8 : decode yB 8 = .ok (.instanceof 10, 3) := by decide +kernel
theorem d11 : decode yB 11 = .ok (.ifCond (.eq) 43, 3) := by decide +kernel
theorem d14 : decode yB 14 = .ok (.aload_n 1, 1) := by decide +kernel
theorem d15 : decode yB 15 = .ok (.checkcast 10, 3) := by decide +kernel
theorem d18 : decode yB 18 = .ok (.astore_n 2, 1) := by decide +kernel
theorem d19 : decode yB 19 = .ok (.getstatic 38, 3) := by decide +kernel
theorem d22 : decode yB 22 = .ok (.ifCond (.eq) 14, 3) := by decide +kernel
theorem d25 : decode yB 25 = .ok (.aload_n 0, 1) := by decide +kernel
theorem d26 : decode yB 26 = .ok (.getfield 15, 3) := by decide +kernel
theorem d29 : decode yB 29 = .ok (.aload_n 2, 1) := by decide +kernel
theorem d30 : decode yB 30 = .ok (.getfield 15, 3) := by decide +kernel
theorem d33 : decode yB 33 = .ok (.if_icmp (.ne) 21, 3) := by decide +kernel
theorem d36 : decode yB 36 = .ok (.aload_n 0, 1) := by decide +kernel
theorem d37 : decode yB 37 = .ok (.getfield 9, 3) := by decide +kernel
theorem d40 : decode yB 40 = .ok (.aload_n 2, 1) := by decide +kernel
theorem d41 : decode yB 41 = .ok (.getfield 9, 3) := by decide +kernel
theorem d44 : decode yB 44 = .ok (.invokestatic 541, 3) := by decide +kernel
theorem d47 : decode yB 47 = .ok (.ifCond (.eq) 7, 3) := by decide +kernel
theorem d50 : decode yB 50 = .ok (.iconst 1, 1) := by decide +kernel
theorem d51 : decode yB 51 = .ok (.goto 4, 3) := by decide +kernel
theorem d54 : decode yB 54 = .ok (.iconst 0, 1) := by decide +kernel
theorem d55 : decode yB 55 = .ok (.ireturn, 1) := by decide +kernel
def site : List Cond := [.classLink "java/lang/String" 10 "java/lang/String", .fieldLink "java/lang/String" 38 "java/lang/String" "COMPACT_STRINGS" "Z", .fieldLink "java/lang/String" 15 "java/lang/String" "coder" "B", .fieldLink "java/lang/String" 9 "java/lang/String" "value" "[B", LEq.tab] ++ staticW "java/lang/String" 541 LEq.yN
def tab : Cond := tabOf yN yB 3 (some .boolean) site
def P (x t : Addr) (V : Cell) (cd : Int32) (n : Nat) (f : Nat → Int32) (y t' : Addr) (V' : Cell) (cd' : Int32) (k : Nat) (g : Nat → Int32) (z : Int32) (args : Array Value) (s : State) : Prop := args = #[.ref x, .ref y] ∧ Txt x t V cd n f s ∧ Txt y t' V' cd' k g s ∧ StaticIs s "java/lang/String" "COMPACT_STRINGS" "Z" (.int z) ∧ ¬ z = 0
/-- equals(Object) of two Strings: whether the texts are the same -/
theorem law (l : Launch) (x t : Addr) (V : Cell) (cd : Int32) (n : Nat) (f : Nat → Int32) (y t' : Addr) (V' : Cell) (cd' : Int32) (k : Nat) (g : Nat → Int32) (z : Int32) : Law l yN 2 1 1 14 yB 3 (some .boolean) site (P x t V cd n f y t' V' cd' k g z) (Says01 (SameT n f k g)) [] 0 0 := by
  refine Law.of_walk (plainFor_of_name (by decide +kernel)) (by decide +kernel) (by decide +kernel) (by decide) (fun _ _ h => by rw [h.1]; rfl) (fun _ U U' hal hh h => ⟨h.1, h.2.1.mv hal hh, h.2.2.1.mv hal hh, h.2.2.2.1.there hal hh, h.2.2.2.2⟩) (fun r U U' V V' h1 hal h2 h => Says01.mv r U U' V V' h1 hal h2 h) ?_
  intro p e s m args below meth c s₁ X0 hexec hbytes hml hret hlk hnm hown hh0 W hP
  obtain ⟨rfl, hx, hy, s1, hz⟩ := hP
  have c1 : Steps p.tables e below (s₁.setTop (entryFrame m #[.ref x, .ref y] 3)) (s₁.setTop (mkF m 2 #[.val (.ref x), .val (.ref y), .unset] [.ref y, .ref x])) := Steps.trans (entry rfl) (by
    show Steps p.tables e below (s₁.setTop (mkF m 0 #[.val (.ref x), .val (.ref y), .unset] [])) _
    refine XS.aloadN X0.here hexec rfl (hb hbytes d0) rfl rfl ?_
    refine XS.aloadN X0.here hexec rfl (hb hbytes d1) rfl rfl ?_
    exact Steps.refl _)
  by_cases hxy : x = y
  · have c2 : Steps p.tables e below (s₁.setTop (entryFrame m #[.ref x, .ref y] 3)) (s₁.setTop (mkF m 6 #[.val (.ref x), .val (.ref y), .unset] [.int 1])) := c1.trans (by
      refine acmpNo X0.here hexec rfl (hb hbytes d2) rfl rfl rfl (by simp [acmp, hxy]) ?_
      refine iconstV X0.here hexec rfl 1 (hb hbytes d5) (by decide) ?_
      exact Steps.refl _)
    subst hxy
    have ec : cd = cd' := by
      obtain ⟨D, fd, a1, a2, a3⟩ := hx.2.2.1
      obtain ⟨D', fd', b1, b2, b3⟩ := hy.2.2.1
      cases a1.symm.trans b1
      obtain ⟨q1, q2, q3, q4⟩ := a2.1
      obtain ⟨r1, r2, r3, r4⟩ := b2.1
      cases q4.symm.trans r4
      cases a3.symm.trans b3; rfl
    have et : t = t' := by
      obtain ⟨D, fd, a1, a2, a3⟩ := hx.2.1
      obtain ⟨D', fd', b1, b2, b3⟩ := hy.2.1
      cases a1.symm.trans b1
      obtain ⟨q1, q2, q3, q4⟩ := a2.1
      obtain ⟨r1, r2, r3, r4⟩ := b2.1
      cases q4.symm.trans r4
      cases a3.symm.trans b3; rfl
    subst ec et
    have ev : V = V' := by cases hx.2.2.2.1.1.symm.trans hy.2.2.2.1.1; rfl
    subst ev
    have hs : SameT n f k g := (Cod.eqv hx.2.2.2.2.1 hy.2.2.2.2.1 hx.2.2.2.2.2 hy.2.2.2.2.2).mp ⟨rfl, fun _ _ => rfl⟩
    exact ⟨s₁, some (.int 1), _, _, _, X0, rfl, rfl, rfl, (fun h => by cases h), ⟨1, rfl, hh0, Or.inl ⟨rfl, hs⟩⟩, fun fs hl => c2.trans (X0.ireturnOut hexec hret rfl (Or.inr (Or.inl rfl)) (hb hbytes d6) hl)⟩
  · have c2 : Steps p.tables e below (s₁.setTop (entryFrame m #[.ref x, .ref y] 3)) (s₁.setTop (mkF m 8 #[.val (.ref x), .val (.ref y), .unset] [.ref y])) := c1.trans (by
      refine acmpYes X0.here hexec rfl (pc0 := 2) rfl (hb hbytes d2) rfl rfl rfl (by simp [acmp, hxy]) (by decide) rfl ?_
      refine XS.aloadN X0.here hexec rfl (hb hbytes d7) rfl rfl ?_
      exact Steps.refl _)
    obtain ⟨T3, X3, q3, st3⟩ := cinst X0 hexec hown (wk W (.classLink "java/lang/String" 10 "java/lang/String")) (hy.mv X0.warmed.alike hh0).1 (g := (mkF m 8 #[.val (.ref x), .val (.ref y), .unset] [.ref y])) rfl (rest := []) rfl (hb hbytes d8)
    have hh3 := q3.trans hh0
    have c4 : Steps p.tables e below (s₁.setTop (entryFrame m #[.ref x, .ref y] 3)) (T3.setTop (mkF m 15 #[.val (.ref x), .val (.ref y), .unset] [.ref y])) := (c2.trans (st3 _ (Steps.refl _))).trans (by
      refine XS.ifNo X3.here hexec rfl (hb hbytes d11) rfl (i0_eq_f (by decide)) ?_
      refine XS.aloadN X3.here hexec rfl (hb hbytes d14) rfl rfl ?_
      exact Steps.refl _)
    obtain ⟨T5, X5, q5, st5⟩ := cself X3 hexec hown (wk W (.classLink "java/lang/String" 10 "java/lang/String")) (hy.mv X3.warmed.alike hh3).1 (g := (mkF m 15 #[.val (.ref x), .val (.ref y), .unset] [.ref y])) rfl (rest := []) rfl (hb hbytes d15)
    have hh5 := q5.trans hh3
    have c6 : Steps p.tables e below (s₁.setTop (entryFrame m #[.ref x, .ref y] 3)) (T5.setTop (mkF m 19 #[.val (.ref x), .val (.ref y), .val (.ref y)] [])) := (c4.trans (st5 _ (Steps.refl _))).trans (by
      refine XS.astoreN X5.here hexec rfl (hb hbytes d18) rfl rfl rfl ?_
      exact Steps.refl _)
    obtain ⟨T7, X7, q7, st7⟩ := X5.sget hexec hown (wk W (.fieldLink "java/lang/String" 38 "java/lang/String" "COMPACT_STRINGS" "Z")) s1 (fun _ _ h => by rw [hh5]; exact h) (g := (mkF m 19 #[.val (.ref x), .val (.ref y), .val (.ref y)] [])) rfl (hb hbytes d19)
    have hh7 := q7.trans hh5
    have c8 : Steps p.tables e below (s₁.setTop (entryFrame m #[.ref x, .ref y] 3)) (T7.setTop (mkF m 26 #[.val (.ref x), .val (.ref y), .val (.ref y)] [.ref x])) := (c6.trans (st7 _ (Steps.refl _))).trans (by
      refine XS.ifNo X7.here hexec rfl (hb hbytes d22) rfl (i0_eq_f hz) ?_
      refine XS.aloadN X7.here hexec rfl (hb hbytes d25) rfl rfl ?_
      exact Steps.refl _)
    obtain ⟨T9, X9, q9, st9⟩ := X7.hget hexec hown (wk W (.fieldLink "java/lang/String" 15 "java/lang/String" "coder" "B")) (hx.mv X7.warmed.alike hh7).2.2.1 (g := (mkF m 26 #[.val (.ref x), .val (.ref y), .val (.ref y)] [.ref x])) rfl (rest := []) rfl (hb hbytes d26)
    have hh9 := q9.trans hh7
    have c10 : Steps p.tables e below (s₁.setTop (entryFrame m #[.ref x, .ref y] 3)) (T9.setTop (mkF m 30 #[.val (.ref x), .val (.ref y), .val (.ref y)] [.ref y, .int cd])) := (c8.trans (st9 _ (Steps.refl _))).trans (by
      refine XS.aloadN X9.here hexec rfl (hb hbytes d29) rfl rfl ?_
      exact Steps.refl _)
    obtain ⟨T11, X11, q11, st11⟩ := X9.hget hexec hown (wk W (.fieldLink "java/lang/String" 15 "java/lang/String" "coder" "B")) (hy.mv X9.warmed.alike hh9).2.2.1 (g := (mkF m 30 #[.val (.ref x), .val (.ref y), .val (.ref y)] [.ref y, .int cd])) rfl (rest := [.int cd]) rfl (hb hbytes d30)
    have hh11 := q11.trans hh9
    have c12 : Steps p.tables e below (s₁.setTop (entryFrame m #[.ref x, .ref y] 3)) (T11.setTop (mkF m 33 #[.val (.ref x), .val (.ref y), .val (.ref y)] [.int cd', .int cd])) := c10.trans (st11 _ (Steps.refl _))
    by_cases hcd : cd = cd'
    · subst hcd
      have c13 : Steps p.tables e below (s₁.setTop (entryFrame m #[.ref x, .ref y] 3)) (T11.setTop (mkF m 37 #[.val (.ref x), .val (.ref y), .val (.ref y)] [.ref x])) := c12.trans (by
        refine XS.icmpNo X11.here hexec rfl (hb hbytes d33) rfl (ii_ne_f rfl) ?_
        refine XS.aloadN X11.here hexec rfl (hb hbytes d36) rfl rfl ?_
        exact Steps.refl _)
      obtain ⟨T14, X14, q14, st14⟩ := X11.hget hexec hown (wk W (.fieldLink "java/lang/String" 9 "java/lang/String" "value" "[B")) (hx.mv X11.warmed.alike hh11).2.1 (g := (mkF m 37 #[.val (.ref x), .val (.ref y), .val (.ref y)] [.ref x])) rfl (rest := []) rfl (hb hbytes d37)
      have hh14 := q14.trans hh11
      have c15 : Steps p.tables e below (s₁.setTop (entryFrame m #[.ref x, .ref y] 3)) (T14.setTop (mkF m 41 #[.val (.ref x), .val (.ref y), .val (.ref y)] [.ref y, .ref t])) := (c13.trans (st14 _ (Steps.refl _))).trans (by
        refine XS.aloadN X14.here hexec rfl (hb hbytes d40) rfl rfl ?_
        exact Steps.refl _)
      obtain ⟨T16, X16, q16, st16⟩ := X14.hget hexec hown (wk W (.fieldLink "java/lang/String" 9 "java/lang/String" "value" "[B")) (hy.mv X14.warmed.alike hh14).2.1 (g := (mkF m 41 #[.val (.ref x), .val (.ref y), .val (.ref y)] [.ref y, .ref t])) rfl (rest := [.ref t]) rfl (hb hbytes d41)
      have hh16 := q16.trans hh14
      have c17 : Steps p.tables e below (s₁.setTop (entryFrame m #[.ref x, .ref y] 3)) (T16.setTop (mkF m 44 #[.val (.ref x), .val (.ref y), .val (.ref y)] [.ref t', .ref t])) := c15.trans (st16 _ (Steps.refl _))
      obtain ⟨v18, T18, X18, E18, g18⟩ := X16.callS hexec (LEq.law l t V t' V') hown (wks W (staticW "java/lang/String" 541 LEq.yN)) (wk W LEq.tab) (W := 0) (Nat.le_of_ble_eq_true rfl) (Nat.le_of_ble_eq_true rfl) (Nat.le_refl _) (Nat.le_refl _) (g := (mkF m 44 #[.val (.ref x), .val (.ref y), .val (.ref y)] [.ref t', .ref t])) rfl (by rw [hml]; rfl) c17 (argsL := [.ref t, .ref t']) (rest := []) rfl rfl (by show 2 * 0 + 0 ≤ _; decide) (hb hbytes d44) (⟨rfl, hx.2.2.2.1.mv X16.warmed.alike hh16, hx.2.2.2.2.1.ty, hy.2.2.2.1.mv X16.warmed.alike hh16, hy.2.2.2.2.1.ty⟩)
      obtain ⟨v, rfl, q18, hv⟩ := E18
      have iff := Cod.eqv hx.2.2.2.2.1 hy.2.2.2.2.1 hx.2.2.2.2.2 hy.2.2.2.2.2
      rcases hv with ⟨rfl, he⟩ | ⟨rfl, he⟩
      · have c19 : Steps p.tables e below (s₁.setTop (entryFrame m #[.ref x, .ref y] 3)) (T18.setTop (mkF m 55 #[.val (.ref x), .val (.ref y), .val (.ref y)] [.int 1])) := Steps.trans g18 (by
          refine XS.ifNo X18.here hexec rfl (hb hbytes d47) rfl (i0_eq_f (by decide)) ?_
          refine iconstV X18.here hexec rfl 1 (hb hbytes d50) (by decide) ?_
          refine XS.goto X18.here hexec rfl (pc0 := 51) rfl (hb hbytes d51) (by decide) rfl ?_
          exact Steps.refl _)
        exact ⟨T18, some (.int 1), _, _, _, X18, rfl, rfl, rfl, (fun h => by cases h), ⟨1, rfl, q18.trans hh16, Or.inl ⟨rfl, iff.mp he⟩⟩, fun fs hl => c19.trans (X18.ireturnOut hexec hret rfl (Or.inr (Or.inl rfl)) (hb hbytes d55) hl)⟩
      · have c19 : Steps p.tables e below (s₁.setTop (entryFrame m #[.ref x, .ref y] 3)) (T18.setTop (mkF m 55 #[.val (.ref x), .val (.ref y), .val (.ref y)] [.int 0])) := Steps.trans g18 (by
          refine XS.ifYes X18.here hexec rfl (pc0 := 47) rfl (hb hbytes d47) rfl (i0_eq_t rfl) (by decide) rfl ?_
          refine iconstV X18.here hexec rfl 0 (hb hbytes d54) (by decide) ?_
          exact Steps.refl _)
        exact ⟨T18, some (.int 0), _, _, _, X18, rfl, rfl, rfl, (fun h => by cases h), ⟨0, rfl, q18.trans hh16, Or.inr ⟨rfl, fun q => he (iff.mpr q)⟩⟩, fun fs hl => c19.trans (X18.ireturnOut hexec hret rfl (Or.inr (Or.inl rfl)) (hb hbytes d55) hl)⟩
    · have c13 : Steps p.tables e below (s₁.setTop (entryFrame m #[.ref x, .ref y] 3)) (T11.setTop (mkF m 55 #[.val (.ref x), .val (.ref y), .val (.ref y)] [.int 0])) := c12.trans (by
        refine XS.icmpYes X11.here hexec rfl (pc0 := 33) rfl (hb hbytes d33) rfl (ii_ne_t hcd) (by decide) rfl ?_
        refine iconstV X11.here hexec rfl 0 (hb hbytes d54) (by decide) ?_
        exact Steps.refl _)
      exact ⟨T11, some (.int 0), _, _, _, X11, rfl, rfl, rfl, (fun h => by cases h), ⟨0, rfl, hh11, Or.inr ⟨rfl, Cod.dif hx.2.2.2.2.1 hy.2.2.2.2.1 hcd⟩⟩, fun fs hl => c13.trans (X11.ireturnOut hexec hret rfl (Or.inr (Or.inl rfl)) (hb hbytes d55) hl)⟩
theorem pays {l : Launch} {R : Room} {p : Program} {e : Env} {below : List Frame} {s : State} {sargs : Array Value} {len W : Nat} (x t : Addr) (V : Cell) (cd : Int32) (n : Nat) (f : Nat → Int32) (y t' : Addr) (V' : Cell) (cd' : Int32) (k : Nat) (g : Nat → Int32) (z : Int32) (htab : tab.before sargs s = true) (hfr : 2 ≤ R.frames) (hlo : W + 28 ≤ R.locals) :
    Back l R p e below s sargs yN len W (fun A₁ a₁ => A₁.cells + 0 ≤ R.cells ∧ A₁.slots + 0 ≤ R.slots ∧ P x t V cd n f y t' V' cd' k g z a₁ A₁.U) (fun A₁ _ v₁ B₁ => Says01 (SameT n f k g) v₁ A₁.U B₁.U ∧ B₁.locs = A₁.locs ++ [] ∧ B₁.cells = A₁.cells + 0 ∧ B₁.slots = A₁.slots + 0) :=
  (law l x t V cd n f y t' V' cd' k g z).pays htab hfr (by omega)
end SEq
end StrChars
namespace StrChars.Road
open Jvm Sem ClassFile Op Lib Jvm.Stand Jvm.Free Jvm.Free.XT
open Jvm.Lib.Cold (StaticIs)
/-- the words of String.equals(Object) -/
abbrev wordsEq : List Jvm.Cond := [.code SEq.yN SEq.yB 3 (some .boolean), .initialized ST, .classLink ST 10 ST, .fieldLink ST 38 ST "COMPACT_STRINGS" "Z", .fieldLink ST 15 ST "coder" "B", .fieldLink ST 9 ST "value" "[B", .methodLink ST 541 LEq.yN, .static LEq.yN, .code LEq.yN LEq.yB 3 (some .boolean), .initialized "java/lang/StringLatin1"]
theorem tabEq_of {a : Array Value} {s : State} (h : ∀ w ∈ wordsEq, w.before a s = true) : SEq.tab.before a s = true := by
  have hl : LEq.tab.before a s = true := unparts (wk h (.code LEq.yN LEq.yB 3 (some .boolean))) (wks h (.initialized LEq.yN.cls :: LEq.site))
  have q := consq hl h
  exact unparts (wk q (.code SEq.yN SEq.yB 3 (some .boolean))) (wks q (.initialized SEq.yN.cls :: SEq.site))
theorem movedEq {Z s : State} {a0 args : Array Value} (hZ : Z.Warmed39 s.vm) (hw : ∀ d ∈ wordsEq, d.before a0 Z = true) : ∀ d ∈ wordsEq, d.before args s = true := fun d hd => by
  have t : ∀ d ∈ wordsEq, (d.onTables && d.keepsFace) = true := by decide +kernel
  exact RoadKit.mv hZ (hw d hd) (t d hd)
/-- the road's facts of a String, as the laws ask it -/
theorem txt_of {Z U : State} {a0 : Array Value} {kI : Nat} (wi : (Jvm.Cond.instantiable ST kI).before a0 Z = true) (al : Z.vm.Alike U.vm) {x t : Addr} {kb : ClassId} {cs : List Int32} {cd N2 : Int32} {vs : List Value} (E : RoadKit.Exa Z U.heap x ST) (V : RoadKit.Fld Z U.heap x ST "value" "[B" (.ref t)) (C : RoadKit.Fld Z U.heap x ST "coder" "B" (.int cd)) (K : RoadKit.Arv Z U.heap t kb .byte N2 vs (.int 0)) (hc : CodA cs cd N2 vs) (hb : ∀ c ∈ cs, ¬ c < 0 ∧ ¬ (65535 : Int32) < c) (l2 : cs.length ≤ 4000) :
    ∃ A, Txt x t A cd cs.length (fun j => cs.getD j 0) U := by
  obtain ⟨A, K1, K2, K3, K4, K5, K6⟩ := K
  have hcod := hc.cod (by omega) K3 K5
  obtain ⟨D, fV, fC, hB, F1, F2, g1, g2, -, -⟩ := strObj wi al E V C
  exact ⟨A, ⟨_, hB.2.2.1, D, hB.1, rfl, by cases q : D.vm <;> first | rfl | exact absurd q (hB.2.1.2 _)⟩, Has.of hB F1 g1, Has.of hB F2 g2, ⟨K1.1, State.isArrayOf_alike al K1.2.1, K1.2.2, by rcases hcod with ⟨-, q, -⟩ | ⟨-, q, -⟩ <;> omega⟩, hcod, fun j hj => by
    have e : cs.getD j 0 = cs[j] := by simp [List.getD_eq_getElem?_getD, hj]
    show ¬ cs.getD j 0 < 0 ∧ ¬ 65535 < cs.getD j 0
    rw [e]; exact hb _ (List.getElem_mem _)⟩
theorem same_list (cs ds : List Int32) : SameT cs.length (fun j => cs.getD j 0) ds.length (fun j => ds.getD j 0) ↔ cs = ds := by
  constructor
  · rintro ⟨e, q⟩
    refine List.ext_getElem e fun j h1 h2 => ?_
    have := q j h1
    simpa [List.getD_eq_getElem?_getD, h1, h2] using this
  · rintro rfl
    exact ⟨rfl, fun _ _ => rfl⟩
/-- **equals(Object) OF TWO SUCH STRINGS**: 1 just where the chars are the same -/
theorem eqW {p : Program} {l : Launch} {e : Env} {R : Room} {s : State} {args : Array Value} {below : List Frame} {len W : Nat} {Z : State} {a0 : Array Value} {h : Heap} (hZ : Z.Warmed39 s.vm) (hw : ∀ d ∈ wordsEq, d.before a0 Z = true) {kI : Nat} (wi : (Jvm.Cond.instantiable ST kI).before a0 Z = true)
    {x t : Addr} {kb : ClassId} {cs : List Int32} {cd N2 : Int32} {vs : List Value} (E : RoadKit.Exa Z h x ST) (V : RoadKit.Fld Z h x ST "value" "[B" (.ref t)) (C : RoadKit.Fld Z h x ST "coder" "B" (.int cd)) (K : RoadKit.Arv Z h t kb .byte N2 vs (.int 0)) (hc : CodA cs cd N2 vs) (hb : ∀ c ∈ cs, ¬ c < 0 ∧ ¬ (65535 : Int32) < c) (l2 : cs.length ≤ 4000)
    {y t' : Addr} {kb' : ClassId} {ds : List Int32} {cd' N2' : Int32} {vs' : List Value} (E' : RoadKit.Exa Z h y ST) (V' : RoadKit.Fld Z h y ST "value" "[B" (.ref t')) (C' : RoadKit.Fld Z h y ST "coder" "B" (.int cd')) (K' : RoadKit.Arv Z h t' kb' .byte N2' vs' (.int 0)) (hc' : CodA ds cd' N2' vs') (hb' : ∀ c ∈ ds, ¬ c < 0 ∧ ¬ (65535 : Int32) < c) (l2' : ds.length ≤ 4000)
    {z : Int32} (S : RoadKit.Sta Z h ST "COMPACT_STRINGS" "Z" (.int z)) (hz : ¬ z = 0) (hfr : 2 ≤ R.frames) (hlo : W + 28 ≤ R.locals) :
    Back l R p e below s args (⟨"java/lang/String", "equals", "(Ljava/lang/Object;)Z"⟩ : MethodName) len W (fun P a => a = #[.ref x, .ref y] ∧ P.U.heap = h ∧ P.cells + 0 ≤ R.cells ∧ P.slots + 0 ≤ R.slots)
      (fun P _ v B => ∃ L, (((v = some (.int 1) ∧ cs = ds) ∨ (v = some (.int 0) ∧ ¬ cs = ds)) ∧ L = [] ∧ B.U.heap = h) ∧ B.locs = P.locs ++ L ∧ B.cells = P.cells + 0 ∧ B.slots = P.slots + 0) := by
  intro m meth c P g ig mk a X hg hsize hdg hW hn hp'
  obtain ⟨rfl, rfl, r1, r2⟩ := hp'
  have al : Z.vm.Alike P.U.vm := hZ.alike.trans X.warmed.alike
  obtain ⟨A, hx⟩ := txt_of wi al E V C K hc hb l2
  obtain ⟨A', hy⟩ := txt_of wi al E' V' C' K' hc' hb' l2'
  obtain ⟨v, B, X', ⟨⟨w, hv, hh, hq⟩, hl, hk, hs⟩, st⟩ := SEq.pays x t A cd cs.length (fun j => cs.getD j 0) y t' A' cd' ds.length (fun j => ds.getD j 0) z (tabEq_of (movedEq hZ hw)) hfr hlo m meth c P g ig mk _ X hg hsize hdg hW hn ⟨r1, r2, rfl, hx, hy, sta_is al S, hz⟩
  refine ⟨v, B, X', ⟨[], ⟨?_, rfl, hh⟩, hl, hk, hs⟩, st⟩
  rcases hq with ⟨rfl, q⟩ | ⟨rfl, q⟩
  · exact Or.inl ⟨hv, (same_list cs ds).mp q⟩
  · exact Or.inr ⟨hv, fun e => q ((same_list cs ds).mpr e)⟩
end StrChars.Road
namespace StrChars.Road
open Jvm Sem ClassFile Op Lib Jvm.Stand Jvm.Free Jvm.Free.XT
open Jvm.Lib.Cold (StaticIs)
/-- what backV says of its String, as the contracts of this text ask it: cs's low bytes, coder 0 -/
theorem codOf {cs : List Int32} {n : Nat} (hn : cs.length = n) (hb : ∀ c ∈ cs, ¬ 255 < c) : CodA cs 0 (Int32.ofNat n) ((cs.map lo8).map Value.int) := Or.inl ⟨rfl, by rw [hn], by simp [List.map_map, Function.comp_def], hb⟩
end StrChars.Road
end Jvm.Pilot.@@N@@

namespace Jvm.Pilot.@@N@@
open Jvm Jvm.ClassFile Sem Op Lib Jvm.Free Jvm.Stand Jvm.LawKit Jvm.RoadKit Bundle Jvm.Pilot.@@N@@.Jvm.D
section Own
variable {p : Program} {l : Launch} {e : Env} {R : Room} {s : State} {m : MethodId} {args : Array Value} {below : List Frame} {meth : Method} {c : Code} {T : State} {locs : List Loc} {cells slots : Nat}
theorem own_retI (X : Stand p l e R s m args below meth c T locs cells slots) (hx : p.tables.exec = Jvm.exec) {pc : Nat} {Ls : Array Slot} {z : Int32} {rest : List Value} (hret : meth.sig.returnType = some .int) (hd : decode c.code pc = .ok (.ireturn, 1)) {fs : List Frame}
    (hl : ∀ (f : JFrame) (acts : List Action), f.method = m → f.locked = none → f.entered = [] → (doReturn e (T.setTop f) acts (some (.int z))).1 = T.setFrames fs) : Steps p.tables e below (T.setTop (mkF m pc Ls (.int z :: rest))) (T.setFrames fs) := by
  have hm' : T.vm.method? m = some meth := X.method'
  have hn : narrow .int (.int z) = .int z := rfl
  show Steps p.tables e below (T.setTop { method := m, pc := pc, locals := Ls, stack := _ :: rest, locked := none }) _
  jvm_step X.here [X.here.top, hx, hd, hm', hret, hn]
  first | (intro acts; rw [hl _ acts rfl rfl rfl]) | rw [hl _ _ rfl rfl rfl]
  exact Steps.refl _
/-- from the state S the invocation comes to an end at which Post holds -/
def own_Go (p : Program) (e : Env) (below : List Frame) (Post : Outcome → State → Prop) (S : State) : Prop := ∃ s₂ o, Steps p.tables e below S s₂ ∧ s₂.status = .running ∧ Ended s₂ below o ∧ Post o s₂
theorem own_Go.of {Post : Outcome → State → Prop} {S S' : State} (k : ∀ target, Steps p.tables e below S' target → Steps p.tables e below S target) (h : own_Go p e below Post S') : own_Go p e below Post S := by
  obtain ⟨s₂, o, h1, h2⟩ := h
  exact ⟨s₂, o, k _ h1, h2⟩
theorem own_Go.tr {Post : Outcome → State → Prop} {S S' : State} (k : Steps p.tables e below S S') (h : own_Go p e below Post S') : own_Go p e below Post S := by
  obtain ⟨s₂, o, h1, h2⟩ := h
  exact ⟨s₂, o, k.trans h1, h2⟩
theorem own_retP (X : Stand p l e R s m args below meth c T locs cells slots) {v : Option Value} {Q : Option Value → Heap → List Loc → Prop} {C S : Nat} {g : JFrame} (hv : meth.sig.returnType = none → v = none) (hlk : meth.locks = false)
    (st : ∀ fs, (∀ (f : JFrame) (acts : List Action), f.method = m → f.locked = none → f.entered = [] → (doReturn e (T.setTop f) acts v).1 = T.setFrames fs) → Steps p.tables e below (T.setTop g) (T.setFrames fs)) (hc : cells ≤ C) (hs : slots ≤ S) (hQ : Q v T.heap locs) :
    own_Go p e below (fun o U' => ∃ v L, o = .returned v ∧ Q v U'.heap L ∧ FrameEnd s o U' L C S) (T.setTop g) := by
  obtain ⟨fs, hr, hrun, hended, hW, hsame⟩ := X.leave (v := v) hv hlk
  exact ⟨_, _, st fs hr, hrun, hended, _, _, rfl, hQ, ⟨_, rfl⟩, hW, hsame.mono hc hs⟩
theorem own_nar_ref {t : FieldType} {v : Value} (h : v.isRef = true) : narrow t v = v := by
  cases v <;> first | (cases t <;> rfl) | cases h
theorem own_cP {pc : Nat} {Ls : Array Slot} {S rest : List Value} {Post : Outcome → State → Prop} {Q : Option Value → Heap → List Loc → Prop} {j n : Nat} (X : Stand p l e R s m args below meth c T locs cells slots)
    (H : ∃ (v : Option Value) (vm₁ : Vm) (B : Pt), s.WarmedH vm₁ ∧ Stand p l e R s m args below meth c B.U B.locs B.cells B.slots ∧ (∃ L, Q v B.U.heap L ∧ B.locs = locs ++ L ∧ B.cells = cells + j ∧ B.slots = slots + n) ∧ Steps p.tables e below (T.setTop (mkF m pc Ls S)) (B.U.setTop (mkF m (pc + 3) Ls (v.toList ++ rest))))
    (k : ∀ v T' L, Stand p l e R s m args below meth c T' (locs ++ L) (cells + j) (slots + n) → Q v T'.heap L → own_Go p e below Post (T'.setTop (mkF m (pc + 3) Ls (v.toList ++ rest)))) : own_Go p e below Post (T.setTop (mkF m pc Ls S)) := by
  obtain ⟨v, vm₁, ⟨T', L', c', n'⟩, -, X', ⟨L, hQ, e1, e2, e3⟩, st⟩ := H
  dsimp only [Pt.U, Pt.locs, Pt.cells, Pt.slots] at X' e1 e2 e3 st hQ
  subst e1 e2 e3
  exact own_Go.tr st (k v T' L X' hQ)
theorem own_cF {pc : Nat} {Ls : Array Slot} {S rest : List Value} {Post : Outcome → State → Prop} {Q : Option Value → Heap → List Loc → Prop} {j n : Nat} (X : Stand p l e R s m args below meth c T locs cells slots)
    (H : ∃ (v : Option Value) (vm₁ : Vm) (B : Pt), s.WarmedH vm₁ ∧ Stand p l e R s m args below meth c B.U B.locs B.cells B.slots ∧ (∃ L, Q v B.U.heap L ∧ B.locs = locs ++ L ∧ B.cells = cells + j ∧ B.slots = slots + n) ∧ ∀ target, Steps p.tables e below (B.U.setTop (mkF m (pc + 3) Ls (v.toList ++ rest))) target → Steps p.tables e below (T.setTop (mkF m pc Ls S)) target)
    (k : ∀ v T' L, Stand p l e R s m args below meth c T' (locs ++ L) (cells + j) (slots + n) → Q v T'.heap L → own_Go p e below Post (T'.setTop (mkF m (pc + 3) Ls (v.toList ++ rest)))) : own_Go p e below Post (T.setTop (mkF m pc Ls S)) := by
  obtain ⟨v, vm₁, ⟨T', L', c', n'⟩, -, X', ⟨L, hQ, e1, e2, e3⟩, st⟩ := H
  dsimp only [Pt.U, Pt.locs, Pt.cells, Pt.slots] at X' e1 e2 e3 st hQ
  subst e1 e2 e3
  exact own_Go.of st (k v T' L X' hQ)
abbrev own_MP (l : Launch) (y : MethodName) (b : ByteArray) (ml : Nat) (rt : Option FieldType) (ws : List Jvm.Cond) (R : Room) (Z : State) (h0 : Heap) (as : Array Value) (K : Program → Env → List Frame → State → Array Value → Prop) (Q : Option Value → Heap → List Loc → Prop) : Prop :=
  MetFree l y (head1 (Jvm.Cond.code y b ml rt :: ws) R) (fun a U => a = as ∧ Z.Warmed39 U.vm ∧ U.heap = h0) K (fun _ U o U' => ∃ v L, o = .returned v ∧ Q v U'.heap L ∧ FrameEnd U o U' L R.cells R.slots)
theorem own_startP {l : Launch} {y : MethodName} {b : ByteArray} {ml : Nat} {rt : Option FieldType} {ws : List Jvm.Cond} {R : Room} {Z : State} {h0 : Heap} {as : Array Value} {K : Program → Env → List Frame → State → Array Value → Prop} {Q : Option Value → Heap → List Loc → Prop} (hpn : plainFor y = true)
    (h : ∀ (p : Program) (e : Env) (s : State) (m : MethodId) (below : List Frame) (meth : Method) (c : Code) (s₁ : State), BodyLoose p l y (head1 (Jvm.Cond.code y b ml rt :: ws) R) b ml rt e s m as below meth c s₁ → p.tables.exec = Jvm.exec → c.code = b → c.maxLocals = ml → s.vm.findClass y.cls = some m.cls → Stand p l e R s m as below meth c s₁ [] 0 0 → s₁.heap = h0 → s.heap = h0 → Z.Warmed39 s.vm → K p e below s as →
      ∀ Pst : Outcome → State → Prop, Pst = (fun o U' => ∃ v L, o = .returned v ∧ Q v U'.heap L ∧ FrameEnd s o U' L R.cells R.slots) → own_Go p e below Pst (s₁.setTop (entryFrame m as ml))) : own_MP l y b ml rt ws R Z h0 as K Q := by
  refine MetFree.of_bodySF hpn hisR ?_
  intro p e s m args below meth c s₁ Bd hml0 hP hK
  obtain ⟨rfl, hZ, hh0⟩ := hP
  exact h p e s m below meth c s₁ Bd Bd.exec Bd.bytes hml0 (findClass_of_methodNamed Bd.named) (Stand.of_body Bd) (by rw [← hh0, Bd.state]; rfl) hh0 hZ hK _ rfl
end Own
section OwnS
variable {p : Program} {l : Launch} {e : Env} {R : Room} {s : State} {m : MethodId} {args : Array Value} {below : List Frame} {meth : Method} {c : Code} {T : State} {locs : List Loc} {cells slots : Nat}
theorem own_retW {Z : State} {EL : List (String × Nat)} {vm₁ : Vm} (X : Stand p l e R (s.setVm vm₁) m args below meth c T locs cells slots) {n : Nat} (hS : s.Since vm₁ n) (hn : n ≤ T.heap.size) {v : Option Value} {Q : Option Value → Heap → List Loc → Prop} {C S : Nat} {g : JFrame} (hv : meth.sig.returnType = none → v = none) (hlk : meth.locks = false)
    (st : ∀ fs, (∀ (f : JFrame) (acts : List Action), f.method = m → f.locked = none → f.entered = [] → (doReturn e (T.setTop f) acts v).1 = T.setFrames fs) → Steps p.tables e below (T.setTop g) (T.setFrames fs)) (hc : cells ≤ C) (hs : slots ≤ S) (hCH : CHr Z EL s.vm s.heap T.vm T.heap) (hQ : Q v T.heap locs) :
    own_Go p e below (fun o U' => ∃ v L, o = .returned v ∧ Q v U'.heap L ∧ CHr Z EL s.vm s.heap U'.vm U'.heap ∧ ReturnedEndW s o U' L C S) (T.setTop g) := by
  obtain ⟨fs, hr, hrun, hended, h1, h2, h3, h4⟩ := X.leaveW hS hn (v := v) hv hlk
  exact ⟨_, _, st fs hr, hrun, hended, _, _, rfl, hQ, hCH, h1, h2, h3, h4.mono hc hs⟩
theorem own_cS {Z : State} {EL : List (String × Nat)} {vm0 : Vm} {k0 : Nat} {own : String} {h : Heap} {pc : Nat} {Ls : Array Slot} {S rest : List Value} {Post : Outcome → State → Prop} {Q : Option Value → Heap → List Loc → Prop} {j n : Nat} (X : Stand p l e R (s.setVm vm0) m args below meth c T locs cells slots) (hS : s.Since vm0 k0) (hk : k0 ≤ T.heap.size) (hZ : Z.Warmed39 (s.setVm vm0).vm) (hown : (s.setVm vm0).vm.findClass own = some m.cls)
    (H : ∃ (v : Option Value) (vm₁ : Vm) (B : Pt), (s.setVm vm0).WarmedH vm₁ ∧ Stand p l e R ((s.setVm vm0).setVm B.U.vm) m args below meth c B.U B.locs B.cells B.slots ∧ (s.setVm vm0).Since B.U.vm B.U.heap.size ∧ T.heap.size ≤ B.U.heap.size ∧ (∃ L, Q v B.U.heap L ∧ B.locs = locs ++ L ∧ B.cells = cells + j ∧ B.slots = slots + n ∧ CHr Z EL vm0 h B.U.vm B.U.heap) ∧ Steps p.tables e below (T.setTop (mkF m pc Ls S)) (B.U.setTop (mkF m (pc + 3) Ls (v.toList ++ rest))))
    (k : ∀ v T' L, Stand p l e R (s.setVm T'.vm) m args below meth c T' (locs ++ L) (cells + j) (slots + n) → s.Since T'.vm T'.heap.size → Z.Warmed39 (s.setVm T'.vm).vm → (s.setVm T'.vm).vm.findClass own = some m.cls → Q v T'.heap L → CHr Z EL vm0 h T'.vm T'.heap → own_Go p e below Post (T'.setTop (mkF m (pc + 3) Ls (v.toList ++ rest)))) : own_Go p e below Post (T.setTop (mkF m pc Ls S)) := by
  obtain ⟨v, vm₁, ⟨T', L', c', n'⟩, -, X', hs, gr, ⟨L, hQ, e1, e2, e3, cr⟩, st⟩ := H
  dsimp only [Pt.U, Pt.locs, Pt.cells, Pt.slots] at X' e1 e2 e3 st hQ hs gr cr
  subst e1 e2 e3
  obtain ⟨q1, q2, q3, q4⟩ := rebS hS hk X' hs gr hZ hown
  exact own_Go.tr st (k v T' L q1 q2 q3 q4 hQ cr)
abbrev own_MS (EL : List (String × Nat)) (l : Launch) (y : MethodName) (b : ByteArray) (ml : Nat) (rt : Option FieldType) (ws : List Jvm.Cond) (R : Room) (Z : State) (h0 : Heap) (as : Array Value) (K : Program → Env → List Frame → State → Array Value → Prop) (Q : Option Value → Heap → List Loc → Prop) : Prop :=
  MetFree l y (head1 (Jvm.Cond.code y b ml rt :: ws) R) (fun a U => a = as ∧ Z.Warmed39 U.vm ∧ U.heap = h0 ∧ CHv Z EL U.vm h0) K (fun _ U o U' => ∃ v L, o = .returned v ∧ Q v U'.heap L ∧ CHr Z EL U.vm U.heap U'.vm U'.heap ∧ ReturnedEndW U o U' L R.cells R.slots)
theorem own_startS {EL : List (String × Nat)} {l : Launch} {y : MethodName} {b : ByteArray} {ml : Nat} {rt : Option FieldType} {ws : List Jvm.Cond} {R : Room} {Z : State} {h0 : Heap} {as : Array Value} {K : Program → Env → List Frame → State → Array Value → Prop} {Q : Option Value → Heap → List Loc → Prop} (hpn : plainFor y = true)
    (h : ∀ (p : Program) (e : Env) (s : State) (m : MethodId) (below : List Frame) (meth : Method) (c : Code) (s₁ : State), BodyLoose p l y (head1 (Jvm.Cond.code y b ml rt :: ws) R) b ml rt e s m as below meth c s₁ → p.tables.exec = Jvm.exec → c.code = b → c.maxLocals = ml → s.vm.findClass y.cls = some m.cls → Stand p l e R (s.setVm s.vm) m as below meth c s₁ [] 0 0 → s₁.heap = h0 → s.heap = h0 → Z.Warmed39 s.vm → CHv Z EL s.vm h0 → s.Since s.vm 0 → K p e below s as →
      ∀ Pst : Outcome → State → Prop, Pst = (fun o U' => ∃ v L, o = .returned v ∧ Q v U'.heap L ∧ CHr Z EL s.vm s.heap U'.vm U'.heap ∧ ReturnedEndW s o U' L R.cells R.slots) → own_Go p e below Pst (s₁.setTop (entryFrame m as ml))) : own_MS EL l y b ml rt ws R Z h0 as K Q := by
  refine MetFree.of_bodySF hpn hisR ?_
  intro p e s m args below meth c s₁ Bd hml0 hP hK
  obtain ⟨rfl, hZ, hh0, hCH⟩ := hP
  exact h p e s m below meth c s₁ Bd Bd.exec Bd.bytes hml0 (findClass_of_methodNamed Bd.named) (Stand.of_body Bd) (by rw [← hh0, Bd.state]; rfl) hh0 hZ hCH ((State.WarmedH.refl s).since 0) hK _ rfl
end OwnS
section OwnX
variable {p : Program} {e : Env} {m : MethodId} {below : List Frame} {c : Code} {T : State}
theorem o_aconstNull {pc : Nat} {Ls : Array Slot} {S : List Value} {Post : Outcome → State → Prop} (h : At T m c below) (hx : p.tables.exec = Jvm.exec) (hd : decode c.code pc = .ok (.aconst_null, 1)) (hr : own_Go p e below Post (T.setTop (mkF m (pc + 1) (Ls) (.null :: S)))) : own_Go p e below Post (T.setTop (mkF m pc Ls S)) := own_Go.of (fun t k => XS.aconstNull h hx rfl hd k) hr
theorem o_aload {pc : Nat} {Ls : Array Slot} {S : List Value} {Post : Outcome → State → Prop} (h : At T m c below) (hx : p.tables.exec = Jvm.exec) {k : Nat} {v : Value} (hd : decode c.code pc = .ok (.aload k, 2)) (hl : Ls[k]? = some (.val v)) (hv : v.isRef = true) (hr : own_Go p e below Post (T.setTop (mkF m (pc + 2) (Ls) (v :: S)))) : own_Go p e below Post (T.setTop (mkF m pc Ls S)) := own_Go.of (fun t k => XS.aload h hx rfl hd hl hv k) hr
theorem o_aloadN {pc : Nat} {Ls : Array Slot} {S : List Value} {Post : Outcome → State → Prop} (h : At T m c below) (hx : p.tables.exec = Jvm.exec) {k : Fin 4} {v : Value} (hd : decode c.code pc = .ok (.aload_n k, 1)) (hl : Ls[k.val]? = some (.val v)) (hv : v.isRef = true) (hr : own_Go p e below Post (T.setTop (mkF m (pc + 1) (Ls) (v :: S)))) : own_Go p e below Post (T.setTop (mkF m pc Ls S)) := own_Go.of (fun t k => XS.aloadN h hx rfl hd hl hv k) hr
theorem o_astore {pc : Nat} {Ls : Array Slot} {S : List Value} {Post : Outcome → State → Prop} (h : At T m c below) (hx : p.tables.exec = Jvm.exec) {k : Nat} {x : Value} {rest : List Value} {l' : Array Slot} (hd : decode c.code pc = .ok (.astore k, 2)) (hs : S = x :: rest) (hv : x.isRef = true) (hl : storeLocals Ls k x = some l') (hr : own_Go p e below Post (T.setTop (mkF m (pc + 2) (l') (rest)))) : own_Go p e below Post (T.setTop (mkF m pc Ls S)) := own_Go.of (fun t k => XS.astore h hx rfl hd hs hv hl k) hr
theorem o_astoreN {pc : Nat} {Ls : Array Slot} {S : List Value} {Post : Outcome → State → Prop} (h : At T m c below) (hx : p.tables.exec = Jvm.exec) {k : Fin 4} {x : Value} {rest : List Value} {l' : Array Slot} (hd : decode c.code pc = .ok (.astore_n k, 1)) (hs : S = x :: rest) (hv : x.isRef = true) (hl : storeLocals Ls k.val x = some l') (hr : own_Go p e below Post (T.setTop (mkF m (pc + 1) (l') (rest)))) : own_Go p e below Post (T.setTop (mkF m pc Ls S)) := own_Go.of (fun t k => XS.astoreN h hx rfl hd hs hv hl k) hr
theorem o_bipush {pc : Nat} {Ls : Array Slot} {S : List Value} {Post : Outcome → State → Prop} (h : At T m c below) (hx : p.tables.exec = Jvm.exec) {i : Int} (hd : decode c.code pc = .ok (.bipush i, 2)) {z : Int32} (hz : (Int8.ofInt i).toInt32 = z) (hr : own_Go p e below Post (T.setTop (mkF m (pc + 2) (Ls) (.int z :: S)))) : own_Go p e below Post (T.setTop (mkF m pc Ls S)) := by subst hz; exact own_Go.of (fun t k => XS.bipush h hx rfl hd k) hr
theorem o_dup {pc : Nat} {Ls : Array Slot} {S : List Value} {Post : Outcome → State → Prop} (h : At T m c below) (hx : p.tables.exec = Jvm.exec) {x : Value} {rest : List Value} (hd : decode c.code pc = .ok (.dup, 1)) (hs : S = x :: rest) (hc : x.category = 1) (hr : own_Go p e below Post (T.setTop (mkF m (pc + 1) (Ls) (x :: x :: rest)))) : own_Go p e below Post (T.setTop (mkF m pc Ls S)) := own_Go.of (fun t k => XS.dup h hx rfl hd hs hc k) hr
theorem o_goto {pc : Nat} {Ls : Array Slot} {S : List Value} {Post : Outcome → State → Prop} (h : At T m c below) (hx : p.tables.exec = Jvm.exec) {o : Int} {pc0 pc' : Nat} (hpc : pc = pc0) (hd : decode c.code pc = .ok (.goto o, 3)) (ho : 0 ≤ (pc0 : Int) + o) (hp : ((pc0 : Int) + o).toNat = pc') (hr : own_Go p e below Post (T.setTop (mkF m (pc') (Ls) (S)))) : own_Go p e below Post (T.setTop (mkF m pc Ls S)) := own_Go.of (fun t k => XS.goto h hx rfl hpc hd ho hp k) hr
theorem o_i2c {pc : Nat} {Ls : Array Slot} {S : List Value} {Post : Outcome → State → Prop} (h : At T m c below) (hx : p.tables.exec = Jvm.exec) {v : Int32} {rest : List Value} (hd : decode c.code pc = .ok (.i2c, 1)) (hs : S = .int v :: rest) (hr : own_Go p e below Post (T.setTop (mkF m (pc + 1) (Ls) (.int (v.toUInt32.toUInt16.toUInt32.toInt32) :: rest)))) : own_Go p e below Post (T.setTop (mkF m pc Ls S)) := own_Go.of (fun t k => XS.i2c h hx rfl hd hs k) hr
theorem o_iadd {pc : Nat} {Ls : Array Slot} {S : List Value} {Post : Outcome → State → Prop} (h : At T m c below) (hx : p.tables.exec = Jvm.exec) {x y : Int32} {rest : List Value} (hd : decode c.code pc = .ok (.iadd, 1)) (hs : S = .int y :: .int x :: rest) (hr : own_Go p e below Post (T.setTop (mkF m (pc + 1) (Ls) (.int (x + y) :: rest)))) : own_Go p e below Post (T.setTop (mkF m pc Ls S)) := own_Go.of (fun t k => XS.iadd h hx rfl hd hs k) hr
theorem o_iand {pc : Nat} {Ls : Array Slot} {S : List Value} {Post : Outcome → State → Prop} (h : At T m c below) (hx : p.tables.exec = Jvm.exec) {x y : Int32} {rest : List Value} (hd : decode c.code pc = .ok (.iand, 1)) (hs : S = .int y :: .int x :: rest) (hr : own_Go p e below Post (T.setTop (mkF m (pc + 1) (Ls) (.int (x &&& y) :: rest)))) : own_Go p e below Post (T.setTop (mkF m pc Ls S)) := own_Go.of (fun t k => XS.iand h hx rfl hd hs k) hr
theorem o_icmpNo {pc : Nat} {Ls : Array Slot} {S : List Value} {Post : Outcome → State → Prop} (h : At T m c below) (hx : p.tables.exec = Jvm.exec) {cd : ClassFile.Cond} {o : Int} {x y : Int32} {rest : List Value} (hd : decode c.code pc = .ok (.if_icmp cd o, 3)) (hs : S = .int y :: .int x :: rest) (hc : if_icmp.holds cd x y = false) (hr : own_Go p e below Post (T.setTop (mkF m (pc + 3) (Ls) (rest)))) : own_Go p e below Post (T.setTop (mkF m pc Ls S)) := own_Go.of (fun t k => XS.icmpNo h hx rfl hd hs hc k) hr
theorem o_icmpYes {pc : Nat} {Ls : Array Slot} {S : List Value} {Post : Outcome → State → Prop} (h : At T m c below) (hx : p.tables.exec = Jvm.exec) {cd : ClassFile.Cond} {x y : Int32} {rest : List Value} {o : Int} {pc0 pc' : Nat} (hpc : pc = pc0) (hd : decode c.code pc = .ok (.if_icmp cd o, 3)) (hs : S = .int y :: .int x :: rest) (hc : if_icmp.holds cd x y = true) (ho : 0 ≤ (pc0 : Int) + o) (hp : ((pc0 : Int) + o).toNat = pc') (hr : own_Go p e below Post (T.setTop (mkF m (pc') (Ls) (rest)))) : own_Go p e below Post (T.setTop (mkF m pc Ls S)) := own_Go.of (fun t k => XS.icmpYes h hx rfl hpc hd hs hc ho hp k) hr
theorem o_iconst {pc : Nat} {Ls : Array Slot} {S : List Value} {Post : Outcome → State → Prop} (h : At T m c below) (hx : p.tables.exec = Jvm.exec) {i : Int} (hd : decode c.code pc = .ok (.iconst i, 1)) {z : Int32} (hz : (Int32.ofInt i) = z) (hr : own_Go p e below Post (T.setTop (mkF m (pc + 1) (Ls) (.int z :: S)))) : own_Go p e below Post (T.setTop (mkF m pc Ls S)) := by subst hz; exact own_Go.of (fun t k => XS.iconst h hx rfl hd k) hr
theorem o_ifNo {pc : Nat} {Ls : Array Slot} {S : List Value} {Post : Outcome → State → Prop} (h : At T m c below) (hx : p.tables.exec = Jvm.exec) {cd : ClassFile.Cond} {o : Int} {x : Int32} {rest : List Value} (hd : decode c.code pc = .ok (.ifCond cd o, 3)) (hs : S = .int x :: rest) (hc : ifCond.holds cd x = false) (hr : own_Go p e below Post (T.setTop (mkF m (pc + 3) (Ls) (rest)))) : own_Go p e below Post (T.setTop (mkF m pc Ls S)) := own_Go.of (fun t k => XS.ifNo h hx rfl hd hs hc k) hr
theorem o_ifYes {pc : Nat} {Ls : Array Slot} {S : List Value} {Post : Outcome → State → Prop} (h : At T m c below) (hx : p.tables.exec = Jvm.exec) {cd : ClassFile.Cond} {x : Int32} {rest : List Value} {o : Int} {pc0 pc' : Nat} (hpc : pc = pc0) (hd : decode c.code pc = .ok (.ifCond cd o, 3)) (hs : S = .int x :: rest) (hc : ifCond.holds cd x = true) (ho : 0 ≤ (pc0 : Int) + o) (hp : ((pc0 : Int) + o).toNat = pc') (hr : own_Go p e below Post (T.setTop (mkF m (pc') (Ls) (rest)))) : own_Go p e below Post (T.setTop (mkF m pc Ls S)) := own_Go.of (fun t k => XS.ifYes h hx rfl hpc hd hs hc ho hp k) hr
theorem o_ifnonnullNo {pc : Nat} {Ls : Array Slot} {S : List Value} {Post : Outcome → State → Prop} (h : At T m c below) (hx : p.tables.exec = Jvm.exec) {o : Int} {rest : List Value} (hd : decode c.code pc = .ok (.ifnonnull o, 3)) (hs : S = .null :: rest) (hr : own_Go p e below Post (T.setTop (mkF m (pc + 3) (Ls) (rest)))) : own_Go p e below Post (T.setTop (mkF m pc Ls S)) := own_Go.of (fun t k => XS.ifnonnullNo h hx rfl hd hs k) hr
theorem o_ifnonnullYes {pc : Nat} {Ls : Array Slot} {S : List Value} {Post : Outcome → State → Prop} (h : At T m c below) (hx : p.tables.exec = Jvm.exec) {b : Addr} {rest : List Value} {o : Int} {pc0 pc' : Nat} (hpc : pc = pc0) (hd : decode c.code pc = .ok (.ifnonnull o, 3)) (hs : S = .ref b :: rest) (ho : 0 ≤ (pc0 : Int) + o) (hp : ((pc0 : Int) + o).toNat = pc') (hr : own_Go p e below Post (T.setTop (mkF m (pc') (Ls) (rest)))) : own_Go p e below Post (T.setTop (mkF m pc Ls S)) := own_Go.of (fun t k => XS.ifnonnullYes h hx rfl hpc hd hs ho hp k) hr
theorem o_iinc {pc : Nat} {Ls : Array Slot} {S : List Value} {Post : Outcome → State → Prop} (h : At T m c below) (hx : p.tables.exec = Jvm.exec) {k : Nat} {cst : Int} {x : Int32} {l' : Array Slot} (hd : decode c.code pc = .ok (.iinc k cst, 3)) (hl : Ls[k]? = some (.val (.int x))) (hl' : storeLocals Ls k (.int (x + Int32.ofInt cst)) = some l') (hr : own_Go p e below Post (T.setTop (mkF m (pc + 3) (l') (S)))) : own_Go p e below Post (T.setTop (mkF m pc Ls S)) := own_Go.of (fun t k => XS.iinc h hx rfl hd hl hl' k) hr
theorem o_iload {pc : Nat} {Ls : Array Slot} {S : List Value} {Post : Outcome → State → Prop} (h : At T m c below) (hx : p.tables.exec = Jvm.exec) {k : Nat} {v : Int32} (hd : decode c.code pc = .ok (.iload k, 2)) (hl : Ls[k]? = some (.val (.int v))) (hr : own_Go p e below Post (T.setTop (mkF m (pc + 2) (Ls) (.int v :: S)))) : own_Go p e below Post (T.setTop (mkF m pc Ls S)) := own_Go.of (fun t k => XS.iload h hx rfl hd hl k) hr
theorem o_iloadN {pc : Nat} {Ls : Array Slot} {S : List Value} {Post : Outcome → State → Prop} (h : At T m c below) (hx : p.tables.exec = Jvm.exec) {k : Fin 4} {v : Int32} (hd : decode c.code pc = .ok (.iload_n k, 1)) (hl : Ls[k.val]? = some (.val (.int v))) (hr : own_Go p e below Post (T.setTop (mkF m (pc + 1) (Ls) (.int v :: S)))) : own_Go p e below Post (T.setTop (mkF m pc Ls S)) := own_Go.of (fun t k => XS.iloadN h hx rfl hd hl k) hr
theorem o_ishl {pc : Nat} {Ls : Array Slot} {S : List Value} {Post : Outcome → State → Prop} (h : At T m c below) (hx : p.tables.exec = Jvm.exec) {x : Int32} {y : Int32} {rest : List Value} (hd : decode c.code pc = .ok (.ishl, 1)) (hs : S = .int y :: .int x :: rest) (hr : own_Go p e below Post (T.setTop (mkF m (pc + 1) (Ls) (.int (x <<< (y &&& 31)) :: rest)))) : own_Go p e below Post (T.setTop (mkF m pc Ls S)) := own_Go.of (fun t k => XS.ishl h hx rfl hd hs k) hr
theorem o_ishr {pc : Nat} {Ls : Array Slot} {S : List Value} {Post : Outcome → State → Prop} (h : At T m c below) (hx : p.tables.exec = Jvm.exec) {x : Int32} {y : Int32} {rest : List Value} (hd : decode c.code pc = .ok (.ishr, 1)) (hs : S = .int y :: .int x :: rest) (hr : own_Go p e below Post (T.setTop (mkF m (pc + 1) (Ls) (.int (x >>> (y &&& 31)) :: rest)))) : own_Go p e below Post (T.setTop (mkF m pc Ls S)) := own_Go.of (fun t k => XS.ishr h hx rfl hd hs k) hr
theorem o_istore {pc : Nat} {Ls : Array Slot} {S : List Value} {Post : Outcome → State → Prop} (h : At T m c below) (hx : p.tables.exec = Jvm.exec) {k : Nat} {x : Int32} {rest : List Value} {l' : Array Slot} (hd : decode c.code pc = .ok (.istore k, 2)) (hs : S = .int x :: rest) (hl : storeLocals Ls k (.int x) = some l') (hr : own_Go p e below Post (T.setTop (mkF m (pc + 2) (l') (rest)))) : own_Go p e below Post (T.setTop (mkF m pc Ls S)) := own_Go.of (fun t k => XS.istore h hx rfl hd hs hl k) hr
theorem o_istoreN {pc : Nat} {Ls : Array Slot} {S : List Value} {Post : Outcome → State → Prop} (h : At T m c below) (hx : p.tables.exec = Jvm.exec) {k : Fin 4} {x : Int32} {rest : List Value} {l' : Array Slot} (hd : decode c.code pc = .ok (.istore_n k, 1)) (hs : S = .int x :: rest) (hl : storeLocals Ls k.val (.int x) = some l') (hr : own_Go p e below Post (T.setTop (mkF m (pc + 1) (l') (rest)))) : own_Go p e below Post (T.setTop (mkF m pc Ls S)) := own_Go.of (fun t k => XS.istoreN h hx rfl hd hs hl k) hr
theorem o_isub {pc : Nat} {Ls : Array Slot} {S : List Value} {Post : Outcome → State → Prop} (h : At T m c below) (hx : p.tables.exec = Jvm.exec) {x y : Int32} {rest : List Value} (hd : decode c.code pc = .ok (.isub, 1)) (hs : S = .int y :: .int x :: rest) (hr : own_Go p e below Post (T.setTop (mkF m (pc + 1) (Ls) (.int (x - y) :: rest)))) : own_Go p e below Post (T.setTop (mkF m pc Ls S)) := own_Go.of (fun t k => XS.isub h hx rfl hd hs k) hr
theorem o_iushr {pc : Nat} {Ls : Array Slot} {S : List Value} {Post : Outcome → State → Prop} (h : At T m c below) (hx : p.tables.exec = Jvm.exec) {x : Int32} {y : Int32} {rest : List Value} (hd : decode c.code pc = .ok (.iushr, 1)) (hs : S = .int y :: .int x :: rest) (hr : own_Go p e below Post (T.setTop (mkF m (pc + 1) (Ls) (.int ((x.toUInt32 >>> (y &&& 31).toUInt32).toInt32) :: rest)))) : own_Go p e below Post (T.setTop (mkF m pc Ls S)) := own_Go.of (fun t k => XS.iushr h hx rfl hd hs k) hr
theorem o_pop {pc : Nat} {Ls : Array Slot} {S : List Value} {Post : Outcome → State → Prop} (h : At T m c below) (hx : p.tables.exec = Jvm.exec) {x : Value} {rest : List Value} (hd : decode c.code pc = .ok (.pop, 1)) (hs : S = x :: rest) (hc : x.category = 1) (hr : own_Go p e below Post (T.setTop (mkF m (pc + 1) (Ls) (rest)))) : own_Go p e below Post (T.setTop (mkF m pc Ls S)) := own_Go.of (fun t k => XS.pop h hx rfl hd hs hc k) hr
theorem o_sipush {pc : Nat} {Ls : Array Slot} {S : List Value} {Post : Outcome → State → Prop} (h : At T m c below) (hx : p.tables.exec = Jvm.exec) {i : Int} (hd : decode c.code pc = .ok (.sipush i, 3)) {z : Int32} (hz : (Int16.ofInt i).toInt32 = z) (hr : own_Go p e below Post (T.setTop (mkF m (pc + 3) (Ls) (.int z :: S)))) : own_Go p e below Post (T.setTop (mkF m pc Ls S)) := by subst hz; exact own_Go.of (fun t k => XS.sipush h hx rfl hd k) hr
end OwnX
section OwnH
variable {p : Program} {l : Launch} {e : Env} {R : Room} {s : State} {m : MethodId} {args : Array Value} {below : List Frame} {meth : Method} {c : Code} {T : State} {locs : List Loc} {cells slots : Nat} {Z : State} {a0 : Array Value} {h : Heap} {Post : Outcome → State → Prop} {pc : Nat} {Ls : Array Slot} {S : List Value}
theorem p_getF (X : Stand p l e R s m args below meth c T locs cells slots) (hx : p.tables.exec = Jvm.exec) (hZ : Z.Warmed39 s.vm) {own R0 O n d host : String} {index : Nat} (hown : s.vm.findClass own = some m.cls) (w : (Cond.fieldLink own index R0 n d).before a0 Z = true ∨ (Cond.fieldLinkNest own index R0 n d host).before a0 Z = true) (via : Via Z R0 O n d) (eT : T.heap = h) {a : Addr} {v : Value} (F : Fld Z h a O n d v) {rest : List Value} (hs : S = .ref a :: rest) (hd : decode c.code pc = .ok (.getfield index, 3)) (k : ∀ T', Stand p l e R s m args below meth c T' locs cells slots → T'.heap = h → own_Go p e below Post (T'.setTop (mkF m (pc + 3) (Ls) (v :: rest)))) : own_Go p e below Post (T.setTop (mkF m pc Ls S)) := by
  obtain ⟨T', q0, q1, st⟩ := getF X hx hZ hown w via eT F (g := mkF m pc Ls S) rfl hs hd
  exact own_Go.of st (k T' @q0 @q1)
theorem p_getS2 (X : Stand p l e R s m args below meth c T locs cells slots) (hx : p.tables.exec = Jvm.exec) (hZ : Z.Warmed39 s.vm) {own R0 O n d host : String} {index : Nat} (hown : s.vm.findClass own = some m.cls) (w : (Cond.fieldLink own index R0 n d).before a0 Z = true ∨ (Cond.fieldLinkNest own index R0 n d host).before a0 Z = true) (via : Via Z R0 O n d) (eT : T.heap = h) {v : Value} (F : Sta Z h O n d v) (hd : decode c.code pc = .ok (.getstatic index, 3)) (k : ∀ T', Stand p l e R s m args below meth c T' locs cells slots → T'.heap = h → own_Go p e below Post (T'.setTop (mkF m (pc + 3) (Ls) (v :: S)))) : own_Go p e below Post (T.setTop (mkF m pc Ls S)) := by
  obtain ⟨T', q0, q1, st⟩ := getS2 X hx hZ hown w via eT F (g := mkF m pc Ls S) rfl hd
  exact own_Go.of st (k T' @q0 @q1)
theorem p_initO (X : Stand p l e R s m args below meth c T locs cells slots) (hx : p.tables.exec = Jvm.exec) (hZ : Z.Warmed39 s.vm) {own : String} {idx : Nat} (hown : s.vm.findClass own = some m.cls) (w1 : (Cond.methodLink own idx Lib.objectInit).before a0 Z = true) (w2 : (Cond.instanceMethod Lib.objectInit).before a0 Z = true) (w3 : (Cond.code Lib.objectInit ⟨#[0xb1]⟩ 1 none).before a0 Z = true) (eT : T.heap = h) (hsize : Ls.size = c.maxLocals) {a : Addr} {rest : List Value} (hs : S = .ref a :: rest) (hd : decode c.code pc = .ok (.invokespecial idx, 3)) (hf : 1 ≤ R.frames) {W : Nat} (hW : 2 * (mkF m pc Ls S).monitorRoom + (rest.map fun v => v.category).sum ≤ W) (hl : W + 12 ≤ R.locals) (k : ∀ T', Stand p l e R s m args below meth c T' locs cells slots → T'.heap = h → own_Go p e below Post (T'.setTop (mkF m (pc + 3) (Ls) (rest)))) : own_Go p e below Post (T.setTop (mkF m pc Ls S)) := by
  obtain ⟨T', q0, q1, st⟩ := initO X hx hZ hown w1 w2 w3 eT (g := mkF m pc Ls S) rfl hsize hs hd hf hW hl
  exact own_Go.of st (k T' @q0 @q1)
theorem p_newO (X : Stand p l e R s m args below meth c T locs cells slots) (hx : p.tables.exec = Jvm.exec) (hZ : Z.Warmed39 s.vm) {own C : String} {index n : Nat} (hown : s.vm.findClass own = some m.cls) (w : (Cond.classLink own index C).before a0 Z = true) (wi : (Cond.instantiable C n).before a0 Z = true) (wz : (Cond.initialized C).before a0 Z = true) (eT : T.heap = h) (hd : decode c.code pc = .ok (.new index, 3)) (hc : cells + 1 ≤ R.cells) (hl : slots + n ≤ R.slots) (k : ∀ T' h' (x : Addr), x = h.size → Stand p l e R s m args below meth c T' locs (cells + 1) (slots + n) → T'.heap = h' → Ext h h' → Exa Z h' x C → (∀ {O nm d : String} {ty : FieldType}, Laid Z a0 C O nm d → parseFieldDescriptor d = some ty → Fld Z h' x O nm d (defaultValue ty)) → (∃ cell : Cell, h'[x]? = some cell ∧ cell.vm = .none ∧ cell.monitor = {}) → own_Go p e below Post (T'.setTop (mkF m (pc + 3) (Ls) (.ref x :: S)))) : own_Go p e below Post (T.setTop (mkF m pc Ls S)) := by
  obtain ⟨T', h', q0, q1, q2, q3, q4, q5, st⟩ := newO X hx hZ hown w wi wz eT (g := mkF m pc Ls S) rfl hd hc hl
  exact own_Go.of st (k T' h' _ rfl @q0 @q1 @q2 @q3 @q4 @q5)
theorem p_newP (X : Stand p l e R s m args below meth c T locs cells slots) (hx : p.tables.exec = Jvm.exec) (hZ : Z.Warmed39 s.vm) {aty : ArrayType} (w : (Cond.arrayClass (newarray.typeOf aty)).before a0 Z = true) (eT : T.heap = h) (hd : decode c.code pc = .ok (.newarray aty, 2)) {n : Int32} {rest : List Value} (hs : S = .int n :: rest) (hn : ¬ n < 0) {cap : Nat} (hcap : n.toNatClampNeg ≤ cap) (hb : cap * 8 ≤ 536870912) (hc : cells + 1 ≤ R.cells) (hl : slots + cap ≤ R.slots) (k : ∀ T' h' cA (x : Addr), x = h.size → Stand p l e R s m args below meth c T' locs (cells + 1) (slots + cap) → T'.heap = h' → Ext h h' → Arr Z h' x (newA cA (newarray.typeOf aty) n) (newarray.typeOf aty) → own_Go p e below Post (T'.setTop (mkF m (pc + 2) (Ls) (.ref x :: rest)))) : own_Go p e below Post (T.setTop (mkF m pc Ls S)) := by
  obtain ⟨T', h', cA, q0, q1, q2, q3, st⟩ := newP X hx hZ w eT (g := mkF m pc Ls S) rfl hd hs hn hcap hb hc hl
  exact own_Go.of st (k T' h' cA _ rfl @q0 @q1 @q2 @q3)
theorem p_putF (X : Stand p l e R s m args below meth c T locs cells slots) (hx : p.tables.exec = Jvm.exec) (hZ : Z.Warmed39 s.vm) {own R0 O n d host C : String} {index kk : Nat} {ty : FieldType} (hown : s.vm.findClass own = some m.cls) (w : (Cond.fieldLink own index R0 n d).before a0 Z = true ∨ (Cond.fieldLinkNest own index R0 n d host).before a0 Z = true) (via : Via Z R0 O n d) (eT : T.heap = h) {a : Addr} {v old : Value} (F : Fld Z h a O n d old) (E : Exa Z h a C) (L : (Cond.lays C O n d).before a0 Z = true ∨ ((Cond.laysFinal C O n d).before a0 Z = true ∧ own = O ∧ meth.name = "<init>")) (wi : (Cond.instantiable C kk).before a0 Z = true) (hty : parseFieldDescriptor d = some ty) (hn : narrow ty v = v) (hf : fits ty v = true) {rest : List Value} (hs : S = v :: .ref a :: rest) (hd : decode c.code pc = .ok (.putfield index, 3)) (k : ∀ T' h', Stand p l e R s m args below meth c T' (locs ++ [⟨a, Jvm.RoadKit.slotOf Z O n d⟩]) cells slots → T'.heap = h' → Wr h h' a (Jvm.RoadKit.slotOf Z O n d) v → own_Go p e below Post (T'.setTop (mkF m (pc + 3) (Ls) (rest)))) : own_Go p e below Post (T.setTop (mkF m pc Ls S)) := by
  obtain ⟨T', h', q0, q1, q2, st⟩ := putF X hx hZ hown w via eT F E L wi hty hn hf (g := mkF m pc Ls S) rfl hs hd
  exact own_Go.of st (k T' h' @q0 @q1 @q2)
theorem p_putFN (X : Stand p l e R s m args below meth c T locs cells slots) (hx : p.tables.exec = Jvm.exec) (hZ : Z.Warmed39 s.vm) {own R0 O n d C : String} {index kk : Nat} {ty : FieldType} (hown : s.vm.findClass own = some m.cls) (w : (Cond.fieldLink own index R0 n d).before a0 Z = true) (via : Via Z R0 O n d) (eT : T.heap = h) {a : Addr} {v v' old : Value} (F : Fld Z h a O n d old) (E : Exa Z h a C) (L : (Cond.lays C O n d).before a0 Z = true ∨ ((Cond.laysFinal C O n d).before a0 Z = true ∧ own = O ∧ meth.name = "<init>")) (wi : (Cond.instantiable C kk).before a0 Z = true) (hty : parseFieldDescriptor d = some ty) (hn : narrow ty v = v') (hf : fits ty v' = true) {rest : List Value} (hs : S = v :: .ref a :: rest) (hd : decode c.code pc = .ok (.putfield index, 3)) (k : ∀ T' h', Stand p l e R s m args below meth c T' (locs ++ [⟨a, Jvm.RoadKit.slotOf Z O n d⟩]) cells slots → T'.heap = h' → Wr h h' a (Jvm.RoadKit.slotOf Z O n d) v' → own_Go p e below Post (T'.setTop (mkF m (pc + 3) (Ls) (rest)))) : own_Go p e below Post (T.setTop (mkF m pc Ls S)) := by
  obtain ⟨T', h', q0, q1, q2, st⟩ := putFN X hx hZ hown w via eT F E L wi hty hn hf (g := mkF m pc Ls S) rfl hs hd
  exact own_Go.of st (k T' h' @q0 @q1 @q2)
theorem p_stB (X : Stand p l e R s m args below meth c T locs cells slots) (hx : p.tables.exec = Jvm.exec) (hZ : Z.Warmed39 s.vm) (eT : T.heap = h) {a : Addr} {cl : Cell} (A : Arr Z h a cl .byte) {j x : Int32} (hj : ¬ (j < 0 ∨ cl.slots.size ≤ j.toNatClampNeg)) {rest : List Value} (hs : S = .int x :: .int j :: .ref a :: rest) (hd : decode c.code pc = .ok (.bastore, 1)) (k : ∀ T' h', Stand p l e R s m args below meth c T' (locs ++ [⟨a, j.toNatClampNeg⟩]) cells slots → T'.heap = h' → Wr h h' a j.toNatClampNeg (.int (nar .byte x)) → own_Go p e below Post (T'.setTop (mkF m (pc + 1) (Ls) (rest)))) : own_Go p e below Post (T.setTop (mkF m pc Ls S)) := by
  obtain ⟨T', h', q0, q1, q2, st⟩ := stB X hx hZ eT A hj (g := mkF m pc Ls S) rfl hs hd
  exact own_Go.of st (k T' h' @q0 @q1 @q2)
theorem p_stC (X : Stand p l e R s m args below meth c T locs cells slots) (hx : p.tables.exec = Jvm.exec) (hZ : Z.Warmed39 s.vm) (eT : T.heap = h) {a : Addr} {cl : Cell} (A : Arr Z h a cl .char) {j x : Int32} (hj : ¬ (j < 0 ∨ cl.slots.size ≤ j.toNatClampNeg)) {rest : List Value} (hs : S = .int x :: .int j :: .ref a :: rest) (hd : decode c.code pc = .ok (.castore, 1)) (k : ∀ T' h', Stand p l e R s m args below meth c T' (locs ++ [⟨a, j.toNatClampNeg⟩]) cells slots → T'.heap = h' → Wr h h' a j.toNatClampNeg (.int (nar .char x)) → own_Go p e below Post (T'.setTop (mkF m (pc + 1) (Ls) (rest)))) : own_Go p e below Post (T.setTop (mkF m pc Ls S)) := by
  obtain ⟨T', h', q0, q1, q2, st⟩ := stC X hx hZ eT A hj (g := mkF m pc Ls S) rfl hs hd
  exact own_Go.of st (k T' h' @q0 @q1 @q2)
theorem p_arB (X : Stand p l e R s m args below meth c T locs cells slots) (hx : p.tables.exec = Jvm.exec) (hZ : Z.Warmed39 s.vm) (eT : T.heap = h) {a : Addr} {k : ClassId} {N : Int32} {vs : List Value} {d : Value} (V : Arv Z h a k .byte N vs d) (j : Int32) (i : Nat) (hj : ¬ j < 0 ∧ j < N) (hi : j.toNatClampNeg = i) (hl : i < vs.length) {x : Int32} {rest : List Value} (hs : S = .int x :: .int j :: .ref a :: rest) (hd : decode c.code pc = .ok (.bastore, 1)) (kk : ∀ T' h', Stand p l e R s m args below meth c T' (locs ++ [⟨a, j.toNatClampNeg⟩]) cells slots → T'.heap = h' → Wr h h' a j.toNatClampNeg (.int (nar .byte x)) → Arv Z h' a k .byte N (vs.set i (.int (nar .byte x))) d → own_Go p e below Post (T'.setTop (mkF m (pc + 1) Ls rest))) : own_Go p e below Post (T.setTop (mkF m pc Ls S)) := by
  obtain ⟨cl, Ar, q, S', P, H, G⟩ := V
  exact p_stB X hx hZ eT Ar (inb_of S' hj) hs hd fun T' h' X' e' W => kk T' h' X' e' W (Arv.set Ar q S' P H G (fits_nar_byte _) W i hi hl)
theorem p_arC (X : Stand p l e R s m args below meth c T locs cells slots) (hx : p.tables.exec = Jvm.exec) (hZ : Z.Warmed39 s.vm) (eT : T.heap = h) {a : Addr} {k : ClassId} {N : Int32} {vs : List Value} {d : Value} (V : Arv Z h a k .char N vs d) (j : Int32) (i : Nat) (hj : ¬ j < 0 ∧ j < N) (hi : j.toNatClampNeg = i) (hl : i < vs.length) {x : Int32} {rest : List Value} (hs : S = .int x :: .int j :: .ref a :: rest) (hd : decode c.code pc = .ok (.castore, 1)) (kk : ∀ T' h', Stand p l e R s m args below meth c T' (locs ++ [⟨a, j.toNatClampNeg⟩]) cells slots → T'.heap = h' → Wr h h' a j.toNatClampNeg (.int (nar .char x)) → Arv Z h' a k .char N (vs.set i (.int (nar .char x))) d → own_Go p e below Post (T'.setTop (mkF m (pc + 1) Ls rest))) : own_Go p e below Post (T.setTop (mkF m pc Ls S)) := by
  obtain ⟨cl, Ar, q, S', P, H, G⟩ := V
  exact p_stC X hx hZ eT Ar (inb_of S' hj) hs hd fun T' h' X' e' W => kk T' h' X' e' W (Arv.set Ar q S' P H G (fits_nar_char _) W i hi hl)
end OwnH
abbrev own_nw3 (b0 b1 b2 : Int32) : List Value := [(.int (110 : Int32)), (.int (111 : Int32)), (.int (32 : Int32)), (.int (117 : Int32)), (.int (115 : Int32)), (.int (101 : Int32)), (.int (114 : Int32)), (.int (32 : Int32)), (.int (105 : Int32)), (.int (115 : Int32)), (.int (32 : Int32)), (.int (110 : Int32)), (.int (97 : Int32)), (.int (109 : Int32)), (.int (101 : Int32)), (.int (100 : Int32)), (.int (32 : Int32)), (.int b0), (.int b1), (.int b2), (.int (0 : Int32)), (.int (0 : Int32)), (.int (0 : Int32)), (.int (0 : Int32)), (.int (0 : Int32)), (.int (0 : Int32)), (.int (0 : Int32)), (.int (0 : Int32)), (.int (0 : Int32)), (.int (0 : Int32)), (.int (0 : Int32)), (.int (0 : Int32)), (.int (0 : Int32)), (.int (0 : Int32))]
abbrev own_o3 (b0 b1 b2 : Int32) : List Value := [(.int (110 : Int32)), (.int (111 : Int32)), (.int (32 : Int32)), (.int (117 : Int32)), (.int (115 : Int32)), (.int (101 : Int32)), (.int (114 : Int32)), (.int (32 : Int32)), (.int (105 : Int32)), (.int (115 : Int32)), (.int (32 : Int32)), (.int (110 : Int32)), (.int (97 : Int32)), (.int (109 : Int32)), (.int (101 : Int32)), (.int (100 : Int32)), (.int (32 : Int32)), (.int b0), (.int b1), (.int b2)]
abbrev own_nw2 (b0 b1 : Int32) : List Value := [(.int (110 : Int32)), (.int (111 : Int32)), (.int (32 : Int32)), (.int (117 : Int32)), (.int (115 : Int32)), (.int (101 : Int32)), (.int (114 : Int32)), (.int (32 : Int32)), (.int (105 : Int32)), (.int (115 : Int32)), (.int (32 : Int32)), (.int (110 : Int32)), (.int (97 : Int32)), (.int (109 : Int32)), (.int (101 : Int32)), (.int (100 : Int32)), (.int (32 : Int32)), (.int b0), (.int b1), (.int (0 : Int32)), (.int (0 : Int32)), (.int (0 : Int32)), (.int (0 : Int32)), (.int (0 : Int32)), (.int (0 : Int32)), (.int (0 : Int32)), (.int (0 : Int32)), (.int (0 : Int32)), (.int (0 : Int32)), (.int (0 : Int32)), (.int (0 : Int32)), (.int (0 : Int32)), (.int (0 : Int32)), (.int (0 : Int32))]
abbrev own_o2 (b0 b1 : Int32) : List Value := [(.int (110 : Int32)), (.int (111 : Int32)), (.int (32 : Int32)), (.int (117 : Int32)), (.int (115 : Int32)), (.int (101 : Int32)), (.int (114 : Int32)), (.int (32 : Int32)), (.int (105 : Int32)), (.int (115 : Int32)), (.int (32 : Int32)), (.int (110 : Int32)), (.int (97 : Int32)), (.int (109 : Int32)), (.int (101 : Int32)), (.int (100 : Int32)), (.int (32 : Int32)), (.int b0), (.int b1)]
abbrev own_nw1 (b0 : Int32) : List Value := [(.int (110 : Int32)), (.int (111 : Int32)), (.int (32 : Int32)), (.int (117 : Int32)), (.int (115 : Int32)), (.int (101 : Int32)), (.int (114 : Int32)), (.int (32 : Int32)), (.int (105 : Int32)), (.int (115 : Int32)), (.int (32 : Int32)), (.int (110 : Int32)), (.int (97 : Int32)), (.int (109 : Int32)), (.int (101 : Int32)), (.int (100 : Int32)), (.int (32 : Int32)), (.int b0), (.int (0 : Int32)), (.int (0 : Int32)), (.int (0 : Int32)), (.int (0 : Int32)), (.int (0 : Int32)), (.int (0 : Int32)), (.int (0 : Int32)), (.int (0 : Int32)), (.int (0 : Int32)), (.int (0 : Int32)), (.int (0 : Int32)), (.int (0 : Int32)), (.int (0 : Int32)), (.int (0 : Int32)), (.int (0 : Int32)), (.int (0 : Int32))]
abbrev own_o1 (b0 : Int32) : List Value := [(.int (110 : Int32)), (.int (111 : Int32)), (.int (32 : Int32)), (.int (117 : Int32)), (.int (115 : Int32)), (.int (101 : Int32)), (.int (114 : Int32)), (.int (32 : Int32)), (.int (105 : Int32)), (.int (115 : Int32)), (.int (32 : Int32)), (.int (110 : Int32)), (.int (97 : Int32)), (.int (109 : Int32)), (.int (101 : Int32)), (.int (100 : Int32)), (.int (32 : Int32)), (.int b0)]
abbrev own_nn : List Value := [(.int (110 : Int32)), (.int (111 : Int32)), (.int (32 : Int32)), (.int (117 : Int32)), (.int (115 : Int32)), (.int (101 : Int32)), (.int (114 : Int32)), (.int (32 : Int32)), (.int (105 : Int32)), (.int (115 : Int32)), (.int (32 : Int32)), (.int (110 : Int32)), (.int (97 : Int32)), (.int (109 : Int32)), (.int (101 : Int32)), (.int (100 : Int32)), (.int (32 : Int32)), (.int (nar .byte (110 : Int32))), (.int (nar .byte (117 : Int32))), (.int (nar .byte (108 : Int32))), (.int (nar .byte (108 : Int32))), (.int (0 : Int32)), (.int (0 : Int32)), (.int (0 : Int32)), (.int (0 : Int32)), (.int (0 : Int32)), (.int (0 : Int32)), (.int (0 : Int32)), (.int (0 : Int32)), (.int (0 : Int32)), (.int (0 : Int32)), (.int (0 : Int32)), (.int (0 : Int32)), (.int (0 : Int32))]
abbrev own_on : List Value := [(.int (110 : Int32)), (.int (111 : Int32)), (.int (32 : Int32)), (.int (117 : Int32)), (.int (115 : Int32)), (.int (101 : Int32)), (.int (114 : Int32)), (.int (32 : Int32)), (.int (105 : Int32)), (.int (115 : Int32)), (.int (32 : Int32)), (.int (110 : Int32)), (.int (97 : Int32)), (.int (109 : Int32)), (.int (101 : Int32)), (.int (100 : Int32)), (.int (32 : Int32)), (.int (nar .byte (110 : Int32))), (.int (nar .byte (117 : Int32))), (.int (nar .byte (108 : Int32))), (.int (nar .byte (108 : Int32)))]
abbrev own_n1 : List Value := [(.int (110 : Int32)), (.int (111 : Int32)), (.int (32 : Int32)), (.int (117 : Int32)), (.int (115 : Int32)), (.int (101 : Int32)), (.int (114 : Int32)), (.int (32 : Int32)), (.int (105 : Int32)), (.int (115 : Int32)), (.int (32 : Int32)), (.int (110 : Int32)), (.int (97 : Int32)), (.int (109 : Int32)), (.int (101 : Int32)), (.int (100 : Int32)), (.int (32 : Int32)), (.int (0 : Int32)), (.int (0 : Int32)), (.int (0 : Int32)), (.int (0 : Int32)), (.int (0 : Int32)), (.int (0 : Int32)), (.int (0 : Int32)), (.int (0 : Int32)), (.int (0 : Int32)), (.int (0 : Int32)), (.int (0 : Int32)), (.int (0 : Int32)), (.int (0 : Int32)), (.int (0 : Int32)), (.int (0 : Int32)), (.int (0 : Int32)), (.int (0 : Int32))]
abbrev own_z34 : List Value := [(.int (0 : Int32)), (.int (0 : Int32)), (.int (0 : Int32)), (.int (0 : Int32)), (.int (0 : Int32)), (.int (0 : Int32)), (.int (0 : Int32)), (.int (0 : Int32)), (.int (0 : Int32)), (.int (0 : Int32)), (.int (0 : Int32)), (.int (0 : Int32)), (.int (0 : Int32)), (.int (0 : Int32)), (.int (0 : Int32)), (.int (0 : Int32)), (.int (0 : Int32)), (.int (0 : Int32)), (.int (0 : Int32)), (.int (0 : Int32)), (.int (0 : Int32)), (.int (0 : Int32)), (.int (0 : Int32)), (.int (0 : Int32)), (.int (0 : Int32)), (.int (0 : Int32)), (.int (0 : Int32)), (.int (0 : Int32)), (.int (0 : Int32)), (.int (0 : Int32)), (.int (0 : Int32)), (.int (0 : Int32)), (.int (0 : Int32)), (.int (0 : Int32))]
abbrev own_z16 : List Value := [(.int (0 : Int32)), (.int (0 : Int32)), (.int (0 : Int32)), (.int (0 : Int32)), (.int (0 : Int32)), (.int (0 : Int32)), (.int (0 : Int32)), (.int (0 : Int32)), (.int (0 : Int32)), (.int (0 : Int32)), (.int (0 : Int32)), (.int (0 : Int32)), (.int (0 : Int32)), (.int (0 : Int32)), (.int (0 : Int32)), (.int (0 : Int32))]
abbrev own_l21 : List Value := [(.int (110 : Int32)), (.int (111 : Int32)), (.int (32 : Int32)), (.int (117 : Int32)), (.int (115 : Int32)), (.int (101 : Int32)), (.int (114 : Int32)), (.int (32 : Int32)), (.int (105 : Int32)), (.int (115 : Int32)), (.int (32 : Int32)), (.int (110 : Int32)), (.int (97 : Int32)), (.int (109 : Int32)), (.int (101 : Int32)), (.int (100 : Int32)), (.int (32 : Int32)), (.int (110 : Int32)), (.int (117 : Int32)), (.int (108 : Int32)), (.int (108 : Int32))]
abbrev own_l17 : List Value := [(.int (110 : Int32)), (.int (111 : Int32)), (.int (32 : Int32)), (.int (117 : Int32)), (.int (115 : Int32)), (.int (101 : Int32)), (.int (114 : Int32)), (.int (32 : Int32)), (.int (105 : Int32)), (.int (115 : Int32)), (.int (32 : Int32)), (.int (110 : Int32)), (.int (97 : Int32)), (.int (109 : Int32)), (.int (101 : Int32)), (.int (100 : Int32)), (.int (32 : Int32))]
abbrev own_H (a0 : Array Value) (Z : State) : Prop := ∀ d ∈ tables_1, d.before a0 Z = true
theorem own_mem (i : Nat) {d : Jvm.Cond} (h : tables_1[i]? = some d) : d ∈ tables_1 := List.mem_of_getElem? h
theorem g_ {a0 : Array Value} {Z : State} (hw : own_H a0 Z) (i : Nat) {d : Jvm.Cond} (h : tables_1[i]? = some d) : d.before a0 Z = true := hw _ (List.mem_of_getElem? h)
section OwnW
variable {a0 : Array Value} {Z : State}
end OwnW
abbrev Mn0 : MethodName := ⟨"java/lang/StringBuilder", "append", "(Ljava/lang/String;)Ljava/lang/StringBuilder;"⟩
abbrev Mn1 : MethodName := ⟨"java/lang/String", "coder", "()B"⟩
abbrev Mn2 : MethodName := ⟨"java/lang/String", "getBytes", "([BIB)V"⟩
abbrev Mn3 : MethodName := ⟨"java/lang/AbstractStringBuilder", "putStringAt", "(ILjava/lang/String;)V"⟩
abbrev Mn4 : MethodName := ⟨"java/lang/StringBuilder", "toString", "()Ljava/lang/String;"⟩
abbrev Mn5 : MethodName := ⟨"java/lang/AbstractStringBuilder", "ensureCapacityInternal", "(I)V"⟩
abbrev Mn6 : MethodName := ⟨"java/lang/AbstractStringBuilder", "isLatin1", "()Z"⟩
abbrev Mn7 : MethodName := ⟨"java/lang/AbstractStringBuilder", "append", "(Ljava/lang/String;)Ljava/lang/AbstractStringBuilder;"⟩
abbrev Mn8 : MethodName := ⟨"java/lang/String", "length", "()I"⟩
abbrev Mn9 : MethodName := ⟨"java/lang/AbstractStringBuilder", "inflateIfNeededFor", "(Ljava/lang/String;)V"⟩
abbrev Mn10 : MethodName := ⟨"java/lang/AbstractStringBuilder", "getValue", "()[B"⟩
abbrev Mn11 : MethodName := ⟨"java/util/Arrays", "copyOfRangeByte", "([BII)[B"⟩
abbrev Mn12 : MethodName := ⟨"java/util/Arrays", "copyOfRange", "([BII)[B"⟩
abbrev Mn13 : MethodName := ⟨"java/lang/String", "<init>", "(Ljava/lang/AbstractStringBuilder;Ljava/lang/Void;)V"⟩
abbrev Mn14 : MethodName := ⟨"java/lang/String", "<init>", "(Ljava/lang/StringBuilder;)V"⟩
abbrev Mn15 : MethodName := ⟨"java/lang/String", "<init>", "([C)V"⟩
abbrev Mn16 : MethodName := ⟨"java/lang/Math", "min", "(II)I"⟩
abbrev Mn17 : MethodName := ⟨"java/lang/AbstractStringBuilder", "length", "()I"⟩
abbrev Mn18 : MethodName := ⟨"java/lang/StringBuilder", "length", "()I"⟩
abbrev Mn19 : MethodName := ⟨"java/util/Arrays", "checkLength", "(II)V"⟩
abbrev Mn20 : MethodName := ⟨"com/example/shard_feed/shardfeed/Refusal", "<init>", "(Lcom/example/shard_feed/shardfeed/Refusal$Reason;Ljava/lang/String;)V"⟩
abbrev Mn21 : MethodName := ⟨"java/lang/String", "equals", "(Ljava/lang/Object;)Z"⟩
abbrev Mn22 : MethodName := ⟨"com/example/shard_feed/shardfeed/Refusal", "reason", "()Lcom/example/shard_feed/shardfeed/Refusal$Reason;"⟩
abbrev Mn23 : MethodName := ⟨"com/example/shard_feed/shardfeed/Refusal", "line", "()I"⟩
abbrev Mn24 : MethodName := ⟨"com/example/shard_feed/shardfeed/Refusal", "unknownUser", "(Ljava/lang/String;)Lcom/example/shard_feed/shardfeed/Refusal;"⟩
abbrev Mn25 : MethodName := ⟨"java/lang/StringBuilder", "<init>", "()V"⟩
abbrev Mn26 : MethodName := ⟨"java/lang/AbstractStringBuilder", "newCapacity", "(I)I"⟩
abbrev Mn27 : MethodName := ⟨"java/lang/AbstractStringBuilder", "appendNull", "()Ljava/lang/AbstractStringBuilder;"⟩
abbrev Mn28 : MethodName := ⟨"java/lang/Throwable", "getMessage", "()Ljava/lang/String;"⟩
abbrev Mn29 : MethodName := ⟨"java/lang/String", "<init>", "([CIILjava/lang/Void;)V"⟩
abbrev Mn30 : MethodName := ⟨"java/lang/AbstractStringBuilder", "<init>", "(I)V"⟩
abbrev Mn31 : MethodName := ⟨"java/lang/Math", "max", "(II)I"⟩
abbrev Mn32 : MethodName := ⟨"jdk/internal/util/ArraysSupport", "newLength", "(III)I"⟩
abbrev Mn33 : MethodName := ⟨"java/util/Arrays", "copyOf", "([BI)[B"⟩
abbrev Mn34 : MethodName := ⟨"com/example/shard_feed/shardfeed/Refusal", "<init>", "(Lcom/example/shard_feed/shardfeed/Refusal$Reason;Ljava/lang/String;I)V"⟩
abbrev Mn35 : MethodName := ⟨"com/example/shard_feed/shardfeed/RefusalUnknownUserPinLaw", "nameOf", "(ICCC)Ljava/lang/String;"⟩
abbrev Mn36 : MethodName := ⟨"com/example/shard_feed/shardfeed/RefusalUnknownUserPinLaw", "expected", "(ICCC)Ljava/lang/String;"⟩
abbrev Mn37 : MethodName := ⟨"com/example/shard_feed/shardfeed/Refusal", "getMessage", "()Ljava/lang/String;"⟩
theorem own_e {b : ByteArray} {l : List (Nat × Instr × Nat)} (h : ∀ p ∈ l, decode b p.1 = .ok p.2) (i : Nat) {p : Nat} {x : Instr} {k : Nat} (hp : l[i]? = some (p, x, k)) : decode b p = .ok (x, k) := h (p, x, k) (List.mem_of_getElem? hp)
theorem own_E {c : Code} {b : ByteArray} {l : List (Nat × Instr × Nat)} (hc : c.code = b) (h : ∀ p ∈ l, decode b p.1 = .ok p.2) (i : Nat) {p : Nat} {x : Instr} {k : Nat} (hp : l[i]? = some (p, x, k)) : decode c.code p = .ok (x, k) := hb hc (own_e h i hp)
theorem own_D1 : ∀ p ∈ ([(0, .iload_n 0, 1), (1, .newarray .char, 2), (3, .astore 4, 2), (5, .iload_n 0, 1), (6, .ifCond .le 8, 3), (14, .iload_n 0, 1), (15, .iconst 1, 1), (16, .if_icmp .le 8, 3), (24, .iload_n 0, 1), (25, .iconst 2, 1), (26, .if_icmp .le 8, 3), (34, .new 7, 3), (37, .dup, 1), (38, .aload 4, 2), (40, .invokespecial 9, 3), (43, .areturn, 1), (9, .aload 4, 2), (11, .iconst 0, 1), (12, .iload_n 1, 1), (13, .castore, 1), (19, .aload 4, 2), (21, .iconst 1, 1), (22, .iload_n 2, 1), (23, .castore, 1), (29, .aload 4, 2), (31, .iconst 2, 1), (32, .iload_n 3, 1), (33, .castore, 1)] : List (Nat × Instr × Nat)), decode method_2_code p.1 = .ok p.2 := by decide +kernel
theorem own_D2 : ∀ p ∈ ([(0, .aload_n 0, 1), (1, .aload_n 1, 1), (2, .iconst 0, 1), (3, .aload_n 1, 1), (4, .arraylength, 1), (5, .aconst_null, 1), (6, .invokespecial 27, 3), (9, .return_, 1)] : List (Nat × Instr × Nat)), decode jdk_42_method_3_code p.1 = .ok p.2 := by decide +kernel
theorem own_D3 : ∀ p ∈ ([(0, .aload_n 0, 1), (1, .invokespecial 1, 3), (4, .iload_n 3, 1), (5, .ifCond .ne 22, 3), (8, .aload_n 0, 1), (9, .ldc 7, 2), (11, .getfield 9, 3), (14, .putfield 9, 3), (17, .aload_n 0, 1), (18, .ldc 7, 2), (20, .getfield 15, 3), (23, .putfield 15, 3), (26, .return_, 1)] : List (Nat × Instr × Nat)), decode jdk_42_method_149_code p.1 = .ok p.2 := by decide +kernel
theorem own_D8 : ∀ p ∈ ([(0, .bipush 17, 2), (2, .iload_n 0, 1), (3, .iadd, 1), (4, .newarray .char, 2), (6, .astore 4, 2), (8, .aload 4, 2), (10, .iconst 0, 1), (11, .bipush 110, 2), (13, .castore, 1), (14, .aload 4, 2), (16, .iconst 1, 1), (17, .bipush 111, 2), (19, .castore, 1), (20, .aload 4, 2), (22, .iconst 2, 1), (23, .bipush 32, 2), (25, .castore, 1), (26, .aload 4, 2), (28, .iconst 3, 1), (29, .bipush 117, 2), (31, .castore, 1), (32, .aload 4, 2), (34, .iconst 4, 1), (35, .bipush 115, 2), (37, .castore, 1), (38, .aload 4, 2), (40, .iconst 5, 1), (41, .bipush 101, 2), (43, .castore, 1), (44, .aload 4, 2), (46, .bipush 6, 2), (48, .bipush 114, 2), (50, .castore, 1), (51, .aload 4, 2), (53, .bipush 7, 2), (55, .bipush 32, 2), (57, .castore, 1), (58, .aload 4, 2), (60, .bipush 8, 2), (62, .bipush 105, 2), (64, .castore, 1), (65, .aload 4, 2), (67, .bipush 9, 2), (69, .bipush 115, 2), (71, .castore, 1), (72, .aload 4, 2), (74, .bipush 10, 2), (76, .bipush 32, 2), (78, .castore, 1), (79, .aload 4, 2), (81, .bipush 11, 2), (83, .bipush 110, 2), (85, .castore, 1), (86, .aload 4, 2), (88, .bipush 12, 2), (90, .bipush 97, 2), (92, .castore, 1), (93, .aload 4, 2), (95, .bipush 13, 2), (97, .bipush 109, 2), (99, .castore, 1), (100, .aload 4, 2), (102, .bipush 14, 2), (104, .bipush 101, 2), (106, .castore, 1), (107, .aload 4, 2), (109, .bipush 15, 2), (111, .bipush 100, 2), (113, .castore, 1), (114, .aload 4, 2), (116, .bipush 16, 2), (118, .bipush 32, 2), (120, .castore, 1), (121, .iload_n 0, 1), (122, .ifCond .le 9, 3), (131, .iload_n 0, 1), (132, .iconst 1, 1), (133, .if_icmp .le 9, 3), (142, .iload_n 0, 1), (143, .iconst 2, 1), (144, .if_icmp .le 9, 3), (153, .new 7, 3), (156, .dup, 1), (157, .aload 4, 2), (159, .invokespecial 9, 3), (162, .areturn, 1), (125, .aload 4, 2), (127, .bipush 17, 2), (129, .iload_n 1, 1), (130, .castore, 1), (136, .aload 4, 2), (138, .bipush 18, 2), (140, .iload_n 2, 1), (141, .castore, 1), (147, .aload 4, 2), (149, .bipush 19, 2), (151, .iload_n 3, 1), (152, .castore, 1)] : List (Nat × Instr × Nat)), decode method_3_code p.1 = .ok p.2 := by decide +kernel
theorem own_D9 : ∀ p ∈ ([(0, .new 2, 3), (3, .dup, 1), (4, .getstatic 20, 3), (7, .new 25, 3), (10, .dup, 1), (11, .invokespecial 27, 3), (14, .ldc 30, 2), (16, .invokevirtual 32, 3), (19, .aload_n 0, 1), (20, .invokevirtual 32, 3), (23, .invokevirtual 36, 3), (26, .invokespecial 40, 3), (29, .areturn, 1)] : List (Nat × Instr × Nat)), decode prog_9_method_3_code p.1 = .ok p.2 := by decide +kernel
theorem own_D10 : ∀ p ∈ ([(0, .aload_n 0, 1), (1, .bipush 16, 2), (3, .invokespecial 1, 3), (6, .return_, 1)] : List (Nat × Instr × Nat)), decode jdk_67_method_1_code p.1 = .ok p.2 := by decide +kernel
theorem own_D11 : ∀ p ∈ ([(0, .aload_n 0, 1), (1, .invokespecial 3, 3), (4, .getstatic 18, 3), (7, .ifCond .eq 18, 3), (10, .aload_n 0, 1), (11, .iload_n 1, 1), (12, .newarray .byte, 2), (14, .putfield 15, 3), (17, .aload_n 0, 1), (18, .iconst 0, 1), (19, .putfield 22, 3), (22, .goto 16, 3), (38, .return_, 1)] : List (Nat × Instr × Nat)), decode jdk_68_method_2_code p.1 = .ok p.2 := by decide +kernel
theorem own_D12 : ∀ p ∈ ([(0, .aload_n 0, 1), (1, .aload_n 1, 1), (2, .invokespecial 29, 3), (5, .pop, 1), (6, .aload_n 0, 1), (7, .areturn, 1)] : List (Nat × Instr × Nat)), decode jdk_67_method_7_code p.1 = .ok p.2 := by decide +kernel
theorem own_D13 : ∀ p ∈ ([(0, .aload_n 1, 1), (1, .ifnonnull 8, 3), (9, .aload_n 1, 1), (10, .invokevirtual 32, 3), (13, .istore_n 2, 1), (14, .aload_n 0, 1), (15, .aload_n 0, 1), (16, .getfield 79, 3), (19, .iload_n 2, 1), (20, .iadd, 1), (21, .invokevirtual 100, 3), (24, .aload_n 0, 1), (25, .aload_n 0, 1), (26, .getfield 79, 3), (29, .aload_n 1, 1), (30, .invokevirtual 208, 3), (33, .aload_n 0, 1), (34, .dup, 1), (35, .getfield 79, 3), (38, .iload_n 2, 1), (39, .iadd, 1), (40, .putfield 79, 3), (43, .aload_n 0, 1), (44, .areturn, 1), (4, .aload_n 0, 1), (5, .invokevirtual 204, 3), (8, .areturn, 1)] : List (Nat × Instr × Nat)), decode jdk_68_method_22_code p.1 = .ok p.2 := by decide +kernel
theorem own_D14 : ∀ p ∈ ([(0, .aload_n 0, 1), (1, .getfield 9, 3), (4, .arraylength, 1), (5, .aload_n 0, 1), (6, .invokevirtual 335, 3), (9, .ishr, 1), (10, .ireturn, 1)] : List (Nat × Instr × Nat)), decode jdk_42_method_54_code p.1 = .ok p.2 := by decide +kernel
theorem own_D15 : ∀ p ∈ ([(0, .getstatic 38, 3), (3, .ifCond .eq 10, 3), (6, .aload_n 0, 1), (7, .getfield 15, 3), (10, .goto 4, 3), (14, .ireturn, 1)] : List (Nat × Instr × Nat)), decode jdk_42_method_152_code p.1 = .ok p.2 := by decide +kernel
theorem own_D16 : ∀ p ∈ ([(0, .aload_n 0, 1), (1, .getfield 15, 3), (4, .arraylength, 1), (5, .aload_n 0, 1), (6, .getfield 22, 3), (9, .ishr, 1), (10, .istore_n 2, 1), (11, .iload_n 1, 1), (12, .iload_n 2, 1), (13, .isub, 1), (14, .ifCond .le 24, 3), (17, .aload_n 0, 1), (18, .aload_n 0, 1), (19, .getfield 15, 3), (22, .aload_n 0, 1), (23, .iload_n 1, 1), (24, .invokevirtual 104, 3), (27, .aload_n 0, 1), (28, .getfield 22, 3), (31, .ishl, 1), (32, .invokestatic 108, 3), (35, .putfield 15, 3), (38, .return_, 1)] : List (Nat × Instr × Nat)), decode jdk_68_method_9_code p.1 = .ok p.2 := by decide +kernel
theorem own_D17 : ∀ p ∈ ([(0, .aload_n 0, 1), (1, .getfield 15, 3), (4, .arraylength, 1), (5, .istore_n 2, 1), (6, .iload_n 1, 1), (7, .aload_n 0, 1), (8, .getfield 22, 3), (11, .ishl, 1), (12, .istore_n 3, 1), (13, .iload_n 3, 1), (14, .iload_n 2, 1), (15, .isub, 1), (16, .istore 4, 2), (18, .iload_n 2, 1), (19, .iload 4, 2), (21, .iload_n 2, 1), (22, .iconst 2, 1), (23, .aload_n 0, 1), (24, .getfield 22, 3), (27, .ishl, 1), (28, .iadd, 1), (29, .invokestatic 114, 3), (32, .istore 5, 2), (34, .iload 5, 2), (36, .ldc 39, 2), (38, .if_icmp .ne 13, 3), (51, .iload 5, 2), (53, .aload_n 0, 1), (54, .getfield 22, 3), (57, .ishr, 1), (58, .ireturn, 1)] : List (Nat × Instr × Nat)), decode jdk_68_method_10_code p.1 = .ok p.2 := by decide +kernel
theorem own_D18 : ∀ p ∈ ([(0, .iload_n 0, 1), (1, .iload_n 1, 1), (2, .iload_n 2, 1), (3, .invokestatic 194, 3), (6, .iadd, 1), (7, .istore_n 3, 1), (8, .iconst 0, 1), (9, .iload_n 3, 1), (10, .if_icmp .ge 11, 3), (13, .iload_n 3, 1), (14, .ldc 200, 2), (16, .if_icmp .gt 5, 3), (19, .iload_n 3, 1), (20, .ireturn, 1)] : List (Nat × Instr × Nat)), decode jdk_48_method_27_code p.1 = .ok p.2 := by decide +kernel
theorem own_D19 : ∀ p ∈ ([(0, .iload_n 0, 1), (1, .iload_n 1, 1), (2, .if_icmp .lt 7, 3), (9, .iload_n 1, 1), (10, .ireturn, 1)] : List (Nat × Instr × Nat)), decode jdk_29_method_65_code p.1 = .ok p.2 := by decide +kernel
theorem own_D20 : ∀ p ∈ ([(0, .iload_n 1, 1), (1, .aload_n 0, 1), (2, .arraylength, 1), (3, .if_icmp .ne 11, 3), (14, .iload_n 1, 1), (15, .newarray .byte, 2), (17, .astore_n 2, 1), (18, .aload_n 0, 1), (19, .iconst 0, 1), (20, .aload_n 2, 1), (21, .iconst 0, 1), (22, .aload_n 0, 1), (23, .arraylength, 1), (24, .iload_n 1, 1), (25, .invokestatic 304, 3), (28, .invokestatic 150, 3), (31, .aload_n 2, 1), (32, .areturn, 1)] : List (Nat × Instr × Nat)), decode jdk_65_method_121_code p.1 = .ok p.2 := by decide +kernel
theorem own_D21 : ∀ p ∈ ([(0, .iload_n 0, 1), (1, .iload_n 1, 1), (2, .if_icmp .gt 7, 3), (5, .iload_n 0, 1), (6, .goto 4, 3), (10, .ireturn, 1), (9, .iload_n 1, 1)] : List (Nat × Instr × Nat)), decode jdk_29_method_69_code p.1 = .ok p.2 := by decide +kernel
theorem own_D22 : ∀ p ∈ ([(0, .aload_n 0, 1), (1, .aload_n 2, 1), (2, .invokevirtual 397, 3), (5, .aload_n 2, 1), (6, .aload_n 0, 1), (7, .getfield 15, 3), (10, .iload_n 1, 1), (11, .aload_n 0, 1), (12, .getfield 22, 3), (15, .invokevirtual 399, 3), (18, .return_, 1)] : List (Nat × Instr × Nat)), decode jdk_68_method_73_code p.1 = .ok p.2 := by decide +kernel
theorem own_D23 : ∀ p ∈ ([(0, .getstatic 18, 3), (3, .ifCond .eq 18, 3), (6, .aload_n 0, 1), (7, .getfield 22, 3), (10, .aload_n 1, 1), (11, .invokevirtual 40, 3), (14, .if_icmp .eq 7, 3), (21, .return_, 1)] : List (Nat × Instr × Nat)), decode jdk_68_method_71_code p.1 = .ok p.2 := by decide +kernel
theorem own_D24 : ∀ p ∈ ([(0, .aload_n 0, 1), (1, .invokevirtual 335, 3), (4, .iload_n 3, 1), (5, .if_icmp .ne 23, 3), (8, .aload_n 0, 1), (9, .getfield 9, 3), (12, .iconst 0, 1), (13, .aload_n 1, 1), (14, .iload_n 2, 1), (15, .iload_n 3, 1), (16, .ishl, 1), (17, .aload_n 0, 1), (18, .getfield 9, 3), (21, .arraylength, 1), (22, .invokestatic 212, 3), (25, .goto 18, 3), (43, .return_, 1)] : List (Nat × Instr × Nat)), decode jdk_42_method_147_code p.1 = .ok p.2 := by decide +kernel
theorem own_D25 : ∀ p ∈ ([(0, .new 18, 3), (3, .dup, 1), (4, .aload_n 0, 1), (5, .invokespecial 137, 3), (8, .areturn, 1)] : List (Nat × Instr × Nat)), decode jdk_67_method_42_code p.1 = .ok p.2 := by decide +kernel
theorem own_D26 : ∀ p ∈ ([(0, .aload_n 0, 1), (1, .aload_n 1, 1), (2, .aconst_null, 1), (3, .invokespecial 489, 3), (6, .return_, 1)] : List (Nat × Instr × Nat)), decode jdk_42_method_53_code p.1 = .ok p.2 := by decide +kernel
theorem own_D27 : ∀ p ∈ ([(0, .aload_n 0, 1), (1, .invokespecial 1, 3), (4, .aload_n 1, 1), (5, .invokevirtual 552, 3), (8, .astore_n 3, 1), (9, .aload_n 1, 1), (10, .invokevirtual 549, 3), (13, .istore 4, 2), (15, .aload_n 1, 1), (16, .invokevirtual 1047, 3), (19, .ifCond .eq 22, 3), (22, .aload_n 0, 1), (23, .iconst 0, 1), (24, .putfield 15, 3), (27, .aload_n 0, 1), (28, .aload_n 3, 1), (29, .iconst 0, 1), (30, .iload 4, 2), (32, .invokestatic 54, 3), (35, .putfield 9, 3), (38, .goto 59, 3), (97, .return_, 1)] : List (Nat × Instr × Nat)), decode jdk_42_method_150_code p.1 = .ok p.2 := by decide +kernel
theorem own_D28 : ∀ p ∈ ([(0, .aload_n 0, 1), (1, .getfield 15, 3), (4, .areturn, 1)] : List (Nat × Instr × Nat)), decode jdk_68_method_64_code p.1 = .ok p.2 := by decide +kernel
theorem own_D29 : ∀ p ∈ ([(0, .aload_n 0, 1), (1, .invokespecial 343, 3), (4, .ireturn, 1)] : List (Nat × Instr × Nat)), decode jdk_67_method_93_code p.1 = .ok p.2 := by decide +kernel
theorem own_D30 : ∀ p ∈ ([(0, .aload_n 0, 1), (1, .getfield 79, 3), (4, .ireturn, 1)] : List (Nat × Instr × Nat)), decode jdk_68_method_6_code p.1 = .ok p.2 := by decide +kernel
theorem own_D31 : ∀ p ∈ ([(0, .getstatic 18, 3), (3, .ifCond .eq 14, 3), (6, .aload_n 0, 1), (7, .getfield 22, 3), (10, .ifCond .ne 7, 3), (13, .iconst 1, 1), (14, .goto 4, 3), (18, .ireturn, 1)] : List (Nat × Instr × Nat)), decode jdk_68_method_68_code p.1 = .ok p.2 := by decide +kernel
theorem own_D32 : ∀ p ∈ ([(0, .iload_n 1, 1), (1, .ifCond .ne 9, 3), (4, .iload_n 2, 1), (5, .aload_n 0, 1), (6, .arraylength, 1), (7, .if_icmp .eq 10, 3), (10, .aload_n 0, 1), (11, .iload_n 1, 1), (12, .iload_n 2, 1), (13, .invokestatic 339, 3), (16, .areturn, 1)] : List (Nat × Instr × Nat)), decode jdk_65_method_132_code p.1 = .ok p.2 := by decide +kernel
theorem own_D33 : ∀ p ∈ ([(0, .iload_n 1, 1), (1, .iload_n 2, 1), (2, .invokestatic 343, 3), (5, .iload_n 2, 1), (6, .iload_n 1, 1), (7, .isub, 1), (8, .istore_n 3, 1), (9, .iload_n 3, 1), (10, .newarray .byte, 2), (12, .astore 4, 2), (14, .aload_n 0, 1), (15, .iload_n 1, 1), (16, .aload 4, 2), (18, .iconst 0, 1), (19, .aload_n 0, 1), (20, .arraylength, 1), (21, .iload_n 1, 1), (22, .isub, 1), (23, .iload_n 3, 1), (24, .invokestatic 304, 3), (27, .invokestatic 150, 3), (30, .aload 4, 2), (32, .areturn, 1)] : List (Nat × Instr × Nat)), decode jdk_65_method_133_code p.1 = .ok p.2 := by decide +kernel
theorem own_D34 : ∀ p ∈ ([(0, .iload_n 1, 1), (1, .iload_n 0, 1), (2, .if_icmp .ge 35, 3), (37, .return_, 1)] : List (Nat × Instr × Nat)), decode jdk_65_method_131_code p.1 = .ok p.2 := by decide +kernel
theorem own_D35 : ∀ p ∈ ([(0, .aload_n 0, 1), (1, .aload_n 1, 1), (2, .aload_n 2, 1), (3, .iconst 0, 1), (4, .invokespecial 1, 3), (7, .return_, 1)] : List (Nat × Instr × Nat)), decode prog_9_method_1_code p.1 = .ok p.2 := by decide +kernel
theorem own_D36 : ∀ p ∈ ([(0, .aload_n 0, 1), (1, .aload_n 2, 1), (2, .invokespecial 7, 3), (5, .aload_n 0, 1), (6, .aload_n 1, 1), (7, .putfield 12, 3), (10, .aload_n 0, 1), (11, .iload_n 3, 1), (12, .putfield 16, 3), (15, .return_, 1)] : List (Nat × Instr × Nat)), decode prog_9_method_2_code p.1 = .ok p.2 := by decide +kernel
theorem own_D42 : ∀ p ∈ ([(0, .aload_n 0, 1), (1, .getfield 12, 3), (4, .areturn, 1)] : List (Nat × Instr × Nat)), decode prog_9_method_6_code p.1 = .ok p.2 := by decide +kernel
theorem own_D43 : ∀ p ∈ ([(0, .aload_n 0, 1), (1, .getfield 16, 3), (4, .ireturn, 1)] : List (Nat × Instr × Nat)), decode prog_9_method_7_code p.1 = .ok p.2 := by decide +kernel
theorem own_D44 : ∀ p ∈ ([(0, .aload_n 0, 1), (1, .getfield 31, 3), (4, .areturn, 1)] : List (Nat × Instr × Nat)), decode jdk_78_method_6_code p.1 = .ok p.2 := by decide +kernel
theorem own_D47 : ∀ p ∈ ([(0, .aload_n 0, 1), (1, .aload_n 0, 1), (2, .getfield 79, 3), (5, .iconst 4, 1), (6, .iadd, 1), (7, .invokevirtual 100, 3), (10, .aload_n 0, 1), (11, .getfield 79, 3), (14, .istore_n 1, 1), (15, .aload_n 0, 1), (16, .getfield 15, 3), (19, .astore_n 2, 1), (20, .aload_n 0, 1), (21, .invokevirtual 83, 3), (24, .ifCond .eq 38, 3), (27, .aload_n 2, 1), (28, .iload_n 1, 1), (29, .iinc 1 1, 3), (32, .bipush 110, 2), (34, .bastore, 1), (35, .aload_n 2, 1), (36, .iload_n 1, 1), (37, .iinc 1 1, 3), (40, .bipush 117, 2), (42, .bastore, 1), (43, .aload_n 2, 1), (44, .iload_n 1, 1), (45, .iinc 1 1, 3), (48, .bipush 108, 2), (50, .bastore, 1), (51, .aload_n 2, 1), (52, .iload_n 1, 1), (53, .iinc 1 1, 3), (56, .bipush 108, 2), (58, .bastore, 1), (59, .goto 17, 3), (76, .aload_n 0, 1), (77, .iload_n 1, 1), (78, .putfield 79, 3), (81, .aload_n 0, 1), (82, .areturn, 1)] : List (Nat × Instr × Nat)), decode jdk_68_method_26_code p.1 = .ok p.2 := by decide +kernel
theorem own_and255 (x : Int32) : ¬ (nar .char ((x &&& (255 : Int32)).toUInt32.toUInt16.toUInt32.toInt32)) < 0 ∧ ¬ (255 : Int32) < (nar .char ((x &&& (255 : Int32)).toUInt32.toUInt16.toUInt32.toInt32)) := by
  rw [i2c_mask]
  have e : nar .char (x &&& 255) = x &&& 255 := i2c_mask x
  rw [e]
  have h := c_and x (255 : Int32) (by decide)
  have e255 : (255 : Int32).toInt = 255 := by decide
  constructor
  · intro q; rw [Int32.lt_iff_toInt_lt] at q; have : (0 : Int32).toInt = 0 := by decide
    omega
  · intro q; rw [Int32.lt_iff_toInt_lt] at q; omega
theorem own_words (Z : State) (a0 : Array Value) (hw : own_H a0 Z) : ∀ d ∈ StrChars.Road.words, d.before a0 Z = true := fun d hd => hw d ((by decide +kernel : ∀ d ∈ StrChars.Road.words, d ∈ tables_1) d hd)
theorem own_wordsEq (Z : State) (a0 : Array Value) (hw : own_H a0 Z) : ∀ d ∈ StrChars.Road.wordsEq, d.before a0 Z = true := fun d hd => hw d ((by decide +kernel : ∀ d ∈ StrChars.Road.wordsEq, d ∈ tables_1) d hd)
theorem own_up {c : Int32} (h : ¬ c < 0 ∧ ¬ (255 : Int32) < c) : ¬ c < 0 ∧ ¬ (65535 : Int32) < c := by
  refine ⟨h.1, fun q => h.2 ?_⟩
  rw [Int32.lt_iff_toInt_lt] at q ⊢
  have e1 : (255 : Int32).toInt = 255 := by decide
  have e2 : (65535 : Int32).toInt = 65535 := by decide
  omega
theorem own_sameM {Z : State} {a0 : Array Value} {C : String} {y x : MethodName} (w1 : (Jvm.Cond.selects C y y).before a0 Z = true) (w2 : (Jvm.Cond.instanceMethod x).before a0 Z = true) (hxy : x.cls = y.cls) (hx : x.cls ≠ "java/lang/invoke/MethodHandle" ∧ x.cls ≠ "java/lang/invoke/VarHandle") : (Jvm.Cond.sameMethod x.cls x.cls x.name x.desc).before a0 Z = true := by
  obtain ⟨c2, r2, m2, q1, q2, q3, q4, kP, hkP, hkPi⟩ := Cond.selects_spec w1
  obtain ⟨m, meth, hn, hm, -, -⟩ := Cond.instanceMethod_spec w2
  have f1 := findClass_of_methodNamed q3
  have f2 := findClass_of_methodNamed hn
  have f3 := f2
  rw [hxy, f1] at f3
  have hf := State.methodFound?_of_named hn hx
  have hk : Z.vm.classes[m.cls]? = some kP := by rw [← Option.some.inj f3]; exact hkP
  have hn' : Z.methodNamed? ⟨x.cls, x.name, x.desc⟩ = some m := hn
  simp [Cond.before, Cond.holds, Cond.value, f2, hf, hn', hk, hkPi]
theorem own_nf {args : Array Value} {s : State} {C : String} {y x : MethodName} (hsel : (Jvm.Cond.selects C y y).before args s = true) (hxy : x.cls = y.cls) : NotFace s x := fun r0 h0 => by
  obtain ⟨c2, r2, m2, q1, q2, q3, q4, kP, hkP, hkPi⟩ := Cond.selects_spec hsel
  have f1 := findClass_of_methodNamed q3
  have f2 := findClass_of_methodNamed h0
  rw [hxy, f1] at f2
  exact ⟨kP, by rw [← Option.some.inj f2]; exact hkP, hkPi⟩
theorem own_decl {Z : State} {a0 : Array Value} {y : MethodName} {bytes : ByteArray} {maxL : Nat} {ret : Option FieldType} (w1 : (Jvm.Cond.instanceMethod y).before a0 Z = true) (w2 : (Jvm.Cond.code y bytes maxL ret).before a0 Z = true) : (Jvm.Cond.declares y).before a0 Z = true := by
  obtain ⟨m, meth, hn, hm, hst, -⟩ := Cond.instanceMethod_spec w1
  obtain ⟨m2, c, q1, -, -, -, -, -, -, hsig⟩ := Cond.code_spec hn w2
  cases hm.symm.trans q1
  simp [Cond.before, Cond.holds, Cond.value, hn, hm, hst, hsig]
theorem own_known {vm : Vm} {m : MethodId} (h : Jvm.D.methodKnown vm m = true) : vm.knowsMethod m := by
  unfold Jvm.D.methodKnown at h
  cases e : vm.classes[m.cls]? with
  | none => rw [e] at h; cases h
  | some k =>
    rw [e] at h
    refine ⟨k, e, fun cf hcf => ?_⟩
    simp only [hcf] at h
    exact h
theorem own_framesKnown {s : State} {fs : List Frame} (h : Jvm.D.framesKnown s = true) (hf : ∀ f ∈ fs, f ∈ s.frames) : s.vm.FramesKnown fs := by
  intro y hy m' hm'
  have q := List.all_eq_true.mp h y (hf y hy)
  cases y with
  | java g => cases hm'; exact own_known q
  | native n => cases hm'; exact own_known q
  | _ => cases hm'
theorem own_methodsKnown {s : State} (h : Jvm.D.tablesKnown s = true) : s.vm.MethodsKnown := by
  intro m x hx
  unfold Vm.method? at hx
  cases e : s.vm.classes[m.cls]? with
  | none => rw [e] at hx; cases hx
  | some k =>
    rw [e] at hx
    have hx' : k.methods[m.idx]? = some x := hx
    refine ⟨k, e, fun cf hcf => ?_⟩
    have hk : k ∈ s.vm.classes := Array.mem_of_getElem? e
    have q := Array.all_eq_true_iff_forall_mem.mp h k hk
    rw [hcf] at q
    have q' : k.methods.size = cf.methods.size := by simpa using q
    have hlt : m.idx < k.methods.size := (Array.getElem?_eq_some_iff.mp hx').1
    have hlt2 : m.idx < cf.methods.size := q' ▸ hlt
    simp [hlt2]
theorem own_fn {P : Int32 → Prop} : ∀ c ∈ ([] : List Int32), P c := fun _ h => absurd h List.not_mem_nil
theorem own_fc {P : Int32 → Prop} {a : Int32} {l : List Int32} (h : P a) (t : ∀ c ∈ l, P c) : ∀ c ∈ a :: l, P c := List.forall_mem_cons.mpr ⟨h, t⟩
theorem own_and3 (x : Int32) : x &&& (3 : Int32) = 0 ∨ x &&& (3 : Int32) = 1 ∨ x &&& (3 : Int32) = 2 ∨ x &&& (3 : Int32) = 3 := by
  have h := c_and x (3 : Int32) (by decide)
  have e3 : (3 : Int32).toInt = 3 := by decide
  have e0 : (0 : Int32).toInt = 0 := by decide
  have e1 : (1 : Int32).toInt = 1 := by decide
  have e2 : (2 : Int32).toInt = 2 := by decide
  have q : ∀ y : Int32, (x &&& 3).toInt = y.toInt → x &&& 3 = y := fun y e => Int32.toInt_inj.mp e
  have hc : (x &&& 3).toInt = 0 ∨ (x &&& 3).toInt = 1 ∨ (x &&& 3).toInt = 2 ∨ (x &&& 3).toInt = 3 := by omega
  rcases hc with e | e | e | e
  · exact Or.inl (q 0 (by rw [e, e0]))
  · exact Or.inr (Or.inl (q 1 (by rw [e, e1])))
  · exact Or.inr (Or.inr (Or.inl (q 2 (by rw [e, e2]))))
  · exact Or.inr (Or.inr (Or.inr (q 3 (by rw [e, e3]))))
def own_Qeq (n0 : Nat) (h : Heap) (v : Option Value) (h' : Heap) (L : List Loc) : Prop := v = some (.int 1) ∧ Fr n0 L ∧ h' = h
theorem own_eqB {p : Program} {l : Launch} {e : Env} {R : Room} {s : State} {args : Array Value} {below : List Frame} {len W n0 : Nat} {Z : State} {a0 : Array Value} {h : Heap} (hZ : Z.Warmed39 s.vm) (hw : ∀ d ∈ StrChars.Road.wordsEq, d.before a0 Z = true) {kI : Nat} (wi : (Jvm.Cond.instantiable "java/lang/String" kI).before a0 Z = true)
    {x t : Addr} {kb : ClassId} {cs : List Int32} {cd N2 : Int32} {vs : List Value} (E : Exa Z h x "java/lang/String") (V : Fld Z h x "java/lang/String" "value" "[B" (.ref t)) (C : Fld Z h x "java/lang/String" "coder" "B" (.int cd)) (K : Arv Z h t kb .byte N2 vs (.int 0)) (hc : StrChars.Road.CodA cs cd N2 vs) (hb : ∀ c ∈ cs, ¬ c < 0 ∧ ¬ (65535 : Int32) < c) (l2 : cs.length ≤ 4000)
    {y t' : Addr} {kb' : ClassId} {cd' N2' : Int32} {vs' : List Value} (E' : Exa Z h y "java/lang/String") (V' : Fld Z h y "java/lang/String" "value" "[B" (.ref t')) (C' : Fld Z h y "java/lang/String" "coder" "B" (.int cd')) (K' : Arv Z h t' kb' .byte N2' vs' (.int 0)) (hc' : StrChars.Road.CodA cs cd' N2' vs')
    {z : Int32} (S : Sta Z h "java/lang/String" "COMPACT_STRINGS" "Z" (.int z)) (hz : ¬ z = 0) (hfr : 2 ≤ R.frames) (hlo : W + 28 ≤ R.locals) :
    Back l R p e below s args Mn21 len W (fun P a => a = #[.ref x, .ref y] ∧ P.U.heap = h ∧ P.cells + 0 ≤ R.cells ∧ P.slots + 0 ≤ R.slots)
      (fun P _ v B => ∃ L, own_Qeq n0 h v B.U.heap L ∧ B.locs = P.locs ++ L ∧ B.cells = P.cells + 0 ∧ B.slots = P.slots + 0) :=
  Back.mono (StrChars.Road.eqW hZ hw wi E V C K hc hb l2 E' V' C' K' hc' hb l2 S hz hfr hlo) (fun P a hp => hp) (fun P a v B hp hq => by
    obtain ⟨L, ⟨hv, rfl, hh⟩, hl⟩ := hq
    refine ⟨[], ⟨?_, Fr.nil n0, hh⟩, hl⟩
    rcases hv with ⟨q, -⟩ | ⟨-, q⟩
    · exact q
    · exact absurd rfl q)

def own_EL : List (String × Nat) := [("com/example/shard_feed/shardfeed/Refusal", 30), ("com/example/shard_feed/shardfeed/RefusalUnknownUserPinLaw", 12), ("java/lang/String", 7)]
theorem own_tx_0 : ∀ c ∈ "".toList, c.toNat < 256 := by decide +kernel
theorem own_txt_0 : (∀ c ∈ "".toList, c.toNat < 256) ∧ "".toList.map (fun c => Value.int (Jvm.Lit.byteI c.toNat.toUInt16)) = [] := ⟨own_tx_0, by decide +kernel⟩
theorem own_tx_17 : ∀ c ∈ "no user is named ".toList, c.toNat < 256 := by decide +kernel
theorem own_txt_17 : (∀ c ∈ "no user is named ".toList, c.toNat < 256) ∧ "no user is named ".toList.map (fun c => Value.int (Jvm.Lit.byteI c.toNat.toUInt16)) = own_l17 := ⟨own_tx_17, by decide +kernel⟩
theorem own_tx_21 : ∀ c ∈ "no user is named null".toList, c.toNat < 256 := by decide +kernel
theorem own_txt_21 : (∀ c ∈ "no user is named null".toList, c.toNat < 256) ∧ "no user is named null".toList.map (fun c => Value.int (Jvm.Lit.byteI c.toNat.toUInt16)) = own_l21 := ⟨own_tx_21, by decide +kernel⟩
theorem own_hEL (Z : State) (a0 : Array Value) (hw : own_H a0 Z) : EW Z a0 own_EL := (EW.cons (g_ hw 64 rfl) own_tx_17 (EW.cons (g_ hw 268 rfl) own_tx_21 (EW.cons (g_ hw 267 rfl) own_tx_0 EW.nil)))
theorem own_wS (Z : State) (a0 : Array Value) (hw : own_H a0 Z) : ∀ a ∈ Bundle.stringAtoms, a.before a0 Z = true := fun d hd => hw d ((by decide +kernel : ∀ d ∈ Bundle.stringAtoms, d ∈ tables_1) d hd)
/-- a String whose value is null is no booked literal's cell -/
theorem own_safe_blank {Z : State} {EL : List (String × Nat)} {vm : Vm} {h : Heap} {x : Addr} (hal : Z.vm.Alike vm) (E : Exa Z h x "java/lang/String") (F : Fld Z h x "java/lang/String" "value" "[B" .null) : Safe Z EL vm h x := fun B => by
  obtain ⟨pp, -, u, a, -, q, -, S, hy⟩ := B
  rcases hy with rfl | rfl
  · obtain ⟨cell, cf, k, i, f, h1, h2, h3, h4, h5, h6, h7⟩ := F
    cases (show h[q.sa]? = some q.sC from S.ha).symm.trans h1
    obtain ⟨cS, ⟨⟨-, -, -, ⟨c1, k1, i1, f1, -⟩, -, -, -, v1, -⟩, -⟩, -⟩ := S
    obtain ⟨k3, e3, -⟩ := State.fieldFound?_setVm (s := Z) hal h2
    have e4 := (show (Wst Z vm h).fieldFound? _ _ _ = _ from e3).symm.trans f1
    simp only [Option.some.injEq, Prod.mk.injEq] at e4
    rw [← e4.2.2.2, h7] at v1
    simp at v1
  · obtain ⟨cell, k, e1, e2, e3, -, -⟩ := E
    cases (show h[q.sd]? = some q.SA from S.hd).symm.trans e1
    obtain ⟨cS, -, -, f, -⟩ := S
    have f' : vm.findClass "[B" = some q.SA.cls := f
    rw [hal.findClass] at f'
    obtain ⟨k1, q1, q2⟩ := Vm.findClass_spec f'
    obtain ⟨k2, q3, q4⟩ := Vm.findClass_spec e2
    cases q1.symm.trans q3
    exact absurd (q2.symm.trans q4) (by decide)
theorem own_pn_java_lang_String : plainName "java/lang/String" = true := by first | (simp [plainName, overriddenIn]; done) | decide +kernel
theorem own_ef_RRIIN_6 (m : MethodId) (x0 : Addr) (x1 : Addr) (x2 : Int32) (x3 : Int32) : entryFrame m #[(.ref x0), (.ref x1), (.int x2), (.int x3), .null] 6 = mkF m 0 #[.val (.ref x0), .val (.ref x1), .val (.int x2), .val (.int x3), .val .null, .unset] [] := by first | (simp [entryFrame, mkF, argsToLocals, Value.category]; done) | rfl
def Q_i4z (Z : State) (a1 : Addr) (a2 : Addr) (h0 : Heap) (n0 : Nat) (v : Option Value) (h : Heap) (L : List Loc) : Prop := v = none ∧ Fr n0 L ∧ Keep h0 h [a1] ∧ Exa Z h a1 "java/lang/String" ∧ Fld Z h a1 "java/lang/String" "coder" "B" (.int 0) ∧ ∃ t kb, Fld Z h a1 "java/lang/String" "value" "[B" (.ref t) ∧ Arv Z h t kb .byte (0 : Int32) [] (.int 0)
theorem rm_i4z (l : Launch) (Z : State) (a0 : Array Value) (hw : own_H a0 Z) (ws : List Jvm.Cond) (a1 : Addr) (a2 : Addr) (h0 : Heap) (n0 : Nat) (Z0 : n0 ≤ h0.size) (E1 : Exa Z h0 a1 "java/lang/String") (F1 : Fld Z h0 a1 "java/lang/String" "value" "[B" .null) (F2 : Fld Z h0 a1 "java/lang/String" "coder" "B" (.int 0)) (g1 : n0 ≤ a1) : own_MS own_EL l Mn29 jdk_42_method_149_code 6 none ws ({ frames := 1, cells := 4, slots := 8, locals := 12 } : Room) Z h0 #[(.ref a1), (.ref a2), (.int (0 : Int32)), (.int (0 : Int32)), .null] (fun _ _ _ _ _ => True) (Q_i4z Z a1 a2 h0 n0) := by
  refine own_startS (plainFor_of_name own_pn_java_lang_String) fun p e s m below meth c s₁ Bd hx hby hml hown0 X0 e0 hh0 hZ hCH0 hS0 hK Pst hPst => ?_
  have dE := own_E hby own_D3
  have hown : s.vm.findClass "java/lang/String" = some m.cls := hown0
  have hnm := (name_of_methodNamed Bd.named Bd.method).1
  have N0 := Fr.nil n0
  have hk0 : 0 ≤ h0.size := Nat.zero_le _
  have hEL := own_hEL Z a0 hw
  rw [own_ef_RRIIN_6 m a1 a2 (0 : Int32) (0 : Int32)]
  have sf1 : Safe Z own_EL s.vm h0 a1 := own_safe_blank hZ.alike E1 F1
  refine o_aloadN X0.here hx (dE 0 rfl) rfl rfl ?_
  refine p_initO X0 hx hZ hown (g_ hw 15 rfl) (g_ hw 16 rfl) (g_ hw 17 rfl) e0 (by rw [hml]; rfl) rfl (dE 1 rfl) (by decide) (W := 0) (by show 2 * 0 + _ ≤ _; exact Nat.le_of_eq rfl) (by decide) fun T101 X101 e101 => ?_
  refine o_iloadN X101.here hx (dE 2 rfl) rfl ?_
  refine o_ifNo X101.here hx (dE 3 rfl) rfl ((if0 _ _).trans (teq rfl).2) ?_
  refine o_aloadN X101.here hx (dE 4 rfl) rfl rfl ?_
  obtain ⟨a102, T102, h102, j102, b102, k102, X102, e102, E102, hS102, hk102, hZ102, hown102, A102, C102, V102, K102, la102, lb102, cr102, lit102, sn102, st102⟩ := ldcCH X101 hx hZ hown (g_ hw 267 rfl) (own_wS Z a0 hw) e101 hS0 hk0 hEL (List.mem_of_getElem? (i := 2) rfl) hCH0 (vs := []) (z := (0 : Int32)) own_txt_0 (by decide) rfl (g := (mkF m 9 #[.val (.ref a1), .val (.ref a2), .val (.int (0 : Int32)), .val (.int (0 : Int32)), .val .null, .unset] [(.ref a1)])) rfl (dE 5 rfl) (n := 0) (by decide) (by decide) (by decide) (by decide)
  refine own_Go.of st102 ?_
  have c103 := cr102.1
  have c104 := (CHr.trans (CHr.refl hCH0) cr102)
  have c105 := (cr102.safe E1.lt sf1)
  have nl_a1_102 := sn102 _ c105
  show own_Go p e below Pst (T102.setTop (mkF m 11 #[.val (.ref a1), .val (.ref a2), .val (.int (0 : Int32)), .val (.int (0 : Int32)), .val .null, .unset] [(.ref a102), (.ref a1)]))
  refine p_getF X102 hx hZ102 hown102 (host := "") (Or.inl (g_ hw 32 rfl)) Via.refl e102 V102 rfl (dE 6 rfl) fun T106 X106 e106 => ?_
  have c107 := (E1.ext E102)
  have c108 := (F1.ext E102)
  refine p_putF X106 hx hZ102 hown102 (host := "") (Or.inl (g_ hw 32 rfl)) Via.refl e106 c108 c107 (Or.inr ⟨(g_ hw 33 rfl), rfl, hnm⟩) (g_ hw 6 rfl) (ty := (.array .byte)) (by decide) rfl rfl rfl (dE 7 rfl) fun T109 h109 X109 e109 W109 => ?_
  have c110 := (CHv.wr W109 c105 c103)
  have c111 := (CHr.trans c104 (CHr.wr W109 c105 c103))
  have c112 := (Nat.le_trans hk102 (Keep.of_wr W109).1)
  have Fw109 := Fld.same W109 c108
  have N109 := Fr.snoc X109 N0 g1
  refine o_aloadN X109.here hx (dE 8 rfl) rfl rfl ?_
  have c114 := (c107.wr W109)
  obtain ⟨a113, T113, h113, j113, b113, k113, X113, e113, E113, hS113, hk113, hZ113, hown113, A113, C113, V113, K113, la113, lb113, cr113, lit113, sn113, st113⟩ := ldcCH X109 hx hZ102 hown102 (g_ hw 267 rfl) (own_wS Z a0 hw) e109 hS102 c112 hEL (List.mem_of_getElem? (i := 2) rfl) c110 (vs := []) (z := (0 : Int32)) own_txt_0 (by decide) rfl (g := (mkF m 18 #[.val (.ref a1), .val (.ref a2), .val (.int (0 : Int32)), .val (.int (0 : Int32)), .val .null, .unset] [(.ref a1)])) rfl (dE 9 rfl) (n := 0) (by decide) (by decide) (by decide) (by decide)
  refine own_Go.of st113 ?_
  have c115 := cr113.1
  have c116 := (CHr.trans c111 cr113)
  have c117 := (cr113.safe c114.lt (Safe.wr W109 c105 c103 c105))
  have nl_a1_113 := sn113 _ c117
  show own_Go p e below Pst (T113.setTop (mkF m 20 #[.val (.ref a1), .val (.ref a2), .val (.int (0 : Int32)), .val (.int (0 : Int32)), .val .null, .unset] [(.ref a113), (.ref a1)]))
  refine p_getF X113 hx hZ113 hown113 (host := "") (Or.inl (g_ hw 30 rfl)) Via.refl e113 C113 rfl (dE 10 rfl) fun T118 X118 e118 => ?_
  have c119 := (c114.ext E113)
  have c120 := (((F2.ext E102).other W109 (Or.inr (slot_ne (Or.inr (g_ hw 31 rfl)) (Or.inr (g_ hw 33 rfl)) (by decide) (t := .byte) (t' := (.array .byte)) (by decide) (by decide)))).ext E113)
  refine p_putFN X118 hx hZ113 hown113 (g_ hw 30 rfl) Via.refl e118 c120 c119 (Or.inr ⟨(g_ hw 31 rfl), rfl, hnm⟩) (g_ hw 6 rfl) (ty := .byte) (v' := (.int (0 : Int32))) (by decide) rfl rfl rfl (dE 11 rfl) fun T121 h121 X121 e121 W121 => ?_
  have c122 := (CHv.wr W121 c117 c115)
  have c123 := (CHr.trans c116 (CHr.wr W121 c117 c115))
  have c124 := (Nat.le_trans hk113 (Keep.of_wr W121).1)
  have Fw121 := Fld.same W121 c120
  have N121 := Fr.snoc X121 N109 g1
  have c125 := (((((Keep.refl h0 [a1]).ext E102).wr W109 (Or.inl (List.mem_of_getElem? (i := 0) rfl))).ext E113).wr W121 (Or.inl (List.mem_of_getElem? (i := 0) rfl)))
  have c126 := (c119.wr W121)
  have c127 := ((Fw109.ext E113).other W121 (Or.inr (slot_ne (Or.inr (g_ hw 33 rfl)) (Or.inr (g_ hw 31 rfl)) (by decide) (t := (.array .byte)) (t' := .byte) (by decide) (by decide))))
  have c128 := (((K102.other W109 (Ne.symm nl_a1_102.2)).ext E113).other W121 (Ne.symm nl_a1_102.2))
  rw [hPst]
  exact own_retW X121 hS113 (by rw [e121]; exact c124) (v := none) (Q := Q_i4z Z a1 a2 h0 n0) (fun _ => rfl) Bd.notSynchronized (fun fs hr => X121.returnOut hx Bd.returns (dE 12 rfl) hr) (by decide) (by decide) (by rw [hh0, e121]; exact CHr.trans c123 (CHv.at X121 hZ113 hEL c122)) (by rw [e121]; exact ⟨rfl, N121, c125, c126, Fw121, _, _, c127, c128⟩)
theorem own_pd0 : parseMethodDescriptor "([CIILjava/lang/Void;)V" = some ⟨[(.array .char), .int, .int, (.object "java/lang/Void")], none⟩ := by decide +kernel
theorem own_ef_RR_2 (m : MethodId) (x0 : Addr) (x1 : Addr) : entryFrame m #[(.ref x0), (.ref x1)] 2 = mkF m 0 #[.val (.ref x0), .val (.ref x1)] [] := by first | (simp [entryFrame, mkF, argsToLocals, Value.category]; done) | rfl
def Q_i1z (Z : State) (a1 : Addr) (a2 : Addr) (kc : ClassId) (vs : List Value) (dv : Value) (h0 : Heap) (n0 : Nat) (v : Option Value) (h : Heap) (L : List Loc) : Prop := v = none ∧ Fr n0 L ∧ Keep h0 h [a1] ∧ Exa Z h a1 "java/lang/String" ∧ Fld Z h a1 "java/lang/String" "coder" "B" (.int 0) ∧ ∃ t kb, Fld Z h a1 "java/lang/String" "value" "[B" (.ref t) ∧ Arv Z h t kb .byte (0 : Int32) [] (.int 0)
theorem rm_i1z (l : Launch) (Z : State) (a0 : Array Value) (hw : own_H a0 Z) (ws : List Jvm.Cond) (a1 : Addr) (a2 : Addr) (kc : ClassId) (vs : List Value) (dv : Value) (h0 : Heap) (n0 : Nat) (Z0 : n0 ≤ h0.size) (E1 : Exa Z h0 a1 "java/lang/String") (F1 : Fld Z h0 a1 "java/lang/String" "value" "[B" .null) (F2 : Fld Z h0 a1 "java/lang/String" "coder" "B" (.int 0)) (g1 : n0 ≤ a1) (A1 : Arv Z h0 a2 kc .char (0 : Int32) vs dv) : own_MS own_EL l Mn15 jdk_42_method_3_code 2 none ws ({ frames := 2, cells := 4, slots := 8, locals := 29 } : Room) Z h0 #[(.ref a1), (.ref a2)] (fun _ _ _ _ _ => True) (Q_i1z Z a1 a2 kc vs dv h0 n0) := by
  refine own_startS (plainFor_of_name own_pn_java_lang_String) fun p e s m below meth c s₁ Bd hx hby hml hown0 X0 e0 hh0 hZ hCH0 hS0 hK Pst hPst => ?_
  have dE := own_E hby own_D2
  have hown : s.vm.findClass "java/lang/String" = some m.cls := hown0
  have hnm := (name_of_methodNamed Bd.named Bd.method).1
  have N0 := Fr.nil n0
  have hk0 : 0 ≤ h0.size := Nat.zero_le _
  have hEL := own_hEL Z a0 hw
  rw [own_ef_RR_2 m a1 a2]
  have sf1 : Safe Z own_EL s.vm h0 a1 := own_safe_blank hZ.alike E1 F1
  refine o_aloadN X0.here hx (dE 0 rfl) rfl rfl ?_
  refine o_aloadN X0.here hx (dE 1 rfl) rfl rfl ?_
  refine o_iconst X0.here hx (dE 2 rfl) (z := (0 : Int32)) rfl ?_
  refine o_aloadN X0.here hx (dE 3 rfl) rfl rfl ?_
  obtain ⟨cl101, Ar101, -, S101, P101, -, -⟩ := id A1
  refine own_Go.of (S' := s₁.setTop (mkF m 5 #[.val (.ref a1), .val (.ref a2)] [(.int (0 : Int32)), (.int (0 : Int32)), (.ref a2), (.ref a1)])) (fun tgt kst => X0.arraylength hx (by rw [e0]; exact Ar101.1) (State.isArrayOf_alike hZ.alike Ar101.2.1) (g := (mkF m 4 #[.val (.ref a1), .val (.ref a2)] [(.ref a2), (.int (0 : Int32)), (.ref a2), (.ref a1)])) rfl rfl (dE 4 rfl) _ (by rw [len_of S101 P101]; exact kst)) ?_
  refine o_aconstNull X0.here hx (dE 5 rfl) ?_
  refine own_cS X0 hS0 (by rw [e0]; exact hk0) hZ hown (X0.specialBackS hx (y := Mn29) rfl hown (mvT hZ (g_ hw 11 rfl)) (mvT hZ (g_ hw 12 rfl)) (mvT hZ (g_ hw 14 rfl)) (by decide) (backOfSH (W := 0) (rm_i4z l Z a0 hw [] a1 a2 h0 n0 Z0 E1 F1 F2 g1) hZ (g_ hw 14 rfl) (g_ hw 7 rfl) (by decide) (by decide) hEL hCH0) (g := (mkF m 6 #[.val (.ref a1), .val (.ref a2)] [.null, (.int (0 : Int32)), (.int (0 : Int32)), (.ref a2), (.ref a1)])) rfl (by rw [hml]; rfl) (Steps.refl _) (a := a1) (argsL := [(.ref a2), (.int (0 : Int32)), (.int (0 : Int32)), .null]) (rest := []) (lenOf own_pd0 rfl) rfl (by show 2 * 0 + _ ≤ _; exact Nat.le_of_eq rfl) (dE 6 rfl) (fun _ _ => ⟨rfl, e0, (by decide : 0 + 4 ≤ _), (by decide : 0 + 8 ≤ _)⟩)) fun v102 T102 L102 X102 hS102 hZ102 hown102 hQ102 cr102 => ?_
  obtain ⟨rfl, Nq102, K102, A102, C102, t102, kb102, V102, B102⟩ := hQ102
  have N102 := Fr.app N0 Nq102
  have c103 := cr102.1
  have c104 := (CHr.trans (CHr.refl hCH0) cr102)
  have c105 := (Nat.le_trans hk0 K102.1)
  show own_Go p e below Pst (T102.setTop (mkF m 9 #[.val (.ref a1), .val (.ref a2)] []))
  have c106 := (Keep.trans (Keep.refl h0 [a1]) K102 (allS (Or.inl (List.mem_of_getElem? (i := 0) rfl)) all0))
  rw [hPst]
  exact own_retW X102 hS102 (Nat.le_refl _) (v := none) (Q := Q_i1z Z a1 a2 kc vs dv h0 n0) (fun _ => rfl) Bd.notSynchronized (fun fs hr => X102.returnOut hx Bd.returns (dE 7 rfl) hr) (by decide) (by decide) (by rw [hh0]; exact CHr.trans c104 (CHv.at X102 hZ102 hEL c103)) ⟨rfl, N102, c106, A102, C102, _, _, V102, B102⟩
theorem own_ef_R_1 (m : MethodId) (x0 : Addr) : entryFrame m #[(.ref x0)] 1 = mkF m 0 #[.val (.ref x0)] [] := by first | (simp [entryFrame, mkF, argsToLocals, Value.category]; done) | rfl
def Q_cod (Z : State) (z : Int32) (a1 : Addr) (cd : Int32) (h0 : Heap) (n0 : Nat) (v : Option Value) (h : Heap) (L : List Loc) : Prop := v = some (.int (nar .byte cd)) ∧ Fr n0 L ∧ h = h0
theorem rm_cod (l : Launch) (Z : State) (a0 : Array Value) (hw : own_H a0 Z) (ws : List Jvm.Cond) (z : Int32) (a1 : Addr) (cd : Int32) (h0 : Heap) (n0 : Nat) (Z0 : n0 ≤ h0.size) (O : Old Z n0 h0) (SC : Sta Z Z.heap "java/lang/String" "COMPACT_STRINGS" "Z" (.int z)) (hz : ¬ z = 0) (F1 : Fld Z h0 a1 "java/lang/String" "coder" "B" (.int cd)) : own_MP l Mn1 jdk_42_method_152_code 1 (some .byte) ws ({ frames := 0, cells := 0, slots := 0, locals := 0 } : Room) Z h0 #[(.ref a1)] (fun _ _ _ _ _ => True) (Q_cod Z z a1 cd h0 n0) := by
  refine own_startP (plainFor_of_name own_pn_java_lang_String) fun p e s m below meth c s₁ Bd hx hby hml hown0 X0 e0 hh0 hZ hK Pst hPst => ?_
  have dE := own_E hby own_D15
  have hown : s.vm.findClass "java/lang/String" = some m.cls := hown0
  have hnm := (name_of_methodNamed Bd.named Bd.method).1
  have N0 := Fr.nil n0
  rw [own_ef_R_1 m a1]
  refine p_getS2 X0 hx hZ hown (host := "") (Or.inl (g_ hw 18 rfl)) Via.refl e0 (SC.ext O.2) (dE 0 rfl) fun T101 X101 e101 => ?_
  refine o_ifNo X101.here hx (dE 1 rfl) rfl ((if0 _ _).trans (feq hz).1) ?_
  refine o_aloadN X101.here hx (dE 2 rfl) rfl rfl ?_
  refine p_getF X101 hx hZ hown (host := "") (Or.inl (g_ hw 30 rfl)) Via.refl e101 F1 rfl (dE 3 rfl) fun T102 X102 e102 => ?_
  refine o_goto X102.here hx (pc0 := 10) (pc' := 14) rfl (dE 4 rfl) (by decide) (by decide) ?_
  rw [hPst]
  exact own_retP X102 (v := (some (.int (nar .byte cd)))) (Q := Q_cod Z z a1 cd h0 n0) (fun h => by rw [Bd.returns] at h; cases h) Bd.notSynchronized (fun fs hr => retN X102 hx (t := .byte) Bd.returns (by simp) (dE 5 rfl) hr) (by decide) (by decide) (by rw [e102]; exact ⟨rfl, N0, rfl⟩)
theorem own_pd1 : parseMethodDescriptor "()B" = some ⟨[], some .byte⟩ := by decide +kernel
def Q_len (Z : State) (z : Int32) (a1 t : Addr) (kb : ClassId) (cd N : Int32) (vs : List Value) (dv : Value) (h0 : Heap) (n0 : Nat) (v : Option Value) (h : Heap) (L : List Loc) : Prop := v = some (.int (N >>> (nar .byte cd &&& 31))) ∧ Fr n0 L ∧ h = h0
theorem rm_len (l : Launch) (Z : State) (a0 : Array Value) (hw : own_H a0 Z) (ws : List Jvm.Cond) (z : Int32) (a1 t : Addr) (kb : ClassId) (cd N : Int32) (vs : List Value) (dv : Value) (h0 : Heap) (n0 : Nat) (Z0 : n0 ≤ h0.size) (O : Old Z n0 h0) (SC : Sta Z Z.heap "java/lang/String" "COMPACT_STRINGS" "Z" (.int z)) (hz : ¬ z = 0) (E1 : Exa Z h0 a1 "java/lang/String") (F1 : Fld Z h0 a1 "java/lang/String" "coder" "B" (.int cd)) (F2 : Fld Z h0 a1 "java/lang/String" "value" "[B" (.ref t)) (A1 : Arv Z h0 t kb .byte N vs dv) : own_MP l Mn8 jdk_42_method_54_code 1 (some .int) ws ({ frames := 1, cells := 0, slots := 0, locals := 13 } : Room) Z h0 #[(.ref a1)] (fun _ _ _ _ _ => True) (Q_len Z z a1 t kb cd N vs dv h0 n0) := by
  refine own_startP (plainFor_of_name own_pn_java_lang_String) fun p e s m below meth c s₁ Bd hx hby hml hown0 X0 e0 hh0 hZ hK Pst hPst => ?_
  have dE := own_E hby own_D14
  have hown : s.vm.findClass "java/lang/String" = some m.cls := hown0
  have hnm := (name_of_methodNamed Bd.named Bd.method).1
  have N0 := Fr.nil n0
  rw [own_ef_R_1 m a1]
  refine o_aloadN X0.here hx (dE 0 rfl) rfl rfl ?_
  refine p_getF X0 hx hZ hown (host := "") (Or.inl (g_ hw 32 rfl)) Via.refl e0 F2 rfl (dE 1 rfl) fun T101 X101 e101 => ?_
  obtain ⟨cl102, Ar102, -, S102, P102, -, -⟩ := id A1
  refine own_Go.of (S' := T101.setTop (mkF m 5 #[.val (.ref a1)] [(.int N)])) (fun tgt kst => X101.arraylength hx (by rw [e101]; exact Ar102.1) (State.isArrayOf_alike hZ.alike Ar102.2.1) (g := (mkF m 4 #[.val (.ref a1)] [(.ref t)])) rfl rfl (dE 2 rfl) _ (by rw [len_of S102 P102]; exact kst)) ?_
  refine o_aloadN X101.here hx (dE 3 rfl) rfl rfl ?_
  obtain ⟨cq103, kq103, q103a, q103b, q103c⟩ := isOf hZ e101 E1
  refine own_cP X101 (X101.virtualBack hx (y := Mn1) (z := Mn1) hown (mvT hZ (g_ hw 82 rfl)) (mvT hZ (g_ hw 83 rfl)) (notFace_of_selects (args := #[]) (mvT hZ (g_ hw 85 rfl))) (mvT hZ (g_ hw 85 rfl)) (mvT hZ (g_ hw 84 rfl)) (by decide) (backOf (W := 1) (rm_cod l Z a0 hw [] z a1 cd h0 n0 Z0 O SC hz F1) hZ (g_ hw 86 rfl) (g_ hw 7 rfl) (by decide) (by decide)) q103a q103c (g := (mkF m 6 #[.val (.ref a1)] [(.ref a1), (.int N)])) rfl (by rw [hml]; rfl) (Steps.refl _) (argsL := []) (rest := [(.int N)]) (lenOf own_pd1 rfl) rfl (by show 2 * 0 + _ ≤ _; exact Nat.le_of_eq rfl) (dE 4 rfl) (fun _ _ => ⟨rfl, e101, (by decide : 0 + 0 ≤ _), (by decide : 0 + 0 ≤ _)⟩)) fun v103 T103 L103 X103 hQ103 => ?_
  obtain ⟨rfl, Nq103, e103⟩ := hQ103
  have N103 := Fr.app N0 Nq103
  show own_Go p e below Pst (T103.setTop (mkF m 9 #[.val (.ref a1)] [(.int (nar .byte cd)), (.int N)]))
  refine o_ishr X103.here hx (dE 5 rfl) rfl ?_
  rw [hPst]
  exact own_retP X103 (v := (some (.int (N >>> ((nar .byte cd) &&& 31))))) (Q := Q_len Z z a1 t kb cd N vs dv h0 n0) (fun h => by rw [Bd.returns] at h; cases h) Bd.notSynchronized (fun fs hr => own_retI X103 hx Bd.returns (dE 6 rfl) hr) (by decide) (by decide) (by rw [e103]; exact ⟨rfl, N103, rfl⟩)
theorem own_pn_java_lang_AbstractStringBuilder : plainName "java/lang/AbstractStringBuilder" = true := by first | (simp [plainName, overriddenIn]; done) | decide +kernel
theorem own_ef_RI_2 (m : MethodId) (x0 : Addr) (x1 : Int32) : entryFrame m #[(.ref x0), (.int x1)] 2 = mkF m 0 #[.val (.ref x0), .val (.int x1)] [] := by first | (simp [entryFrame, mkF, argsToLocals, Value.category]; done) | rfl
def Q_asbi (Z : State) (z : Int32) (a1 : Addr) (u1 u2 : Value) (h0 : Heap) (n0 : Nat) (v : Option Value) (h : Heap) (L : List Loc) : Prop := v = none ∧ Fr n0 L ∧ Keep h0 h [a1] ∧ Exa Z h a1 "java/lang/StringBuilder" ∧ Fld Z h a1 "java/lang/AbstractStringBuilder" "coder" "B" (.int (0 : Int32)) ∧ Fld Z h a1 "java/lang/AbstractStringBuilder" "count" "I" (.int (0 : Int32)) ∧ ∃ (t : Addr) (kb : ClassId), h0.size ≤ t ∧ Fld Z h a1 "java/lang/AbstractStringBuilder" "value" "[B" (.ref t) ∧ Arv Z h t kb .byte (16 : Int32) own_z16 (.int 0)
theorem rm_asbi (l : Launch) (Z : State) (a0 : Array Value) (hw : own_H a0 Z) (ws : List Jvm.Cond) (z : Int32) (a1 : Addr) (u1 u2 : Value) (h0 : Heap) (n0 : Nat) (Z0 : n0 ≤ h0.size) (O : Old Z n0 h0) (SC : Sta Z Z.heap "java/lang/String" "COMPACT_STRINGS" "Z" (.int z)) (hz : ¬ z = 0) (E1 : Exa Z h0 a1 "java/lang/StringBuilder") (g1 : n0 ≤ a1) (F1 : Fld Z h0 a1 "java/lang/AbstractStringBuilder" "value" "[B" u1) (F2 : Fld Z h0 a1 "java/lang/AbstractStringBuilder" "coder" "B" u2) (F3 : Fld Z h0 a1 "java/lang/AbstractStringBuilder" "count" "I" (.int (0 : Int32))) : own_MP l Mn30 jdk_68_method_2_code 2 none ws ({ frames := 1, cells := 1, slots := 16, locals := 12 } : Room) Z h0 #[(.ref a1), (.int (16 : Int32))] (fun _ _ _ _ _ => True) (Q_asbi Z z a1 u1 u2 h0 n0) := by
  refine own_startP (plainFor_of_name own_pn_java_lang_AbstractStringBuilder) fun p e s m below meth c s₁ Bd hx hby hml hown0 X0 e0 hh0 hZ hK Pst hPst => ?_
  have dE := own_E hby own_D11
  have hown : s.vm.findClass "java/lang/AbstractStringBuilder" = some m.cls := hown0
  have hnm := (name_of_methodNamed Bd.named Bd.method).1
  have N0 := Fr.nil n0
  rw [own_ef_RI_2 m a1 (16 : Int32)]
  refine o_aloadN X0.here hx (dE 0 rfl) rfl rfl ?_
  refine p_initO X0 hx hZ hown (g_ hw 58 rfl) (g_ hw 16 rfl) (g_ hw 17 rfl) e0 (by rw [hml]; rfl) rfl (dE 1 rfl) (by decide) (W := 0) (by show 2 * 0 + _ ≤ _; exact Nat.le_of_eq rfl) (by decide) fun T101 X101 e101 => ?_
  refine p_getS2 X101 hx hZ hown (host := "") (Or.inl (g_ hw 59 rfl)) Via.refl e101 (SC.ext O.2) (dE 2 rfl) fun T102 X102 e102 => ?_
  refine o_ifNo X102.here hx (dE 3 rfl) rfl ((if0 _ _).trans (feq hz).1) ?_
  refine o_aloadN X102.here hx (dE 4 rfl) rfl rfl ?_
  refine o_iloadN X102.here hx (dE 5 rfl) rfl ?_
  refine p_newP (aty := .byte) X102 hx hZ (g_ hw 23 rfl) e102 (dE 6 rfl) rfl (by decide) (cap := 16) (by decide) (by decide) (by decide) (by decide) fun T103 h103 k103 b103 g103 X103 e103 E103 A103 => ?_
  have ne_a1_b103 : a1 ≠ b103 := Nat.ne_of_lt (Nat.lt_of_lt_of_le E1.lt (Nat.le_of_eq g103.symm))
  have gn_b103 : n0 ≤ b103 := Nat.le_trans Z0 (Nat.le_of_eq g103.symm)
  have sz_b103 : h0.size ≤ b103 := Nat.le_trans (Keep.refl h0 [a1]).1 (Nat.le_of_eq g103.symm)
  have V103 : Arv Z h103 b103 k103 .byte (16 : Int32) own_z16 (.int (0 : Int32)) := (Arv.new A103 (by decide)).pad (pad_rep [] (.int (0 : Int32)) 16)
  have c104 := (E1.ext E103)
  have c105 := (F1.ext E103)
  refine p_putF X103 hx hZ hown (host := "") (Or.inl (g_ hw 60 rfl)) Via.refl e103 c105 c104 (Or.inl (g_ hw 61 rfl)) (g_ hw 47 rfl) (ty := (.array .byte)) (by decide) rfl rfl rfl (dE 7 rfl) fun T106 h106 X106 e106 W106 => ?_
  have Fw106 := Fld.same W106 c105
  have N106 := Fr.snoc X106 N0 g1
  refine o_aloadN X106.here hx (dE 8 rfl) rfl rfl ?_
  refine o_iconst X106.here hx (dE 9 rfl) (z := (0 : Int32)) rfl ?_
  have c107 := (c104.wr W106)
  have c108 := ((F2.ext E103).other W106 (Or.inr (slot_ne (Or.inl (g_ hw 63 rfl)) (Or.inl (g_ hw 61 rfl)) (by decide) (t := .byte) (t' := (.array .byte)) (by decide) (by decide))))
  refine p_putFN X106 hx hZ hown (g_ hw 62 rfl) Via.refl e106 c108 c107 (Or.inl (g_ hw 63 rfl)) (g_ hw 47 rfl) (ty := .byte) (v' := (.int (0 : Int32))) (by decide) rfl rfl rfl (dE 10 rfl) fun T109 h109 X109 e109 W109 => ?_
  have Fw109 := Fld.same W109 c108
  have N109 := Fr.snoc X109 N106 g1
  refine o_goto X109.here hx (pc0 := 22) (pc' := 38) rfl (dE 11 rfl) (by decide) (by decide) ?_
  have c110 := ((((Keep.refl h0 [a1]).ext E103).wr W106 (Or.inl (List.mem_of_getElem? (i := 0) rfl))).wr W109 (Or.inl (List.mem_of_getElem? (i := 0) rfl)))
  have c111 := (c107.wr W109)
  have c112 := (((F3.ext E103).other W106 (Or.inr (slot_ne (Or.inl (g_ hw 88 rfl)) (Or.inl (g_ hw 61 rfl)) (by decide) (t := .int) (t' := (.array .byte)) (by decide) (by decide)))).other W109 (Or.inr (slot_ne (Or.inl (g_ hw 88 rfl)) (Or.inl (g_ hw 63 rfl)) (by decide) (t := .int) (t' := .byte) (by decide) (by decide))))
  have c113 := (Fw106.other W109 (Or.inr (slot_ne (Or.inl (g_ hw 61 rfl)) (Or.inl (g_ hw 63 rfl)) (by decide) (t := (.array .byte)) (t' := .byte) (by decide) (by decide))))
  have c114 := ((V103.other W106 (Ne.symm ne_a1_b103)).other W109 (Ne.symm ne_a1_b103))
  rw [hPst]
  exact own_retP X109 (v := none) (Q := Q_asbi Z z a1 u1 u2 h0 n0) (fun _ => rfl) Bd.notSynchronized (fun fs hr => X109.returnOut hx Bd.returns (dE 12 rfl) hr) (by decide) (by decide) (by rw [e109]; exact ⟨rfl, N109, c110, c111, Fw109, c112, _, _, sz_b103, c113, c114⟩)
theorem own_pd2 : parseMethodDescriptor "(I)V" = some ⟨[.int], none⟩ := by decide +kernel
theorem own_pn_java_lang_StringBuilder : plainName "java/lang/StringBuilder" = true := by first | (simp [plainName, overriddenIn]; done) | decide +kernel
def Q_sbi (Z : State) (z : Int32) (a1 : Addr) (u1 u2 : Value) (h0 : Heap) (n0 : Nat) (v : Option Value) (h : Heap) (L : List Loc) : Prop := v = none ∧ Fr n0 L ∧ Keep h0 h [a1] ∧ Exa Z h a1 "java/lang/StringBuilder" ∧ Fld Z h a1 "java/lang/AbstractStringBuilder" "coder" "B" (.int (0 : Int32)) ∧ Fld Z h a1 "java/lang/AbstractStringBuilder" "count" "I" (.int (0 : Int32)) ∧ ∃ (t : Addr) (kb : ClassId), h0.size ≤ t ∧ Fld Z h a1 "java/lang/AbstractStringBuilder" "value" "[B" (.ref t) ∧ Arv Z h t kb .byte (16 : Int32) own_z16 (.int 0)
theorem rm_sbi (l : Launch) (Z : State) (a0 : Array Value) (hw : own_H a0 Z) (ws : List Jvm.Cond) (z : Int32) (a1 : Addr) (u1 u2 : Value) (h0 : Heap) (n0 : Nat) (Z0 : n0 ≤ h0.size) (O : Old Z n0 h0) (SC : Sta Z Z.heap "java/lang/String" "COMPACT_STRINGS" "Z" (.int z)) (hz : ¬ z = 0) (E1 : Exa Z h0 a1 "java/lang/StringBuilder") (g1 : n0 ≤ a1) (F1 : Fld Z h0 a1 "java/lang/AbstractStringBuilder" "value" "[B" u1) (F2 : Fld Z h0 a1 "java/lang/AbstractStringBuilder" "coder" "B" u2) (F3 : Fld Z h0 a1 "java/lang/AbstractStringBuilder" "count" "I" (.int (0 : Int32))) : own_MP l Mn25 jdk_67_method_1_code 1 none ws ({ frames := 2, cells := 1, slots := 16, locals := 25 } : Room) Z h0 #[(.ref a1)] (fun _ _ _ _ _ => True) (Q_sbi Z z a1 u1 u2 h0 n0) := by
  refine own_startP (plainFor_of_name own_pn_java_lang_StringBuilder) fun p e s m below meth c s₁ Bd hx hby hml hown0 X0 e0 hh0 hZ hK Pst hPst => ?_
  have dE := own_E hby own_D10
  have hown : s.vm.findClass "java/lang/StringBuilder" = some m.cls := hown0
  have hnm := (name_of_methodNamed Bd.named Bd.method).1
  have N0 := Fr.nil n0
  rw [own_ef_R_1 m a1]
  refine o_aloadN X0.here hx (dE 0 rfl) rfl rfl ?_
  refine o_bipush X0.here hx (dE 1 rfl) (z := (16 : Int32)) rfl ?_
  refine own_cP X0 (X0.specialBack hx (y := Mn30) rfl hown (mvT hZ (g_ hw 52 rfl)) (mvT hZ (g_ hw 53 rfl)) (mvT hZ (g_ hw 57 rfl)) (by decide) (backOf (W := 0) (rm_asbi l Z a0 hw [] z a1 u1 u2 h0 n0 Z0 O SC hz E1 g1 F1 F2 F3) hZ (g_ hw 57 rfl) (g_ hw 56 rfl) (by decide) (by decide)) (g := (mkF m 3 #[.val (.ref a1)] [(.int (16 : Int32)), (.ref a1)])) rfl (by rw [hml]; rfl) (Steps.refl _) (a := a1) (argsL := [(.int (16 : Int32))]) (rest := []) (lenOf own_pd2 rfl) rfl (by show 2 * 0 + _ ≤ _; exact Nat.le_of_eq rfl) (dE 2 rfl) (fun _ _ => ⟨rfl, e0, (by decide : 0 + 1 ≤ _), (by decide : 0 + 16 ≤ _)⟩)) fun v101 T101 L101 X101 hQ101 => ?_
  obtain ⟨rfl, Nq101, K101, A101, C101, D101, t101, kb101, st_101, V101, B101⟩ := hQ101
  have N101 := Fr.app N0 Nq101
  show own_Go p e below Pst (T101.setTop (mkF m 6 #[.val (.ref a1)] []))
  have c102 := (Keep.trans (Keep.refl h0 [a1]) K101 (allS (Or.inl (List.mem_of_getElem? (i := 0) rfl)) all0))
  rw [hPst]
  exact own_retP X101 (v := none) (Q := Q_sbi Z z a1 u1 u2 h0 n0) (fun _ => rfl) Bd.notSynchronized (fun fs hr => X101.returnOut hx Bd.returns (dE 3 rfl) hr) (by decide) (by decide) ⟨rfl, N101, c102, A101, C101, D101, _, _, st_101, V101, B101⟩
theorem own_ef_II_2 (m : MethodId) (x0 : Int32) (x1 : Int32) : entryFrame m #[(.int x0), (.int x1)] 2 = mkF m 0 #[.val (.int x0), .val (.int x1)] [] := by first | (simp [entryFrame, mkF, argsToLocals, Value.category]; done) | rfl
def Q_max (Z : State) (x y : Int32) (h0 : Heap) (n0 : Nat) (v : Option Value) (h : Heap) (L : List Loc) : Prop := v = some (.int y) ∧ Fr n0 L ∧ h = h0
theorem rm_max (l : Launch) (Z : State) (a0 : Array Value) (hw : own_H a0 Z) (ws : List Jvm.Cond) (x y : Int32) (h0 : Heap) (n0 : Nat) (Z0 : n0 ≤ h0.size) (hh : x < y) : own_MP l Mn31 jdk_29_method_65_code 2 (some .int) ws ({ frames := 0, cells := 0, slots := 0, locals := 0 } : Room) Z h0 #[(.int x), (.int y)] (fun _ _ _ _ _ => True) (Q_max Z x y h0 n0) := by
  refine own_startP (Jvm.Free.JP.mathPlain rfl (by decide +kernel)) fun p e s m below meth c s₁ Bd hx hby hml hown0 X0 e0 hh0 hZ hK Pst hPst => ?_
  have dE := own_E hby own_D19
  have hown : s.vm.findClass "java/lang/Math" = some m.cls := hown0
  have hnm := (name_of_methodNamed Bd.named Bd.method).1
  have N0 := Fr.nil n0
  rw [own_ef_II_2 m x y]
  refine o_iloadN X0.here hx (dE 0 rfl) rfl ?_
  refine o_iloadN X0.here hx (dE 1 rfl) rfl ?_
  refine o_icmpYes X0.here hx (pc0 := 2) (pc' := 9) rfl (dE 2 rfl) rfl (tlt hh).1 (by decide) (by decide) ?_
  refine o_iloadN X0.here hx (dE 3 rfl) rfl ?_
  rw [hPst]
  exact own_retP X0 (v := (some (.int y))) (Q := Q_max Z x y h0 n0) (fun h => by rw [Bd.returns] at h; cases h) Bd.notSynchronized (fun fs hr => own_retI X0 hx Bd.returns (dE 4 rfl) hr) (by decide) (by decide) (by rw [e0]; exact ⟨rfl, N0, rfl⟩)
def Q_minL (Z : State) (x y : Int32) (h0 : Heap) (n0 : Nat) (v : Option Value) (h : Heap) (L : List Loc) : Prop := v = some (.int x) ∧ Fr n0 L ∧ h = h0
theorem rm_minL (l : Launch) (Z : State) (a0 : Array Value) (hw : own_H a0 Z) (ws : List Jvm.Cond) (x y : Int32) (h0 : Heap) (n0 : Nat) (Z0 : n0 ≤ h0.size) (hh : ¬ y < x) : own_MP l Mn16 jdk_29_method_69_code 2 (some .int) ws ({ frames := 0, cells := 0, slots := 0, locals := 0 } : Room) Z h0 #[(.int x), (.int y)] (fun _ _ _ _ _ => True) (Q_minL Z x y h0 n0) := by
  refine own_startP (Jvm.Free.JP.mathPlain rfl (by decide +kernel)) fun p e s m below meth c s₁ Bd hx hby hml hown0 X0 e0 hh0 hZ hK Pst hPst => ?_
  have dE := own_E hby own_D21
  have hown : s.vm.findClass "java/lang/Math" = some m.cls := hown0
  have hnm := (name_of_methodNamed Bd.named Bd.method).1
  have N0 := Fr.nil n0
  rw [own_ef_II_2 m x y]
  refine o_iloadN X0.here hx (dE 0 rfl) rfl ?_
  refine o_iloadN X0.here hx (dE 1 rfl) rfl ?_
  refine o_icmpNo X0.here hx (dE 2 rfl) rfl (flt hh).2.2.1 ?_
  refine o_iloadN X0.here hx (dE 3 rfl) rfl ?_
  refine o_goto X0.here hx (pc0 := 6) (pc' := 10) rfl (dE 4 rfl) (by decide) (by decide) ?_
  rw [hPst]
  exact own_retP X0 (v := (some (.int x))) (Q := Q_minL Z x y h0 n0) (fun h => by rw [Bd.returns] at h; cases h) Bd.notSynchronized (fun fs hr => own_retI X0 hx Bd.returns (dE 5 rfl) hr) (by decide) (by decide) (by rw [e0]; exact ⟨rfl, N0, rfl⟩)
def Q_minR (Z : State) (x y : Int32) (h0 : Heap) (n0 : Nat) (v : Option Value) (h : Heap) (L : List Loc) : Prop := v = some (.int y) ∧ Fr n0 L ∧ h = h0
theorem rm_minR (l : Launch) (Z : State) (a0 : Array Value) (hw : own_H a0 Z) (ws : List Jvm.Cond) (x y : Int32) (h0 : Heap) (n0 : Nat) (Z0 : n0 ≤ h0.size) (hh : y < x) : own_MP l Mn16 jdk_29_method_69_code 2 (some .int) ws ({ frames := 0, cells := 0, slots := 0, locals := 0 } : Room) Z h0 #[(.int x), (.int y)] (fun _ _ _ _ _ => True) (Q_minR Z x y h0 n0) := by
  refine own_startP (Jvm.Free.JP.mathPlain rfl (by decide +kernel)) fun p e s m below meth c s₁ Bd hx hby hml hown0 X0 e0 hh0 hZ hK Pst hPst => ?_
  have dE := own_E hby own_D21
  have hown : s.vm.findClass "java/lang/Math" = some m.cls := hown0
  have hnm := (name_of_methodNamed Bd.named Bd.method).1
  have N0 := Fr.nil n0
  rw [own_ef_II_2 m x y]
  refine o_iloadN X0.here hx (dE 0 rfl) rfl ?_
  refine o_iloadN X0.here hx (dE 1 rfl) rfl ?_
  refine o_icmpYes X0.here hx (pc0 := 2) (pc' := 9) rfl (dE 2 rfl) rfl (tlt hh).2.2.1 (by decide) (by decide) ?_
  refine o_iloadN X0.here hx (dE 6 rfl) rfl ?_
  rw [hPst]
  exact own_retP X0 (v := (some (.int y))) (Q := Q_minR Z x y h0 n0) (fun h => by rw [Bd.returns] at h; cases h) Bd.notSynchronized (fun fs hr => own_retI X0 hx Bd.returns (dE 5 rfl) hr) (by decide) (by decide) (by rw [e0]; exact ⟨rfl, N0, rfl⟩)
theorem own_pd3 : parseMethodDescriptor "(II)I" = some ⟨[.int, .int], some .int⟩ := by decide +kernel
theorem own_pn_jdk_internal_util_ArraysSupport : plainName "jdk/internal/util/ArraysSupport" = true := by first | (simp [plainName, overriddenIn]; done) | decide +kernel
theorem own_ef_III_4 (m : MethodId) (x0 : Int32) (x1 : Int32) (x2 : Int32) : entryFrame m #[(.int x0), (.int x1), (.int x2)] 4 = mkF m 0 #[.val (.int x0), .val (.int x1), .val (.int x2), .unset] [] := by first | (simp [entryFrame, mkF, argsToLocals, Value.category]; done) | rfl
def Q_nl (Z : State)  (h0 : Heap) (n0 : Nat) (v : Option Value) (h : Heap) (L : List Loc) : Prop := v = some (.int (34 : Int32)) ∧ Fr n0 L ∧ h = h0
theorem rm_nl (l : Launch) (Z : State) (a0 : Array Value) (hw : own_H a0 Z) (ws : List Jvm.Cond)  (h0 : Heap) (n0 : Nat) (Z0 : n0 ≤ h0.size) : own_MP l Mn32 jdk_48_method_27_code 4 (some .int) ws ({ frames := 1, cells := 0, slots := 0, locals := 14 } : Room) Z h0 #[(.int (16 : Int32)), (.int (1 : Int32)), (.int (18 : Int32))] (fun _ _ _ _ _ => True) (Q_nl Z  h0 n0) := by
  refine own_startP (plainFor_of_name own_pn_jdk_internal_util_ArraysSupport) fun p e s m below meth c s₁ Bd hx hby hml hown0 X0 e0 hh0 hZ hK Pst hPst => ?_
  have dE := own_E hby own_D18
  have hown : s.vm.findClass "jdk/internal/util/ArraysSupport" = some m.cls := hown0
  have hnm := (name_of_methodNamed Bd.named Bd.method).1
  have N0 := Fr.nil n0
  rw [own_ef_III_4 m (16 : Int32) (1 : Int32) (18 : Int32)]
  refine o_iloadN X0.here hx (dE 0 rfl) rfl ?_
  refine o_iloadN X0.here hx (dE 1 rfl) rfl ?_
  refine o_iloadN X0.here hx (dE 2 rfl) rfl ?_
  refine own_cF X0 (Jvm.LawKit.callS X0 hx (y := Mn31) hown (mvT hZ (g_ hw 103 rfl)) (mvT hZ (g_ hw 104 rfl)) (mvT hZ (g_ hw 105 rfl)) (mvT hZ (g_ hw 106 rfl)) (by decide) (backOf (W := 1) (rm_max l Z a0 hw [] (1 : Int32) (18 : Int32) h0 n0 Z0 (by decide)) hZ (g_ hw 106 rfl) (g_ hw 105 rfl) (by decide) (by decide)) (g := (mkF m 3 #[.val (.int (16 : Int32)), .val (.int (1 : Int32)), .val (.int (18 : Int32)), .unset] [(.int (18 : Int32)), (.int (1 : Int32)), (.int (16 : Int32))])) rfl (by rw [hml]; rfl) (argsL := [(.int (1 : Int32)), (.int (18 : Int32))]) (rest := [(.int (16 : Int32))]) (lenOf own_pd3 rfl) rfl (by show 2 * 0 + _ ≤ _; exact Nat.le_of_eq rfl) (dE 3 rfl) (fun _ _ => ⟨rfl, e0, (by decide : 0 + 0 ≤ _), (by decide : 0 + 0 ≤ _)⟩)) fun v101 T101 L101 X101 hQ101 => ?_
  obtain ⟨rfl, Nq101, e101⟩ := hQ101
  have N101 := Fr.app N0 Nq101
  show own_Go p e below Pst (T101.setTop (mkF m 6 #[.val (.int (16 : Int32)), .val (.int (1 : Int32)), .val (.int (18 : Int32)), .unset] [(.int (18 : Int32)), (.int (16 : Int32))]))
  refine o_iadd X101.here hx (dE 4 rfl) rfl ?_
  rw [show ((16 : Int32) + (18 : Int32)) = (34 : Int32) from by decide]
  show own_Go p e below Pst (T101.setTop (mkF m 7 #[.val (.int (16 : Int32)), .val (.int (1 : Int32)), .val (.int (18 : Int32)), .unset] [(.int (34 : Int32))]))
  refine o_istoreN X101.here hx (dE 5 rfl) rfl (l' := #[.val (.int (16 : Int32)), .val (.int (1 : Int32)), .val (.int (18 : Int32)), .val (.int (34 : Int32))]) rfl ?_
  refine o_iconst X101.here hx (dE 6 rfl) (z := (0 : Int32)) rfl ?_
  refine o_iloadN X101.here hx (dE 7 rfl) rfl ?_
  refine o_icmpNo X101.here hx (dE 8 rfl) rfl (tlt (by decide)).2.1 ?_
  refine o_iloadN X101.here hx (dE 9 rfl) rfl ?_
  refine own_Go.of (S' := T101.setTop (mkF m 16 #[.val (.int (16 : Int32)), .val (.int (1 : Int32)), .val (.int (18 : Int32)), .val (.int (34 : Int32))] [(.int (2147483639 : Int32)), (.int (34 : Int32))])) (fun tgt kst => X101.ldcInt hx hown (mvT hZ (g_ hw 107 rfl)) (g := (mkF m 14 #[.val (.int (16 : Int32)), .val (.int (1 : Int32)), .val (.int (18 : Int32)), .val (.int (34 : Int32))] [(.int (34 : Int32))])) rfl (dE 10 rfl) _ kst) ?_
  refine o_icmpNo X101.here hx (dE 11 rfl) rfl (flt (by decide)).2.2.1 ?_
  refine o_iloadN X101.here hx (dE 12 rfl) rfl ?_
  rw [hPst]
  exact own_retP X101 (v := (some (.int (34 : Int32)))) (Q := Q_nl Z  h0 n0) (fun h => by rw [Bd.returns] at h; cases h) Bd.notSynchronized (fun fs hr => own_retI X101 hx Bd.returns (dE 13 rfl) hr) (by decide) (by decide) (by rw [e101]; exact ⟨rfl, N101, rfl⟩)
theorem own_pd4 : parseMethodDescriptor "(III)I" = some ⟨[.int, .int, .int], some .int⟩ := by decide +kernel
theorem own_ef_RI_6 (m : MethodId) (x0 : Addr) (x1 : Int32) : entryFrame m #[(.ref x0), (.int x1)] 6 = mkF m 0 #[.val (.ref x0), .val (.int x1), .unset, .unset, .unset, .unset] [] := by first | (simp [entryFrame, mkF, argsToLocals, Value.category]; done) | rfl
def Q_nc (Z : State) (a1 t : Addr) (kb : ClassId) (vs : List Value) (h0 : Heap) (n0 : Nat) (v : Option Value) (h : Heap) (L : List Loc) : Prop := v = some (.int (34 : Int32)) ∧ Fr n0 L ∧ h = h0
theorem rm_nc (l : Launch) (Z : State) (a0 : Array Value) (hw : own_H a0 Z) (ws : List Jvm.Cond) (a1 t : Addr) (kb : ClassId) (vs : List Value) (h0 : Heap) (n0 : Nat) (Z0 : n0 ≤ h0.size) (E1 : Exa Z h0 a1 "java/lang/StringBuilder") (F1 : Fld Z h0 a1 "java/lang/AbstractStringBuilder" "value" "[B" (.ref t)) (F2 : Fld Z h0 a1 "java/lang/AbstractStringBuilder" "coder" "B" (.int (0 : Int32))) (F3 : Fld Z h0 a1 "java/lang/AbstractStringBuilder" "count" "I" (.int (0 : Int32))) (A1 : Arv Z h0 t kb .byte (16 : Int32) vs (.int 0)) : own_MP l Mn26 jdk_68_method_10_code 6 (some .int) ws ({ frames := 2, cells := 0, slots := 0, locals := 30 } : Room) Z h0 #[(.ref a1), (.int (17 : Int32))] (fun _ _ _ _ _ => True) (Q_nc Z a1 t kb vs h0 n0) := by
  refine own_startP (plainFor_of_name own_pn_java_lang_AbstractStringBuilder) fun p e s m below meth c s₁ Bd hx hby hml hown0 X0 e0 hh0 hZ hK Pst hPst => ?_
  have dE := own_E hby own_D17
  have hown : s.vm.findClass "java/lang/AbstractStringBuilder" = some m.cls := hown0
  have hnm := (name_of_methodNamed Bd.named Bd.method).1
  have N0 := Fr.nil n0
  rw [own_ef_RI_6 m a1 (17 : Int32)]
  refine o_aloadN X0.here hx (dE 0 rfl) rfl rfl ?_
  refine p_getF X0 hx hZ hown (host := "") (Or.inl (g_ hw 60 rfl)) Via.refl e0 F1 rfl (dE 1 rfl) fun T101 X101 e101 => ?_
  obtain ⟨cl102, Ar102, -, S102, P102, -, -⟩ := id A1
  refine own_Go.of (S' := T101.setTop (mkF m 5 #[.val (.ref a1), .val (.int (17 : Int32)), .unset, .unset, .unset, .unset] [(.int (16 : Int32))])) (fun tgt kst => X101.arraylength hx (by rw [e101]; exact Ar102.1) (State.isArrayOf_alike hZ.alike Ar102.2.1) (g := (mkF m 4 #[.val (.ref a1), .val (.int (17 : Int32)), .unset, .unset, .unset, .unset] [(.ref t)])) rfl rfl (dE 2 rfl) _ (by rw [len_of S102 P102]; exact kst)) ?_
  refine o_istoreN X101.here hx (dE 3 rfl) rfl (l' := #[.val (.ref a1), .val (.int (17 : Int32)), .val (.int (16 : Int32)), .unset, .unset, .unset]) rfl ?_
  refine o_iloadN X101.here hx (dE 4 rfl) rfl ?_
  refine o_aloadN X101.here hx (dE 5 rfl) rfl rfl ?_
  refine p_getF X101 hx hZ hown (host := "") (Or.inl (g_ hw 62 rfl)) Via.refl e101 F2 rfl (dE 6 rfl) fun T103 X103 e103 => ?_
  refine o_ishl X103.here hx (dE 7 rfl) rfl ?_
  rw [show ((17 : Int32) <<< ((0 : Int32) &&& 31)) = (17 : Int32) from by decide]
  show own_Go p e below Pst (T103.setTop (mkF m 12 #[.val (.ref a1), .val (.int (17 : Int32)), .val (.int (16 : Int32)), .unset, .unset, .unset] [(.int (17 : Int32))]))
  refine o_istoreN X103.here hx (dE 8 rfl) rfl (l' := #[.val (.ref a1), .val (.int (17 : Int32)), .val (.int (16 : Int32)), .val (.int (17 : Int32)), .unset, .unset]) rfl ?_
  refine o_iloadN X103.here hx (dE 9 rfl) rfl ?_
  refine o_iloadN X103.here hx (dE 10 rfl) rfl ?_
  refine o_isub X103.here hx (dE 11 rfl) rfl ?_
  rw [show ((17 : Int32) - (16 : Int32)) = (1 : Int32) from by decide]
  show own_Go p e below Pst (T103.setTop (mkF m 16 #[.val (.ref a1), .val (.int (17 : Int32)), .val (.int (16 : Int32)), .val (.int (17 : Int32)), .unset, .unset] [(.int (1 : Int32))]))
  refine o_istore X103.here hx (dE 12 rfl) rfl (l' := #[.val (.ref a1), .val (.int (17 : Int32)), .val (.int (16 : Int32)), .val (.int (17 : Int32)), .val (.int (1 : Int32)), .unset]) rfl ?_
  refine o_iloadN X103.here hx (dE 13 rfl) rfl ?_
  refine o_iload X103.here hx (dE 14 rfl) rfl ?_
  refine o_iloadN X103.here hx (dE 15 rfl) rfl ?_
  refine o_iconst X103.here hx (dE 16 rfl) (z := (2 : Int32)) rfl ?_
  refine o_aloadN X103.here hx (dE 17 rfl) rfl rfl ?_
  refine p_getF X103 hx hZ hown (host := "") (Or.inl (g_ hw 62 rfl)) Via.refl e103 F2 rfl (dE 18 rfl) fun T104 X104 e104 => ?_
  refine o_ishl X104.here hx (dE 19 rfl) rfl ?_
  rw [show ((2 : Int32) <<< ((0 : Int32) &&& 31)) = (2 : Int32) from by decide]
  show own_Go p e below Pst (T104.setTop (mkF m 28 #[.val (.ref a1), .val (.int (17 : Int32)), .val (.int (16 : Int32)), .val (.int (17 : Int32)), .val (.int (1 : Int32)), .unset] [(.int (2 : Int32)), (.int (16 : Int32)), (.int (1 : Int32)), (.int (16 : Int32))]))
  refine o_iadd X104.here hx (dE 20 rfl) rfl ?_
  rw [show ((16 : Int32) + (2 : Int32)) = (18 : Int32) from by decide]
  show own_Go p e below Pst (T104.setTop (mkF m 29 #[.val (.ref a1), .val (.int (17 : Int32)), .val (.int (16 : Int32)), .val (.int (17 : Int32)), .val (.int (1 : Int32)), .unset] [(.int (18 : Int32)), (.int (1 : Int32)), (.int (16 : Int32))]))
  refine own_cF X104 (Jvm.LawKit.callS X104 hx (y := Mn32) hown (mvT hZ (g_ hw 99 rfl)) (mvT hZ (g_ hw 100 rfl)) (mvT hZ (g_ hw 101 rfl)) (mvT hZ (g_ hw 102 rfl)) (by decide) (backOf (W := 0) (rm_nl l Z a0 hw []  h0 n0 Z0 ) hZ (g_ hw 102 rfl) (g_ hw 101 rfl) (by decide) (by decide)) (g := (mkF m 29 #[.val (.ref a1), .val (.int (17 : Int32)), .val (.int (16 : Int32)), .val (.int (17 : Int32)), .val (.int (1 : Int32)), .unset] [(.int (18 : Int32)), (.int (1 : Int32)), (.int (16 : Int32))])) rfl (by rw [hml]; rfl) (argsL := [(.int (16 : Int32)), (.int (1 : Int32)), (.int (18 : Int32))]) (rest := []) (lenOf own_pd4 rfl) rfl (by show 2 * 0 + _ ≤ _; exact Nat.le_of_eq rfl) (dE 21 rfl) (fun _ _ => ⟨rfl, e104, (by decide : 0 + 0 ≤ _), (by decide : 0 + 0 ≤ _)⟩)) fun v105 T105 L105 X105 hQ105 => ?_
  obtain ⟨rfl, Nq105, e105⟩ := hQ105
  have N105 := Fr.app N0 Nq105
  show own_Go p e below Pst (T105.setTop (mkF m 32 #[.val (.ref a1), .val (.int (17 : Int32)), .val (.int (16 : Int32)), .val (.int (17 : Int32)), .val (.int (1 : Int32)), .unset] [(.int (34 : Int32))]))
  refine o_istore X105.here hx (dE 22 rfl) rfl (l' := #[.val (.ref a1), .val (.int (17 : Int32)), .val (.int (16 : Int32)), .val (.int (17 : Int32)), .val (.int (1 : Int32)), .val (.int (34 : Int32))]) rfl ?_
  refine o_iload X105.here hx (dE 23 rfl) rfl ?_
  refine own_Go.of (S' := T105.setTop (mkF m 38 #[.val (.ref a1), .val (.int (17 : Int32)), .val (.int (16 : Int32)), .val (.int (17 : Int32)), .val (.int (1 : Int32)), .val (.int (34 : Int32))] [(.int (2147483647 : Int32)), (.int (34 : Int32))])) (fun tgt kst => X105.ldcInt hx hown (mvT hZ (g_ hw 108 rfl)) (g := (mkF m 36 #[.val (.ref a1), .val (.int (17 : Int32)), .val (.int (16 : Int32)), .val (.int (17 : Int32)), .val (.int (1 : Int32)), .val (.int (34 : Int32))] [(.int (34 : Int32))])) rfl (dE 24 rfl) _ kst) ?_
  refine o_icmpYes X105.here hx (pc0 := 38) (pc' := 51) rfl (dE 25 rfl) rfl (feq (by decide)).2 (by decide) (by decide) ?_
  refine o_iload X105.here hx (dE 26 rfl) rfl ?_
  refine o_aloadN X105.here hx (dE 27 rfl) rfl rfl ?_
  refine p_getF X105 hx hZ hown (host := "") (Or.inl (g_ hw 62 rfl)) Via.refl e105 F2 rfl (dE 28 rfl) fun T106 X106 e106 => ?_
  refine o_ishr X106.here hx (dE 29 rfl) rfl ?_
  rw [show ((34 : Int32) >>> ((0 : Int32) &&& 31)) = (34 : Int32) from by decide]
  show own_Go p e below Pst (T106.setTop (mkF m 58 #[.val (.ref a1), .val (.int (17 : Int32)), .val (.int (16 : Int32)), .val (.int (17 : Int32)), .val (.int (1 : Int32)), .val (.int (34 : Int32))] [(.int (34 : Int32))]))
  rw [hPst]
  exact own_retP X106 (v := (some (.int (34 : Int32)))) (Q := Q_nc Z a1 t kb vs h0 n0) (fun h => by rw [Bd.returns] at h; cases h) Bd.notSynchronized (fun fs hr => own_retI X106 hx Bd.returns (dE 30 rfl) hr) (by decide) (by decide) (by rw [e106]; exact ⟨rfl, N105, rfl⟩)
theorem own_pn_java_util_Arrays : plainName "java/util/Arrays" = true := by first | (simp [plainName, overriddenIn]; done) | decide +kernel
theorem own_ef_RI_3 (m : MethodId) (x0 : Addr) (x1 : Int32) : entryFrame m #[(.ref x0), (.int x1)] 3 = mkF m 0 #[.val (.ref x0), .val (.int x1), .unset] [] := by first | (simp [entryFrame, mkF, argsToLocals, Value.category]; done) | rfl
def Q_cof (Z : State) (t : Addr) (kb : ClassId) (h0 : Heap) (n0 : Nat) (v : Option Value) (h : Heap) (L : List Loc) : Prop := ∃ b : Addr, v = some (.ref b) ∧ Fr n0 L ∧ Keep h0 h [] ∧ h0.size ≤ b ∧ ∃ kb : ClassId, Arv Z h b kb .byte (34 : Int32) own_z34 (.int (0 : Int32))
theorem rm_cof (l : Launch) (Z : State) (a0 : Array Value) (hw : own_H a0 Z) (ws : List Jvm.Cond) (t : Addr) (kb : ClassId) (h0 : Heap) (n0 : Nat) (Z0 : n0 ≤ h0.size) (A1 : Arv Z h0 t kb .byte (16 : Int32) own_z16 (.int 0)) : own_MP l Mn33 jdk_65_method_121_code 3 (some (.array .byte)) ws ({ frames := 1, cells := 1, slots := 34, locals := 24 } : Room) Z h0 #[(.ref t), (.int (34 : Int32))] (fun _ _ _ _ _ => True) (Q_cof Z t kb h0 n0) := by
  refine own_startP (plainFor_of_name own_pn_java_util_Arrays) fun p e s m below meth c s₁ Bd hx hby hml hown0 X0 e0 hh0 hZ hK Pst hPst => ?_
  have dE := own_E hby own_D20
  have hown : s.vm.findClass "java/util/Arrays" = some m.cls := hown0
  have hnm := (name_of_methodNamed Bd.named Bd.method).1
  have N0 := Fr.nil n0
  rw [own_ef_RI_3 m t (34 : Int32)]
  refine o_iloadN X0.here hx (dE 0 rfl) rfl ?_
  refine o_aloadN X0.here hx (dE 1 rfl) rfl rfl ?_
  obtain ⟨cl101, Ar101, -, S101, P101, -, -⟩ := id A1
  refine own_Go.of (S' := s₁.setTop (mkF m 3 #[.val (.ref t), .val (.int (34 : Int32)), .unset] [(.int (16 : Int32)), (.int (34 : Int32))])) (fun tgt kst => X0.arraylength hx (by rw [e0]; exact Ar101.1) (State.isArrayOf_alike hZ.alike Ar101.2.1) (g := (mkF m 2 #[.val (.ref t), .val (.int (34 : Int32)), .unset] [(.ref t), (.int (34 : Int32))])) rfl rfl (dE 2 rfl) _ (by rw [len_of S101 P101]; exact kst)) ?_
  refine o_icmpYes X0.here hx (pc0 := 3) (pc' := 14) rfl (dE 3 rfl) rfl (feq (by decide)).2 (by decide) (by decide) ?_
  refine o_iloadN X0.here hx (dE 4 rfl) rfl ?_
  refine p_newP (aty := .byte) X0 hx hZ (g_ hw 23 rfl) e0 (dE 5 rfl) rfl (by decide) (cap := 34) (by decide) (by decide) (by decide) (by decide) fun T102 h102 k102 b102 g102 X102 e102 E102 A102 => ?_
  have ne_t_b102 : t ≠ b102 := Nat.ne_of_lt (Nat.lt_of_lt_of_le A1.lt (Nat.le_of_eq g102.symm))
  have gn_b102 : n0 ≤ b102 := Nat.le_trans Z0 (Nat.le_of_eq g102.symm)
  have sz_b102 : h0.size ≤ b102 := Nat.le_trans (Keep.refl h0 []).1 (Nat.le_of_eq g102.symm)
  have V102 : Arv Z h102 b102 k102 .byte (34 : Int32) own_z34 (.int (0 : Int32)) := (Arv.new A102 (by decide)).pad (pad_rep [] (.int (0 : Int32)) 34)
  refine o_astoreN X102.here hx (dE 6 rfl) rfl rfl (l' := #[.val (.ref t), .val (.int (34 : Int32)), .val (.ref b102)]) rfl ?_
  refine o_aloadN X102.here hx (dE 7 rfl) rfl rfl ?_
  refine o_iconst X102.here hx (dE 8 rfl) (z := (0 : Int32)) rfl ?_
  refine o_aloadN X102.here hx (dE 9 rfl) rfl rfl ?_
  refine o_iconst X102.here hx (dE 10 rfl) (z := (0 : Int32)) rfl ?_
  refine o_aloadN X102.here hx (dE 11 rfl) rfl rfl ?_
  have c103 := (A1.ext E102)
  obtain ⟨cl104, Ar104, -, S104, P104, -, -⟩ := id c103
  refine own_Go.of (S' := T102.setTop (mkF m 24 #[.val (.ref t), .val (.int (34 : Int32)), .val (.ref b102)] [(.int (16 : Int32)), (.int (0 : Int32)), (.ref b102), (.int (0 : Int32)), (.ref t)])) (fun tgt kst => X102.arraylength hx (by rw [e102]; exact Ar104.1) (State.isArrayOf_alike hZ.alike Ar104.2.1) (g := (mkF m 23 #[.val (.ref t), .val (.int (34 : Int32)), .val (.ref b102)] [(.ref t), (.int (0 : Int32)), (.ref b102), (.int (0 : Int32)), (.ref t)])) rfl rfl (dE 12 rfl) _ (by rw [len_of S104 P104]; exact kst)) ?_
  refine o_iloadN X102.here hx (dE 13 rfl) rfl ?_
  have c106 := (Nat.le_trans Z0 E102.1)
  refine own_cF X102 (Jvm.LawKit.callS X102 hx (y := Mn16) hown (mvT hZ (g_ hw 113 rfl)) (mvT hZ (g_ hw 114 rfl)) (mvT hZ (g_ hw 105 rfl)) (mvT hZ (g_ hw 115 rfl)) (by decide) (backOf (W := 4) (rm_minL l Z a0 hw [] (16 : Int32) (34 : Int32) h102 n0 c106 (by decide)) hZ (g_ hw 115 rfl) (g_ hw 105 rfl) (by decide) (by decide)) (g := (mkF m 25 #[.val (.ref t), .val (.int (34 : Int32)), .val (.ref b102)] [(.int (34 : Int32)), (.int (16 : Int32)), (.int (0 : Int32)), (.ref b102), (.int (0 : Int32)), (.ref t)])) rfl (by rw [hml]; rfl) (argsL := [(.int (16 : Int32)), (.int (34 : Int32))]) (rest := [(.int (0 : Int32)), (.ref b102), (.int (0 : Int32)), (.ref t)]) (lenOf own_pd3 rfl) rfl (by show 2 * 0 + _ ≤ _; exact Nat.le_of_eq rfl) (dE 14 rfl) (fun _ _ => ⟨rfl, e102, (by decide : 1 + 0 ≤ _), (by decide : 34 + 0 ≤ _)⟩)) fun v105 T105 L105 X105 hQ105 => ?_
  obtain ⟨rfl, Nq105, e105⟩ := hQ105
  have N105 := Fr.app N0 Nq105
  show own_Go p e below Pst (T105.setTop (mkF m 28 #[.val (.ref t), .val (.int (34 : Int32)), .val (.ref b102)] [(.int (16 : Int32)), (.int (0 : Int32)), (.ref b102), (.int (0 : Int32)), (.ref t)]))
  obtain ⟨T107, h107, L107, X107, e107, N107, K107, V107r, st107⟩ := cpA X105 hx hZ hown (g_ hw 116 rfl) (g_ hw 119 rfl) (g_ hw 117 rfl) (g_ hw 118 rfl) e105 c103 V102 (Or.inl ⟨rfl, rfl⟩) (by decide) (by decide) (by decide) (by decide) (by decide) (us := own_z16) rfl (by decide) N105 gn_b102 (g := (mkF m 28 #[.val (.ref t), .val (.int (34 : Int32)), .val (.ref b102)] [(.int (16 : Int32)), (.int (0 : Int32)), (.ref b102), (.int (0 : Int32)), (.ref t)])) rfl (by rw [hml]; rfl) rfl (dE 15 rfl) (by decide) (W := 0) (by show 2 * 0 + _ ≤ _; exact Nat.le_of_eq rfl) (by decide)
  have V107 : Arv Z h107 b102 k102 .byte (34 : Int32) own_z34 (.int (0 : Int32)) := V107r
  refine own_Go.of st107 ?_
  show own_Go p e below Pst (T107.setTop (mkF m 31 #[.val (.ref t), .val (.int (34 : Int32)), .val (.ref b102)] []))
  refine o_aloadN X107.here hx (dE 16 rfl) rfl rfl ?_
  have c108 := (Keep.trans ((Keep.refl h0 []).ext E102) K107 (allS (Or.inr sz_b102) all0))
  rw [hPst]
  exact own_retP X107 (v := (some (.ref b102))) (Q := Q_cof Z t kb h0 n0) (fun h => by rw [Bd.returns] at h; cases h) Bd.notSynchronized (fun fs hr => retOut X107 hx Bd.returns rfl (Or.inr (Or.inr (Or.inr (Or.inr ⟨rfl, rfl, rfl⟩)))) (dE 17 rfl) hr) (by decide) (by decide) (by rw [e107]; exact ⟨_, rfl, N107, c108, sz_b102, _, V107⟩)
theorem own_pd5 : parseMethodDescriptor "(I)I" = some ⟨[.int], some .int⟩ := by decide +kernel
theorem own_pd6 : parseMethodDescriptor "([BI)[B" = some ⟨[(.array .byte), .int], some (.array .byte)⟩ := by decide +kernel
def Q_ecg (Z : State) (a1 t : Addr) (kb : ClassId) (h0 : Heap) (n0 : Nat) (v : Option Value) (h : Heap) (L : List Loc) : Prop := v = none ∧ Fr n0 L ∧ Keep h0 h [a1] ∧ Exa Z h a1 "java/lang/StringBuilder" ∧ Fld Z h a1 "java/lang/AbstractStringBuilder" "coder" "B" (.int (0 : Int32)) ∧ Fld Z h a1 "java/lang/AbstractStringBuilder" "count" "I" (.int (0 : Int32)) ∧ ∃ (t : Addr) (kb : ClassId), h0.size ≤ t ∧ Fld Z h a1 "java/lang/AbstractStringBuilder" "value" "[B" (.ref t) ∧ Arv Z h t kb .byte (34 : Int32) own_z34 (.int 0)
theorem rm_ecg (l : Launch) (Z : State) (a0 : Array Value) (hw : own_H a0 Z) (ws : List Jvm.Cond) (a1 t : Addr) (kb : ClassId) (h0 : Heap) (n0 : Nat) (Z0 : n0 ≤ h0.size) (E1 : Exa Z h0 a1 "java/lang/StringBuilder") (F1 : Fld Z h0 a1 "java/lang/AbstractStringBuilder" "value" "[B" (.ref t)) (F2 : Fld Z h0 a1 "java/lang/AbstractStringBuilder" "coder" "B" (.int (0 : Int32))) (F3 : Fld Z h0 a1 "java/lang/AbstractStringBuilder" "count" "I" (.int (0 : Int32))) (A1 : Arv Z h0 t kb .byte (16 : Int32) own_z16 (.int 0)) (g1 : n0 ≤ a1) : own_MP l Mn5 jdk_68_method_9_code 3 none ws ({ frames := 3, cells := 1, slots := 34, locals := 49 } : Room) Z h0 #[(.ref a1), (.int (17 : Int32))] (fun _ _ _ _ _ => True) (Q_ecg Z a1 t kb h0 n0) := by
  refine own_startP (plainFor_of_name own_pn_java_lang_AbstractStringBuilder) fun p e s m below meth c s₁ Bd hx hby hml hown0 X0 e0 hh0 hZ hK Pst hPst => ?_
  have dE := own_E hby own_D16
  have hown : s.vm.findClass "java/lang/AbstractStringBuilder" = some m.cls := hown0
  have hnm := (name_of_methodNamed Bd.named Bd.method).1
  have N0 := Fr.nil n0
  rw [own_ef_RI_3 m a1 (17 : Int32)]
  refine o_aloadN X0.here hx (dE 0 rfl) rfl rfl ?_
  refine p_getF X0 hx hZ hown (host := "") (Or.inl (g_ hw 60 rfl)) Via.refl e0 F1 rfl (dE 1 rfl) fun T101 X101 e101 => ?_
  obtain ⟨cl102, Ar102, -, S102, P102, -, -⟩ := id A1
  refine own_Go.of (S' := T101.setTop (mkF m 5 #[.val (.ref a1), .val (.int (17 : Int32)), .unset] [(.int (16 : Int32))])) (fun tgt kst => X101.arraylength hx (by rw [e101]; exact Ar102.1) (State.isArrayOf_alike hZ.alike Ar102.2.1) (g := (mkF m 4 #[.val (.ref a1), .val (.int (17 : Int32)), .unset] [(.ref t)])) rfl rfl (dE 2 rfl) _ (by rw [len_of S102 P102]; exact kst)) ?_
  refine o_aloadN X101.here hx (dE 3 rfl) rfl rfl ?_
  refine p_getF X101 hx hZ hown (host := "") (Or.inl (g_ hw 62 rfl)) Via.refl e101 F2 rfl (dE 4 rfl) fun T103 X103 e103 => ?_
  refine o_ishr X103.here hx (dE 5 rfl) rfl ?_
  rw [show ((16 : Int32) >>> ((0 : Int32) &&& 31)) = (16 : Int32) from by decide]
  show own_Go p e below Pst (T103.setTop (mkF m 10 #[.val (.ref a1), .val (.int (17 : Int32)), .unset] [(.int (16 : Int32))]))
  refine o_istoreN X103.here hx (dE 6 rfl) rfl (l' := #[.val (.ref a1), .val (.int (17 : Int32)), .val (.int (16 : Int32))]) rfl ?_
  refine o_iloadN X103.here hx (dE 7 rfl) rfl ?_
  refine o_iloadN X103.here hx (dE 8 rfl) rfl ?_
  refine o_isub X103.here hx (dE 9 rfl) rfl ?_
  refine o_ifNo X103.here hx (dE 10 rfl) rfl ((if0 _ _).trans (tlt (by decide)).2.2.2) ?_
  refine o_aloadN X103.here hx (dE 11 rfl) rfl rfl ?_
  refine o_aloadN X103.here hx (dE 12 rfl) rfl rfl ?_
  refine p_getF X103 hx hZ hown (host := "") (Or.inl (g_ hw 60 rfl)) Via.refl e103 F1 rfl (dE 13 rfl) fun T104 X104 e104 => ?_
  refine o_aloadN X104.here hx (dE 14 rfl) rfl rfl ?_
  refine o_iloadN X104.here hx (dE 15 rfl) rfl ?_
  obtain ⟨cq105, kq105, q105a, q105b, q105c⟩ := isOf hZ e104 E1
  refine own_cP X104 (X104.virtualBack hx (y := Mn26) (z := Mn26) hown (mvT hZ (g_ hw 94 rfl)) (mvT hZ (own_decl (g_ hw 95 rfl) (g_ hw 98 rfl))) (notFace_of_selects (args := #[]) (mvT hZ (g_ hw 97 rfl))) (mvT hZ (g_ hw 97 rfl)) (mvT hZ (g_ hw 95 rfl)) (by decide) (backOf (W := 2) (rm_nc l Z a0 hw [] a1 t kb own_z16 h0 n0 Z0 E1 F1 F2 F3 A1) hZ (g_ hw 98 rfl) (g_ hw 56 rfl) (by decide) (by decide)) q105a q105c (g := (mkF m 24 #[.val (.ref a1), .val (.int (17 : Int32)), .val (.int (16 : Int32))] [(.int (17 : Int32)), (.ref a1), (.ref t), (.ref a1)])) rfl (by rw [hml]; rfl) (Steps.refl _) (argsL := [(.int (17 : Int32))]) (rest := [(.ref t), (.ref a1)]) (lenOf own_pd5 rfl) rfl (by show 2 * 0 + _ ≤ _; exact Nat.le_of_eq rfl) (dE 16 rfl) (fun _ _ => ⟨rfl, e104, (by decide : 0 + 0 ≤ _), (by decide : 0 + 0 ≤ _)⟩)) fun v105 T105 L105 X105 hQ105 => ?_
  obtain ⟨rfl, Nq105, e105⟩ := hQ105
  have N105 := Fr.app N0 Nq105
  show own_Go p e below Pst (T105.setTop (mkF m 27 #[.val (.ref a1), .val (.int (17 : Int32)), .val (.int (16 : Int32))] [(.int (34 : Int32)), (.ref t), (.ref a1)]))
  refine o_aloadN X105.here hx (dE 17 rfl) rfl rfl ?_
  refine p_getF X105 hx hZ hown (host := "") (Or.inl (g_ hw 62 rfl)) Via.refl e105 F2 rfl (dE 18 rfl) fun T106 X106 e106 => ?_
  refine o_ishl X106.here hx (dE 19 rfl) rfl ?_
  rw [show ((34 : Int32) <<< ((0 : Int32) &&& 31)) = (34 : Int32) from by decide]
  show own_Go p e below Pst (T106.setTop (mkF m 32 #[.val (.ref a1), .val (.int (17 : Int32)), .val (.int (16 : Int32))] [(.int (34 : Int32)), (.ref t), (.ref a1)]))
  refine own_cF X106 (Jvm.LawKit.callS X106 hx (y := Mn33) hown (mvT hZ (g_ hw 109 rfl)) (mvT hZ (g_ hw 110 rfl)) (mvT hZ (g_ hw 111 rfl)) (mvT hZ (g_ hw 112 rfl)) (by decide) (backOf (W := 1) (rm_cof l Z a0 hw [] t kb h0 n0 Z0 A1) hZ (g_ hw 112 rfl) (g_ hw 111 rfl) (by decide) (by decide)) (g := (mkF m 32 #[.val (.ref a1), .val (.int (17 : Int32)), .val (.int (16 : Int32))] [(.int (34 : Int32)), (.ref t), (.ref a1)])) rfl (by rw [hml]; rfl) (argsL := [(.ref t), (.int (34 : Int32))]) (rest := [(.ref a1)]) (lenOf own_pd6 rfl) rfl (by show 2 * 0 + _ ≤ _; exact Nat.le_of_eq rfl) (dE 20 rfl) (fun _ _ => ⟨rfl, e106, (by decide : 0 + 1 ≤ _), (by decide : 0 + 34 ≤ _)⟩)) fun v107 T107 L107 X107 hQ107 => ?_
  obtain ⟨b107, rfl, Nq107, K107, sb107, kb107, V107⟩ := hQ107
  have N107 := Fr.app N105 Nq107
  have ne_a1_b107 : a1 ≠ b107 := Nat.ne_of_lt (Nat.lt_of_lt_of_le E1.lt sb107)
  have ne_t_b107 : t ≠ b107 := Nat.ne_of_lt (Nat.lt_of_lt_of_le A1.lt sb107)
  have gn_b107 : n0 ≤ b107 := Nat.le_trans Z0 sb107
  have sz_b107 : h0.size ≤ b107 := Nat.le_trans (Keep.refl h0 [a1]).1 sb107
  show own_Go p e below Pst (T107.setTop (mkF m 35 #[.val (.ref a1), .val (.int (17 : Int32)), .val (.int (16 : Int32))] [(.ref b107), (.ref a1)]))
  have c108 := (E1.keep K107)
  have c109 := (F1.keep K107 nin0)
  refine p_putF X107 hx hZ hown (host := "") (Or.inl (g_ hw 60 rfl)) Via.refl rfl c109 c108 (Or.inl (g_ hw 61 rfl)) (g_ hw 47 rfl) (ty := (.array .byte)) (by decide) rfl rfl rfl (dE 21 rfl) fun T110 h110 X110 e110 W110 => ?_
  have Fw110 := Fld.same W110 c109
  have N110 := Fr.snoc X110 N107 g1
  have c111 := ((Keep.trans (Keep.refl h0 [a1]) K107 all0).wr W110 (Or.inl (List.mem_of_getElem? (i := 0) rfl)))
  have c112 := (c108.wr W110)
  have c113 := ((F2.keep K107 nin0).other W110 (Or.inr (slot_ne (Or.inl (g_ hw 63 rfl)) (Or.inl (g_ hw 61 rfl)) (by decide) (t := .byte) (t' := (.array .byte)) (by decide) (by decide))))
  have c114 := ((F3.keep K107 nin0).other W110 (Or.inr (slot_ne (Or.inl (g_ hw 88 rfl)) (Or.inl (g_ hw 61 rfl)) (by decide) (t := .int) (t' := (.array .byte)) (by decide) (by decide))))
  have c115 := (V107.other W110 (Ne.symm ne_a1_b107))
  rw [hPst]
  exact own_retP X110 (v := none) (Q := Q_ecg Z a1 t kb h0 n0) (fun _ => rfl) Bd.notSynchronized (fun fs hr => X110.returnOut hx Bd.returns (dE 22 rfl) hr) (by decide) (by decide) (by rw [e110]; exact ⟨rfl, N110, c111, c112, c113, c114, _, _, sz_b107, Fw110, c115⟩)
def Q_ecn (Z : State) (a1 t : Addr) (kb : ClassId) (vs : List Value) (c : Int32) (h0 : Heap) (n0 : Nat) (v : Option Value) (h : Heap) (L : List Loc) : Prop := v = none ∧ Fr n0 L ∧ h = h0
theorem rm_ecn (l : Launch) (Z : State) (a0 : Array Value) (hw : own_H a0 Z) (ws : List Jvm.Cond) (a1 t : Addr) (kb : ClassId) (vs : List Value) (c : Int32) (h0 : Heap) (n0 : Nat) (Z0 : n0 ≤ h0.size) (F1 : Fld Z h0 a1 "java/lang/AbstractStringBuilder" "value" "[B" (.ref t)) (F2 : Fld Z h0 a1 "java/lang/AbstractStringBuilder" "coder" "B" (.int (0 : Int32))) (A1 : Arv Z h0 t kb .byte (34 : Int32) vs (.int 0)) (hc : ¬ (0 : Int32) < (c - (34 : Int32))) : own_MP l Mn5 jdk_68_method_9_code 3 none ws ({ frames := 0, cells := 0, slots := 0, locals := 0 } : Room) Z h0 #[(.ref a1), (.int c)] (fun _ _ _ _ _ => True) (Q_ecn Z a1 t kb vs c h0 n0) := by
  refine own_startP (plainFor_of_name own_pn_java_lang_AbstractStringBuilder) fun p e s m below meth c' s₁ Bd hx hby hml hown0 X0 e0 hh0 hZ hK Pst hPst => ?_
  have dE := own_E hby own_D16
  have hown : s.vm.findClass "java/lang/AbstractStringBuilder" = some m.cls := hown0
  have hnm := (name_of_methodNamed Bd.named Bd.method).1
  have N0 := Fr.nil n0
  rw [own_ef_RI_3 m a1 c]
  refine o_aloadN X0.here hx (dE 0 rfl) rfl rfl ?_
  refine p_getF X0 hx hZ hown (host := "") (Or.inl (g_ hw 60 rfl)) Via.refl e0 F1 rfl (dE 1 rfl) fun T101 X101 e101 => ?_
  obtain ⟨cl102, Ar102, -, S102, P102, -, -⟩ := id A1
  refine own_Go.of (S' := T101.setTop (mkF m 5 #[.val (.ref a1), .val (.int c), .unset] [(.int (34 : Int32))])) (fun tgt kst => X101.arraylength hx (by rw [e101]; exact Ar102.1) (State.isArrayOf_alike hZ.alike Ar102.2.1) (g := (mkF m 4 #[.val (.ref a1), .val (.int c), .unset] [(.ref t)])) rfl rfl (dE 2 rfl) _ (by rw [len_of S102 P102]; exact kst)) ?_
  refine o_aloadN X101.here hx (dE 3 rfl) rfl rfl ?_
  refine p_getF X101 hx hZ hown (host := "") (Or.inl (g_ hw 62 rfl)) Via.refl e101 F2 rfl (dE 4 rfl) fun T103 X103 e103 => ?_
  refine o_ishr X103.here hx (dE 5 rfl) rfl ?_
  rw [show ((34 : Int32) >>> ((0 : Int32) &&& 31)) = (34 : Int32) from by decide]
  show own_Go p e below Pst (T103.setTop (mkF m 10 #[.val (.ref a1), .val (.int c), .unset] [(.int (34 : Int32))]))
  refine o_istoreN X103.here hx (dE 6 rfl) rfl (l' := #[.val (.ref a1), .val (.int c), .val (.int (34 : Int32))]) rfl ?_
  refine o_iloadN X103.here hx (dE 7 rfl) rfl ?_
  refine o_iloadN X103.here hx (dE 8 rfl) rfl ?_
  refine o_isub X103.here hx (dE 9 rfl) rfl ?_
  refine o_ifYes X103.here hx (pc0 := 14) (pc' := 38) rfl (dE 10 rfl) rfl ((if0 _ _).trans (flt hc).2.2.2) (by decide) (by decide) ?_
  rw [hPst]
  exact own_retP X103 (v := none) (Q := Q_ecn Z a1 t kb vs c h0 n0) (fun _ => rfl) Bd.notSynchronized (fun fs hr => X103.returnOut hx Bd.returns (dE 22 rfl) hr) (by decide) (by decide) (by rw [e103]; exact ⟨rfl, N0, rfl⟩)
def Q_inf (Z : State) (z : Int32) (a1 a2 : Addr) (h0 : Heap) (n0 : Nat) (v : Option Value) (h : Heap) (L : List Loc) : Prop := v = none ∧ Fr n0 L ∧ h = h0
theorem rm_inf (l : Launch) (Z : State) (a0 : Array Value) (hw : own_H a0 Z) (ws : List Jvm.Cond) (z : Int32) (a1 a2 : Addr) (h0 : Heap) (n0 : Nat) (Z0 : n0 ≤ h0.size) (O : Old Z n0 h0) (SC : Sta Z Z.heap "java/lang/String" "COMPACT_STRINGS" "Z" (.int z)) (hz : ¬ z = 0) (F2 : Fld Z h0 a1 "java/lang/AbstractStringBuilder" "coder" "B" (.int (0 : Int32))) (E2 : Exa Z h0 a2 "java/lang/String") (G2 : Fld Z h0 a2 "java/lang/String" "coder" "B" (.int 0)) : own_MP l Mn9 jdk_68_method_71_code 2 none ws ({ frames := 1, cells := 0, slots := 0, locals := 13 } : Room) Z h0 #[(.ref a1), (.ref a2)] (fun _ _ _ _ _ => True) (Q_inf Z z a1 a2 h0 n0) := by
  refine own_startP (plainFor_of_name own_pn_java_lang_AbstractStringBuilder) fun p e s m below meth c s₁ Bd hx hby hml hown0 X0 e0 hh0 hZ hK Pst hPst => ?_
  have dE := own_E hby own_D23
  have hown : s.vm.findClass "java/lang/AbstractStringBuilder" = some m.cls := hown0
  have hnm := (name_of_methodNamed Bd.named Bd.method).1
  have N0 := Fr.nil n0
  rw [own_ef_RR_2 m a1 a2]
  refine p_getS2 X0 hx hZ hown (host := "") (Or.inl (g_ hw 59 rfl)) Via.refl e0 (SC.ext O.2) (dE 0 rfl) fun T101 X101 e101 => ?_
  refine o_ifNo X101.here hx (dE 1 rfl) rfl ((if0 _ _).trans (feq hz).1) ?_
  refine o_aloadN X101.here hx (dE 2 rfl) rfl rfl ?_
  refine p_getF X101 hx hZ hown (host := "") (Or.inl (g_ hw 62 rfl)) Via.refl e101 F2 rfl (dE 3 rfl) fun T102 X102 e102 => ?_
  refine o_aloadN X102.here hx (dE 4 rfl) rfl rfl ?_
  obtain ⟨cq103, kq103, q103a, q103b, q103c⟩ := isOf hZ e102 E2
  refine own_cP X102 (X102.virtualBack hx (y := Mn1) (z := Mn1) hown (mvT hZ (g_ hw 130 rfl)) (mvT hZ (g_ hw 83 rfl)) (notFace_of_selects (args := #[]) (mvT hZ (g_ hw 85 rfl))) (mvT hZ (g_ hw 85 rfl)) (mvT hZ (g_ hw 84 rfl)) (by decide) (backOf (W := 1) (rm_cod l Z a0 hw [] z a2 0 h0 n0 Z0 O SC hz G2) hZ (g_ hw 86 rfl) (g_ hw 7 rfl) (by decide) (by decide)) q103a q103c (g := (mkF m 11 #[.val (.ref a1), .val (.ref a2)] [(.ref a2), (.int (0 : Int32))])) rfl (by rw [hml]; rfl) (Steps.refl _) (argsL := []) (rest := [(.int (0 : Int32))]) (lenOf own_pd1 rfl) rfl (by show 2 * 0 + _ ≤ _; exact Nat.le_of_eq rfl) (dE 5 rfl) (fun _ _ => ⟨rfl, e102, (by decide : 0 + 0 ≤ _), (by decide : 0 + 0 ≤ _)⟩)) fun v103 T103 L103 X103 hQ103 => ?_
  obtain ⟨rfl, Nq103, e103⟩ := hQ103
  have N103 := Fr.app N0 Nq103
  show own_Go p e below Pst (T103.setTop (mkF m 14 #[.val (.ref a1), .val (.ref a2)] [(.int (nar .byte 0)), (.int (0 : Int32))]))
  show own_Go p e below Pst (T103.setTop (mkF m 14 #[.val (.ref a1), .val (.ref a2)] [(.int (0 : Int32)), (.int (0 : Int32))]))
  refine o_icmpYes X103.here hx (pc0 := 14) (pc' := 21) rfl (dE 6 rfl) rfl (teq rfl).1 (by decide) (by decide) ?_
  rw [hPst]
  exact own_retP X103 (v := none) (Q := Q_inf Z z a1 a2 h0 n0) (fun _ => rfl) Bd.notSynchronized (fun fs hr => X103.returnOut hx Bd.returns (dE 7 rfl) hr) (by decide) (by decide) (by rw [e103]; exact ⟨rfl, N103, rfl⟩)
theorem own_ef_RRII_4 (m : MethodId) (x0 : Addr) (x1 : Addr) (x2 : Int32) (x3 : Int32) : entryFrame m #[(.ref x0), (.ref x1), (.int x2), (.int x3)] 4 = mkF m 0 #[.val (.ref x0), .val (.ref x1), .val (.int x2), .val (.int x3)] [] := by first | (simp [entryFrame, mkF, argsToLocals, Value.category]; done) | rfl
def Q_gbL (Z : State) (z : Int32) (a2 t2 d : Addr) (k2 kb : ClassId) (h0 : Heap) (n0 : Nat) (v : Option Value) (h : Heap) (L : List Loc) : Prop := v = none ∧ Fr n0 L ∧ Keep h0 h [d] ∧ Arv Z h d kb .byte (34 : Int32) own_n1 (.int 0)
theorem rm_gbL (l : Launch) (Z : State) (a0 : Array Value) (hw : own_H a0 Z) (ws : List Jvm.Cond) (z : Int32) (a2 t2 d : Addr) (k2 kb : ClassId) (h0 : Heap) (n0 : Nat) (Z0 : n0 ≤ h0.size) (O : Old Z n0 h0) (SC : Sta Z Z.heap "java/lang/String" "COMPACT_STRINGS" "Z" (.int z)) (hz : ¬ z = 0) (E2 : Exa Z h0 a2 "java/lang/String") (G1 : Fld Z h0 a2 "java/lang/String" "value" "[B" (.ref t2)) (G2 : Fld Z h0 a2 "java/lang/String" "coder" "B" (.int 0)) (B1 : Arv Z h0 t2 k2 .byte (17 : Int32) own_l17 (.int 0)) (A1 : Arv Z h0 d kb .byte (34 : Int32) own_z34 (.int 0)) (gd : n0 ≤ d) (ne : t2 ≠ d) : own_MP l Mn2 jdk_42_method_147_code 4 none ws ({ frames := 1, cells := 0, slots := 0, locals := 21 } : Room) Z h0 #[(.ref a2), (.ref d), (.int (0 : Int32)), (.int (0 : Int32))] (fun _ _ _ _ _ => True) (Q_gbL Z z a2 t2 d k2 kb h0 n0) := by
  refine own_startP (plainFor_of_name own_pn_java_lang_String) fun p e s m below meth c s₁ Bd hx hby hml hown0 X0 e0 hh0 hZ hK Pst hPst => ?_
  have dE := own_E hby own_D24
  have hown : s.vm.findClass "java/lang/String" = some m.cls := hown0
  have hnm := (name_of_methodNamed Bd.named Bd.method).1
  have N0 := Fr.nil n0
  rw [own_ef_RRII_4 m a2 d (0 : Int32) (0 : Int32)]
  refine o_aloadN X0.here hx (dE 0 rfl) rfl rfl ?_
  obtain ⟨cq101, kq101, q101a, q101b, q101c⟩ := isOf hZ e0 E2
  refine own_cP X0 (X0.virtualBack hx (y := Mn1) (z := Mn1) hown (mvT hZ (g_ hw 82 rfl)) (mvT hZ (g_ hw 83 rfl)) (notFace_of_selects (args := #[]) (mvT hZ (g_ hw 85 rfl))) (mvT hZ (g_ hw 85 rfl)) (mvT hZ (g_ hw 84 rfl)) (by decide) (backOf (W := 0) (rm_cod l Z a0 hw [] z a2 0 h0 n0 Z0 O SC hz G2) hZ (g_ hw 86 rfl) (g_ hw 7 rfl) (by decide) (by decide)) q101a q101c (g := (mkF m 1 #[.val (.ref a2), .val (.ref d), .val (.int (0 : Int32)), .val (.int (0 : Int32))] [(.ref a2)])) rfl (by rw [hml]; rfl) (Steps.refl _) (argsL := []) (rest := []) (lenOf own_pd1 rfl) rfl (by show 2 * 0 + _ ≤ _; exact Nat.le_of_eq rfl) (dE 1 rfl) (fun _ _ => ⟨rfl, e0, (by decide : 0 + 0 ≤ _), (by decide : 0 + 0 ≤ _)⟩)) fun v101 T101 L101 X101 hQ101 => ?_
  obtain ⟨rfl, Nq101, e101⟩ := hQ101
  have N101 := Fr.app N0 Nq101
  show own_Go p e below Pst (T101.setTop (mkF m 4 #[.val (.ref a2), .val (.ref d), .val (.int (0 : Int32)), .val (.int (0 : Int32))] [(.int (nar .byte 0))]))
  show own_Go p e below Pst (T101.setTop (mkF m 4 #[.val (.ref a2), .val (.ref d), .val (.int (0 : Int32)), .val (.int (0 : Int32))] [(.int (0 : Int32))]))
  refine o_iloadN X101.here hx (dE 2 rfl) rfl ?_
  refine o_icmpNo X101.here hx (dE 3 rfl) rfl (teq rfl).2 ?_
  refine o_aloadN X101.here hx (dE 4 rfl) rfl rfl ?_
  refine p_getF X101 hx hZ hown (host := "") (Or.inl (g_ hw 32 rfl)) Via.refl e101 G1 rfl (dE 5 rfl) fun T102 X102 e102 => ?_
  refine o_iconst X102.here hx (dE 6 rfl) (z := (0 : Int32)) rfl ?_
  refine o_aloadN X102.here hx (dE 7 rfl) rfl rfl ?_
  refine o_iloadN X102.here hx (dE 8 rfl) rfl ?_
  refine o_iloadN X102.here hx (dE 9 rfl) rfl ?_
  refine o_ishl X102.here hx (dE 10 rfl) rfl ?_
  rw [show ((0 : Int32) <<< ((0 : Int32) &&& 31)) = (0 : Int32) from by decide]
  show own_Go p e below Pst (T102.setTop (mkF m 17 #[.val (.ref a2), .val (.ref d), .val (.int (0 : Int32)), .val (.int (0 : Int32))] [(.int (0 : Int32)), (.ref d), (.int (0 : Int32)), (.ref t2)]))
  refine o_aloadN X102.here hx (dE 11 rfl) rfl rfl ?_
  refine p_getF X102 hx hZ hown (host := "") (Or.inl (g_ hw 32 rfl)) Via.refl e102 G1 rfl (dE 12 rfl) fun T103 X103 e103 => ?_
  obtain ⟨cl104, Ar104, -, S104, P104, -, -⟩ := id B1
  refine own_Go.of (S' := T103.setTop (mkF m 22 #[.val (.ref a2), .val (.ref d), .val (.int (0 : Int32)), .val (.int (0 : Int32))] [(.int (17 : Int32)), (.int (0 : Int32)), (.ref d), (.int (0 : Int32)), (.ref t2)])) (fun tgt kst => X103.arraylength hx (by rw [e103]; exact Ar104.1) (State.isArrayOf_alike hZ.alike Ar104.2.1) (g := (mkF m 21 #[.val (.ref a2), .val (.ref d), .val (.int (0 : Int32)), .val (.int (0 : Int32))] [(.ref t2), (.int (0 : Int32)), (.ref d), (.int (0 : Int32)), (.ref t2)])) rfl rfl (dE 13 rfl) _ (by rw [len_of S104 P104]; exact kst)) ?_
  obtain ⟨T105, h105, L105, X105, e105, N105, K105, V105r, st105⟩ := cpA X103 hx hZ hown (g_ hw 136 rfl) (g_ hw 119 rfl) (g_ hw 117 rfl) (g_ hw 118 rfl) e103 B1 A1 (Or.inl ⟨rfl, rfl⟩) (by decide) (by decide) (by decide) (by decide) (by decide) (us := own_l17) rfl (by decide) N101 gd (g := (mkF m 22 #[.val (.ref a2), .val (.ref d), .val (.int (0 : Int32)), .val (.int (0 : Int32))] [(.int (17 : Int32)), (.int (0 : Int32)), (.ref d), (.int (0 : Int32)), (.ref t2)])) rfl (by rw [hml]; rfl) rfl (dE 14 rfl) (by decide) (W := 0) (by show 2 * 0 + _ ≤ _; exact Nat.le_of_eq rfl) (by decide)
  have V105 : Arv Z h105 d kb .byte (34 : Int32) own_n1 (.int 0) := V105r
  refine own_Go.of st105 ?_
  show own_Go p e below Pst (T105.setTop (mkF m 25 #[.val (.ref a2), .val (.ref d), .val (.int (0 : Int32)), .val (.int (0 : Int32))] []))
  refine o_goto X105.here hx (pc0 := 25) (pc' := 43) rfl (dE 15 rfl) (by decide) (by decide) ?_
  have c106 := (Keep.trans (Keep.refl h0 [d]) K105 (allS (Or.inl (List.mem_of_getElem? (i := 0) rfl)) all0))
  rw [hPst]
  exact own_retP X105 (v := none) (Q := Q_gbL Z z a2 t2 d k2 kb h0 n0) (fun _ => rfl) Bd.notSynchronized (fun fs hr => X105.returnOut hx Bd.returns (dE 16 rfl) hr) (by decide) (by decide) (by rw [e105]; exact ⟨rfl, N105, c106, V105⟩)
theorem own_pd7 : parseMethodDescriptor "(Ljava/lang/String;)V" = some ⟨[(.object "java/lang/String")], none⟩ := by decide +kernel
theorem own_pd8 : parseMethodDescriptor "([BIB)V" = some ⟨[(.array .byte), .int, .byte], none⟩ := by decide +kernel
theorem own_ef_RIR_3 (m : MethodId) (x0 : Addr) (x1 : Int32) (x2 : Addr) : entryFrame m #[(.ref x0), (.int x1), (.ref x2)] 3 = mkF m 0 #[.val (.ref x0), .val (.int x1), .val (.ref x2)] [] := by first | (simp [entryFrame, mkF, argsToLocals, Value.category]; done) | rfl
def Q_psaL (Z : State) (z : Int32) (a1 t a2 t2 : Addr) (kb k2 : ClassId) (h0 : Heap) (n0 : Nat) (v : Option Value) (h : Heap) (L : List Loc) : Prop := v = none ∧ Fr n0 L ∧ Keep h0 h [t] ∧ Arv Z h t kb .byte (34 : Int32) own_n1 (.int 0)
theorem rm_psaL (l : Launch) (Z : State) (a0 : Array Value) (hw : own_H a0 Z) (ws : List Jvm.Cond) (z : Int32) (a1 t a2 t2 : Addr) (kb k2 : ClassId) (h0 : Heap) (n0 : Nat) (Z0 : n0 ≤ h0.size) (O : Old Z n0 h0) (SC : Sta Z Z.heap "java/lang/String" "COMPACT_STRINGS" "Z" (.int z)) (hz : ¬ z = 0) (E1 : Exa Z h0 a1 "java/lang/StringBuilder") (F1 : Fld Z h0 a1 "java/lang/AbstractStringBuilder" "value" "[B" (.ref t)) (F2 : Fld Z h0 a1 "java/lang/AbstractStringBuilder" "coder" "B" (.int (0 : Int32))) (A1 : Arv Z h0 t kb .byte (34 : Int32) own_z34 (.int 0)) (E2 : Exa Z h0 a2 "java/lang/String") (G1 : Fld Z h0 a2 "java/lang/String" "value" "[B" (.ref t2)) (G2 : Fld Z h0 a2 "java/lang/String" "coder" "B" (.int 0)) (B1 : Arv Z h0 t2 k2 .byte (17 : Int32) own_l17 (.int 0)) (gt : n0 ≤ t) (ne : t2 ≠ t) : own_MP l Mn3 jdk_68_method_73_code 3 none ws ({ frames := 2, cells := 0, slots := 0, locals := 40 } : Room) Z h0 #[(.ref a1), (.int (0 : Int32)), (.ref a2)] (fun _ _ _ _ _ => True) (Q_psaL Z z a1 t a2 t2 kb k2 h0 n0) := by
  refine own_startP (plainFor_of_name own_pn_java_lang_AbstractStringBuilder) fun p e s m below meth c s₁ Bd hx hby hml hown0 X0 e0 hh0 hZ hK Pst hPst => ?_
  have dE := own_E hby own_D22
  have hown : s.vm.findClass "java/lang/AbstractStringBuilder" = some m.cls := hown0
  have hnm := (name_of_methodNamed Bd.named Bd.method).1
  have N0 := Fr.nil n0
  rw [own_ef_RIR_3 m a1 (0 : Int32) a2]
  refine o_aloadN X0.here hx (dE 0 rfl) rfl rfl ?_
  refine o_aloadN X0.here hx (dE 1 rfl) rfl rfl ?_
  obtain ⟨cq101, kq101, q101a, q101b, q101c⟩ := isOf hZ e0 E1
  refine own_cP X0 (X0.virtualBack hx (y := Mn9) (z := Mn9) hown (mvT hZ (g_ hw 125 rfl)) (mvT hZ (own_decl (g_ hw 126 rfl) (g_ hw 129 rfl))) (notFace_of_selects (args := #[]) (mvT hZ (g_ hw 128 rfl))) (mvT hZ (g_ hw 128 rfl)) (mvT hZ (g_ hw 126 rfl)) (by decide) (backOf (W := 0) (rm_inf l Z a0 hw [] z a1 a2 h0 n0 Z0 O SC hz F2 E2 G2) hZ (g_ hw 129 rfl) (g_ hw 56 rfl) (by decide) (by decide)) q101a q101c (g := (mkF m 2 #[.val (.ref a1), .val (.int (0 : Int32)), .val (.ref a2)] [(.ref a2), (.ref a1)])) rfl (by rw [hml]; rfl) (Steps.refl _) (argsL := [(.ref a2)]) (rest := []) (lenOf own_pd7 rfl) rfl (by show 2 * 0 + _ ≤ _; exact Nat.le_of_eq rfl) (dE 2 rfl) (fun _ _ => ⟨rfl, e0, (by decide : 0 + 0 ≤ _), (by decide : 0 + 0 ≤ _)⟩)) fun v101 T101 L101 X101 hQ101 => ?_
  obtain ⟨rfl, Nq101, e101⟩ := hQ101
  have N101 := Fr.app N0 Nq101
  show own_Go p e below Pst (T101.setTop (mkF m 5 #[.val (.ref a1), .val (.int (0 : Int32)), .val (.ref a2)] []))
  refine o_aloadN X101.here hx (dE 3 rfl) rfl rfl ?_
  refine o_aloadN X101.here hx (dE 4 rfl) rfl rfl ?_
  refine p_getF X101 hx hZ hown (host := "") (Or.inl (g_ hw 60 rfl)) Via.refl e101 F1 rfl (dE 5 rfl) fun T102 X102 e102 => ?_
  refine o_iloadN X102.here hx (dE 6 rfl) rfl ?_
  refine o_aloadN X102.here hx (dE 7 rfl) rfl rfl ?_
  refine p_getF X102 hx hZ hown (host := "") (Or.inl (g_ hw 62 rfl)) Via.refl e102 F2 rfl (dE 8 rfl) fun T103 X103 e103 => ?_
  obtain ⟨cq104, kq104, q104a, q104b, q104c⟩ := isOf hZ e103 E2
  refine own_cP X103 (X103.virtualBack hx (y := Mn2) (z := Mn2) hown (mvT hZ (g_ hw 131 rfl)) (mvT hZ (g_ hw 132 rfl)) (notFace_of_selects (args := #[]) (mvT hZ (g_ hw 134 rfl))) (mvT hZ (g_ hw 134 rfl)) (mvT hZ (g_ hw 133 rfl)) (by decide) (backOf (W := 0) (rm_gbL l Z a0 hw [] z a2 t2 t k2 kb  h0 n0 Z0 O SC hz E2 G1 G2 B1 A1 gt ne) hZ (g_ hw 135 rfl) (g_ hw 7 rfl) (by decide) (by decide)) q104a q104c (g := (mkF m 15 #[.val (.ref a1), .val (.int (0 : Int32)), .val (.ref a2)] [(.int (0 : Int32)), (.int (0 : Int32)), (.ref t), (.ref a2)])) rfl (by rw [hml]; rfl) (Steps.refl _) (argsL := [(.ref t), (.int (0 : Int32)), (.int (0 : Int32))]) (rest := []) (lenOf own_pd8 rfl) rfl (by show 2 * 0 + _ ≤ _; exact Nat.le_of_eq rfl) (dE 9 rfl) (fun _ _ => ⟨rfl, e103, (by decide : 0 + 0 ≤ _), (by decide : 0 + 0 ≤ _)⟩)) fun v104 T104 L104 X104 hQ104 => ?_
  obtain ⟨rfl, Nq104, K104, V104⟩ := hQ104
  have N104 := Fr.app N101 Nq104
  show own_Go p e below Pst (T104.setTop (mkF m 18 #[.val (.ref a1), .val (.int (0 : Int32)), .val (.ref a2)] []))
  have c105 := (Keep.trans (Keep.refl h0 [t]) K104 (allS (Or.inl (List.mem_of_getElem? (i := 0) rfl)) all0))
  rw [hPst]
  exact own_retP X104 (v := none) (Q := Q_psaL Z z a1 t a2 t2 kb k2 h0 n0) (fun _ => rfl) Bd.notSynchronized (fun fs hr => X104.returnOut hx Bd.returns (dE 10 rfl) hr) (by decide) (by decide) ⟨rfl, N104, c105, V104⟩
theorem own_pd9 : parseMethodDescriptor "()I" = some ⟨[], some .int⟩ := by decide +kernel
theorem own_pd10 : parseMethodDescriptor "(ILjava/lang/String;)V" = some ⟨[.int, (.object "java/lang/String")], none⟩ := by decide +kernel
theorem own_ef_RR_3 (m : MethodId) (x0 : Addr) (x1 : Addr) : entryFrame m #[(.ref x0), (.ref x1)] 3 = mkF m 0 #[.val (.ref x0), .val (.ref x1), .unset] [] := by first | (simp [entryFrame, mkF, argsToLocals, Value.category]; done) | rfl
def Q_aaL (Z : State) (z : Int32) (a1 t a2 t2 : Addr) (kb k2 : ClassId) (h0 : Heap) (n0 : Nat) (v : Option Value) (h : Heap) (L : List Loc) : Prop := v = some (.ref a1) ∧ Fr n0 L ∧ Keep h0 h [a1] ∧ Exa Z h a1 "java/lang/StringBuilder" ∧ Fld Z h a1 "java/lang/AbstractStringBuilder" "coder" "B" (.int (0 : Int32)) ∧ Fld Z h a1 "java/lang/AbstractStringBuilder" "count" "I" (.int (17 : Int32)) ∧ ∃ (t' : Addr) (kb : ClassId), h0.size ≤ t' ∧ Fld Z h a1 "java/lang/AbstractStringBuilder" "value" "[B" (.ref t') ∧ Arv Z h t' kb .byte (34 : Int32) own_n1 (.int 0)
theorem rm_aaL (l : Launch) (Z : State) (a0 : Array Value) (hw : own_H a0 Z) (ws : List Jvm.Cond) (z : Int32) (a1 t a2 t2 : Addr) (kb k2 : ClassId) (h0 : Heap) (n0 : Nat) (Z0 : n0 ≤ h0.size) (O : Old Z n0 h0) (SC : Sta Z Z.heap "java/lang/String" "COMPACT_STRINGS" "Z" (.int z)) (hz : ¬ z = 0) (E1 : Exa Z h0 a1 "java/lang/StringBuilder") (F1 : Fld Z h0 a1 "java/lang/AbstractStringBuilder" "value" "[B" (.ref t)) (F2 : Fld Z h0 a1 "java/lang/AbstractStringBuilder" "coder" "B" (.int (0 : Int32))) (F3 : Fld Z h0 a1 "java/lang/AbstractStringBuilder" "count" "I" (.int (0 : Int32))) (A1 : Arv Z h0 t kb .byte (16 : Int32) own_z16 (.int 0)) (E2 : Exa Z h0 a2 "java/lang/String") (G1 : Fld Z h0 a2 "java/lang/String" "value" "[B" (.ref t2)) (G2 : Fld Z h0 a2 "java/lang/String" "coder" "B" (.int 0)) (B1 : Arv Z h0 t2 k2 .byte (17 : Int32) own_l17 (.int 0)) (g1 : n0 ≤ a1) (gt : n0 ≤ t) (ne1 : a2 ≠ a1) (ne2 : t2 ≠ t) : own_MP l Mn7 jdk_68_method_22_code 3 (some (.object "java/lang/AbstractStringBuilder")) ws ({ frames := 4, cells := 1, slots := 34, locals := 70 } : Room) Z h0 #[(.ref a1), (.ref a2)] (fun _ _ _ _ _ => True) (Q_aaL Z z a1 t a2 t2 kb k2 h0 n0) := by
  refine own_startP (plainFor_of_name own_pn_java_lang_AbstractStringBuilder) fun p e s m below meth c s₁ Bd hx hby hml hown0 X0 e0 hh0 hZ hK Pst hPst => ?_
  have dE := own_E hby own_D13
  have hown : s.vm.findClass "java/lang/AbstractStringBuilder" = some m.cls := hown0
  have hnm := (name_of_methodNamed Bd.named Bd.method).1
  have N0 := Fr.nil n0
  rw [own_ef_RR_3 m a1 a2]
  have ne3 : t ≠ a1 := Ne.symm (Exa.neArv E1 A1 (g_ hw 47 rfl))
  have ne4 : t2 ≠ a1 := Ne.symm (Exa.neArv E1 B1 (g_ hw 47 rfl))
  have ne5 : a2 ≠ t := Exa.neArv E2 A1 (g_ hw 6 rfl)
  refine o_aloadN X0.here hx (dE 0 rfl) rfl rfl ?_
  refine o_ifnonnullYes X0.here hx (pc0 := 1) (pc' := 9) rfl (dE 1 rfl) rfl (by decide) (by decide) ?_
  refine o_aloadN X0.here hx (dE 2 rfl) rfl rfl ?_
  obtain ⟨cq101, kq101, q101a, q101b, q101c⟩ := isOf hZ e0 E2
  refine own_cP X0 (X0.virtualBack hx (y := Mn8) (z := Mn8) hown (mvT hZ (g_ hw 77 rfl)) (mvT hZ (g_ hw 78 rfl)) (notFace_of_selects (args := #[]) (mvT hZ (g_ hw 80 rfl))) (mvT hZ (g_ hw 80 rfl)) (mvT hZ (g_ hw 79 rfl)) (by decide) (backOf (W := 0) (rm_len l Z a0 hw [] z a2 t2 k2 0 (17 : Int32) own_l17 (.int 0) h0 n0 Z0 O SC hz E2 G2 G1 B1) hZ (g_ hw 81 rfl) (g_ hw 7 rfl) (by decide) (by decide)) q101a q101c (g := (mkF m 10 #[.val (.ref a1), .val (.ref a2), .unset] [(.ref a2)])) rfl (by rw [hml]; rfl) (Steps.refl _) (argsL := []) (rest := []) (lenOf own_pd9 rfl) rfl (by show 2 * 0 + _ ≤ _; exact Nat.le_of_eq rfl) (dE 3 rfl) (fun _ _ => ⟨rfl, e0, (by decide : 0 + 0 ≤ _), (by decide : 0 + 0 ≤ _)⟩)) fun v101 T101 L101 X101 hQ101 => ?_
  obtain ⟨rfl, Nq101, e101⟩ := hQ101
  have N101 := Fr.app N0 Nq101
  show own_Go p e below Pst (T101.setTop (mkF m 13 #[.val (.ref a1), .val (.ref a2), .unset] [(.int ((17 : Int32) >>> (nar .byte 0 &&& 31)))]))
  rw [show ((17 : Int32) >>> (nar .byte 0 &&& 31)) = (17 : Int32) from by decide]
  show own_Go p e below Pst (T101.setTop (mkF m 13 #[.val (.ref a1), .val (.ref a2), .unset] [(.int (17 : Int32))]))
  refine o_istoreN X101.here hx (dE 4 rfl) rfl (l' := #[.val (.ref a1), .val (.ref a2), .val (.int (17 : Int32))]) rfl ?_
  refine o_aloadN X101.here hx (dE 5 rfl) rfl rfl ?_
  refine o_aloadN X101.here hx (dE 6 rfl) rfl rfl ?_
  refine p_getF X101 hx hZ hown (host := "") (Or.inl (g_ hw 87 rfl)) Via.refl e101 F3 rfl (dE 7 rfl) fun T102 X102 e102 => ?_
  refine o_iloadN X102.here hx (dE 8 rfl) rfl ?_
  refine o_iadd X102.here hx (dE 9 rfl) rfl ?_
  rw [show ((0 : Int32) + (17 : Int32)) = (17 : Int32) from by decide]
  show own_Go p e below Pst (T102.setTop (mkF m 21 #[.val (.ref a1), .val (.ref a2), .val (.int (17 : Int32))] [(.int (17 : Int32)), (.ref a1)]))
  obtain ⟨cq103, kq103, q103a, q103b, q103c⟩ := isOf hZ e102 E1
  refine own_cP X102 (X102.virtualBack hx (y := Mn5) (z := Mn5) hown (mvT hZ (g_ hw 89 rfl)) (mvT hZ (own_decl (g_ hw 90 rfl) (g_ hw 93 rfl))) (notFace_of_selects (args := #[]) (mvT hZ (g_ hw 92 rfl))) (mvT hZ (g_ hw 92 rfl)) (mvT hZ (g_ hw 90 rfl)) (by decide) (backOf (W := 0) (rm_ecg l Z a0 hw [] a1 t kb h0 n0 Z0 E1 F1 F2 F3 A1 g1) hZ (g_ hw 93 rfl) (g_ hw 56 rfl) (by decide) (by decide)) q103a q103c (g := (mkF m 21 #[.val (.ref a1), .val (.ref a2), .val (.int (17 : Int32))] [(.int (17 : Int32)), (.ref a1)])) rfl (by rw [hml]; rfl) (Steps.refl _) (argsL := [(.int (17 : Int32))]) (rest := []) (lenOf own_pd2 rfl) rfl (by show 2 * 0 + _ ≤ _; exact Nat.le_of_eq rfl) (dE 10 rfl) (fun _ _ => ⟨rfl, e102, (by decide : 0 + 1 ≤ _), (by decide : 0 + 34 ≤ _)⟩)) fun v103 T103 L103 X103 hQ103 => ?_
  obtain ⟨rfl, Nq103, K103, A103, C103, D103, t103, kb103, st_103, V103, B103⟩ := hQ103
  have N103 := Fr.app N101 Nq103
  have ne_a1_t103 : a1 ≠ t103 := Nat.ne_of_lt (Nat.lt_of_lt_of_le E1.lt st_103)
  have ne_t_t103 : t ≠ t103 := Nat.ne_of_lt (Nat.lt_of_lt_of_le A1.lt st_103)
  have ne_a2_t103 : a2 ≠ t103 := Nat.ne_of_lt (Nat.lt_of_lt_of_le E2.lt st_103)
  have ne_t2_t103 : t2 ≠ t103 := Nat.ne_of_lt (Nat.lt_of_lt_of_le B1.lt st_103)
  have gn_t103 : n0 ≤ t103 := Nat.le_trans Z0 st_103
  have sz_t103 : h0.size ≤ t103 := Nat.le_trans (Keep.refl h0 [a1]).1 st_103
  show own_Go p e below Pst (T103.setTop (mkF m 24 #[.val (.ref a1), .val (.ref a2), .val (.int (17 : Int32))] []))
  refine o_aloadN X103.here hx (dE 11 rfl) rfl rfl ?_
  refine o_aloadN X103.here hx (dE 12 rfl) rfl rfl ?_
  refine p_getF X103 hx hZ hown (host := "") (Or.inl (g_ hw 87 rfl)) Via.refl rfl D103 rfl (dE 13 rfl) fun T104 X104 e104 => ?_
  refine o_aloadN X104.here hx (dE 14 rfl) rfl rfl ?_
  have c105 := (O.keep K103 (allS g1 all0))
  have c106 := (E2.keep K103)
  have c107 := (G1.keep K103 (ninS ne1 nin0))
  have c108 := (G2.keep K103 (ninS ne1 nin0))
  have c109 := (B1.keep K103 (ninS ne4 nin0))
  have c111 := (Nat.le_trans Z0 K103.1)
  obtain ⟨cq110, kq110, q110a, q110b, q110c⟩ := isOf hZ e104 A103
  refine own_cP X104 (X104.virtualBack hx (y := Mn3) (z := Mn3) hown (mvT hZ (g_ hw 120 rfl)) (mvT hZ (own_decl (g_ hw 121 rfl) (g_ hw 124 rfl))) (notFace_of_selects (args := #[]) (mvT hZ (g_ hw 123 rfl))) (mvT hZ (g_ hw 123 rfl)) (mvT hZ (g_ hw 121 rfl)) (by decide) (backOf (W := 0) (rm_psaL l Z a0 hw [] z a1 t103 a2 t2 kb103 k2  T103.heap n0 c111 c105 SC hz A103 V103 C103 B103 c106 c107 c108 c109 gn_t103 ne_t2_t103) hZ (g_ hw 124 rfl) (g_ hw 56 rfl) (by decide) (by decide)) q110a q110c (g := (mkF m 30 #[.val (.ref a1), .val (.ref a2), .val (.int (17 : Int32))] [(.ref a2), (.int (0 : Int32)), (.ref a1)])) rfl (by rw [hml]; rfl) (Steps.refl _) (argsL := [(.int (0 : Int32)), (.ref a2)]) (rest := []) (lenOf own_pd10 rfl) rfl (by show 2 * 0 + _ ≤ _; exact Nat.le_of_eq rfl) (dE 15 rfl) (fun _ _ => ⟨rfl, e104, (by decide : 1 + 0 ≤ _), (by decide : 34 + 0 ≤ _)⟩)) fun v110 T110 L110 X110 hQ110 => ?_
  obtain ⟨rfl, Nq110, K110, V110⟩ := hQ110
  have N110 := Fr.app N103 Nq110
  show own_Go p e below Pst (T110.setTop (mkF m 33 #[.val (.ref a1), .val (.ref a2), .val (.int (17 : Int32))] []))
  refine o_aloadN X110.here hx (dE 16 rfl) rfl rfl ?_
  refine o_dup X110.here hx (dE 17 rfl) rfl rfl ?_
  have c112 := (D103.keep K110 (ninS ne_a1_t103 nin0))
  refine p_getF X110 hx hZ hown (host := "") (Or.inl (g_ hw 87 rfl)) Via.refl rfl c112 rfl (dE 18 rfl) fun T113 X113 e113 => ?_
  refine o_iloadN X113.here hx (dE 19 rfl) rfl ?_
  refine o_iadd X113.here hx (dE 20 rfl) rfl ?_
  rw [show ((0 : Int32) + (17 : Int32)) = (17 : Int32) from by decide]
  show own_Go p e below Pst (T113.setTop (mkF m 40 #[.val (.ref a1), .val (.ref a2), .val (.int (17 : Int32))] [(.int (17 : Int32)), (.ref a1)]))
  have c114 := (A103.keep K110)
  refine p_putF X113 hx hZ hown (host := "") (Or.inl (g_ hw 87 rfl)) Via.refl e113 c112 c114 (Or.inl (g_ hw 88 rfl)) (g_ hw 47 rfl) (ty := .int) (by decide) rfl rfl rfl (dE 21 rfl) fun T115 h115 X115 e115 W115 => ?_
  have Fw115 := Fld.same W115 c112
  have N115 := Fr.snoc X115 N110 g1
  refine o_aloadN X115.here hx (dE 22 rfl) rfl rfl ?_
  have c116 := ((Keep.trans (Keep.trans (Keep.refl h0 [a1]) K103 (allS (Or.inl (List.mem_of_getElem? (i := 0) rfl)) all0)) K110 (allS (Or.inr sz_t103) all0)).wr W115 (Or.inl (List.mem_of_getElem? (i := 0) rfl)))
  have c117 := (c114.wr W115)
  have c118 := ((C103.keep K110 (ninS ne_a1_t103 nin0)).other W115 (Or.inr (slot_ne (Or.inl (g_ hw 63 rfl)) (Or.inl (g_ hw 88 rfl)) (by decide) (t := .byte) (t' := .int) (by decide) (by decide))))
  have c119 := ((V103.keep K110 (ninS ne_a1_t103 nin0)).other W115 (Or.inr (slot_ne (Or.inl (g_ hw 61 rfl)) (Or.inl (g_ hw 88 rfl)) (by decide) (t := (.array .byte)) (t' := .int) (by decide) (by decide))))
  have c120 := (V110.other W115 (Ne.symm ne_a1_t103))
  rw [hPst]
  exact own_retP X115 (v := (some (.ref a1))) (Q := Q_aaL Z z a1 t a2 t2 kb k2 h0 n0) (fun h => by rw [Bd.returns] at h; cases h) Bd.notSynchronized (fun fs hr => retOut X115 hx Bd.returns rfl (Or.inr (Or.inr (Or.inr (Or.inr ⟨rfl, rfl, rfl⟩)))) (dE 23 rfl) hr) (by decide) (by decide) (by rw [e115]; exact ⟨rfl, N115, c116, c117, c118, Fw115, _, _, sz_t103, c119, c120⟩)
theorem own_pd11 : parseMethodDescriptor "(Ljava/lang/String;)Ljava/lang/AbstractStringBuilder;" = some ⟨[(.object "java/lang/String")], some (.object "java/lang/AbstractStringBuilder")⟩ := by decide +kernel
def Q_saL (Z : State) (z : Int32) (a1 t a2 t2 : Addr) (kb k2 : ClassId) (h0 : Heap) (n0 : Nat) (v : Option Value) (h : Heap) (L : List Loc) : Prop := v = some (.ref a1) ∧ Fr n0 L ∧ Keep h0 h [a1] ∧ Exa Z h a1 "java/lang/StringBuilder" ∧ Fld Z h a1 "java/lang/AbstractStringBuilder" "coder" "B" (.int (0 : Int32)) ∧ Fld Z h a1 "java/lang/AbstractStringBuilder" "count" "I" (.int (17 : Int32)) ∧ ∃ (t' : Addr) (kb : ClassId), h0.size ≤ t' ∧ Fld Z h a1 "java/lang/AbstractStringBuilder" "value" "[B" (.ref t') ∧ Arv Z h t' kb .byte (34 : Int32) own_n1 (.int 0)
theorem rm_saL (l : Launch) (Z : State) (a0 : Array Value) (hw : own_H a0 Z) (ws : List Jvm.Cond) (z : Int32) (a1 t a2 t2 : Addr) (kb k2 : ClassId) (h0 : Heap) (n0 : Nat) (Z0 : n0 ≤ h0.size) (O : Old Z n0 h0) (SC : Sta Z Z.heap "java/lang/String" "COMPACT_STRINGS" "Z" (.int z)) (hz : ¬ z = 0) (E1 : Exa Z h0 a1 "java/lang/StringBuilder") (F1 : Fld Z h0 a1 "java/lang/AbstractStringBuilder" "value" "[B" (.ref t)) (F2 : Fld Z h0 a1 "java/lang/AbstractStringBuilder" "coder" "B" (.int (0 : Int32))) (F3 : Fld Z h0 a1 "java/lang/AbstractStringBuilder" "count" "I" (.int (0 : Int32))) (A1 : Arv Z h0 t kb .byte (16 : Int32) own_z16 (.int 0)) (E2 : Exa Z h0 a2 "java/lang/String") (G1 : Fld Z h0 a2 "java/lang/String" "value" "[B" (.ref t2)) (G2 : Fld Z h0 a2 "java/lang/String" "coder" "B" (.int 0)) (B1 : Arv Z h0 t2 k2 .byte (17 : Int32) own_l17 (.int 0)) (g1 : n0 ≤ a1) (gt : n0 ≤ t) (ne1 : a2 ≠ a1) (ne2 : t2 ≠ t) : own_MP l Mn0 jdk_67_method_7_code 2 (some (.object "java/lang/StringBuilder")) ws ({ frames := 5, cells := 1, slots := 34, locals := 86 } : Room) Z h0 #[(.ref a1), (.ref a2)] (fun _ _ _ _ _ => True) (Q_saL Z z a1 t a2 t2 kb k2 h0 n0) := by
  refine own_startP (plainFor_of_name own_pn_java_lang_StringBuilder) fun p e s m below meth c s₁ Bd hx hby hml hown0 X0 e0 hh0 hZ hK Pst hPst => ?_
  have dE := own_E hby own_D12
  have hown : s.vm.findClass "java/lang/StringBuilder" = some m.cls := hown0
  have hnm := (name_of_methodNamed Bd.named Bd.method).1
  have N0 := Fr.nil n0
  rw [own_ef_RR_2 m a1 a2]
  have ne3 : t ≠ a1 := Ne.symm (Exa.neArv E1 A1 (g_ hw 47 rfl))
  have ne4 : t2 ≠ a1 := Ne.symm (Exa.neArv E1 B1 (g_ hw 47 rfl))
  have ne5 : a2 ≠ t := Exa.neArv E2 A1 (g_ hw 6 rfl)
  refine o_aloadN X0.here hx (dE 0 rfl) rfl rfl ?_
  refine o_aloadN X0.here hx (dE 1 rfl) rfl rfl ?_
  refine own_cP X0 (superBack X0 hx hZ (y := Mn7) hown (g_ hw 72 rfl) (own_sameM (g_ hw 92 rfl) (g_ hw 73 rfl) rfl (by decide)) (g_ hw 73 rfl) (g_ hw 74 rfl) (by decide) (backOf (W := 0) (rm_aaL l Z a0 hw [] z a1 t a2 t2 kb k2  h0 n0 Z0 O SC hz E1 F1 F2 F3 A1 E2 G1 G2 B1 g1 gt ne1 ne2) hZ (g_ hw 76 rfl) (g_ hw 56 rfl) (by decide) (by decide)) e0 (Ins.self E1) (g := (mkF m 2 #[.val (.ref a1), .val (.ref a2)] [(.ref a2), (.ref a1)])) rfl (by rw [hml]; rfl) (g_ hw 76 rfl) (argsL := [(.ref a2)]) (rest := []) (lenOf own_pd11 rfl) rfl (by show 2 * 0 + _ ≤ _; exact Nat.le_of_eq rfl) (dE 2 rfl) (fun _ _ => ⟨rfl, e0, (by decide : 0 + 1 ≤ _), (by decide : 0 + 34 ≤ _)⟩)) fun v101 T101 L101 X101 hQ101 => ?_
  obtain ⟨rfl, Nq101, K101, A101, C101, D101, t101, kb101, st_101, V101, B101⟩ := hQ101
  have N101 := Fr.app N0 Nq101
  show own_Go p e below Pst (T101.setTop (mkF m 5 #[.val (.ref a1), .val (.ref a2)] [(.ref a1)]))
  refine o_pop X101.here hx (dE 3 rfl) rfl rfl ?_
  refine o_aloadN X101.here hx (dE 4 rfl) rfl rfl ?_
  have c102 := (Keep.trans (Keep.refl h0 [a1]) K101 (allS (Or.inl (List.mem_of_getElem? (i := 0) rfl)) all0))
  rw [hPst]
  exact own_retP X101 (v := (some (.ref a1))) (Q := Q_saL Z z a1 t a2 t2 kb k2 h0 n0) (fun h => by rw [Bd.returns] at h; cases h) Bd.notSynchronized (fun fs hr => retOut X101 hx Bd.returns rfl (Or.inr (Or.inr (Or.inr (Or.inr ⟨rfl, rfl, rfl⟩)))) (dE 5 rfl) hr) (by decide) (by decide) ⟨rfl, N101, c102, A101, C101, D101, _, _, st_101, V101, B101⟩
def Q_gb0 (Z : State) (z : Int32) (a2 t2 d : Addr) (k2 kb : ClassId) (h0 : Heap) (n0 : Nat) (v : Option Value) (h : Heap) (L : List Loc) : Prop := v = none ∧ Fr n0 L ∧ Keep h0 h [d] ∧ Arv Z h d kb .byte (34 : Int32) own_n1 (.int 0)
theorem rm_gb0 (l : Launch) (Z : State) (a0 : Array Value) (hw : own_H a0 Z) (ws : List Jvm.Cond) (z : Int32) (a2 t2 d : Addr) (k2 kb : ClassId) (h0 : Heap) (n0 : Nat) (Z0 : n0 ≤ h0.size) (O : Old Z n0 h0) (SC : Sta Z Z.heap "java/lang/String" "COMPACT_STRINGS" "Z" (.int z)) (hz : ¬ z = 0) (E2 : Exa Z h0 a2 "java/lang/String") (G1 : Fld Z h0 a2 "java/lang/String" "value" "[B" (.ref t2)) (G2 : Fld Z h0 a2 "java/lang/String" "coder" "B" (.int 0)) (B1 : Arv Z h0 t2 k2 .byte (0 : Int32) [] (.int 0)) (A1 : Arv Z h0 d kb .byte (34 : Int32) own_n1 (.int 0)) (gd : n0 ≤ d) (ne : t2 ≠ d) : own_MP l Mn2 jdk_42_method_147_code 4 none ws ({ frames := 1, cells := 0, slots := 0, locals := 21 } : Room) Z h0 #[(.ref a2), (.ref d), (.int (17 : Int32)), (.int (0 : Int32))] (fun _ _ _ _ _ => True) (Q_gb0 Z z a2 t2 d k2 kb h0 n0) := by
  refine own_startP (plainFor_of_name own_pn_java_lang_String) fun p e s m below meth c s₁ Bd hx hby hml hown0 X0 e0 hh0 hZ hK Pst hPst => ?_
  have dE := own_E hby own_D24
  have hown : s.vm.findClass "java/lang/String" = some m.cls := hown0
  have hnm := (name_of_methodNamed Bd.named Bd.method).1
  have N0 := Fr.nil n0
  rw [own_ef_RRII_4 m a2 d (17 : Int32) (0 : Int32)]
  refine o_aloadN X0.here hx (dE 0 rfl) rfl rfl ?_
  obtain ⟨cq101, kq101, q101a, q101b, q101c⟩ := isOf hZ e0 E2
  refine own_cP X0 (X0.virtualBack hx (y := Mn1) (z := Mn1) hown (mvT hZ (g_ hw 82 rfl)) (mvT hZ (g_ hw 83 rfl)) (notFace_of_selects (args := #[]) (mvT hZ (g_ hw 85 rfl))) (mvT hZ (g_ hw 85 rfl)) (mvT hZ (g_ hw 84 rfl)) (by decide) (backOf (W := 0) (rm_cod l Z a0 hw [] z a2 0 h0 n0 Z0 O SC hz G2) hZ (g_ hw 86 rfl) (g_ hw 7 rfl) (by decide) (by decide)) q101a q101c (g := (mkF m 1 #[.val (.ref a2), .val (.ref d), .val (.int (17 : Int32)), .val (.int (0 : Int32))] [(.ref a2)])) rfl (by rw [hml]; rfl) (Steps.refl _) (argsL := []) (rest := []) (lenOf own_pd1 rfl) rfl (by show 2 * 0 + _ ≤ _; exact Nat.le_of_eq rfl) (dE 1 rfl) (fun _ _ => ⟨rfl, e0, (by decide : 0 + 0 ≤ _), (by decide : 0 + 0 ≤ _)⟩)) fun v101 T101 L101 X101 hQ101 => ?_
  obtain ⟨rfl, Nq101, e101⟩ := hQ101
  have N101 := Fr.app N0 Nq101
  show own_Go p e below Pst (T101.setTop (mkF m 4 #[.val (.ref a2), .val (.ref d), .val (.int (17 : Int32)), .val (.int (0 : Int32))] [(.int (nar .byte 0))]))
  show own_Go p e below Pst (T101.setTop (mkF m 4 #[.val (.ref a2), .val (.ref d), .val (.int (17 : Int32)), .val (.int (0 : Int32))] [(.int (0 : Int32))]))
  refine o_iloadN X101.here hx (dE 2 rfl) rfl ?_
  refine o_icmpNo X101.here hx (dE 3 rfl) rfl (teq rfl).2 ?_
  refine o_aloadN X101.here hx (dE 4 rfl) rfl rfl ?_
  refine p_getF X101 hx hZ hown (host := "") (Or.inl (g_ hw 32 rfl)) Via.refl e101 G1 rfl (dE 5 rfl) fun T102 X102 e102 => ?_
  refine o_iconst X102.here hx (dE 6 rfl) (z := (0 : Int32)) rfl ?_
  refine o_aloadN X102.here hx (dE 7 rfl) rfl rfl ?_
  refine o_iloadN X102.here hx (dE 8 rfl) rfl ?_
  refine o_iloadN X102.here hx (dE 9 rfl) rfl ?_
  refine o_ishl X102.here hx (dE 10 rfl) rfl ?_
  rw [show ((17 : Int32) <<< ((0 : Int32) &&& 31)) = (17 : Int32) from by decide]
  show own_Go p e below Pst (T102.setTop (mkF m 17 #[.val (.ref a2), .val (.ref d), .val (.int (17 : Int32)), .val (.int (0 : Int32))] [(.int (17 : Int32)), (.ref d), (.int (0 : Int32)), (.ref t2)]))
  refine o_aloadN X102.here hx (dE 11 rfl) rfl rfl ?_
  refine p_getF X102 hx hZ hown (host := "") (Or.inl (g_ hw 32 rfl)) Via.refl e102 G1 rfl (dE 12 rfl) fun T103 X103 e103 => ?_
  obtain ⟨cl104, Ar104, -, S104, P104, -, -⟩ := id B1
  refine own_Go.of (S' := T103.setTop (mkF m 22 #[.val (.ref a2), .val (.ref d), .val (.int (17 : Int32)), .val (.int (0 : Int32))] [(.int (0 : Int32)), (.int (17 : Int32)), (.ref d), (.int (0 : Int32)), (.ref t2)])) (fun tgt kst => X103.arraylength hx (by rw [e103]; exact Ar104.1) (State.isArrayOf_alike hZ.alike Ar104.2.1) (g := (mkF m 21 #[.val (.ref a2), .val (.ref d), .val (.int (17 : Int32)), .val (.int (0 : Int32))] [(.ref t2), (.int (17 : Int32)), (.ref d), (.int (0 : Int32)), (.ref t2)])) rfl rfl (dE 13 rfl) _ (by rw [len_of S104 P104]; exact kst)) ?_
  obtain ⟨T105, h105, L105, X105, e105, N105, K105, V105r, st105⟩ := cpA X103 hx hZ hown (g_ hw 136 rfl) (g_ hw 119 rfl) (g_ hw 117 rfl) (g_ hw 118 rfl) e103 B1 A1 (Or.inl ⟨rfl, rfl⟩) (by decide) (by decide) (by decide) (by decide) (by decide) (us := []) rfl (by decide) N101 gd (g := (mkF m 22 #[.val (.ref a2), .val (.ref d), .val (.int (17 : Int32)), .val (.int (0 : Int32))] [(.int (0 : Int32)), (.int (17 : Int32)), (.ref d), (.int (0 : Int32)), (.ref t2)])) rfl (by rw [hml]; rfl) rfl (dE 14 rfl) (by decide) (W := 0) (by show 2 * 0 + _ ≤ _; exact Nat.le_of_eq rfl) (by decide)
  have V105 : Arv Z h105 d kb .byte (34 : Int32) own_n1 (.int 0) := V105r
  refine own_Go.of st105 ?_
  show own_Go p e below Pst (T105.setTop (mkF m 25 #[.val (.ref a2), .val (.ref d), .val (.int (17 : Int32)), .val (.int (0 : Int32))] []))
  refine o_goto X105.here hx (pc0 := 25) (pc' := 43) rfl (dE 15 rfl) (by decide) (by decide) ?_
  have c106 := (Keep.trans (Keep.refl h0 [d]) K105 (allS (Or.inl (List.mem_of_getElem? (i := 0) rfl)) all0))
  rw [hPst]
  exact own_retP X105 (v := none) (Q := Q_gb0 Z z a2 t2 d k2 kb h0 n0) (fun _ => rfl) Bd.notSynchronized (fun fs hr => X105.returnOut hx Bd.returns (dE 16 rfl) hr) (by decide) (by decide) (by rw [e105]; exact ⟨rfl, N105, c106, V105⟩)
def Q_psa0 (Z : State) (z : Int32) (a1 t a2 t2 : Addr) (kb k2 : ClassId) (h0 : Heap) (n0 : Nat) (v : Option Value) (h : Heap) (L : List Loc) : Prop := v = none ∧ Fr n0 L ∧ Keep h0 h [t] ∧ Arv Z h t kb .byte (34 : Int32) own_n1 (.int 0)
theorem rm_psa0 (l : Launch) (Z : State) (a0 : Array Value) (hw : own_H a0 Z) (ws : List Jvm.Cond) (z : Int32) (a1 t a2 t2 : Addr) (kb k2 : ClassId) (h0 : Heap) (n0 : Nat) (Z0 : n0 ≤ h0.size) (O : Old Z n0 h0) (SC : Sta Z Z.heap "java/lang/String" "COMPACT_STRINGS" "Z" (.int z)) (hz : ¬ z = 0) (E1 : Exa Z h0 a1 "java/lang/StringBuilder") (F1 : Fld Z h0 a1 "java/lang/AbstractStringBuilder" "value" "[B" (.ref t)) (F2 : Fld Z h0 a1 "java/lang/AbstractStringBuilder" "coder" "B" (.int (0 : Int32))) (A1 : Arv Z h0 t kb .byte (34 : Int32) own_n1 (.int 0)) (E2 : Exa Z h0 a2 "java/lang/String") (G1 : Fld Z h0 a2 "java/lang/String" "value" "[B" (.ref t2)) (G2 : Fld Z h0 a2 "java/lang/String" "coder" "B" (.int 0)) (B1 : Arv Z h0 t2 k2 .byte (0 : Int32) [] (.int 0)) (gt : n0 ≤ t) (ne : t2 ≠ t) : own_MP l Mn3 jdk_68_method_73_code 3 none ws ({ frames := 2, cells := 0, slots := 0, locals := 40 } : Room) Z h0 #[(.ref a1), (.int (17 : Int32)), (.ref a2)] (fun _ _ _ _ _ => True) (Q_psa0 Z z a1 t a2 t2 kb k2 h0 n0) := by
  refine own_startP (plainFor_of_name own_pn_java_lang_AbstractStringBuilder) fun p e s m below meth c s₁ Bd hx hby hml hown0 X0 e0 hh0 hZ hK Pst hPst => ?_
  have dE := own_E hby own_D22
  have hown : s.vm.findClass "java/lang/AbstractStringBuilder" = some m.cls := hown0
  have hnm := (name_of_methodNamed Bd.named Bd.method).1
  have N0 := Fr.nil n0
  rw [own_ef_RIR_3 m a1 (17 : Int32) a2]
  refine o_aloadN X0.here hx (dE 0 rfl) rfl rfl ?_
  refine o_aloadN X0.here hx (dE 1 rfl) rfl rfl ?_
  obtain ⟨cq101, kq101, q101a, q101b, q101c⟩ := isOf hZ e0 E1
  refine own_cP X0 (X0.virtualBack hx (y := Mn9) (z := Mn9) hown (mvT hZ (g_ hw 125 rfl)) (mvT hZ (own_decl (g_ hw 126 rfl) (g_ hw 129 rfl))) (notFace_of_selects (args := #[]) (mvT hZ (g_ hw 128 rfl))) (mvT hZ (g_ hw 128 rfl)) (mvT hZ (g_ hw 126 rfl)) (by decide) (backOf (W := 0) (rm_inf l Z a0 hw [] z a1 a2 h0 n0 Z0 O SC hz F2 E2 G2) hZ (g_ hw 129 rfl) (g_ hw 56 rfl) (by decide) (by decide)) q101a q101c (g := (mkF m 2 #[.val (.ref a1), .val (.int (17 : Int32)), .val (.ref a2)] [(.ref a2), (.ref a1)])) rfl (by rw [hml]; rfl) (Steps.refl _) (argsL := [(.ref a2)]) (rest := []) (lenOf own_pd7 rfl) rfl (by show 2 * 0 + _ ≤ _; exact Nat.le_of_eq rfl) (dE 2 rfl) (fun _ _ => ⟨rfl, e0, (by decide : 0 + 0 ≤ _), (by decide : 0 + 0 ≤ _)⟩)) fun v101 T101 L101 X101 hQ101 => ?_
  obtain ⟨rfl, Nq101, e101⟩ := hQ101
  have N101 := Fr.app N0 Nq101
  show own_Go p e below Pst (T101.setTop (mkF m 5 #[.val (.ref a1), .val (.int (17 : Int32)), .val (.ref a2)] []))
  refine o_aloadN X101.here hx (dE 3 rfl) rfl rfl ?_
  refine o_aloadN X101.here hx (dE 4 rfl) rfl rfl ?_
  refine p_getF X101 hx hZ hown (host := "") (Or.inl (g_ hw 60 rfl)) Via.refl e101 F1 rfl (dE 5 rfl) fun T102 X102 e102 => ?_
  refine o_iloadN X102.here hx (dE 6 rfl) rfl ?_
  refine o_aloadN X102.here hx (dE 7 rfl) rfl rfl ?_
  refine p_getF X102 hx hZ hown (host := "") (Or.inl (g_ hw 62 rfl)) Via.refl e102 F2 rfl (dE 8 rfl) fun T103 X103 e103 => ?_
  obtain ⟨cq104, kq104, q104a, q104b, q104c⟩ := isOf hZ e103 E2
  refine own_cP X103 (X103.virtualBack hx (y := Mn2) (z := Mn2) hown (mvT hZ (g_ hw 131 rfl)) (mvT hZ (g_ hw 132 rfl)) (notFace_of_selects (args := #[]) (mvT hZ (g_ hw 134 rfl))) (mvT hZ (g_ hw 134 rfl)) (mvT hZ (g_ hw 133 rfl)) (by decide) (backOf (W := 0) (rm_gb0 l Z a0 hw [] z a2 t2 t k2 kb  h0 n0 Z0 O SC hz E2 G1 G2 B1 A1 gt ne) hZ (g_ hw 135 rfl) (g_ hw 7 rfl) (by decide) (by decide)) q104a q104c (g := (mkF m 15 #[.val (.ref a1), .val (.int (17 : Int32)), .val (.ref a2)] [(.int (0 : Int32)), (.int (17 : Int32)), (.ref t), (.ref a2)])) rfl (by rw [hml]; rfl) (Steps.refl _) (argsL := [(.ref t), (.int (17 : Int32)), (.int (0 : Int32))]) (rest := []) (lenOf own_pd8 rfl) rfl (by show 2 * 0 + _ ≤ _; exact Nat.le_of_eq rfl) (dE 9 rfl) (fun _ _ => ⟨rfl, e103, (by decide : 0 + 0 ≤ _), (by decide : 0 + 0 ≤ _)⟩)) fun v104 T104 L104 X104 hQ104 => ?_
  obtain ⟨rfl, Nq104, K104, V104⟩ := hQ104
  have N104 := Fr.app N101 Nq104
  show own_Go p e below Pst (T104.setTop (mkF m 18 #[.val (.ref a1), .val (.int (17 : Int32)), .val (.ref a2)] []))
  have c105 := (Keep.trans (Keep.refl h0 [t]) K104 (allS (Or.inl (List.mem_of_getElem? (i := 0) rfl)) all0))
  rw [hPst]
  exact own_retP X104 (v := none) (Q := Q_psa0 Z z a1 t a2 t2 kb k2 h0 n0) (fun _ => rfl) Bd.notSynchronized (fun fs hr => X104.returnOut hx Bd.returns (dE 10 rfl) hr) (by decide) (by decide) ⟨rfl, N104, c105, V104⟩
def Q_aa0 (Z : State) (z : Int32) (a1 t a2 t2 : Addr) (kb k2 : ClassId) (h0 : Heap) (n0 : Nat) (v : Option Value) (h : Heap) (L : List Loc) : Prop := v = some (.ref a1) ∧ Fr n0 L ∧ Keep h0 h [a1, t] ∧ Exa Z h a1 "java/lang/StringBuilder" ∧ Fld Z h a1 "java/lang/AbstractStringBuilder" "coder" "B" (.int (0 : Int32)) ∧ Fld Z h a1 "java/lang/AbstractStringBuilder" "count" "I" (.int (17 : Int32)) ∧ Fld Z h a1 "java/lang/AbstractStringBuilder" "value" "[B" (.ref t) ∧ Arv Z h t kb .byte (34 : Int32) own_n1 (.int 0)
theorem rm_aa0 (l : Launch) (Z : State) (a0 : Array Value) (hw : own_H a0 Z) (ws : List Jvm.Cond) (z : Int32) (a1 t a2 t2 : Addr) (kb k2 : ClassId) (h0 : Heap) (n0 : Nat) (Z0 : n0 ≤ h0.size) (O : Old Z n0 h0) (SC : Sta Z Z.heap "java/lang/String" "COMPACT_STRINGS" "Z" (.int z)) (hz : ¬ z = 0) (E1 : Exa Z h0 a1 "java/lang/StringBuilder") (F1 : Fld Z h0 a1 "java/lang/AbstractStringBuilder" "value" "[B" (.ref t)) (F2 : Fld Z h0 a1 "java/lang/AbstractStringBuilder" "coder" "B" (.int (0 : Int32))) (F3 : Fld Z h0 a1 "java/lang/AbstractStringBuilder" "count" "I" (.int (17 : Int32))) (A1 : Arv Z h0 t kb .byte (34 : Int32) own_n1 (.int 0)) (E2 : Exa Z h0 a2 "java/lang/String") (G1 : Fld Z h0 a2 "java/lang/String" "value" "[B" (.ref t2)) (G2 : Fld Z h0 a2 "java/lang/String" "coder" "B" (.int 0)) (B1 : Arv Z h0 t2 k2 .byte (0 : Int32) [] (.int 0)) (g1 : n0 ≤ a1) (gt : n0 ≤ t) (ne1 : a2 ≠ a1) (ne2 : t2 ≠ t) : own_MP l Mn7 jdk_68_method_22_code 3 (some (.object "java/lang/AbstractStringBuilder")) ws ({ frames := 4, cells := 0, slots := 0, locals := 70 } : Room) Z h0 #[(.ref a1), (.ref a2)] (fun _ _ _ _ _ => True) (Q_aa0 Z z a1 t a2 t2 kb k2 h0 n0) := by
  refine own_startP (plainFor_of_name own_pn_java_lang_AbstractStringBuilder) fun p e s m below meth c s₁ Bd hx hby hml hown0 X0 e0 hh0 hZ hK Pst hPst => ?_
  have dE := own_E hby own_D13
  have hown : s.vm.findClass "java/lang/AbstractStringBuilder" = some m.cls := hown0
  have hnm := (name_of_methodNamed Bd.named Bd.method).1
  have N0 := Fr.nil n0
  rw [own_ef_RR_3 m a1 a2]
  have ne3 : t ≠ a1 := Ne.symm (Exa.neArv E1 A1 (g_ hw 47 rfl))
  have ne4 : t2 ≠ a1 := Ne.symm (Exa.neArv E1 B1 (g_ hw 47 rfl))
  have ne5 : a2 ≠ t := Exa.neArv E2 A1 (g_ hw 6 rfl)
  refine o_aloadN X0.here hx (dE 0 rfl) rfl rfl ?_
  refine o_ifnonnullYes X0.here hx (pc0 := 1) (pc' := 9) rfl (dE 1 rfl) rfl (by decide) (by decide) ?_
  refine o_aloadN X0.here hx (dE 2 rfl) rfl rfl ?_
  obtain ⟨cq101, kq101, q101a, q101b, q101c⟩ := isOf hZ e0 E2
  refine own_cP X0 (X0.virtualBack hx (y := Mn8) (z := Mn8) hown (mvT hZ (g_ hw 77 rfl)) (mvT hZ (g_ hw 78 rfl)) (notFace_of_selects (args := #[]) (mvT hZ (g_ hw 80 rfl))) (mvT hZ (g_ hw 80 rfl)) (mvT hZ (g_ hw 79 rfl)) (by decide) (backOf (W := 0) (rm_len l Z a0 hw [] z a2 t2 k2 0 (0 : Int32) [] (.int 0) h0 n0 Z0 O SC hz E2 G2 G1 B1) hZ (g_ hw 81 rfl) (g_ hw 7 rfl) (by decide) (by decide)) q101a q101c (g := (mkF m 10 #[.val (.ref a1), .val (.ref a2), .unset] [(.ref a2)])) rfl (by rw [hml]; rfl) (Steps.refl _) (argsL := []) (rest := []) (lenOf own_pd9 rfl) rfl (by show 2 * 0 + _ ≤ _; exact Nat.le_of_eq rfl) (dE 3 rfl) (fun _ _ => ⟨rfl, e0, (by decide : 0 + 0 ≤ _), (by decide : 0 + 0 ≤ _)⟩)) fun v101 T101 L101 X101 hQ101 => ?_
  obtain ⟨rfl, Nq101, e101⟩ := hQ101
  have N101 := Fr.app N0 Nq101
  show own_Go p e below Pst (T101.setTop (mkF m 13 #[.val (.ref a1), .val (.ref a2), .unset] [(.int ((0 : Int32) >>> (nar .byte 0 &&& 31)))]))
  rw [show ((0 : Int32) >>> (nar .byte 0 &&& 31)) = (0 : Int32) from by decide]
  show own_Go p e below Pst (T101.setTop (mkF m 13 #[.val (.ref a1), .val (.ref a2), .unset] [(.int (0 : Int32))]))
  refine o_istoreN X101.here hx (dE 4 rfl) rfl (l' := #[.val (.ref a1), .val (.ref a2), .val (.int (0 : Int32))]) rfl ?_
  refine o_aloadN X101.here hx (dE 5 rfl) rfl rfl ?_
  refine o_aloadN X101.here hx (dE 6 rfl) rfl rfl ?_
  refine p_getF X101 hx hZ hown (host := "") (Or.inl (g_ hw 87 rfl)) Via.refl e101 F3 rfl (dE 7 rfl) fun T102 X102 e102 => ?_
  refine o_iloadN X102.here hx (dE 8 rfl) rfl ?_
  refine o_iadd X102.here hx (dE 9 rfl) rfl ?_
  rw [show ((17 : Int32) + (0 : Int32)) = (17 : Int32) from by decide]
  show own_Go p e below Pst (T102.setTop (mkF m 21 #[.val (.ref a1), .val (.ref a2), .val (.int (0 : Int32))] [(.int (17 : Int32)), (.ref a1)]))
  obtain ⟨cq103, kq103, q103a, q103b, q103c⟩ := isOf hZ e102 E1
  refine own_cP X102 (X102.virtualBack hx (y := Mn5) (z := Mn5) hown (mvT hZ (g_ hw 89 rfl)) (mvT hZ (own_decl (g_ hw 90 rfl) (g_ hw 93 rfl))) (notFace_of_selects (args := #[]) (mvT hZ (g_ hw 92 rfl))) (mvT hZ (g_ hw 92 rfl)) (mvT hZ (g_ hw 90 rfl)) (by decide) (backOf (W := 0) (rm_ecn l Z a0 hw [] a1 t kb own_n1 (17 : Int32) h0 n0 Z0 F1 F2 A1 (by decide)) hZ (g_ hw 93 rfl) (g_ hw 56 rfl) (by decide) (by decide)) q103a q103c (g := (mkF m 21 #[.val (.ref a1), .val (.ref a2), .val (.int (0 : Int32))] [(.int (17 : Int32)), (.ref a1)])) rfl (by rw [hml]; rfl) (Steps.refl _) (argsL := [(.int (17 : Int32))]) (rest := []) (lenOf own_pd2 rfl) rfl (by show 2 * 0 + _ ≤ _; exact Nat.le_of_eq rfl) (dE 10 rfl) (fun _ _ => ⟨rfl, e102, (by decide : 0 + 0 ≤ _), (by decide : 0 + 0 ≤ _)⟩)) fun v103 T103 L103 X103 hQ103 => ?_
  obtain ⟨rfl, Nq103, e103⟩ := hQ103
  have N103 := Fr.app N101 Nq103
  show own_Go p e below Pst (T103.setTop (mkF m 24 #[.val (.ref a1), .val (.ref a2), .val (.int (0 : Int32))] []))
  refine o_aloadN X103.here hx (dE 11 rfl) rfl rfl ?_
  refine o_aloadN X103.here hx (dE 12 rfl) rfl rfl ?_
  refine p_getF X103 hx hZ hown (host := "") (Or.inl (g_ hw 87 rfl)) Via.refl e103 F3 rfl (dE 13 rfl) fun T104 X104 e104 => ?_
  refine o_aloadN X104.here hx (dE 14 rfl) rfl rfl ?_
  obtain ⟨cq105, kq105, q105a, q105b, q105c⟩ := isOf hZ e104 E1
  refine own_cP X104 (X104.virtualBack hx (y := Mn3) (z := Mn3) hown (mvT hZ (g_ hw 120 rfl)) (mvT hZ (own_decl (g_ hw 121 rfl) (g_ hw 124 rfl))) (notFace_of_selects (args := #[]) (mvT hZ (g_ hw 123 rfl))) (mvT hZ (g_ hw 123 rfl)) (mvT hZ (g_ hw 121 rfl)) (by decide) (backOf (W := 0) (rm_psa0 l Z a0 hw [] z a1 t a2 t2 kb k2  h0 n0 Z0 O SC hz E1 F1 F2 A1 E2 G1 G2 B1 gt ne2) hZ (g_ hw 124 rfl) (g_ hw 56 rfl) (by decide) (by decide)) q105a q105c (g := (mkF m 30 #[.val (.ref a1), .val (.ref a2), .val (.int (0 : Int32))] [(.ref a2), (.int (17 : Int32)), (.ref a1)])) rfl (by rw [hml]; rfl) (Steps.refl _) (argsL := [(.int (17 : Int32)), (.ref a2)]) (rest := []) (lenOf own_pd10 rfl) rfl (by show 2 * 0 + _ ≤ _; exact Nat.le_of_eq rfl) (dE 15 rfl) (fun _ _ => ⟨rfl, e104, (by decide : 0 + 0 ≤ _), (by decide : 0 + 0 ≤ _)⟩)) fun v105 T105 L105 X105 hQ105 => ?_
  obtain ⟨rfl, Nq105, K105, V105⟩ := hQ105
  have N105 := Fr.app N103 Nq105
  show own_Go p e below Pst (T105.setTop (mkF m 33 #[.val (.ref a1), .val (.ref a2), .val (.int (0 : Int32))] []))
  refine o_aloadN X105.here hx (dE 16 rfl) rfl rfl ?_
  refine o_dup X105.here hx (dE 17 rfl) rfl rfl ?_
  have c106 := (F3.keep K105 (ninS ne3.symm nin0))
  refine p_getF X105 hx hZ hown (host := "") (Or.inl (g_ hw 87 rfl)) Via.refl rfl c106 rfl (dE 18 rfl) fun T107 X107 e107 => ?_
  refine o_iloadN X107.here hx (dE 19 rfl) rfl ?_
  refine o_iadd X107.here hx (dE 20 rfl) rfl ?_
  rw [show ((17 : Int32) + (0 : Int32)) = (17 : Int32) from by decide]
  show own_Go p e below Pst (T107.setTop (mkF m 40 #[.val (.ref a1), .val (.ref a2), .val (.int (0 : Int32))] [(.int (17 : Int32)), (.ref a1)]))
  have c108 := (E1.keep K105)
  refine p_putF X107 hx hZ hown (host := "") (Or.inl (g_ hw 87 rfl)) Via.refl e107 c106 c108 (Or.inl (g_ hw 88 rfl)) (g_ hw 47 rfl) (ty := .int) (by decide) rfl rfl rfl (dE 21 rfl) fun T109 h109 X109 e109 W109 => ?_
  have Fw109 := Fld.same W109 c106
  have N109 := Fr.snoc X109 N105 g1
  refine o_aloadN X109.here hx (dE 22 rfl) rfl rfl ?_
  have c110 := ((Keep.trans (Keep.refl h0 [a1, t]) K105 (allS (Or.inl (List.mem_of_getElem? (i := 1) rfl)) all0)).wr W109 (Or.inl (List.mem_of_getElem? (i := 0) rfl)))
  have c111 := (c108.wr W109)
  have c112 := ((F2.keep K105 (ninS ne3.symm nin0)).other W109 (Or.inr (slot_ne (Or.inl (g_ hw 63 rfl)) (Or.inl (g_ hw 88 rfl)) (by decide) (t := .byte) (t' := .int) (by decide) (by decide))))
  have c113 := ((F1.keep K105 (ninS ne3.symm nin0)).other W109 (Or.inr (slot_ne (Or.inl (g_ hw 61 rfl)) (Or.inl (g_ hw 88 rfl)) (by decide) (t := (.array .byte)) (t' := .int) (by decide) (by decide))))
  have c114 := (V105.other W109 ne3)
  rw [hPst]
  exact own_retP X109 (v := (some (.ref a1))) (Q := Q_aa0 Z z a1 t a2 t2 kb k2 h0 n0) (fun h => by rw [Bd.returns] at h; cases h) Bd.notSynchronized (fun fs hr => retOut X109 hx Bd.returns rfl (Or.inr (Or.inr (Or.inr (Or.inr ⟨rfl, rfl, rfl⟩)))) (dE 23 rfl) hr) (by decide) (by decide) (by rw [e109]; exact ⟨rfl, N109, c110, c111, c112, Fw109, c113, c114⟩)
def Q_sa0 (Z : State) (z : Int32) (a1 t a2 t2 : Addr) (kb k2 : ClassId) (h0 : Heap) (n0 : Nat) (v : Option Value) (h : Heap) (L : List Loc) : Prop := v = some (.ref a1) ∧ Fr n0 L ∧ Keep h0 h [a1, t] ∧ Exa Z h a1 "java/lang/StringBuilder" ∧ Fld Z h a1 "java/lang/AbstractStringBuilder" "coder" "B" (.int (0 : Int32)) ∧ Fld Z h a1 "java/lang/AbstractStringBuilder" "count" "I" (.int (17 : Int32)) ∧ Fld Z h a1 "java/lang/AbstractStringBuilder" "value" "[B" (.ref t) ∧ Arv Z h t kb .byte (34 : Int32) own_n1 (.int 0)
theorem rm_sa0 (l : Launch) (Z : State) (a0 : Array Value) (hw : own_H a0 Z) (ws : List Jvm.Cond) (z : Int32) (a1 t a2 t2 : Addr) (kb k2 : ClassId) (h0 : Heap) (n0 : Nat) (Z0 : n0 ≤ h0.size) (O : Old Z n0 h0) (SC : Sta Z Z.heap "java/lang/String" "COMPACT_STRINGS" "Z" (.int z)) (hz : ¬ z = 0) (E1 : Exa Z h0 a1 "java/lang/StringBuilder") (F1 : Fld Z h0 a1 "java/lang/AbstractStringBuilder" "value" "[B" (.ref t)) (F2 : Fld Z h0 a1 "java/lang/AbstractStringBuilder" "coder" "B" (.int (0 : Int32))) (F3 : Fld Z h0 a1 "java/lang/AbstractStringBuilder" "count" "I" (.int (17 : Int32))) (A1 : Arv Z h0 t kb .byte (34 : Int32) own_n1 (.int 0)) (E2 : Exa Z h0 a2 "java/lang/String") (G1 : Fld Z h0 a2 "java/lang/String" "value" "[B" (.ref t2)) (G2 : Fld Z h0 a2 "java/lang/String" "coder" "B" (.int 0)) (B1 : Arv Z h0 t2 k2 .byte (0 : Int32) [] (.int 0)) (g1 : n0 ≤ a1) (gt : n0 ≤ t) (ne1 : a2 ≠ a1) (ne2 : t2 ≠ t) : own_MP l Mn0 jdk_67_method_7_code 2 (some (.object "java/lang/StringBuilder")) ws ({ frames := 5, cells := 0, slots := 0, locals := 86 } : Room) Z h0 #[(.ref a1), (.ref a2)] (fun _ _ _ _ _ => True) (Q_sa0 Z z a1 t a2 t2 kb k2 h0 n0) := by
  refine own_startP (plainFor_of_name own_pn_java_lang_StringBuilder) fun p e s m below meth c s₁ Bd hx hby hml hown0 X0 e0 hh0 hZ hK Pst hPst => ?_
  have dE := own_E hby own_D12
  have hown : s.vm.findClass "java/lang/StringBuilder" = some m.cls := hown0
  have hnm := (name_of_methodNamed Bd.named Bd.method).1
  have N0 := Fr.nil n0
  rw [own_ef_RR_2 m a1 a2]
  have ne3 : t ≠ a1 := Ne.symm (Exa.neArv E1 A1 (g_ hw 47 rfl))
  have ne4 : t2 ≠ a1 := Ne.symm (Exa.neArv E1 B1 (g_ hw 47 rfl))
  have ne5 : a2 ≠ t := Exa.neArv E2 A1 (g_ hw 6 rfl)
  refine o_aloadN X0.here hx (dE 0 rfl) rfl rfl ?_
  refine o_aloadN X0.here hx (dE 1 rfl) rfl rfl ?_
  refine own_cP X0 (superBack X0 hx hZ (y := Mn7) hown (g_ hw 72 rfl) (own_sameM (g_ hw 92 rfl) (g_ hw 73 rfl) rfl (by decide)) (g_ hw 73 rfl) (g_ hw 74 rfl) (by decide) (backOf (W := 0) (rm_aa0 l Z a0 hw [] z a1 t a2 t2 kb k2  h0 n0 Z0 O SC hz E1 F1 F2 F3 A1 E2 G1 G2 B1 g1 gt ne1 ne2) hZ (g_ hw 76 rfl) (g_ hw 56 rfl) (by decide) (by decide)) e0 (Ins.self E1) (g := (mkF m 2 #[.val (.ref a1), .val (.ref a2)] [(.ref a2), (.ref a1)])) rfl (by rw [hml]; rfl) (g_ hw 76 rfl) (argsL := [(.ref a2)]) (rest := []) (lenOf own_pd11 rfl) rfl (by show 2 * 0 + _ ≤ _; exact Nat.le_of_eq rfl) (dE 2 rfl) (fun _ _ => ⟨rfl, e0, (by decide : 0 + 0 ≤ _), (by decide : 0 + 0 ≤ _)⟩)) fun v101 T101 L101 X101 hQ101 => ?_
  obtain ⟨rfl, Nq101, K101, A101, C101, D101, V101, B101⟩ := hQ101
  have N101 := Fr.app N0 Nq101
  show own_Go p e below Pst (T101.setTop (mkF m 5 #[.val (.ref a1), .val (.ref a2)] [(.ref a1)]))
  refine o_pop X101.here hx (dE 3 rfl) rfl rfl ?_
  refine o_aloadN X101.here hx (dE 4 rfl) rfl rfl ?_
  have c102 := (Keep.trans (Keep.refl h0 [a1, t]) K101 (allS (Or.inl (List.mem_of_getElem? (i := 0) rfl)) (allS (Or.inl (List.mem_of_getElem? (i := 1) rfl)) all0)))
  rw [hPst]
  exact own_retP X101 (v := (some (.ref a1))) (Q := Q_sa0 Z z a1 t a2 t2 kb k2 h0 n0) (fun h => by rw [Bd.returns] at h; cases h) Bd.notSynchronized (fun fs hr => retOut X101 hx Bd.returns rfl (Or.inr (Or.inr (Or.inr (Or.inr ⟨rfl, rfl, rfl⟩)))) (dE 5 rfl) hr) (by decide) (by decide) ⟨rfl, N101, c102, A101, C101, D101, V101, B101⟩
def Q_gb1 (Z : State) (z : Int32) (a2 t2 d : Addr) (k2 kb : ClassId) (b0 : Int32) (h0 : Heap) (n0 : Nat) (v : Option Value) (h : Heap) (L : List Loc) : Prop := v = none ∧ Fr n0 L ∧ Keep h0 h [d] ∧ Arv Z h d kb .byte (34 : Int32) (own_nw1 b0) (.int 0)
theorem rm_gb1 (l : Launch) (Z : State) (a0 : Array Value) (hw : own_H a0 Z) (ws : List Jvm.Cond) (z : Int32) (a2 t2 d : Addr) (k2 kb : ClassId) (b0 : Int32) (h0 : Heap) (n0 : Nat) (Z0 : n0 ≤ h0.size) (O : Old Z n0 h0) (SC : Sta Z Z.heap "java/lang/String" "COMPACT_STRINGS" "Z" (.int z)) (hz : ¬ z = 0) (E2 : Exa Z h0 a2 "java/lang/String") (G1 : Fld Z h0 a2 "java/lang/String" "value" "[B" (.ref t2)) (G2 : Fld Z h0 a2 "java/lang/String" "coder" "B" (.int 0)) (B1 : Arv Z h0 t2 k2 .byte (1 : Int32) [(.int b0)] (.int 0)) (A1 : Arv Z h0 d kb .byte (34 : Int32) own_n1 (.int 0)) (gd : n0 ≤ d) (ne : t2 ≠ d) : own_MP l Mn2 jdk_42_method_147_code 4 none ws ({ frames := 1, cells := 0, slots := 0, locals := 21 } : Room) Z h0 #[(.ref a2), (.ref d), (.int (17 : Int32)), (.int (0 : Int32))] (fun _ _ _ _ _ => True) (Q_gb1 Z z a2 t2 d k2 kb b0 h0 n0) := by
  refine own_startP (plainFor_of_name own_pn_java_lang_String) fun p e s m below meth c s₁ Bd hx hby hml hown0 X0 e0 hh0 hZ hK Pst hPst => ?_
  have dE := own_E hby own_D24
  have hown : s.vm.findClass "java/lang/String" = some m.cls := hown0
  have hnm := (name_of_methodNamed Bd.named Bd.method).1
  have N0 := Fr.nil n0
  rw [own_ef_RRII_4 m a2 d (17 : Int32) (0 : Int32)]
  refine o_aloadN X0.here hx (dE 0 rfl) rfl rfl ?_
  obtain ⟨cq101, kq101, q101a, q101b, q101c⟩ := isOf hZ e0 E2
  refine own_cP X0 (X0.virtualBack hx (y := Mn1) (z := Mn1) hown (mvT hZ (g_ hw 82 rfl)) (mvT hZ (g_ hw 83 rfl)) (notFace_of_selects (args := #[]) (mvT hZ (g_ hw 85 rfl))) (mvT hZ (g_ hw 85 rfl)) (mvT hZ (g_ hw 84 rfl)) (by decide) (backOf (W := 0) (rm_cod l Z a0 hw [] z a2 0 h0 n0 Z0 O SC hz G2) hZ (g_ hw 86 rfl) (g_ hw 7 rfl) (by decide) (by decide)) q101a q101c (g := (mkF m 1 #[.val (.ref a2), .val (.ref d), .val (.int (17 : Int32)), .val (.int (0 : Int32))] [(.ref a2)])) rfl (by rw [hml]; rfl) (Steps.refl _) (argsL := []) (rest := []) (lenOf own_pd1 rfl) rfl (by show 2 * 0 + _ ≤ _; exact Nat.le_of_eq rfl) (dE 1 rfl) (fun _ _ => ⟨rfl, e0, (by decide : 0 + 0 ≤ _), (by decide : 0 + 0 ≤ _)⟩)) fun v101 T101 L101 X101 hQ101 => ?_
  obtain ⟨rfl, Nq101, e101⟩ := hQ101
  have N101 := Fr.app N0 Nq101
  show own_Go p e below Pst (T101.setTop (mkF m 4 #[.val (.ref a2), .val (.ref d), .val (.int (17 : Int32)), .val (.int (0 : Int32))] [(.int (nar .byte 0))]))
  show own_Go p e below Pst (T101.setTop (mkF m 4 #[.val (.ref a2), .val (.ref d), .val (.int (17 : Int32)), .val (.int (0 : Int32))] [(.int (0 : Int32))]))
  refine o_iloadN X101.here hx (dE 2 rfl) rfl ?_
  refine o_icmpNo X101.here hx (dE 3 rfl) rfl (teq rfl).2 ?_
  refine o_aloadN X101.here hx (dE 4 rfl) rfl rfl ?_
  refine p_getF X101 hx hZ hown (host := "") (Or.inl (g_ hw 32 rfl)) Via.refl e101 G1 rfl (dE 5 rfl) fun T102 X102 e102 => ?_
  refine o_iconst X102.here hx (dE 6 rfl) (z := (0 : Int32)) rfl ?_
  refine o_aloadN X102.here hx (dE 7 rfl) rfl rfl ?_
  refine o_iloadN X102.here hx (dE 8 rfl) rfl ?_
  refine o_iloadN X102.here hx (dE 9 rfl) rfl ?_
  refine o_ishl X102.here hx (dE 10 rfl) rfl ?_
  rw [show ((17 : Int32) <<< ((0 : Int32) &&& 31)) = (17 : Int32) from by decide]
  show own_Go p e below Pst (T102.setTop (mkF m 17 #[.val (.ref a2), .val (.ref d), .val (.int (17 : Int32)), .val (.int (0 : Int32))] [(.int (17 : Int32)), (.ref d), (.int (0 : Int32)), (.ref t2)]))
  refine o_aloadN X102.here hx (dE 11 rfl) rfl rfl ?_
  refine p_getF X102 hx hZ hown (host := "") (Or.inl (g_ hw 32 rfl)) Via.refl e102 G1 rfl (dE 12 rfl) fun T103 X103 e103 => ?_
  obtain ⟨cl104, Ar104, -, S104, P104, -, -⟩ := id B1
  refine own_Go.of (S' := T103.setTop (mkF m 22 #[.val (.ref a2), .val (.ref d), .val (.int (17 : Int32)), .val (.int (0 : Int32))] [(.int (1 : Int32)), (.int (17 : Int32)), (.ref d), (.int (0 : Int32)), (.ref t2)])) (fun tgt kst => X103.arraylength hx (by rw [e103]; exact Ar104.1) (State.isArrayOf_alike hZ.alike Ar104.2.1) (g := (mkF m 21 #[.val (.ref a2), .val (.ref d), .val (.int (17 : Int32)), .val (.int (0 : Int32))] [(.ref t2), (.int (17 : Int32)), (.ref d), (.int (0 : Int32)), (.ref t2)])) rfl rfl (dE 13 rfl) _ (by rw [len_of S104 P104]; exact kst)) ?_
  obtain ⟨T105, h105, L105, X105, e105, N105, K105, V105r, st105⟩ := cpA X103 hx hZ hown (g_ hw 136 rfl) (g_ hw 119 rfl) (g_ hw 117 rfl) (g_ hw 118 rfl) e103 B1 A1 (Or.inl ⟨rfl, rfl⟩) (by decide) (by decide) (by decide) (by decide) (by decide) (us := [(.int b0)]) rfl (by decide) N101 gd (g := (mkF m 22 #[.val (.ref a2), .val (.ref d), .val (.int (17 : Int32)), .val (.int (0 : Int32))] [(.int (1 : Int32)), (.int (17 : Int32)), (.ref d), (.int (0 : Int32)), (.ref t2)])) rfl (by rw [hml]; rfl) rfl (dE 14 rfl) (by decide) (W := 0) (by show 2 * 0 + _ ≤ _; exact Nat.le_of_eq rfl) (by decide)
  have V105 : Arv Z h105 d kb .byte (34 : Int32) (own_nw1 b0) (.int 0) := V105r
  refine own_Go.of st105 ?_
  show own_Go p e below Pst (T105.setTop (mkF m 25 #[.val (.ref a2), .val (.ref d), .val (.int (17 : Int32)), .val (.int (0 : Int32))] []))
  refine o_goto X105.here hx (pc0 := 25) (pc' := 43) rfl (dE 15 rfl) (by decide) (by decide) ?_
  have c106 := (Keep.trans (Keep.refl h0 [d]) K105 (allS (Or.inl (List.mem_of_getElem? (i := 0) rfl)) all0))
  rw [hPst]
  exact own_retP X105 (v := none) (Q := Q_gb1 Z z a2 t2 d k2 kb b0 h0 n0) (fun _ => rfl) Bd.notSynchronized (fun fs hr => X105.returnOut hx Bd.returns (dE 16 rfl) hr) (by decide) (by decide) (by rw [e105]; exact ⟨rfl, N105, c106, V105⟩)
def Q_psa1 (Z : State) (z : Int32) (a1 t a2 t2 : Addr) (kb k2 : ClassId) (b0 : Int32) (h0 : Heap) (n0 : Nat) (v : Option Value) (h : Heap) (L : List Loc) : Prop := v = none ∧ Fr n0 L ∧ Keep h0 h [t] ∧ Arv Z h t kb .byte (34 : Int32) (own_nw1 b0) (.int 0)
theorem rm_psa1 (l : Launch) (Z : State) (a0 : Array Value) (hw : own_H a0 Z) (ws : List Jvm.Cond) (z : Int32) (a1 t a2 t2 : Addr) (kb k2 : ClassId) (b0 : Int32) (h0 : Heap) (n0 : Nat) (Z0 : n0 ≤ h0.size) (O : Old Z n0 h0) (SC : Sta Z Z.heap "java/lang/String" "COMPACT_STRINGS" "Z" (.int z)) (hz : ¬ z = 0) (E1 : Exa Z h0 a1 "java/lang/StringBuilder") (F1 : Fld Z h0 a1 "java/lang/AbstractStringBuilder" "value" "[B" (.ref t)) (F2 : Fld Z h0 a1 "java/lang/AbstractStringBuilder" "coder" "B" (.int (0 : Int32))) (A1 : Arv Z h0 t kb .byte (34 : Int32) own_n1 (.int 0)) (E2 : Exa Z h0 a2 "java/lang/String") (G1 : Fld Z h0 a2 "java/lang/String" "value" "[B" (.ref t2)) (G2 : Fld Z h0 a2 "java/lang/String" "coder" "B" (.int 0)) (B1 : Arv Z h0 t2 k2 .byte (1 : Int32) [(.int b0)] (.int 0)) (gt : n0 ≤ t) (ne : t2 ≠ t) : own_MP l Mn3 jdk_68_method_73_code 3 none ws ({ frames := 2, cells := 0, slots := 0, locals := 40 } : Room) Z h0 #[(.ref a1), (.int (17 : Int32)), (.ref a2)] (fun _ _ _ _ _ => True) (Q_psa1 Z z a1 t a2 t2 kb k2 b0 h0 n0) := by
  refine own_startP (plainFor_of_name own_pn_java_lang_AbstractStringBuilder) fun p e s m below meth c s₁ Bd hx hby hml hown0 X0 e0 hh0 hZ hK Pst hPst => ?_
  have dE := own_E hby own_D22
  have hown : s.vm.findClass "java/lang/AbstractStringBuilder" = some m.cls := hown0
  have hnm := (name_of_methodNamed Bd.named Bd.method).1
  have N0 := Fr.nil n0
  rw [own_ef_RIR_3 m a1 (17 : Int32) a2]
  refine o_aloadN X0.here hx (dE 0 rfl) rfl rfl ?_
  refine o_aloadN X0.here hx (dE 1 rfl) rfl rfl ?_
  obtain ⟨cq101, kq101, q101a, q101b, q101c⟩ := isOf hZ e0 E1
  refine own_cP X0 (X0.virtualBack hx (y := Mn9) (z := Mn9) hown (mvT hZ (g_ hw 125 rfl)) (mvT hZ (own_decl (g_ hw 126 rfl) (g_ hw 129 rfl))) (notFace_of_selects (args := #[]) (mvT hZ (g_ hw 128 rfl))) (mvT hZ (g_ hw 128 rfl)) (mvT hZ (g_ hw 126 rfl)) (by decide) (backOf (W := 0) (rm_inf l Z a0 hw [] z a1 a2 h0 n0 Z0 O SC hz F2 E2 G2) hZ (g_ hw 129 rfl) (g_ hw 56 rfl) (by decide) (by decide)) q101a q101c (g := (mkF m 2 #[.val (.ref a1), .val (.int (17 : Int32)), .val (.ref a2)] [(.ref a2), (.ref a1)])) rfl (by rw [hml]; rfl) (Steps.refl _) (argsL := [(.ref a2)]) (rest := []) (lenOf own_pd7 rfl) rfl (by show 2 * 0 + _ ≤ _; exact Nat.le_of_eq rfl) (dE 2 rfl) (fun _ _ => ⟨rfl, e0, (by decide : 0 + 0 ≤ _), (by decide : 0 + 0 ≤ _)⟩)) fun v101 T101 L101 X101 hQ101 => ?_
  obtain ⟨rfl, Nq101, e101⟩ := hQ101
  have N101 := Fr.app N0 Nq101
  show own_Go p e below Pst (T101.setTop (mkF m 5 #[.val (.ref a1), .val (.int (17 : Int32)), .val (.ref a2)] []))
  refine o_aloadN X101.here hx (dE 3 rfl) rfl rfl ?_
  refine o_aloadN X101.here hx (dE 4 rfl) rfl rfl ?_
  refine p_getF X101 hx hZ hown (host := "") (Or.inl (g_ hw 60 rfl)) Via.refl e101 F1 rfl (dE 5 rfl) fun T102 X102 e102 => ?_
  refine o_iloadN X102.here hx (dE 6 rfl) rfl ?_
  refine o_aloadN X102.here hx (dE 7 rfl) rfl rfl ?_
  refine p_getF X102 hx hZ hown (host := "") (Or.inl (g_ hw 62 rfl)) Via.refl e102 F2 rfl (dE 8 rfl) fun T103 X103 e103 => ?_
  obtain ⟨cq104, kq104, q104a, q104b, q104c⟩ := isOf hZ e103 E2
  refine own_cP X103 (X103.virtualBack hx (y := Mn2) (z := Mn2) hown (mvT hZ (g_ hw 131 rfl)) (mvT hZ (g_ hw 132 rfl)) (notFace_of_selects (args := #[]) (mvT hZ (g_ hw 134 rfl))) (mvT hZ (g_ hw 134 rfl)) (mvT hZ (g_ hw 133 rfl)) (by decide) (backOf (W := 0) (rm_gb1 l Z a0 hw [] z a2 t2 t k2 kb b0 h0 n0 Z0 O SC hz E2 G1 G2 B1 A1 gt ne) hZ (g_ hw 135 rfl) (g_ hw 7 rfl) (by decide) (by decide)) q104a q104c (g := (mkF m 15 #[.val (.ref a1), .val (.int (17 : Int32)), .val (.ref a2)] [(.int (0 : Int32)), (.int (17 : Int32)), (.ref t), (.ref a2)])) rfl (by rw [hml]; rfl) (Steps.refl _) (argsL := [(.ref t), (.int (17 : Int32)), (.int (0 : Int32))]) (rest := []) (lenOf own_pd8 rfl) rfl (by show 2 * 0 + _ ≤ _; exact Nat.le_of_eq rfl) (dE 9 rfl) (fun _ _ => ⟨rfl, e103, (by decide : 0 + 0 ≤ _), (by decide : 0 + 0 ≤ _)⟩)) fun v104 T104 L104 X104 hQ104 => ?_
  obtain ⟨rfl, Nq104, K104, V104⟩ := hQ104
  have N104 := Fr.app N101 Nq104
  show own_Go p e below Pst (T104.setTop (mkF m 18 #[.val (.ref a1), .val (.int (17 : Int32)), .val (.ref a2)] []))
  have c105 := (Keep.trans (Keep.refl h0 [t]) K104 (allS (Or.inl (List.mem_of_getElem? (i := 0) rfl)) all0))
  rw [hPst]
  exact own_retP X104 (v := none) (Q := Q_psa1 Z z a1 t a2 t2 kb k2 b0 h0 n0) (fun _ => rfl) Bd.notSynchronized (fun fs hr => X104.returnOut hx Bd.returns (dE 10 rfl) hr) (by decide) (by decide) ⟨rfl, N104, c105, V104⟩
def Q_aa1 (Z : State) (z : Int32) (a1 t a2 t2 : Addr) (kb k2 : ClassId) (b0 : Int32) (h0 : Heap) (n0 : Nat) (v : Option Value) (h : Heap) (L : List Loc) : Prop := v = some (.ref a1) ∧ Fr n0 L ∧ Keep h0 h [a1, t] ∧ Exa Z h a1 "java/lang/StringBuilder" ∧ Fld Z h a1 "java/lang/AbstractStringBuilder" "coder" "B" (.int (0 : Int32)) ∧ Fld Z h a1 "java/lang/AbstractStringBuilder" "count" "I" (.int (18 : Int32)) ∧ Fld Z h a1 "java/lang/AbstractStringBuilder" "value" "[B" (.ref t) ∧ Arv Z h t kb .byte (34 : Int32) (own_nw1 b0) (.int 0)
theorem rm_aa1 (l : Launch) (Z : State) (a0 : Array Value) (hw : own_H a0 Z) (ws : List Jvm.Cond) (z : Int32) (a1 t a2 t2 : Addr) (kb k2 : ClassId) (b0 : Int32) (h0 : Heap) (n0 : Nat) (Z0 : n0 ≤ h0.size) (O : Old Z n0 h0) (SC : Sta Z Z.heap "java/lang/String" "COMPACT_STRINGS" "Z" (.int z)) (hz : ¬ z = 0) (E1 : Exa Z h0 a1 "java/lang/StringBuilder") (F1 : Fld Z h0 a1 "java/lang/AbstractStringBuilder" "value" "[B" (.ref t)) (F2 : Fld Z h0 a1 "java/lang/AbstractStringBuilder" "coder" "B" (.int (0 : Int32))) (F3 : Fld Z h0 a1 "java/lang/AbstractStringBuilder" "count" "I" (.int (17 : Int32))) (A1 : Arv Z h0 t kb .byte (34 : Int32) own_n1 (.int 0)) (E2 : Exa Z h0 a2 "java/lang/String") (G1 : Fld Z h0 a2 "java/lang/String" "value" "[B" (.ref t2)) (G2 : Fld Z h0 a2 "java/lang/String" "coder" "B" (.int 0)) (B1 : Arv Z h0 t2 k2 .byte (1 : Int32) [(.int b0)] (.int 0)) (g1 : n0 ≤ a1) (gt : n0 ≤ t) (ne1 : a2 ≠ a1) (ne2 : t2 ≠ t) : own_MP l Mn7 jdk_68_method_22_code 3 (some (.object "java/lang/AbstractStringBuilder")) ws ({ frames := 4, cells := 0, slots := 0, locals := 70 } : Room) Z h0 #[(.ref a1), (.ref a2)] (fun _ _ _ _ _ => True) (Q_aa1 Z z a1 t a2 t2 kb k2 b0 h0 n0) := by
  refine own_startP (plainFor_of_name own_pn_java_lang_AbstractStringBuilder) fun p e s m below meth c s₁ Bd hx hby hml hown0 X0 e0 hh0 hZ hK Pst hPst => ?_
  have dE := own_E hby own_D13
  have hown : s.vm.findClass "java/lang/AbstractStringBuilder" = some m.cls := hown0
  have hnm := (name_of_methodNamed Bd.named Bd.method).1
  have N0 := Fr.nil n0
  rw [own_ef_RR_3 m a1 a2]
  have ne3 : t ≠ a1 := Ne.symm (Exa.neArv E1 A1 (g_ hw 47 rfl))
  have ne4 : t2 ≠ a1 := Ne.symm (Exa.neArv E1 B1 (g_ hw 47 rfl))
  have ne5 : a2 ≠ t := Exa.neArv E2 A1 (g_ hw 6 rfl)
  refine o_aloadN X0.here hx (dE 0 rfl) rfl rfl ?_
  refine o_ifnonnullYes X0.here hx (pc0 := 1) (pc' := 9) rfl (dE 1 rfl) rfl (by decide) (by decide) ?_
  refine o_aloadN X0.here hx (dE 2 rfl) rfl rfl ?_
  obtain ⟨cq101, kq101, q101a, q101b, q101c⟩ := isOf hZ e0 E2
  refine own_cP X0 (X0.virtualBack hx (y := Mn8) (z := Mn8) hown (mvT hZ (g_ hw 77 rfl)) (mvT hZ (g_ hw 78 rfl)) (notFace_of_selects (args := #[]) (mvT hZ (g_ hw 80 rfl))) (mvT hZ (g_ hw 80 rfl)) (mvT hZ (g_ hw 79 rfl)) (by decide) (backOf (W := 0) (rm_len l Z a0 hw [] z a2 t2 k2 0 (1 : Int32) [(.int b0)] (.int 0) h0 n0 Z0 O SC hz E2 G2 G1 B1) hZ (g_ hw 81 rfl) (g_ hw 7 rfl) (by decide) (by decide)) q101a q101c (g := (mkF m 10 #[.val (.ref a1), .val (.ref a2), .unset] [(.ref a2)])) rfl (by rw [hml]; rfl) (Steps.refl _) (argsL := []) (rest := []) (lenOf own_pd9 rfl) rfl (by show 2 * 0 + _ ≤ _; exact Nat.le_of_eq rfl) (dE 3 rfl) (fun _ _ => ⟨rfl, e0, (by decide : 0 + 0 ≤ _), (by decide : 0 + 0 ≤ _)⟩)) fun v101 T101 L101 X101 hQ101 => ?_
  obtain ⟨rfl, Nq101, e101⟩ := hQ101
  have N101 := Fr.app N0 Nq101
  show own_Go p e below Pst (T101.setTop (mkF m 13 #[.val (.ref a1), .val (.ref a2), .unset] [(.int ((1 : Int32) >>> (nar .byte 0 &&& 31)))]))
  rw [show ((1 : Int32) >>> (nar .byte 0 &&& 31)) = (1 : Int32) from by decide]
  show own_Go p e below Pst (T101.setTop (mkF m 13 #[.val (.ref a1), .val (.ref a2), .unset] [(.int (1 : Int32))]))
  refine o_istoreN X101.here hx (dE 4 rfl) rfl (l' := #[.val (.ref a1), .val (.ref a2), .val (.int (1 : Int32))]) rfl ?_
  refine o_aloadN X101.here hx (dE 5 rfl) rfl rfl ?_
  refine o_aloadN X101.here hx (dE 6 rfl) rfl rfl ?_
  refine p_getF X101 hx hZ hown (host := "") (Or.inl (g_ hw 87 rfl)) Via.refl e101 F3 rfl (dE 7 rfl) fun T102 X102 e102 => ?_
  refine o_iloadN X102.here hx (dE 8 rfl) rfl ?_
  refine o_iadd X102.here hx (dE 9 rfl) rfl ?_
  rw [show ((17 : Int32) + (1 : Int32)) = (18 : Int32) from by decide]
  show own_Go p e below Pst (T102.setTop (mkF m 21 #[.val (.ref a1), .val (.ref a2), .val (.int (1 : Int32))] [(.int (18 : Int32)), (.ref a1)]))
  obtain ⟨cq103, kq103, q103a, q103b, q103c⟩ := isOf hZ e102 E1
  refine own_cP X102 (X102.virtualBack hx (y := Mn5) (z := Mn5) hown (mvT hZ (g_ hw 89 rfl)) (mvT hZ (own_decl (g_ hw 90 rfl) (g_ hw 93 rfl))) (notFace_of_selects (args := #[]) (mvT hZ (g_ hw 92 rfl))) (mvT hZ (g_ hw 92 rfl)) (mvT hZ (g_ hw 90 rfl)) (by decide) (backOf (W := 0) (rm_ecn l Z a0 hw [] a1 t kb own_n1 (18 : Int32) h0 n0 Z0 F1 F2 A1 (by decide)) hZ (g_ hw 93 rfl) (g_ hw 56 rfl) (by decide) (by decide)) q103a q103c (g := (mkF m 21 #[.val (.ref a1), .val (.ref a2), .val (.int (1 : Int32))] [(.int (18 : Int32)), (.ref a1)])) rfl (by rw [hml]; rfl) (Steps.refl _) (argsL := [(.int (18 : Int32))]) (rest := []) (lenOf own_pd2 rfl) rfl (by show 2 * 0 + _ ≤ _; exact Nat.le_of_eq rfl) (dE 10 rfl) (fun _ _ => ⟨rfl, e102, (by decide : 0 + 0 ≤ _), (by decide : 0 + 0 ≤ _)⟩)) fun v103 T103 L103 X103 hQ103 => ?_
  obtain ⟨rfl, Nq103, e103⟩ := hQ103
  have N103 := Fr.app N101 Nq103
  show own_Go p e below Pst (T103.setTop (mkF m 24 #[.val (.ref a1), .val (.ref a2), .val (.int (1 : Int32))] []))
  refine o_aloadN X103.here hx (dE 11 rfl) rfl rfl ?_
  refine o_aloadN X103.here hx (dE 12 rfl) rfl rfl ?_
  refine p_getF X103 hx hZ hown (host := "") (Or.inl (g_ hw 87 rfl)) Via.refl e103 F3 rfl (dE 13 rfl) fun T104 X104 e104 => ?_
  refine o_aloadN X104.here hx (dE 14 rfl) rfl rfl ?_
  obtain ⟨cq105, kq105, q105a, q105b, q105c⟩ := isOf hZ e104 E1
  refine own_cP X104 (X104.virtualBack hx (y := Mn3) (z := Mn3) hown (mvT hZ (g_ hw 120 rfl)) (mvT hZ (own_decl (g_ hw 121 rfl) (g_ hw 124 rfl))) (notFace_of_selects (args := #[]) (mvT hZ (g_ hw 123 rfl))) (mvT hZ (g_ hw 123 rfl)) (mvT hZ (g_ hw 121 rfl)) (by decide) (backOf (W := 0) (rm_psa1 l Z a0 hw [] z a1 t a2 t2 kb k2 b0 h0 n0 Z0 O SC hz E1 F1 F2 A1 E2 G1 G2 B1 gt ne2) hZ (g_ hw 124 rfl) (g_ hw 56 rfl) (by decide) (by decide)) q105a q105c (g := (mkF m 30 #[.val (.ref a1), .val (.ref a2), .val (.int (1 : Int32))] [(.ref a2), (.int (17 : Int32)), (.ref a1)])) rfl (by rw [hml]; rfl) (Steps.refl _) (argsL := [(.int (17 : Int32)), (.ref a2)]) (rest := []) (lenOf own_pd10 rfl) rfl (by show 2 * 0 + _ ≤ _; exact Nat.le_of_eq rfl) (dE 15 rfl) (fun _ _ => ⟨rfl, e104, (by decide : 0 + 0 ≤ _), (by decide : 0 + 0 ≤ _)⟩)) fun v105 T105 L105 X105 hQ105 => ?_
  obtain ⟨rfl, Nq105, K105, V105⟩ := hQ105
  have N105 := Fr.app N103 Nq105
  show own_Go p e below Pst (T105.setTop (mkF m 33 #[.val (.ref a1), .val (.ref a2), .val (.int (1 : Int32))] []))
  refine o_aloadN X105.here hx (dE 16 rfl) rfl rfl ?_
  refine o_dup X105.here hx (dE 17 rfl) rfl rfl ?_
  have c106 := (F3.keep K105 (ninS ne3.symm nin0))
  refine p_getF X105 hx hZ hown (host := "") (Or.inl (g_ hw 87 rfl)) Via.refl rfl c106 rfl (dE 18 rfl) fun T107 X107 e107 => ?_
  refine o_iloadN X107.here hx (dE 19 rfl) rfl ?_
  refine o_iadd X107.here hx (dE 20 rfl) rfl ?_
  rw [show ((17 : Int32) + (1 : Int32)) = (18 : Int32) from by decide]
  show own_Go p e below Pst (T107.setTop (mkF m 40 #[.val (.ref a1), .val (.ref a2), .val (.int (1 : Int32))] [(.int (18 : Int32)), (.ref a1)]))
  have c108 := (E1.keep K105)
  refine p_putF X107 hx hZ hown (host := "") (Or.inl (g_ hw 87 rfl)) Via.refl e107 c106 c108 (Or.inl (g_ hw 88 rfl)) (g_ hw 47 rfl) (ty := .int) (by decide) rfl rfl rfl (dE 21 rfl) fun T109 h109 X109 e109 W109 => ?_
  have Fw109 := Fld.same W109 c106
  have N109 := Fr.snoc X109 N105 g1
  refine o_aloadN X109.here hx (dE 22 rfl) rfl rfl ?_
  have c110 := ((Keep.trans (Keep.refl h0 [a1, t]) K105 (allS (Or.inl (List.mem_of_getElem? (i := 1) rfl)) all0)).wr W109 (Or.inl (List.mem_of_getElem? (i := 0) rfl)))
  have c111 := (c108.wr W109)
  have c112 := ((F2.keep K105 (ninS ne3.symm nin0)).other W109 (Or.inr (slot_ne (Or.inl (g_ hw 63 rfl)) (Or.inl (g_ hw 88 rfl)) (by decide) (t := .byte) (t' := .int) (by decide) (by decide))))
  have c113 := ((F1.keep K105 (ninS ne3.symm nin0)).other W109 (Or.inr (slot_ne (Or.inl (g_ hw 61 rfl)) (Or.inl (g_ hw 88 rfl)) (by decide) (t := (.array .byte)) (t' := .int) (by decide) (by decide))))
  have c114 := (V105.other W109 ne3)
  rw [hPst]
  exact own_retP X109 (v := (some (.ref a1))) (Q := Q_aa1 Z z a1 t a2 t2 kb k2 b0 h0 n0) (fun h => by rw [Bd.returns] at h; cases h) Bd.notSynchronized (fun fs hr => retOut X109 hx Bd.returns rfl (Or.inr (Or.inr (Or.inr (Or.inr ⟨rfl, rfl, rfl⟩)))) (dE 23 rfl) hr) (by decide) (by decide) (by rw [e109]; exact ⟨rfl, N109, c110, c111, c112, Fw109, c113, c114⟩)
def Q_sa1 (Z : State) (z : Int32) (a1 t a2 t2 : Addr) (kb k2 : ClassId) (b0 : Int32) (h0 : Heap) (n0 : Nat) (v : Option Value) (h : Heap) (L : List Loc) : Prop := v = some (.ref a1) ∧ Fr n0 L ∧ Keep h0 h [a1, t] ∧ Exa Z h a1 "java/lang/StringBuilder" ∧ Fld Z h a1 "java/lang/AbstractStringBuilder" "coder" "B" (.int (0 : Int32)) ∧ Fld Z h a1 "java/lang/AbstractStringBuilder" "count" "I" (.int (18 : Int32)) ∧ Fld Z h a1 "java/lang/AbstractStringBuilder" "value" "[B" (.ref t) ∧ Arv Z h t kb .byte (34 : Int32) (own_nw1 b0) (.int 0)
theorem rm_sa1 (l : Launch) (Z : State) (a0 : Array Value) (hw : own_H a0 Z) (ws : List Jvm.Cond) (z : Int32) (a1 t a2 t2 : Addr) (kb k2 : ClassId) (b0 : Int32) (h0 : Heap) (n0 : Nat) (Z0 : n0 ≤ h0.size) (O : Old Z n0 h0) (SC : Sta Z Z.heap "java/lang/String" "COMPACT_STRINGS" "Z" (.int z)) (hz : ¬ z = 0) (E1 : Exa Z h0 a1 "java/lang/StringBuilder") (F1 : Fld Z h0 a1 "java/lang/AbstractStringBuilder" "value" "[B" (.ref t)) (F2 : Fld Z h0 a1 "java/lang/AbstractStringBuilder" "coder" "B" (.int (0 : Int32))) (F3 : Fld Z h0 a1 "java/lang/AbstractStringBuilder" "count" "I" (.int (17 : Int32))) (A1 : Arv Z h0 t kb .byte (34 : Int32) own_n1 (.int 0)) (E2 : Exa Z h0 a2 "java/lang/String") (G1 : Fld Z h0 a2 "java/lang/String" "value" "[B" (.ref t2)) (G2 : Fld Z h0 a2 "java/lang/String" "coder" "B" (.int 0)) (B1 : Arv Z h0 t2 k2 .byte (1 : Int32) [(.int b0)] (.int 0)) (g1 : n0 ≤ a1) (gt : n0 ≤ t) (ne1 : a2 ≠ a1) (ne2 : t2 ≠ t) : own_MP l Mn0 jdk_67_method_7_code 2 (some (.object "java/lang/StringBuilder")) ws ({ frames := 5, cells := 0, slots := 0, locals := 86 } : Room) Z h0 #[(.ref a1), (.ref a2)] (fun _ _ _ _ _ => True) (Q_sa1 Z z a1 t a2 t2 kb k2 b0 h0 n0) := by
  refine own_startP (plainFor_of_name own_pn_java_lang_StringBuilder) fun p e s m below meth c s₁ Bd hx hby hml hown0 X0 e0 hh0 hZ hK Pst hPst => ?_
  have dE := own_E hby own_D12
  have hown : s.vm.findClass "java/lang/StringBuilder" = some m.cls := hown0
  have hnm := (name_of_methodNamed Bd.named Bd.method).1
  have N0 := Fr.nil n0
  rw [own_ef_RR_2 m a1 a2]
  have ne3 : t ≠ a1 := Ne.symm (Exa.neArv E1 A1 (g_ hw 47 rfl))
  have ne4 : t2 ≠ a1 := Ne.symm (Exa.neArv E1 B1 (g_ hw 47 rfl))
  have ne5 : a2 ≠ t := Exa.neArv E2 A1 (g_ hw 6 rfl)
  refine o_aloadN X0.here hx (dE 0 rfl) rfl rfl ?_
  refine o_aloadN X0.here hx (dE 1 rfl) rfl rfl ?_
  refine own_cP X0 (superBack X0 hx hZ (y := Mn7) hown (g_ hw 72 rfl) (own_sameM (g_ hw 92 rfl) (g_ hw 73 rfl) rfl (by decide)) (g_ hw 73 rfl) (g_ hw 74 rfl) (by decide) (backOf (W := 0) (rm_aa1 l Z a0 hw [] z a1 t a2 t2 kb k2 b0 h0 n0 Z0 O SC hz E1 F1 F2 F3 A1 E2 G1 G2 B1 g1 gt ne1 ne2) hZ (g_ hw 76 rfl) (g_ hw 56 rfl) (by decide) (by decide)) e0 (Ins.self E1) (g := (mkF m 2 #[.val (.ref a1), .val (.ref a2)] [(.ref a2), (.ref a1)])) rfl (by rw [hml]; rfl) (g_ hw 76 rfl) (argsL := [(.ref a2)]) (rest := []) (lenOf own_pd11 rfl) rfl (by show 2 * 0 + _ ≤ _; exact Nat.le_of_eq rfl) (dE 2 rfl) (fun _ _ => ⟨rfl, e0, (by decide : 0 + 0 ≤ _), (by decide : 0 + 0 ≤ _)⟩)) fun v101 T101 L101 X101 hQ101 => ?_
  obtain ⟨rfl, Nq101, K101, A101, C101, D101, V101, B101⟩ := hQ101
  have N101 := Fr.app N0 Nq101
  show own_Go p e below Pst (T101.setTop (mkF m 5 #[.val (.ref a1), .val (.ref a2)] [(.ref a1)]))
  refine o_pop X101.here hx (dE 3 rfl) rfl rfl ?_
  refine o_aloadN X101.here hx (dE 4 rfl) rfl rfl ?_
  have c102 := (Keep.trans (Keep.refl h0 [a1, t]) K101 (allS (Or.inl (List.mem_of_getElem? (i := 0) rfl)) (allS (Or.inl (List.mem_of_getElem? (i := 1) rfl)) all0)))
  rw [hPst]
  exact own_retP X101 (v := (some (.ref a1))) (Q := Q_sa1 Z z a1 t a2 t2 kb k2 b0 h0 n0) (fun h => by rw [Bd.returns] at h; cases h) Bd.notSynchronized (fun fs hr => retOut X101 hx Bd.returns rfl (Or.inr (Or.inr (Or.inr (Or.inr ⟨rfl, rfl, rfl⟩)))) (dE 5 rfl) hr) (by decide) (by decide) ⟨rfl, N101, c102, A101, C101, D101, V101, B101⟩
def Q_gb2 (Z : State) (z : Int32) (a2 t2 d : Addr) (k2 kb : ClassId) (b0 b1 : Int32) (h0 : Heap) (n0 : Nat) (v : Option Value) (h : Heap) (L : List Loc) : Prop := v = none ∧ Fr n0 L ∧ Keep h0 h [d] ∧ Arv Z h d kb .byte (34 : Int32) (own_nw2 b0 b1) (.int 0)
theorem rm_gb2 (l : Launch) (Z : State) (a0 : Array Value) (hw : own_H a0 Z) (ws : List Jvm.Cond) (z : Int32) (a2 t2 d : Addr) (k2 kb : ClassId) (b0 b1 : Int32) (h0 : Heap) (n0 : Nat) (Z0 : n0 ≤ h0.size) (O : Old Z n0 h0) (SC : Sta Z Z.heap "java/lang/String" "COMPACT_STRINGS" "Z" (.int z)) (hz : ¬ z = 0) (E2 : Exa Z h0 a2 "java/lang/String") (G1 : Fld Z h0 a2 "java/lang/String" "value" "[B" (.ref t2)) (G2 : Fld Z h0 a2 "java/lang/String" "coder" "B" (.int 0)) (B1 : Arv Z h0 t2 k2 .byte (2 : Int32) [(.int b0), (.int b1)] (.int 0)) (A1 : Arv Z h0 d kb .byte (34 : Int32) own_n1 (.int 0)) (gd : n0 ≤ d) (ne : t2 ≠ d) : own_MP l Mn2 jdk_42_method_147_code 4 none ws ({ frames := 1, cells := 0, slots := 0, locals := 21 } : Room) Z h0 #[(.ref a2), (.ref d), (.int (17 : Int32)), (.int (0 : Int32))] (fun _ _ _ _ _ => True) (Q_gb2 Z z a2 t2 d k2 kb b0 b1 h0 n0) := by
  refine own_startP (plainFor_of_name own_pn_java_lang_String) fun p e s m below meth c s₁ Bd hx hby hml hown0 X0 e0 hh0 hZ hK Pst hPst => ?_
  have dE := own_E hby own_D24
  have hown : s.vm.findClass "java/lang/String" = some m.cls := hown0
  have hnm := (name_of_methodNamed Bd.named Bd.method).1
  have N0 := Fr.nil n0
  rw [own_ef_RRII_4 m a2 d (17 : Int32) (0 : Int32)]
  refine o_aloadN X0.here hx (dE 0 rfl) rfl rfl ?_
  obtain ⟨cq101, kq101, q101a, q101b, q101c⟩ := isOf hZ e0 E2
  refine own_cP X0 (X0.virtualBack hx (y := Mn1) (z := Mn1) hown (mvT hZ (g_ hw 82 rfl)) (mvT hZ (g_ hw 83 rfl)) (notFace_of_selects (args := #[]) (mvT hZ (g_ hw 85 rfl))) (mvT hZ (g_ hw 85 rfl)) (mvT hZ (g_ hw 84 rfl)) (by decide) (backOf (W := 0) (rm_cod l Z a0 hw [] z a2 0 h0 n0 Z0 O SC hz G2) hZ (g_ hw 86 rfl) (g_ hw 7 rfl) (by decide) (by decide)) q101a q101c (g := (mkF m 1 #[.val (.ref a2), .val (.ref d), .val (.int (17 : Int32)), .val (.int (0 : Int32))] [(.ref a2)])) rfl (by rw [hml]; rfl) (Steps.refl _) (argsL := []) (rest := []) (lenOf own_pd1 rfl) rfl (by show 2 * 0 + _ ≤ _; exact Nat.le_of_eq rfl) (dE 1 rfl) (fun _ _ => ⟨rfl, e0, (by decide : 0 + 0 ≤ _), (by decide : 0 + 0 ≤ _)⟩)) fun v101 T101 L101 X101 hQ101 => ?_
  obtain ⟨rfl, Nq101, e101⟩ := hQ101
  have N101 := Fr.app N0 Nq101
  show own_Go p e below Pst (T101.setTop (mkF m 4 #[.val (.ref a2), .val (.ref d), .val (.int (17 : Int32)), .val (.int (0 : Int32))] [(.int (nar .byte 0))]))
  show own_Go p e below Pst (T101.setTop (mkF m 4 #[.val (.ref a2), .val (.ref d), .val (.int (17 : Int32)), .val (.int (0 : Int32))] [(.int (0 : Int32))]))
  refine o_iloadN X101.here hx (dE 2 rfl) rfl ?_
  refine o_icmpNo X101.here hx (dE 3 rfl) rfl (teq rfl).2 ?_
  refine o_aloadN X101.here hx (dE 4 rfl) rfl rfl ?_
  refine p_getF X101 hx hZ hown (host := "") (Or.inl (g_ hw 32 rfl)) Via.refl e101 G1 rfl (dE 5 rfl) fun T102 X102 e102 => ?_
  refine o_iconst X102.here hx (dE 6 rfl) (z := (0 : Int32)) rfl ?_
  refine o_aloadN X102.here hx (dE 7 rfl) rfl rfl ?_
  refine o_iloadN X102.here hx (dE 8 rfl) rfl ?_
  refine o_iloadN X102.here hx (dE 9 rfl) rfl ?_
  refine o_ishl X102.here hx (dE 10 rfl) rfl ?_
  rw [show ((17 : Int32) <<< ((0 : Int32) &&& 31)) = (17 : Int32) from by decide]
  show own_Go p e below Pst (T102.setTop (mkF m 17 #[.val (.ref a2), .val (.ref d), .val (.int (17 : Int32)), .val (.int (0 : Int32))] [(.int (17 : Int32)), (.ref d), (.int (0 : Int32)), (.ref t2)]))
  refine o_aloadN X102.here hx (dE 11 rfl) rfl rfl ?_
  refine p_getF X102 hx hZ hown (host := "") (Or.inl (g_ hw 32 rfl)) Via.refl e102 G1 rfl (dE 12 rfl) fun T103 X103 e103 => ?_
  obtain ⟨cl104, Ar104, -, S104, P104, -, -⟩ := id B1
  refine own_Go.of (S' := T103.setTop (mkF m 22 #[.val (.ref a2), .val (.ref d), .val (.int (17 : Int32)), .val (.int (0 : Int32))] [(.int (2 : Int32)), (.int (17 : Int32)), (.ref d), (.int (0 : Int32)), (.ref t2)])) (fun tgt kst => X103.arraylength hx (by rw [e103]; exact Ar104.1) (State.isArrayOf_alike hZ.alike Ar104.2.1) (g := (mkF m 21 #[.val (.ref a2), .val (.ref d), .val (.int (17 : Int32)), .val (.int (0 : Int32))] [(.ref t2), (.int (17 : Int32)), (.ref d), (.int (0 : Int32)), (.ref t2)])) rfl rfl (dE 13 rfl) _ (by rw [len_of S104 P104]; exact kst)) ?_
  obtain ⟨T105, h105, L105, X105, e105, N105, K105, V105r, st105⟩ := cpA X103 hx hZ hown (g_ hw 136 rfl) (g_ hw 119 rfl) (g_ hw 117 rfl) (g_ hw 118 rfl) e103 B1 A1 (Or.inl ⟨rfl, rfl⟩) (by decide) (by decide) (by decide) (by decide) (by decide) (us := [(.int b0), (.int b1)]) rfl (by decide) N101 gd (g := (mkF m 22 #[.val (.ref a2), .val (.ref d), .val (.int (17 : Int32)), .val (.int (0 : Int32))] [(.int (2 : Int32)), (.int (17 : Int32)), (.ref d), (.int (0 : Int32)), (.ref t2)])) rfl (by rw [hml]; rfl) rfl (dE 14 rfl) (by decide) (W := 0) (by show 2 * 0 + _ ≤ _; exact Nat.le_of_eq rfl) (by decide)
  have V105 : Arv Z h105 d kb .byte (34 : Int32) (own_nw2 b0 b1) (.int 0) := V105r
  refine own_Go.of st105 ?_
  show own_Go p e below Pst (T105.setTop (mkF m 25 #[.val (.ref a2), .val (.ref d), .val (.int (17 : Int32)), .val (.int (0 : Int32))] []))
  refine o_goto X105.here hx (pc0 := 25) (pc' := 43) rfl (dE 15 rfl) (by decide) (by decide) ?_
  have c106 := (Keep.trans (Keep.refl h0 [d]) K105 (allS (Or.inl (List.mem_of_getElem? (i := 0) rfl)) all0))
  rw [hPst]
  exact own_retP X105 (v := none) (Q := Q_gb2 Z z a2 t2 d k2 kb b0 b1 h0 n0) (fun _ => rfl) Bd.notSynchronized (fun fs hr => X105.returnOut hx Bd.returns (dE 16 rfl) hr) (by decide) (by decide) (by rw [e105]; exact ⟨rfl, N105, c106, V105⟩)
def Q_psa2 (Z : State) (z : Int32) (a1 t a2 t2 : Addr) (kb k2 : ClassId) (b0 b1 : Int32) (h0 : Heap) (n0 : Nat) (v : Option Value) (h : Heap) (L : List Loc) : Prop := v = none ∧ Fr n0 L ∧ Keep h0 h [t] ∧ Arv Z h t kb .byte (34 : Int32) (own_nw2 b0 b1) (.int 0)
theorem rm_psa2 (l : Launch) (Z : State) (a0 : Array Value) (hw : own_H a0 Z) (ws : List Jvm.Cond) (z : Int32) (a1 t a2 t2 : Addr) (kb k2 : ClassId) (b0 b1 : Int32) (h0 : Heap) (n0 : Nat) (Z0 : n0 ≤ h0.size) (O : Old Z n0 h0) (SC : Sta Z Z.heap "java/lang/String" "COMPACT_STRINGS" "Z" (.int z)) (hz : ¬ z = 0) (E1 : Exa Z h0 a1 "java/lang/StringBuilder") (F1 : Fld Z h0 a1 "java/lang/AbstractStringBuilder" "value" "[B" (.ref t)) (F2 : Fld Z h0 a1 "java/lang/AbstractStringBuilder" "coder" "B" (.int (0 : Int32))) (A1 : Arv Z h0 t kb .byte (34 : Int32) own_n1 (.int 0)) (E2 : Exa Z h0 a2 "java/lang/String") (G1 : Fld Z h0 a2 "java/lang/String" "value" "[B" (.ref t2)) (G2 : Fld Z h0 a2 "java/lang/String" "coder" "B" (.int 0)) (B1 : Arv Z h0 t2 k2 .byte (2 : Int32) [(.int b0), (.int b1)] (.int 0)) (gt : n0 ≤ t) (ne : t2 ≠ t) : own_MP l Mn3 jdk_68_method_73_code 3 none ws ({ frames := 2, cells := 0, slots := 0, locals := 40 } : Room) Z h0 #[(.ref a1), (.int (17 : Int32)), (.ref a2)] (fun _ _ _ _ _ => True) (Q_psa2 Z z a1 t a2 t2 kb k2 b0 b1 h0 n0) := by
  refine own_startP (plainFor_of_name own_pn_java_lang_AbstractStringBuilder) fun p e s m below meth c s₁ Bd hx hby hml hown0 X0 e0 hh0 hZ hK Pst hPst => ?_
  have dE := own_E hby own_D22
  have hown : s.vm.findClass "java/lang/AbstractStringBuilder" = some m.cls := hown0
  have hnm := (name_of_methodNamed Bd.named Bd.method).1
  have N0 := Fr.nil n0
  rw [own_ef_RIR_3 m a1 (17 : Int32) a2]
  refine o_aloadN X0.here hx (dE 0 rfl) rfl rfl ?_
  refine o_aloadN X0.here hx (dE 1 rfl) rfl rfl ?_
  obtain ⟨cq101, kq101, q101a, q101b, q101c⟩ := isOf hZ e0 E1
  refine own_cP X0 (X0.virtualBack hx (y := Mn9) (z := Mn9) hown (mvT hZ (g_ hw 125 rfl)) (mvT hZ (own_decl (g_ hw 126 rfl) (g_ hw 129 rfl))) (notFace_of_selects (args := #[]) (mvT hZ (g_ hw 128 rfl))) (mvT hZ (g_ hw 128 rfl)) (mvT hZ (g_ hw 126 rfl)) (by decide) (backOf (W := 0) (rm_inf l Z a0 hw [] z a1 a2 h0 n0 Z0 O SC hz F2 E2 G2) hZ (g_ hw 129 rfl) (g_ hw 56 rfl) (by decide) (by decide)) q101a q101c (g := (mkF m 2 #[.val (.ref a1), .val (.int (17 : Int32)), .val (.ref a2)] [(.ref a2), (.ref a1)])) rfl (by rw [hml]; rfl) (Steps.refl _) (argsL := [(.ref a2)]) (rest := []) (lenOf own_pd7 rfl) rfl (by show 2 * 0 + _ ≤ _; exact Nat.le_of_eq rfl) (dE 2 rfl) (fun _ _ => ⟨rfl, e0, (by decide : 0 + 0 ≤ _), (by decide : 0 + 0 ≤ _)⟩)) fun v101 T101 L101 X101 hQ101 => ?_
  obtain ⟨rfl, Nq101, e101⟩ := hQ101
  have N101 := Fr.app N0 Nq101
  show own_Go p e below Pst (T101.setTop (mkF m 5 #[.val (.ref a1), .val (.int (17 : Int32)), .val (.ref a2)] []))
  refine o_aloadN X101.here hx (dE 3 rfl) rfl rfl ?_
  refine o_aloadN X101.here hx (dE 4 rfl) rfl rfl ?_
  refine p_getF X101 hx hZ hown (host := "") (Or.inl (g_ hw 60 rfl)) Via.refl e101 F1 rfl (dE 5 rfl) fun T102 X102 e102 => ?_
  refine o_iloadN X102.here hx (dE 6 rfl) rfl ?_
  refine o_aloadN X102.here hx (dE 7 rfl) rfl rfl ?_
  refine p_getF X102 hx hZ hown (host := "") (Or.inl (g_ hw 62 rfl)) Via.refl e102 F2 rfl (dE 8 rfl) fun T103 X103 e103 => ?_
  obtain ⟨cq104, kq104, q104a, q104b, q104c⟩ := isOf hZ e103 E2
  refine own_cP X103 (X103.virtualBack hx (y := Mn2) (z := Mn2) hown (mvT hZ (g_ hw 131 rfl)) (mvT hZ (g_ hw 132 rfl)) (notFace_of_selects (args := #[]) (mvT hZ (g_ hw 134 rfl))) (mvT hZ (g_ hw 134 rfl)) (mvT hZ (g_ hw 133 rfl)) (by decide) (backOf (W := 0) (rm_gb2 l Z a0 hw [] z a2 t2 t k2 kb b0 b1 h0 n0 Z0 O SC hz E2 G1 G2 B1 A1 gt ne) hZ (g_ hw 135 rfl) (g_ hw 7 rfl) (by decide) (by decide)) q104a q104c (g := (mkF m 15 #[.val (.ref a1), .val (.int (17 : Int32)), .val (.ref a2)] [(.int (0 : Int32)), (.int (17 : Int32)), (.ref t), (.ref a2)])) rfl (by rw [hml]; rfl) (Steps.refl _) (argsL := [(.ref t), (.int (17 : Int32)), (.int (0 : Int32))]) (rest := []) (lenOf own_pd8 rfl) rfl (by show 2 * 0 + _ ≤ _; exact Nat.le_of_eq rfl) (dE 9 rfl) (fun _ _ => ⟨rfl, e103, (by decide : 0 + 0 ≤ _), (by decide : 0 + 0 ≤ _)⟩)) fun v104 T104 L104 X104 hQ104 => ?_
  obtain ⟨rfl, Nq104, K104, V104⟩ := hQ104
  have N104 := Fr.app N101 Nq104
  show own_Go p e below Pst (T104.setTop (mkF m 18 #[.val (.ref a1), .val (.int (17 : Int32)), .val (.ref a2)] []))
  have c105 := (Keep.trans (Keep.refl h0 [t]) K104 (allS (Or.inl (List.mem_of_getElem? (i := 0) rfl)) all0))
  rw [hPst]
  exact own_retP X104 (v := none) (Q := Q_psa2 Z z a1 t a2 t2 kb k2 b0 b1 h0 n0) (fun _ => rfl) Bd.notSynchronized (fun fs hr => X104.returnOut hx Bd.returns (dE 10 rfl) hr) (by decide) (by decide) ⟨rfl, N104, c105, V104⟩
def Q_aa2 (Z : State) (z : Int32) (a1 t a2 t2 : Addr) (kb k2 : ClassId) (b0 b1 : Int32) (h0 : Heap) (n0 : Nat) (v : Option Value) (h : Heap) (L : List Loc) : Prop := v = some (.ref a1) ∧ Fr n0 L ∧ Keep h0 h [a1, t] ∧ Exa Z h a1 "java/lang/StringBuilder" ∧ Fld Z h a1 "java/lang/AbstractStringBuilder" "coder" "B" (.int (0 : Int32)) ∧ Fld Z h a1 "java/lang/AbstractStringBuilder" "count" "I" (.int (19 : Int32)) ∧ Fld Z h a1 "java/lang/AbstractStringBuilder" "value" "[B" (.ref t) ∧ Arv Z h t kb .byte (34 : Int32) (own_nw2 b0 b1) (.int 0)
theorem rm_aa2 (l : Launch) (Z : State) (a0 : Array Value) (hw : own_H a0 Z) (ws : List Jvm.Cond) (z : Int32) (a1 t a2 t2 : Addr) (kb k2 : ClassId) (b0 b1 : Int32) (h0 : Heap) (n0 : Nat) (Z0 : n0 ≤ h0.size) (O : Old Z n0 h0) (SC : Sta Z Z.heap "java/lang/String" "COMPACT_STRINGS" "Z" (.int z)) (hz : ¬ z = 0) (E1 : Exa Z h0 a1 "java/lang/StringBuilder") (F1 : Fld Z h0 a1 "java/lang/AbstractStringBuilder" "value" "[B" (.ref t)) (F2 : Fld Z h0 a1 "java/lang/AbstractStringBuilder" "coder" "B" (.int (0 : Int32))) (F3 : Fld Z h0 a1 "java/lang/AbstractStringBuilder" "count" "I" (.int (17 : Int32))) (A1 : Arv Z h0 t kb .byte (34 : Int32) own_n1 (.int 0)) (E2 : Exa Z h0 a2 "java/lang/String") (G1 : Fld Z h0 a2 "java/lang/String" "value" "[B" (.ref t2)) (G2 : Fld Z h0 a2 "java/lang/String" "coder" "B" (.int 0)) (B1 : Arv Z h0 t2 k2 .byte (2 : Int32) [(.int b0), (.int b1)] (.int 0)) (g1 : n0 ≤ a1) (gt : n0 ≤ t) (ne1 : a2 ≠ a1) (ne2 : t2 ≠ t) : own_MP l Mn7 jdk_68_method_22_code 3 (some (.object "java/lang/AbstractStringBuilder")) ws ({ frames := 4, cells := 0, slots := 0, locals := 70 } : Room) Z h0 #[(.ref a1), (.ref a2)] (fun _ _ _ _ _ => True) (Q_aa2 Z z a1 t a2 t2 kb k2 b0 b1 h0 n0) := by
  refine own_startP (plainFor_of_name own_pn_java_lang_AbstractStringBuilder) fun p e s m below meth c s₁ Bd hx hby hml hown0 X0 e0 hh0 hZ hK Pst hPst => ?_
  have dE := own_E hby own_D13
  have hown : s.vm.findClass "java/lang/AbstractStringBuilder" = some m.cls := hown0
  have hnm := (name_of_methodNamed Bd.named Bd.method).1
  have N0 := Fr.nil n0
  rw [own_ef_RR_3 m a1 a2]
  have ne3 : t ≠ a1 := Ne.symm (Exa.neArv E1 A1 (g_ hw 47 rfl))
  have ne4 : t2 ≠ a1 := Ne.symm (Exa.neArv E1 B1 (g_ hw 47 rfl))
  have ne5 : a2 ≠ t := Exa.neArv E2 A1 (g_ hw 6 rfl)
  refine o_aloadN X0.here hx (dE 0 rfl) rfl rfl ?_
  refine o_ifnonnullYes X0.here hx (pc0 := 1) (pc' := 9) rfl (dE 1 rfl) rfl (by decide) (by decide) ?_
  refine o_aloadN X0.here hx (dE 2 rfl) rfl rfl ?_
  obtain ⟨cq101, kq101, q101a, q101b, q101c⟩ := isOf hZ e0 E2
  refine own_cP X0 (X0.virtualBack hx (y := Mn8) (z := Mn8) hown (mvT hZ (g_ hw 77 rfl)) (mvT hZ (g_ hw 78 rfl)) (notFace_of_selects (args := #[]) (mvT hZ (g_ hw 80 rfl))) (mvT hZ (g_ hw 80 rfl)) (mvT hZ (g_ hw 79 rfl)) (by decide) (backOf (W := 0) (rm_len l Z a0 hw [] z a2 t2 k2 0 (2 : Int32) [(.int b0), (.int b1)] (.int 0) h0 n0 Z0 O SC hz E2 G2 G1 B1) hZ (g_ hw 81 rfl) (g_ hw 7 rfl) (by decide) (by decide)) q101a q101c (g := (mkF m 10 #[.val (.ref a1), .val (.ref a2), .unset] [(.ref a2)])) rfl (by rw [hml]; rfl) (Steps.refl _) (argsL := []) (rest := []) (lenOf own_pd9 rfl) rfl (by show 2 * 0 + _ ≤ _; exact Nat.le_of_eq rfl) (dE 3 rfl) (fun _ _ => ⟨rfl, e0, (by decide : 0 + 0 ≤ _), (by decide : 0 + 0 ≤ _)⟩)) fun v101 T101 L101 X101 hQ101 => ?_
  obtain ⟨rfl, Nq101, e101⟩ := hQ101
  have N101 := Fr.app N0 Nq101
  show own_Go p e below Pst (T101.setTop (mkF m 13 #[.val (.ref a1), .val (.ref a2), .unset] [(.int ((2 : Int32) >>> (nar .byte 0 &&& 31)))]))
  rw [show ((2 : Int32) >>> (nar .byte 0 &&& 31)) = (2 : Int32) from by decide]
  show own_Go p e below Pst (T101.setTop (mkF m 13 #[.val (.ref a1), .val (.ref a2), .unset] [(.int (2 : Int32))]))
  refine o_istoreN X101.here hx (dE 4 rfl) rfl (l' := #[.val (.ref a1), .val (.ref a2), .val (.int (2 : Int32))]) rfl ?_
  refine o_aloadN X101.here hx (dE 5 rfl) rfl rfl ?_
  refine o_aloadN X101.here hx (dE 6 rfl) rfl rfl ?_
  refine p_getF X101 hx hZ hown (host := "") (Or.inl (g_ hw 87 rfl)) Via.refl e101 F3 rfl (dE 7 rfl) fun T102 X102 e102 => ?_
  refine o_iloadN X102.here hx (dE 8 rfl) rfl ?_
  refine o_iadd X102.here hx (dE 9 rfl) rfl ?_
  rw [show ((17 : Int32) + (2 : Int32)) = (19 : Int32) from by decide]
  show own_Go p e below Pst (T102.setTop (mkF m 21 #[.val (.ref a1), .val (.ref a2), .val (.int (2 : Int32))] [(.int (19 : Int32)), (.ref a1)]))
  obtain ⟨cq103, kq103, q103a, q103b, q103c⟩ := isOf hZ e102 E1
  refine own_cP X102 (X102.virtualBack hx (y := Mn5) (z := Mn5) hown (mvT hZ (g_ hw 89 rfl)) (mvT hZ (own_decl (g_ hw 90 rfl) (g_ hw 93 rfl))) (notFace_of_selects (args := #[]) (mvT hZ (g_ hw 92 rfl))) (mvT hZ (g_ hw 92 rfl)) (mvT hZ (g_ hw 90 rfl)) (by decide) (backOf (W := 0) (rm_ecn l Z a0 hw [] a1 t kb own_n1 (19 : Int32) h0 n0 Z0 F1 F2 A1 (by decide)) hZ (g_ hw 93 rfl) (g_ hw 56 rfl) (by decide) (by decide)) q103a q103c (g := (mkF m 21 #[.val (.ref a1), .val (.ref a2), .val (.int (2 : Int32))] [(.int (19 : Int32)), (.ref a1)])) rfl (by rw [hml]; rfl) (Steps.refl _) (argsL := [(.int (19 : Int32))]) (rest := []) (lenOf own_pd2 rfl) rfl (by show 2 * 0 + _ ≤ _; exact Nat.le_of_eq rfl) (dE 10 rfl) (fun _ _ => ⟨rfl, e102, (by decide : 0 + 0 ≤ _), (by decide : 0 + 0 ≤ _)⟩)) fun v103 T103 L103 X103 hQ103 => ?_
  obtain ⟨rfl, Nq103, e103⟩ := hQ103
  have N103 := Fr.app N101 Nq103
  show own_Go p e below Pst (T103.setTop (mkF m 24 #[.val (.ref a1), .val (.ref a2), .val (.int (2 : Int32))] []))
  refine o_aloadN X103.here hx (dE 11 rfl) rfl rfl ?_
  refine o_aloadN X103.here hx (dE 12 rfl) rfl rfl ?_
  refine p_getF X103 hx hZ hown (host := "") (Or.inl (g_ hw 87 rfl)) Via.refl e103 F3 rfl (dE 13 rfl) fun T104 X104 e104 => ?_
  refine o_aloadN X104.here hx (dE 14 rfl) rfl rfl ?_
  obtain ⟨cq105, kq105, q105a, q105b, q105c⟩ := isOf hZ e104 E1
  refine own_cP X104 (X104.virtualBack hx (y := Mn3) (z := Mn3) hown (mvT hZ (g_ hw 120 rfl)) (mvT hZ (own_decl (g_ hw 121 rfl) (g_ hw 124 rfl))) (notFace_of_selects (args := #[]) (mvT hZ (g_ hw 123 rfl))) (mvT hZ (g_ hw 123 rfl)) (mvT hZ (g_ hw 121 rfl)) (by decide) (backOf (W := 0) (rm_psa2 l Z a0 hw [] z a1 t a2 t2 kb k2 b0 b1 h0 n0 Z0 O SC hz E1 F1 F2 A1 E2 G1 G2 B1 gt ne2) hZ (g_ hw 124 rfl) (g_ hw 56 rfl) (by decide) (by decide)) q105a q105c (g := (mkF m 30 #[.val (.ref a1), .val (.ref a2), .val (.int (2 : Int32))] [(.ref a2), (.int (17 : Int32)), (.ref a1)])) rfl (by rw [hml]; rfl) (Steps.refl _) (argsL := [(.int (17 : Int32)), (.ref a2)]) (rest := []) (lenOf own_pd10 rfl) rfl (by show 2 * 0 + _ ≤ _; exact Nat.le_of_eq rfl) (dE 15 rfl) (fun _ _ => ⟨rfl, e104, (by decide : 0 + 0 ≤ _), (by decide : 0 + 0 ≤ _)⟩)) fun v105 T105 L105 X105 hQ105 => ?_
  obtain ⟨rfl, Nq105, K105, V105⟩ := hQ105
  have N105 := Fr.app N103 Nq105
  show own_Go p e below Pst (T105.setTop (mkF m 33 #[.val (.ref a1), .val (.ref a2), .val (.int (2 : Int32))] []))
  refine o_aloadN X105.here hx (dE 16 rfl) rfl rfl ?_
  refine o_dup X105.here hx (dE 17 rfl) rfl rfl ?_
  have c106 := (F3.keep K105 (ninS ne3.symm nin0))
  refine p_getF X105 hx hZ hown (host := "") (Or.inl (g_ hw 87 rfl)) Via.refl rfl c106 rfl (dE 18 rfl) fun T107 X107 e107 => ?_
  refine o_iloadN X107.here hx (dE 19 rfl) rfl ?_
  refine o_iadd X107.here hx (dE 20 rfl) rfl ?_
  rw [show ((17 : Int32) + (2 : Int32)) = (19 : Int32) from by decide]
  show own_Go p e below Pst (T107.setTop (mkF m 40 #[.val (.ref a1), .val (.ref a2), .val (.int (2 : Int32))] [(.int (19 : Int32)), (.ref a1)]))
  have c108 := (E1.keep K105)
  refine p_putF X107 hx hZ hown (host := "") (Or.inl (g_ hw 87 rfl)) Via.refl e107 c106 c108 (Or.inl (g_ hw 88 rfl)) (g_ hw 47 rfl) (ty := .int) (by decide) rfl rfl rfl (dE 21 rfl) fun T109 h109 X109 e109 W109 => ?_
  have Fw109 := Fld.same W109 c106
  have N109 := Fr.snoc X109 N105 g1
  refine o_aloadN X109.here hx (dE 22 rfl) rfl rfl ?_
  have c110 := ((Keep.trans (Keep.refl h0 [a1, t]) K105 (allS (Or.inl (List.mem_of_getElem? (i := 1) rfl)) all0)).wr W109 (Or.inl (List.mem_of_getElem? (i := 0) rfl)))
  have c111 := (c108.wr W109)
  have c112 := ((F2.keep K105 (ninS ne3.symm nin0)).other W109 (Or.inr (slot_ne (Or.inl (g_ hw 63 rfl)) (Or.inl (g_ hw 88 rfl)) (by decide) (t := .byte) (t' := .int) (by decide) (by decide))))
  have c113 := ((F1.keep K105 (ninS ne3.symm nin0)).other W109 (Or.inr (slot_ne (Or.inl (g_ hw 61 rfl)) (Or.inl (g_ hw 88 rfl)) (by decide) (t := (.array .byte)) (t' := .int) (by decide) (by decide))))
  have c114 := (V105.other W109 ne3)
  rw [hPst]
  exact own_retP X109 (v := (some (.ref a1))) (Q := Q_aa2 Z z a1 t a2 t2 kb k2 b0 b1 h0 n0) (fun h => by rw [Bd.returns] at h; cases h) Bd.notSynchronized (fun fs hr => retOut X109 hx Bd.returns rfl (Or.inr (Or.inr (Or.inr (Or.inr ⟨rfl, rfl, rfl⟩)))) (dE 23 rfl) hr) (by decide) (by decide) (by rw [e109]; exact ⟨rfl, N109, c110, c111, c112, Fw109, c113, c114⟩)
def Q_sa2 (Z : State) (z : Int32) (a1 t a2 t2 : Addr) (kb k2 : ClassId) (b0 b1 : Int32) (h0 : Heap) (n0 : Nat) (v : Option Value) (h : Heap) (L : List Loc) : Prop := v = some (.ref a1) ∧ Fr n0 L ∧ Keep h0 h [a1, t] ∧ Exa Z h a1 "java/lang/StringBuilder" ∧ Fld Z h a1 "java/lang/AbstractStringBuilder" "coder" "B" (.int (0 : Int32)) ∧ Fld Z h a1 "java/lang/AbstractStringBuilder" "count" "I" (.int (19 : Int32)) ∧ Fld Z h a1 "java/lang/AbstractStringBuilder" "value" "[B" (.ref t) ∧ Arv Z h t kb .byte (34 : Int32) (own_nw2 b0 b1) (.int 0)
theorem rm_sa2 (l : Launch) (Z : State) (a0 : Array Value) (hw : own_H a0 Z) (ws : List Jvm.Cond) (z : Int32) (a1 t a2 t2 : Addr) (kb k2 : ClassId) (b0 b1 : Int32) (h0 : Heap) (n0 : Nat) (Z0 : n0 ≤ h0.size) (O : Old Z n0 h0) (SC : Sta Z Z.heap "java/lang/String" "COMPACT_STRINGS" "Z" (.int z)) (hz : ¬ z = 0) (E1 : Exa Z h0 a1 "java/lang/StringBuilder") (F1 : Fld Z h0 a1 "java/lang/AbstractStringBuilder" "value" "[B" (.ref t)) (F2 : Fld Z h0 a1 "java/lang/AbstractStringBuilder" "coder" "B" (.int (0 : Int32))) (F3 : Fld Z h0 a1 "java/lang/AbstractStringBuilder" "count" "I" (.int (17 : Int32))) (A1 : Arv Z h0 t kb .byte (34 : Int32) own_n1 (.int 0)) (E2 : Exa Z h0 a2 "java/lang/String") (G1 : Fld Z h0 a2 "java/lang/String" "value" "[B" (.ref t2)) (G2 : Fld Z h0 a2 "java/lang/String" "coder" "B" (.int 0)) (B1 : Arv Z h0 t2 k2 .byte (2 : Int32) [(.int b0), (.int b1)] (.int 0)) (g1 : n0 ≤ a1) (gt : n0 ≤ t) (ne1 : a2 ≠ a1) (ne2 : t2 ≠ t) : own_MP l Mn0 jdk_67_method_7_code 2 (some (.object "java/lang/StringBuilder")) ws ({ frames := 5, cells := 0, slots := 0, locals := 86 } : Room) Z h0 #[(.ref a1), (.ref a2)] (fun _ _ _ _ _ => True) (Q_sa2 Z z a1 t a2 t2 kb k2 b0 b1 h0 n0) := by
  refine own_startP (plainFor_of_name own_pn_java_lang_StringBuilder) fun p e s m below meth c s₁ Bd hx hby hml hown0 X0 e0 hh0 hZ hK Pst hPst => ?_
  have dE := own_E hby own_D12
  have hown : s.vm.findClass "java/lang/StringBuilder" = some m.cls := hown0
  have hnm := (name_of_methodNamed Bd.named Bd.method).1
  have N0 := Fr.nil n0
  rw [own_ef_RR_2 m a1 a2]
  have ne3 : t ≠ a1 := Ne.symm (Exa.neArv E1 A1 (g_ hw 47 rfl))
  have ne4 : t2 ≠ a1 := Ne.symm (Exa.neArv E1 B1 (g_ hw 47 rfl))
  have ne5 : a2 ≠ t := Exa.neArv E2 A1 (g_ hw 6 rfl)
  refine o_aloadN X0.here hx (dE 0 rfl) rfl rfl ?_
  refine o_aloadN X0.here hx (dE 1 rfl) rfl rfl ?_
  refine own_cP X0 (superBack X0 hx hZ (y := Mn7) hown (g_ hw 72 rfl) (own_sameM (g_ hw 92 rfl) (g_ hw 73 rfl) rfl (by decide)) (g_ hw 73 rfl) (g_ hw 74 rfl) (by decide) (backOf (W := 0) (rm_aa2 l Z a0 hw [] z a1 t a2 t2 kb k2 b0 b1 h0 n0 Z0 O SC hz E1 F1 F2 F3 A1 E2 G1 G2 B1 g1 gt ne1 ne2) hZ (g_ hw 76 rfl) (g_ hw 56 rfl) (by decide) (by decide)) e0 (Ins.self E1) (g := (mkF m 2 #[.val (.ref a1), .val (.ref a2)] [(.ref a2), (.ref a1)])) rfl (by rw [hml]; rfl) (g_ hw 76 rfl) (argsL := [(.ref a2)]) (rest := []) (lenOf own_pd11 rfl) rfl (by show 2 * 0 + _ ≤ _; exact Nat.le_of_eq rfl) (dE 2 rfl) (fun _ _ => ⟨rfl, e0, (by decide : 0 + 0 ≤ _), (by decide : 0 + 0 ≤ _)⟩)) fun v101 T101 L101 X101 hQ101 => ?_
  obtain ⟨rfl, Nq101, K101, A101, C101, D101, V101, B101⟩ := hQ101
  have N101 := Fr.app N0 Nq101
  show own_Go p e below Pst (T101.setTop (mkF m 5 #[.val (.ref a1), .val (.ref a2)] [(.ref a1)]))
  refine o_pop X101.here hx (dE 3 rfl) rfl rfl ?_
  refine o_aloadN X101.here hx (dE 4 rfl) rfl rfl ?_
  have c102 := (Keep.trans (Keep.refl h0 [a1, t]) K101 (allS (Or.inl (List.mem_of_getElem? (i := 0) rfl)) (allS (Or.inl (List.mem_of_getElem? (i := 1) rfl)) all0)))
  rw [hPst]
  exact own_retP X101 (v := (some (.ref a1))) (Q := Q_sa2 Z z a1 t a2 t2 kb k2 b0 b1 h0 n0) (fun h => by rw [Bd.returns] at h; cases h) Bd.notSynchronized (fun fs hr => retOut X101 hx Bd.returns rfl (Or.inr (Or.inr (Or.inr (Or.inr ⟨rfl, rfl, rfl⟩)))) (dE 5 rfl) hr) (by decide) (by decide) ⟨rfl, N101, c102, A101, C101, D101, V101, B101⟩
def Q_gb3 (Z : State) (z : Int32) (a2 t2 d : Addr) (k2 kb : ClassId) (b0 b1 b2 : Int32) (h0 : Heap) (n0 : Nat) (v : Option Value) (h : Heap) (L : List Loc) : Prop := v = none ∧ Fr n0 L ∧ Keep h0 h [d] ∧ Arv Z h d kb .byte (34 : Int32) (own_nw3 b0 b1 b2) (.int 0)
theorem rm_gb3 (l : Launch) (Z : State) (a0 : Array Value) (hw : own_H a0 Z) (ws : List Jvm.Cond) (z : Int32) (a2 t2 d : Addr) (k2 kb : ClassId) (b0 b1 b2 : Int32) (h0 : Heap) (n0 : Nat) (Z0 : n0 ≤ h0.size) (O : Old Z n0 h0) (SC : Sta Z Z.heap "java/lang/String" "COMPACT_STRINGS" "Z" (.int z)) (hz : ¬ z = 0) (E2 : Exa Z h0 a2 "java/lang/String") (G1 : Fld Z h0 a2 "java/lang/String" "value" "[B" (.ref t2)) (G2 : Fld Z h0 a2 "java/lang/String" "coder" "B" (.int 0)) (B1 : Arv Z h0 t2 k2 .byte (3 : Int32) [(.int b0), (.int b1), (.int b2)] (.int 0)) (A1 : Arv Z h0 d kb .byte (34 : Int32) own_n1 (.int 0)) (gd : n0 ≤ d) (ne : t2 ≠ d) : own_MP l Mn2 jdk_42_method_147_code 4 none ws ({ frames := 1, cells := 0, slots := 0, locals := 21 } : Room) Z h0 #[(.ref a2), (.ref d), (.int (17 : Int32)), (.int (0 : Int32))] (fun _ _ _ _ _ => True) (Q_gb3 Z z a2 t2 d k2 kb b0 b1 b2 h0 n0) := by
  refine own_startP (plainFor_of_name own_pn_java_lang_String) fun p e s m below meth c s₁ Bd hx hby hml hown0 X0 e0 hh0 hZ hK Pst hPst => ?_
  have dE := own_E hby own_D24
  have hown : s.vm.findClass "java/lang/String" = some m.cls := hown0
  have hnm := (name_of_methodNamed Bd.named Bd.method).1
  have N0 := Fr.nil n0
  rw [own_ef_RRII_4 m a2 d (17 : Int32) (0 : Int32)]
  refine o_aloadN X0.here hx (dE 0 rfl) rfl rfl ?_
  obtain ⟨cq101, kq101, q101a, q101b, q101c⟩ := isOf hZ e0 E2
  refine own_cP X0 (X0.virtualBack hx (y := Mn1) (z := Mn1) hown (mvT hZ (g_ hw 82 rfl)) (mvT hZ (g_ hw 83 rfl)) (notFace_of_selects (args := #[]) (mvT hZ (g_ hw 85 rfl))) (mvT hZ (g_ hw 85 rfl)) (mvT hZ (g_ hw 84 rfl)) (by decide) (backOf (W := 0) (rm_cod l Z a0 hw [] z a2 0 h0 n0 Z0 O SC hz G2) hZ (g_ hw 86 rfl) (g_ hw 7 rfl) (by decide) (by decide)) q101a q101c (g := (mkF m 1 #[.val (.ref a2), .val (.ref d), .val (.int (17 : Int32)), .val (.int (0 : Int32))] [(.ref a2)])) rfl (by rw [hml]; rfl) (Steps.refl _) (argsL := []) (rest := []) (lenOf own_pd1 rfl) rfl (by show 2 * 0 + _ ≤ _; exact Nat.le_of_eq rfl) (dE 1 rfl) (fun _ _ => ⟨rfl, e0, (by decide : 0 + 0 ≤ _), (by decide : 0 + 0 ≤ _)⟩)) fun v101 T101 L101 X101 hQ101 => ?_
  obtain ⟨rfl, Nq101, e101⟩ := hQ101
  have N101 := Fr.app N0 Nq101
  show own_Go p e below Pst (T101.setTop (mkF m 4 #[.val (.ref a2), .val (.ref d), .val (.int (17 : Int32)), .val (.int (0 : Int32))] [(.int (nar .byte 0))]))
  show own_Go p e below Pst (T101.setTop (mkF m 4 #[.val (.ref a2), .val (.ref d), .val (.int (17 : Int32)), .val (.int (0 : Int32))] [(.int (0 : Int32))]))
  refine o_iloadN X101.here hx (dE 2 rfl) rfl ?_
  refine o_icmpNo X101.here hx (dE 3 rfl) rfl (teq rfl).2 ?_
  refine o_aloadN X101.here hx (dE 4 rfl) rfl rfl ?_
  refine p_getF X101 hx hZ hown (host := "") (Or.inl (g_ hw 32 rfl)) Via.refl e101 G1 rfl (dE 5 rfl) fun T102 X102 e102 => ?_
  refine o_iconst X102.here hx (dE 6 rfl) (z := (0 : Int32)) rfl ?_
  refine o_aloadN X102.here hx (dE 7 rfl) rfl rfl ?_
  refine o_iloadN X102.here hx (dE 8 rfl) rfl ?_
  refine o_iloadN X102.here hx (dE 9 rfl) rfl ?_
  refine o_ishl X102.here hx (dE 10 rfl) rfl ?_
  rw [show ((17 : Int32) <<< ((0 : Int32) &&& 31)) = (17 : Int32) from by decide]
  show own_Go p e below Pst (T102.setTop (mkF m 17 #[.val (.ref a2), .val (.ref d), .val (.int (17 : Int32)), .val (.int (0 : Int32))] [(.int (17 : Int32)), (.ref d), (.int (0 : Int32)), (.ref t2)]))
  refine o_aloadN X102.here hx (dE 11 rfl) rfl rfl ?_
  refine p_getF X102 hx hZ hown (host := "") (Or.inl (g_ hw 32 rfl)) Via.refl e102 G1 rfl (dE 12 rfl) fun T103 X103 e103 => ?_
  obtain ⟨cl104, Ar104, -, S104, P104, -, -⟩ := id B1
  refine own_Go.of (S' := T103.setTop (mkF m 22 #[.val (.ref a2), .val (.ref d), .val (.int (17 : Int32)), .val (.int (0 : Int32))] [(.int (3 : Int32)), (.int (17 : Int32)), (.ref d), (.int (0 : Int32)), (.ref t2)])) (fun tgt kst => X103.arraylength hx (by rw [e103]; exact Ar104.1) (State.isArrayOf_alike hZ.alike Ar104.2.1) (g := (mkF m 21 #[.val (.ref a2), .val (.ref d), .val (.int (17 : Int32)), .val (.int (0 : Int32))] [(.ref t2), (.int (17 : Int32)), (.ref d), (.int (0 : Int32)), (.ref t2)])) rfl rfl (dE 13 rfl) _ (by rw [len_of S104 P104]; exact kst)) ?_
  obtain ⟨T105, h105, L105, X105, e105, N105, K105, V105r, st105⟩ := cpA X103 hx hZ hown (g_ hw 136 rfl) (g_ hw 119 rfl) (g_ hw 117 rfl) (g_ hw 118 rfl) e103 B1 A1 (Or.inl ⟨rfl, rfl⟩) (by decide) (by decide) (by decide) (by decide) (by decide) (us := [(.int b0), (.int b1), (.int b2)]) rfl (by decide) N101 gd (g := (mkF m 22 #[.val (.ref a2), .val (.ref d), .val (.int (17 : Int32)), .val (.int (0 : Int32))] [(.int (3 : Int32)), (.int (17 : Int32)), (.ref d), (.int (0 : Int32)), (.ref t2)])) rfl (by rw [hml]; rfl) rfl (dE 14 rfl) (by decide) (W := 0) (by show 2 * 0 + _ ≤ _; exact Nat.le_of_eq rfl) (by decide)
  have V105 : Arv Z h105 d kb .byte (34 : Int32) (own_nw3 b0 b1 b2) (.int 0) := V105r
  refine own_Go.of st105 ?_
  show own_Go p e below Pst (T105.setTop (mkF m 25 #[.val (.ref a2), .val (.ref d), .val (.int (17 : Int32)), .val (.int (0 : Int32))] []))
  refine o_goto X105.here hx (pc0 := 25) (pc' := 43) rfl (dE 15 rfl) (by decide) (by decide) ?_
  have c106 := (Keep.trans (Keep.refl h0 [d]) K105 (allS (Or.inl (List.mem_of_getElem? (i := 0) rfl)) all0))
  rw [hPst]
  exact own_retP X105 (v := none) (Q := Q_gb3 Z z a2 t2 d k2 kb b0 b1 b2 h0 n0) (fun _ => rfl) Bd.notSynchronized (fun fs hr => X105.returnOut hx Bd.returns (dE 16 rfl) hr) (by decide) (by decide) (by rw [e105]; exact ⟨rfl, N105, c106, V105⟩)
def Q_psa3 (Z : State) (z : Int32) (a1 t a2 t2 : Addr) (kb k2 : ClassId) (b0 b1 b2 : Int32) (h0 : Heap) (n0 : Nat) (v : Option Value) (h : Heap) (L : List Loc) : Prop := v = none ∧ Fr n0 L ∧ Keep h0 h [t] ∧ Arv Z h t kb .byte (34 : Int32) (own_nw3 b0 b1 b2) (.int 0)
theorem rm_psa3 (l : Launch) (Z : State) (a0 : Array Value) (hw : own_H a0 Z) (ws : List Jvm.Cond) (z : Int32) (a1 t a2 t2 : Addr) (kb k2 : ClassId) (b0 b1 b2 : Int32) (h0 : Heap) (n0 : Nat) (Z0 : n0 ≤ h0.size) (O : Old Z n0 h0) (SC : Sta Z Z.heap "java/lang/String" "COMPACT_STRINGS" "Z" (.int z)) (hz : ¬ z = 0) (E1 : Exa Z h0 a1 "java/lang/StringBuilder") (F1 : Fld Z h0 a1 "java/lang/AbstractStringBuilder" "value" "[B" (.ref t)) (F2 : Fld Z h0 a1 "java/lang/AbstractStringBuilder" "coder" "B" (.int (0 : Int32))) (A1 : Arv Z h0 t kb .byte (34 : Int32) own_n1 (.int 0)) (E2 : Exa Z h0 a2 "java/lang/String") (G1 : Fld Z h0 a2 "java/lang/String" "value" "[B" (.ref t2)) (G2 : Fld Z h0 a2 "java/lang/String" "coder" "B" (.int 0)) (B1 : Arv Z h0 t2 k2 .byte (3 : Int32) [(.int b0), (.int b1), (.int b2)] (.int 0)) (gt : n0 ≤ t) (ne : t2 ≠ t) : own_MP l Mn3 jdk_68_method_73_code 3 none ws ({ frames := 2, cells := 0, slots := 0, locals := 40 } : Room) Z h0 #[(.ref a1), (.int (17 : Int32)), (.ref a2)] (fun _ _ _ _ _ => True) (Q_psa3 Z z a1 t a2 t2 kb k2 b0 b1 b2 h0 n0) := by
  refine own_startP (plainFor_of_name own_pn_java_lang_AbstractStringBuilder) fun p e s m below meth c s₁ Bd hx hby hml hown0 X0 e0 hh0 hZ hK Pst hPst => ?_
  have dE := own_E hby own_D22
  have hown : s.vm.findClass "java/lang/AbstractStringBuilder" = some m.cls := hown0
  have hnm := (name_of_methodNamed Bd.named Bd.method).1
  have N0 := Fr.nil n0
  rw [own_ef_RIR_3 m a1 (17 : Int32) a2]
  refine o_aloadN X0.here hx (dE 0 rfl) rfl rfl ?_
  refine o_aloadN X0.here hx (dE 1 rfl) rfl rfl ?_
  obtain ⟨cq101, kq101, q101a, q101b, q101c⟩ := isOf hZ e0 E1
  refine own_cP X0 (X0.virtualBack hx (y := Mn9) (z := Mn9) hown (mvT hZ (g_ hw 125 rfl)) (mvT hZ (own_decl (g_ hw 126 rfl) (g_ hw 129 rfl))) (notFace_of_selects (args := #[]) (mvT hZ (g_ hw 128 rfl))) (mvT hZ (g_ hw 128 rfl)) (mvT hZ (g_ hw 126 rfl)) (by decide) (backOf (W := 0) (rm_inf l Z a0 hw [] z a1 a2 h0 n0 Z0 O SC hz F2 E2 G2) hZ (g_ hw 129 rfl) (g_ hw 56 rfl) (by decide) (by decide)) q101a q101c (g := (mkF m 2 #[.val (.ref a1), .val (.int (17 : Int32)), .val (.ref a2)] [(.ref a2), (.ref a1)])) rfl (by rw [hml]; rfl) (Steps.refl _) (argsL := [(.ref a2)]) (rest := []) (lenOf own_pd7 rfl) rfl (by show 2 * 0 + _ ≤ _; exact Nat.le_of_eq rfl) (dE 2 rfl) (fun _ _ => ⟨rfl, e0, (by decide : 0 + 0 ≤ _), (by decide : 0 + 0 ≤ _)⟩)) fun v101 T101 L101 X101 hQ101 => ?_
  obtain ⟨rfl, Nq101, e101⟩ := hQ101
  have N101 := Fr.app N0 Nq101
  show own_Go p e below Pst (T101.setTop (mkF m 5 #[.val (.ref a1), .val (.int (17 : Int32)), .val (.ref a2)] []))
  refine o_aloadN X101.here hx (dE 3 rfl) rfl rfl ?_
  refine o_aloadN X101.here hx (dE 4 rfl) rfl rfl ?_
  refine p_getF X101 hx hZ hown (host := "") (Or.inl (g_ hw 60 rfl)) Via.refl e101 F1 rfl (dE 5 rfl) fun T102 X102 e102 => ?_
  refine o_iloadN X102.here hx (dE 6 rfl) rfl ?_
  refine o_aloadN X102.here hx (dE 7 rfl) rfl rfl ?_
  refine p_getF X102 hx hZ hown (host := "") (Or.inl (g_ hw 62 rfl)) Via.refl e102 F2 rfl (dE 8 rfl) fun T103 X103 e103 => ?_
  obtain ⟨cq104, kq104, q104a, q104b, q104c⟩ := isOf hZ e103 E2
  refine own_cP X103 (X103.virtualBack hx (y := Mn2) (z := Mn2) hown (mvT hZ (g_ hw 131 rfl)) (mvT hZ (g_ hw 132 rfl)) (notFace_of_selects (args := #[]) (mvT hZ (g_ hw 134 rfl))) (mvT hZ (g_ hw 134 rfl)) (mvT hZ (g_ hw 133 rfl)) (by decide) (backOf (W := 0) (rm_gb3 l Z a0 hw [] z a2 t2 t k2 kb b0 b1 b2 h0 n0 Z0 O SC hz E2 G1 G2 B1 A1 gt ne) hZ (g_ hw 135 rfl) (g_ hw 7 rfl) (by decide) (by decide)) q104a q104c (g := (mkF m 15 #[.val (.ref a1), .val (.int (17 : Int32)), .val (.ref a2)] [(.int (0 : Int32)), (.int (17 : Int32)), (.ref t), (.ref a2)])) rfl (by rw [hml]; rfl) (Steps.refl _) (argsL := [(.ref t), (.int (17 : Int32)), (.int (0 : Int32))]) (rest := []) (lenOf own_pd8 rfl) rfl (by show 2 * 0 + _ ≤ _; exact Nat.le_of_eq rfl) (dE 9 rfl) (fun _ _ => ⟨rfl, e103, (by decide : 0 + 0 ≤ _), (by decide : 0 + 0 ≤ _)⟩)) fun v104 T104 L104 X104 hQ104 => ?_
  obtain ⟨rfl, Nq104, K104, V104⟩ := hQ104
  have N104 := Fr.app N101 Nq104
  show own_Go p e below Pst (T104.setTop (mkF m 18 #[.val (.ref a1), .val (.int (17 : Int32)), .val (.ref a2)] []))
  have c105 := (Keep.trans (Keep.refl h0 [t]) K104 (allS (Or.inl (List.mem_of_getElem? (i := 0) rfl)) all0))
  rw [hPst]
  exact own_retP X104 (v := none) (Q := Q_psa3 Z z a1 t a2 t2 kb k2 b0 b1 b2 h0 n0) (fun _ => rfl) Bd.notSynchronized (fun fs hr => X104.returnOut hx Bd.returns (dE 10 rfl) hr) (by decide) (by decide) ⟨rfl, N104, c105, V104⟩
def Q_aa3 (Z : State) (z : Int32) (a1 t a2 t2 : Addr) (kb k2 : ClassId) (b0 b1 b2 : Int32) (h0 : Heap) (n0 : Nat) (v : Option Value) (h : Heap) (L : List Loc) : Prop := v = some (.ref a1) ∧ Fr n0 L ∧ Keep h0 h [a1, t] ∧ Exa Z h a1 "java/lang/StringBuilder" ∧ Fld Z h a1 "java/lang/AbstractStringBuilder" "coder" "B" (.int (0 : Int32)) ∧ Fld Z h a1 "java/lang/AbstractStringBuilder" "count" "I" (.int (20 : Int32)) ∧ Fld Z h a1 "java/lang/AbstractStringBuilder" "value" "[B" (.ref t) ∧ Arv Z h t kb .byte (34 : Int32) (own_nw3 b0 b1 b2) (.int 0)
theorem rm_aa3 (l : Launch) (Z : State) (a0 : Array Value) (hw : own_H a0 Z) (ws : List Jvm.Cond) (z : Int32) (a1 t a2 t2 : Addr) (kb k2 : ClassId) (b0 b1 b2 : Int32) (h0 : Heap) (n0 : Nat) (Z0 : n0 ≤ h0.size) (O : Old Z n0 h0) (SC : Sta Z Z.heap "java/lang/String" "COMPACT_STRINGS" "Z" (.int z)) (hz : ¬ z = 0) (E1 : Exa Z h0 a1 "java/lang/StringBuilder") (F1 : Fld Z h0 a1 "java/lang/AbstractStringBuilder" "value" "[B" (.ref t)) (F2 : Fld Z h0 a1 "java/lang/AbstractStringBuilder" "coder" "B" (.int (0 : Int32))) (F3 : Fld Z h0 a1 "java/lang/AbstractStringBuilder" "count" "I" (.int (17 : Int32))) (A1 : Arv Z h0 t kb .byte (34 : Int32) own_n1 (.int 0)) (E2 : Exa Z h0 a2 "java/lang/String") (G1 : Fld Z h0 a2 "java/lang/String" "value" "[B" (.ref t2)) (G2 : Fld Z h0 a2 "java/lang/String" "coder" "B" (.int 0)) (B1 : Arv Z h0 t2 k2 .byte (3 : Int32) [(.int b0), (.int b1), (.int b2)] (.int 0)) (g1 : n0 ≤ a1) (gt : n0 ≤ t) (ne1 : a2 ≠ a1) (ne2 : t2 ≠ t) : own_MP l Mn7 jdk_68_method_22_code 3 (some (.object "java/lang/AbstractStringBuilder")) ws ({ frames := 4, cells := 0, slots := 0, locals := 70 } : Room) Z h0 #[(.ref a1), (.ref a2)] (fun _ _ _ _ _ => True) (Q_aa3 Z z a1 t a2 t2 kb k2 b0 b1 b2 h0 n0) := by
  refine own_startP (plainFor_of_name own_pn_java_lang_AbstractStringBuilder) fun p e s m below meth c s₁ Bd hx hby hml hown0 X0 e0 hh0 hZ hK Pst hPst => ?_
  have dE := own_E hby own_D13
  have hown : s.vm.findClass "java/lang/AbstractStringBuilder" = some m.cls := hown0
  have hnm := (name_of_methodNamed Bd.named Bd.method).1
  have N0 := Fr.nil n0
  rw [own_ef_RR_3 m a1 a2]
  have ne3 : t ≠ a1 := Ne.symm (Exa.neArv E1 A1 (g_ hw 47 rfl))
  have ne4 : t2 ≠ a1 := Ne.symm (Exa.neArv E1 B1 (g_ hw 47 rfl))
  have ne5 : a2 ≠ t := Exa.neArv E2 A1 (g_ hw 6 rfl)
  refine o_aloadN X0.here hx (dE 0 rfl) rfl rfl ?_
  refine o_ifnonnullYes X0.here hx (pc0 := 1) (pc' := 9) rfl (dE 1 rfl) rfl (by decide) (by decide) ?_
  refine o_aloadN X0.here hx (dE 2 rfl) rfl rfl ?_
  obtain ⟨cq101, kq101, q101a, q101b, q101c⟩ := isOf hZ e0 E2
  refine own_cP X0 (X0.virtualBack hx (y := Mn8) (z := Mn8) hown (mvT hZ (g_ hw 77 rfl)) (mvT hZ (g_ hw 78 rfl)) (notFace_of_selects (args := #[]) (mvT hZ (g_ hw 80 rfl))) (mvT hZ (g_ hw 80 rfl)) (mvT hZ (g_ hw 79 rfl)) (by decide) (backOf (W := 0) (rm_len l Z a0 hw [] z a2 t2 k2 0 (3 : Int32) [(.int b0), (.int b1), (.int b2)] (.int 0) h0 n0 Z0 O SC hz E2 G2 G1 B1) hZ (g_ hw 81 rfl) (g_ hw 7 rfl) (by decide) (by decide)) q101a q101c (g := (mkF m 10 #[.val (.ref a1), .val (.ref a2), .unset] [(.ref a2)])) rfl (by rw [hml]; rfl) (Steps.refl _) (argsL := []) (rest := []) (lenOf own_pd9 rfl) rfl (by show 2 * 0 + _ ≤ _; exact Nat.le_of_eq rfl) (dE 3 rfl) (fun _ _ => ⟨rfl, e0, (by decide : 0 + 0 ≤ _), (by decide : 0 + 0 ≤ _)⟩)) fun v101 T101 L101 X101 hQ101 => ?_
  obtain ⟨rfl, Nq101, e101⟩ := hQ101
  have N101 := Fr.app N0 Nq101
  show own_Go p e below Pst (T101.setTop (mkF m 13 #[.val (.ref a1), .val (.ref a2), .unset] [(.int ((3 : Int32) >>> (nar .byte 0 &&& 31)))]))
  rw [show ((3 : Int32) >>> (nar .byte 0 &&& 31)) = (3 : Int32) from by decide]
  show own_Go p e below Pst (T101.setTop (mkF m 13 #[.val (.ref a1), .val (.ref a2), .unset] [(.int (3 : Int32))]))
  refine o_istoreN X101.here hx (dE 4 rfl) rfl (l' := #[.val (.ref a1), .val (.ref a2), .val (.int (3 : Int32))]) rfl ?_
  refine o_aloadN X101.here hx (dE 5 rfl) rfl rfl ?_
  refine o_aloadN X101.here hx (dE 6 rfl) rfl rfl ?_
  refine p_getF X101 hx hZ hown (host := "") (Or.inl (g_ hw 87 rfl)) Via.refl e101 F3 rfl (dE 7 rfl) fun T102 X102 e102 => ?_
  refine o_iloadN X102.here hx (dE 8 rfl) rfl ?_
  refine o_iadd X102.here hx (dE 9 rfl) rfl ?_
  rw [show ((17 : Int32) + (3 : Int32)) = (20 : Int32) from by decide]
  show own_Go p e below Pst (T102.setTop (mkF m 21 #[.val (.ref a1), .val (.ref a2), .val (.int (3 : Int32))] [(.int (20 : Int32)), (.ref a1)]))
  obtain ⟨cq103, kq103, q103a, q103b, q103c⟩ := isOf hZ e102 E1
  refine own_cP X102 (X102.virtualBack hx (y := Mn5) (z := Mn5) hown (mvT hZ (g_ hw 89 rfl)) (mvT hZ (own_decl (g_ hw 90 rfl) (g_ hw 93 rfl))) (notFace_of_selects (args := #[]) (mvT hZ (g_ hw 92 rfl))) (mvT hZ (g_ hw 92 rfl)) (mvT hZ (g_ hw 90 rfl)) (by decide) (backOf (W := 0) (rm_ecn l Z a0 hw [] a1 t kb own_n1 (20 : Int32) h0 n0 Z0 F1 F2 A1 (by decide)) hZ (g_ hw 93 rfl) (g_ hw 56 rfl) (by decide) (by decide)) q103a q103c (g := (mkF m 21 #[.val (.ref a1), .val (.ref a2), .val (.int (3 : Int32))] [(.int (20 : Int32)), (.ref a1)])) rfl (by rw [hml]; rfl) (Steps.refl _) (argsL := [(.int (20 : Int32))]) (rest := []) (lenOf own_pd2 rfl) rfl (by show 2 * 0 + _ ≤ _; exact Nat.le_of_eq rfl) (dE 10 rfl) (fun _ _ => ⟨rfl, e102, (by decide : 0 + 0 ≤ _), (by decide : 0 + 0 ≤ _)⟩)) fun v103 T103 L103 X103 hQ103 => ?_
  obtain ⟨rfl, Nq103, e103⟩ := hQ103
  have N103 := Fr.app N101 Nq103
  show own_Go p e below Pst (T103.setTop (mkF m 24 #[.val (.ref a1), .val (.ref a2), .val (.int (3 : Int32))] []))
  refine o_aloadN X103.here hx (dE 11 rfl) rfl rfl ?_
  refine o_aloadN X103.here hx (dE 12 rfl) rfl rfl ?_
  refine p_getF X103 hx hZ hown (host := "") (Or.inl (g_ hw 87 rfl)) Via.refl e103 F3 rfl (dE 13 rfl) fun T104 X104 e104 => ?_
  refine o_aloadN X104.here hx (dE 14 rfl) rfl rfl ?_
  obtain ⟨cq105, kq105, q105a, q105b, q105c⟩ := isOf hZ e104 E1
  refine own_cP X104 (X104.virtualBack hx (y := Mn3) (z := Mn3) hown (mvT hZ (g_ hw 120 rfl)) (mvT hZ (own_decl (g_ hw 121 rfl) (g_ hw 124 rfl))) (notFace_of_selects (args := #[]) (mvT hZ (g_ hw 123 rfl))) (mvT hZ (g_ hw 123 rfl)) (mvT hZ (g_ hw 121 rfl)) (by decide) (backOf (W := 0) (rm_psa3 l Z a0 hw [] z a1 t a2 t2 kb k2 b0 b1 b2 h0 n0 Z0 O SC hz E1 F1 F2 A1 E2 G1 G2 B1 gt ne2) hZ (g_ hw 124 rfl) (g_ hw 56 rfl) (by decide) (by decide)) q105a q105c (g := (mkF m 30 #[.val (.ref a1), .val (.ref a2), .val (.int (3 : Int32))] [(.ref a2), (.int (17 : Int32)), (.ref a1)])) rfl (by rw [hml]; rfl) (Steps.refl _) (argsL := [(.int (17 : Int32)), (.ref a2)]) (rest := []) (lenOf own_pd10 rfl) rfl (by show 2 * 0 + _ ≤ _; exact Nat.le_of_eq rfl) (dE 15 rfl) (fun _ _ => ⟨rfl, e104, (by decide : 0 + 0 ≤ _), (by decide : 0 + 0 ≤ _)⟩)) fun v105 T105 L105 X105 hQ105 => ?_
  obtain ⟨rfl, Nq105, K105, V105⟩ := hQ105
  have N105 := Fr.app N103 Nq105
  show own_Go p e below Pst (T105.setTop (mkF m 33 #[.val (.ref a1), .val (.ref a2), .val (.int (3 : Int32))] []))
  refine o_aloadN X105.here hx (dE 16 rfl) rfl rfl ?_
  refine o_dup X105.here hx (dE 17 rfl) rfl rfl ?_
  have c106 := (F3.keep K105 (ninS ne3.symm nin0))
  refine p_getF X105 hx hZ hown (host := "") (Or.inl (g_ hw 87 rfl)) Via.refl rfl c106 rfl (dE 18 rfl) fun T107 X107 e107 => ?_
  refine o_iloadN X107.here hx (dE 19 rfl) rfl ?_
  refine o_iadd X107.here hx (dE 20 rfl) rfl ?_
  rw [show ((17 : Int32) + (3 : Int32)) = (20 : Int32) from by decide]
  show own_Go p e below Pst (T107.setTop (mkF m 40 #[.val (.ref a1), .val (.ref a2), .val (.int (3 : Int32))] [(.int (20 : Int32)), (.ref a1)]))
  have c108 := (E1.keep K105)
  refine p_putF X107 hx hZ hown (host := "") (Or.inl (g_ hw 87 rfl)) Via.refl e107 c106 c108 (Or.inl (g_ hw 88 rfl)) (g_ hw 47 rfl) (ty := .int) (by decide) rfl rfl rfl (dE 21 rfl) fun T109 h109 X109 e109 W109 => ?_
  have Fw109 := Fld.same W109 c106
  have N109 := Fr.snoc X109 N105 g1
  refine o_aloadN X109.here hx (dE 22 rfl) rfl rfl ?_
  have c110 := ((Keep.trans (Keep.refl h0 [a1, t]) K105 (allS (Or.inl (List.mem_of_getElem? (i := 1) rfl)) all0)).wr W109 (Or.inl (List.mem_of_getElem? (i := 0) rfl)))
  have c111 := (c108.wr W109)
  have c112 := ((F2.keep K105 (ninS ne3.symm nin0)).other W109 (Or.inr (slot_ne (Or.inl (g_ hw 63 rfl)) (Or.inl (g_ hw 88 rfl)) (by decide) (t := .byte) (t' := .int) (by decide) (by decide))))
  have c113 := ((F1.keep K105 (ninS ne3.symm nin0)).other W109 (Or.inr (slot_ne (Or.inl (g_ hw 61 rfl)) (Or.inl (g_ hw 88 rfl)) (by decide) (t := (.array .byte)) (t' := .int) (by decide) (by decide))))
  have c114 := (V105.other W109 ne3)
  rw [hPst]
  exact own_retP X109 (v := (some (.ref a1))) (Q := Q_aa3 Z z a1 t a2 t2 kb k2 b0 b1 b2 h0 n0) (fun h => by rw [Bd.returns] at h; cases h) Bd.notSynchronized (fun fs hr => retOut X109 hx Bd.returns rfl (Or.inr (Or.inr (Or.inr (Or.inr ⟨rfl, rfl, rfl⟩)))) (dE 23 rfl) hr) (by decide) (by decide) (by rw [e109]; exact ⟨rfl, N109, c110, c111, c112, Fw109, c113, c114⟩)
def Q_sa3 (Z : State) (z : Int32) (a1 t a2 t2 : Addr) (kb k2 : ClassId) (b0 b1 b2 : Int32) (h0 : Heap) (n0 : Nat) (v : Option Value) (h : Heap) (L : List Loc) : Prop := v = some (.ref a1) ∧ Fr n0 L ∧ Keep h0 h [a1, t] ∧ Exa Z h a1 "java/lang/StringBuilder" ∧ Fld Z h a1 "java/lang/AbstractStringBuilder" "coder" "B" (.int (0 : Int32)) ∧ Fld Z h a1 "java/lang/AbstractStringBuilder" "count" "I" (.int (20 : Int32)) ∧ Fld Z h a1 "java/lang/AbstractStringBuilder" "value" "[B" (.ref t) ∧ Arv Z h t kb .byte (34 : Int32) (own_nw3 b0 b1 b2) (.int 0)
theorem rm_sa3 (l : Launch) (Z : State) (a0 : Array Value) (hw : own_H a0 Z) (ws : List Jvm.Cond) (z : Int32) (a1 t a2 t2 : Addr) (kb k2 : ClassId) (b0 b1 b2 : Int32) (h0 : Heap) (n0 : Nat) (Z0 : n0 ≤ h0.size) (O : Old Z n0 h0) (SC : Sta Z Z.heap "java/lang/String" "COMPACT_STRINGS" "Z" (.int z)) (hz : ¬ z = 0) (E1 : Exa Z h0 a1 "java/lang/StringBuilder") (F1 : Fld Z h0 a1 "java/lang/AbstractStringBuilder" "value" "[B" (.ref t)) (F2 : Fld Z h0 a1 "java/lang/AbstractStringBuilder" "coder" "B" (.int (0 : Int32))) (F3 : Fld Z h0 a1 "java/lang/AbstractStringBuilder" "count" "I" (.int (17 : Int32))) (A1 : Arv Z h0 t kb .byte (34 : Int32) own_n1 (.int 0)) (E2 : Exa Z h0 a2 "java/lang/String") (G1 : Fld Z h0 a2 "java/lang/String" "value" "[B" (.ref t2)) (G2 : Fld Z h0 a2 "java/lang/String" "coder" "B" (.int 0)) (B1 : Arv Z h0 t2 k2 .byte (3 : Int32) [(.int b0), (.int b1), (.int b2)] (.int 0)) (g1 : n0 ≤ a1) (gt : n0 ≤ t) (ne1 : a2 ≠ a1) (ne2 : t2 ≠ t) : own_MP l Mn0 jdk_67_method_7_code 2 (some (.object "java/lang/StringBuilder")) ws ({ frames := 5, cells := 0, slots := 0, locals := 86 } : Room) Z h0 #[(.ref a1), (.ref a2)] (fun _ _ _ _ _ => True) (Q_sa3 Z z a1 t a2 t2 kb k2 b0 b1 b2 h0 n0) := by
  refine own_startP (plainFor_of_name own_pn_java_lang_StringBuilder) fun p e s m below meth c s₁ Bd hx hby hml hown0 X0 e0 hh0 hZ hK Pst hPst => ?_
  have dE := own_E hby own_D12
  have hown : s.vm.findClass "java/lang/StringBuilder" = some m.cls := hown0
  have hnm := (name_of_methodNamed Bd.named Bd.method).1
  have N0 := Fr.nil n0
  rw [own_ef_RR_2 m a1 a2]
  have ne3 : t ≠ a1 := Ne.symm (Exa.neArv E1 A1 (g_ hw 47 rfl))
  have ne4 : t2 ≠ a1 := Ne.symm (Exa.neArv E1 B1 (g_ hw 47 rfl))
  have ne5 : a2 ≠ t := Exa.neArv E2 A1 (g_ hw 6 rfl)
  refine o_aloadN X0.here hx (dE 0 rfl) rfl rfl ?_
  refine o_aloadN X0.here hx (dE 1 rfl) rfl rfl ?_
  refine own_cP X0 (superBack X0 hx hZ (y := Mn7) hown (g_ hw 72 rfl) (own_sameM (g_ hw 92 rfl) (g_ hw 73 rfl) rfl (by decide)) (g_ hw 73 rfl) (g_ hw 74 rfl) (by decide) (backOf (W := 0) (rm_aa3 l Z a0 hw [] z a1 t a2 t2 kb k2 b0 b1 b2 h0 n0 Z0 O SC hz E1 F1 F2 F3 A1 E2 G1 G2 B1 g1 gt ne1 ne2) hZ (g_ hw 76 rfl) (g_ hw 56 rfl) (by decide) (by decide)) e0 (Ins.self E1) (g := (mkF m 2 #[.val (.ref a1), .val (.ref a2)] [(.ref a2), (.ref a1)])) rfl (by rw [hml]; rfl) (g_ hw 76 rfl) (argsL := [(.ref a2)]) (rest := []) (lenOf own_pd11 rfl) rfl (by show 2 * 0 + _ ≤ _; exact Nat.le_of_eq rfl) (dE 2 rfl) (fun _ _ => ⟨rfl, e0, (by decide : 0 + 0 ≤ _), (by decide : 0 + 0 ≤ _)⟩)) fun v101 T101 L101 X101 hQ101 => ?_
  obtain ⟨rfl, Nq101, K101, A101, C101, D101, V101, B101⟩ := hQ101
  have N101 := Fr.app N0 Nq101
  show own_Go p e below Pst (T101.setTop (mkF m 5 #[.val (.ref a1), .val (.ref a2)] [(.ref a1)]))
  refine o_pop X101.here hx (dE 3 rfl) rfl rfl ?_
  refine o_aloadN X101.here hx (dE 4 rfl) rfl rfl ?_
  have c102 := (Keep.trans (Keep.refl h0 [a1, t]) K101 (allS (Or.inl (List.mem_of_getElem? (i := 0) rfl)) (allS (Or.inl (List.mem_of_getElem? (i := 1) rfl)) all0)))
  rw [hPst]
  exact own_retP X101 (v := (some (.ref a1))) (Q := Q_sa3 Z z a1 t a2 t2 kb k2 b0 b1 b2 h0 n0) (fun h => by rw [Bd.returns] at h; cases h) Bd.notSynchronized (fun fs hr => retOut X101 hx Bd.returns rfl (Or.inr (Or.inr (Or.inr (Or.inr ⟨rfl, rfl, rfl⟩)))) (dE 5 rfl) hr) (by decide) (by decide) ⟨rfl, N101, c102, A101, C101, D101, V101, B101⟩
def Q_bl (Z : State) (z : Int32) (a1 : Addr) (h0 : Heap) (n0 : Nat) (v : Option Value) (h : Heap) (L : List Loc) : Prop := v = some (.int 1) ∧ Fr n0 L ∧ h = h0
theorem rm_bl (l : Launch) (Z : State) (a0 : Array Value) (hw : own_H a0 Z) (ws : List Jvm.Cond) (z : Int32) (a1 : Addr) (h0 : Heap) (n0 : Nat) (Z0 : n0 ≤ h0.size) (O : Old Z n0 h0) (SC : Sta Z Z.heap "java/lang/String" "COMPACT_STRINGS" "Z" (.int z)) (hz : ¬ z = 0) (F2 : Fld Z h0 a1 "java/lang/AbstractStringBuilder" "coder" "B" (.int (0 : Int32))) : own_MP l Mn6 jdk_68_method_68_code 1 (some .boolean) ws ({ frames := 0, cells := 0, slots := 0, locals := 0 } : Room) Z h0 #[(.ref a1)] (fun _ _ _ _ _ => True) (Q_bl Z z a1 h0 n0) := by
  refine own_startP (plainFor_of_name own_pn_java_lang_AbstractStringBuilder) fun p e s m below meth c s₁ Bd hx hby hml hown0 X0 e0 hh0 hZ hK Pst hPst => ?_
  have dE := own_E hby own_D31
  have hown : s.vm.findClass "java/lang/AbstractStringBuilder" = some m.cls := hown0
  have hnm := (name_of_methodNamed Bd.named Bd.method).1
  have N0 := Fr.nil n0
  rw [own_ef_R_1 m a1]
  refine p_getS2 X0 hx hZ hown (host := "") (Or.inl (g_ hw 59 rfl)) Via.refl e0 (SC.ext O.2) (dE 0 rfl) fun T101 X101 e101 => ?_
  refine o_ifNo X101.here hx (dE 1 rfl) rfl ((if0 _ _).trans (feq hz).1) ?_
  refine o_aloadN X101.here hx (dE 2 rfl) rfl rfl ?_
  refine p_getF X101 hx hZ hown (host := "") (Or.inl (g_ hw 62 rfl)) Via.refl e101 F2 rfl (dE 3 rfl) fun T102 X102 e102 => ?_
  refine o_ifNo X102.here hx (dE 4 rfl) rfl ((if0 _ _).trans (teq rfl).2) ?_
  refine o_iconst X102.here hx (dE 5 rfl) (z := (1 : Int32)) rfl ?_
  refine o_goto X102.here hx (pc0 := 14) (pc' := 18) rfl (dE 6 rfl) (by decide) (by decide) ?_
  rw [hPst]
  exact own_retP X102 (v := (some (.int (nar .boolean (1 : Int32))))) (Q := Q_bl Z z a1 h0 n0) (fun h => by rw [Bd.returns] at h; cases h) Bd.notSynchronized (fun fs hr => retN X102 hx (t := .boolean) Bd.returns (by simp) (dE 7 rfl) hr) (by decide) (by decide) (by rw [e102]; exact ⟨rfl, N0, rfl⟩)
theorem own_pd12 : parseMethodDescriptor "()Z" = some ⟨[], some .boolean⟩ := by decide +kernel
theorem own_ef_R_3 (m : MethodId) (x0 : Addr) : entryFrame m #[(.ref x0)] 3 = mkF m 0 #[.val (.ref x0), .unset, .unset] [] := by first | (simp [entryFrame, mkF, argsToLocals, Value.category]; done) | rfl
def Q_an (Z : State) (z : Int32) (a1 t : Addr) (kb : ClassId) (h0 : Heap) (n0 : Nat) (v : Option Value) (h : Heap) (L : List Loc) : Prop := v = some (.ref a1) ∧ Fr n0 L ∧ Keep h0 h [a1, t] ∧ Exa Z h a1 "java/lang/StringBuilder" ∧ Fld Z h a1 "java/lang/AbstractStringBuilder" "coder" "B" (.int (0 : Int32)) ∧ Fld Z h a1 "java/lang/AbstractStringBuilder" "count" "I" (.int (21 : Int32)) ∧ Fld Z h a1 "java/lang/AbstractStringBuilder" "value" "[B" (.ref t) ∧ Arv Z h t kb .byte (34 : Int32) own_nn (.int 0)
theorem rm_an (l : Launch) (Z : State) (a0 : Array Value) (hw : own_H a0 Z) (ws : List Jvm.Cond) (z : Int32) (a1 t : Addr) (kb : ClassId) (h0 : Heap) (n0 : Nat) (Z0 : n0 ≤ h0.size) (O : Old Z n0 h0) (SC : Sta Z Z.heap "java/lang/String" "COMPACT_STRINGS" "Z" (.int z)) (hz : ¬ z = 0) (E1 : Exa Z h0 a1 "java/lang/StringBuilder") (F1 : Fld Z h0 a1 "java/lang/AbstractStringBuilder" "value" "[B" (.ref t)) (F2 : Fld Z h0 a1 "java/lang/AbstractStringBuilder" "coder" "B" (.int (0 : Int32))) (F3 : Fld Z h0 a1 "java/lang/AbstractStringBuilder" "count" "I" (.int (17 : Int32))) (A1 : Arv Z h0 t kb .byte (34 : Int32) own_n1 (.int 0)) (g1 : n0 ≤ a1) (gt : n0 ≤ t) : own_MP l Mn27 jdk_68_method_26_code 3 (some (.object "java/lang/AbstractStringBuilder")) ws ({ frames := 1, cells := 0, slots := 0, locals := 16 } : Room) Z h0 #[(.ref a1)] (fun _ _ _ _ _ => True) (Q_an Z z a1 t kb h0 n0) := by
  refine own_startP (plainFor_of_name own_pn_java_lang_AbstractStringBuilder) fun p e s m below meth c s₁ Bd hx hby hml hown0 X0 e0 hh0 hZ hK Pst hPst => ?_
  have dE := own_E hby own_D47
  have hown : s.vm.findClass "java/lang/AbstractStringBuilder" = some m.cls := hown0
  have hnm := (name_of_methodNamed Bd.named Bd.method).1
  have N0 := Fr.nil n0
  rw [own_ef_R_3 m a1]
  have ne3 : t ≠ a1 := Ne.symm (Exa.neArv E1 A1 (g_ hw 47 rfl))
  refine o_aloadN X0.here hx (dE 0 rfl) rfl rfl ?_
  refine o_aloadN X0.here hx (dE 1 rfl) rfl rfl ?_
  refine p_getF X0 hx hZ hown (host := "") (Or.inl (g_ hw 87 rfl)) Via.refl e0 F3 rfl (dE 2 rfl) fun T101 X101 e101 => ?_
  refine o_iconst X101.here hx (dE 3 rfl) (z := (4 : Int32)) rfl ?_
  refine o_iadd X101.here hx (dE 4 rfl) rfl ?_
  rw [show ((17 : Int32) + (4 : Int32)) = (21 : Int32) from by decide]
  show own_Go p e below Pst (T101.setTop (mkF m 7 #[.val (.ref a1), .unset, .unset] [(.int (21 : Int32)), (.ref a1)]))
  obtain ⟨cq102, kq102, q102a, q102b, q102c⟩ := isOf hZ e101 E1
  refine own_cP X101 (X101.virtualBack hx (y := Mn5) (z := Mn5) hown (mvT hZ (g_ hw 89 rfl)) (mvT hZ (own_decl (g_ hw 90 rfl) (g_ hw 93 rfl))) (notFace_of_selects (args := #[]) (mvT hZ (g_ hw 92 rfl))) (mvT hZ (g_ hw 92 rfl)) (mvT hZ (g_ hw 90 rfl)) (by decide) (backOf (W := 0) (rm_ecn l Z a0 hw [] a1 t kb own_n1 (21 : Int32) h0 n0 Z0 F1 F2 A1 (by decide)) hZ (g_ hw 93 rfl) (g_ hw 56 rfl) (by decide) (by decide)) q102a q102c (g := (mkF m 7 #[.val (.ref a1), .unset, .unset] [(.int (21 : Int32)), (.ref a1)])) rfl (by rw [hml]; rfl) (Steps.refl _) (argsL := [(.int (21 : Int32))]) (rest := []) (lenOf own_pd2 rfl) rfl (by show 2 * 0 + _ ≤ _; exact Nat.le_of_eq rfl) (dE 5 rfl) (fun _ _ => ⟨rfl, e101, (by decide : 0 + 0 ≤ _), (by decide : 0 + 0 ≤ _)⟩)) fun v102 T102 L102 X102 hQ102 => ?_
  obtain ⟨rfl, Nq102, e102⟩ := hQ102
  have N102 := Fr.app N0 Nq102
  show own_Go p e below Pst (T102.setTop (mkF m 10 #[.val (.ref a1), .unset, .unset] []))
  refine o_aloadN X102.here hx (dE 6 rfl) rfl rfl ?_
  refine p_getF X102 hx hZ hown (host := "") (Or.inl (g_ hw 87 rfl)) Via.refl e102 F3 rfl (dE 7 rfl) fun T103 X103 e103 => ?_
  refine o_istoreN X103.here hx (dE 8 rfl) rfl (l' := #[.val (.ref a1), .val (.int (17 : Int32)), .unset]) rfl ?_
  refine o_aloadN X103.here hx (dE 9 rfl) rfl rfl ?_
  refine p_getF X103 hx hZ hown (host := "") (Or.inl (g_ hw 60 rfl)) Via.refl e103 F1 rfl (dE 10 rfl) fun T104 X104 e104 => ?_
  refine o_astoreN X104.here hx (dE 11 rfl) rfl rfl (l' := #[.val (.ref a1), .val (.int (17 : Int32)), .val (.ref t)]) rfl ?_
  refine o_aloadN X104.here hx (dE 12 rfl) rfl rfl ?_
  obtain ⟨cq105, kq105, q105a, q105b, q105c⟩ := isOf hZ e104 E1
  refine own_cP X104 (X104.virtualBack hx (y := Mn6) (z := Mn6) hown (mvT hZ (g_ hw 274 rfl)) (mvT hZ (g_ hw 163 rfl)) (notFace_of_selects (args := #[]) (mvT hZ (g_ hw 165 rfl))) (mvT hZ (g_ hw 165 rfl)) (mvT hZ (g_ hw 164 rfl)) (by decide) (backOf (W := 0) (rm_bl l Z a0 hw [] z a1 h0 n0 Z0 O SC hz F2) hZ (g_ hw 166 rfl) (g_ hw 56 rfl) (by decide) (by decide)) q105a q105c (g := (mkF m 21 #[.val (.ref a1), .val (.int (17 : Int32)), .val (.ref t)] [(.ref a1)])) rfl (by rw [hml]; rfl) (Steps.refl _) (argsL := []) (rest := []) (lenOf own_pd12 rfl) rfl (by show 2 * 0 + _ ≤ _; exact Nat.le_of_eq rfl) (dE 13 rfl) (fun _ _ => ⟨rfl, e104, (by decide : 0 + 0 ≤ _), (by decide : 0 + 0 ≤ _)⟩)) fun v105 T105 L105 X105 hQ105 => ?_
  obtain ⟨rfl, Nq105, e105⟩ := hQ105
  have N105 := Fr.app N102 Nq105
  show own_Go p e below Pst (T105.setTop (mkF m 24 #[.val (.ref a1), .val (.int (17 : Int32)), .val (.ref t)] [(.int (1 : Int32))]))
  refine o_ifNo X105.here hx (dE 14 rfl) rfl ((if0 _ _).trans (feq (by decide)).1) ?_
  refine o_aloadN X105.here hx (dE 15 rfl) rfl rfl ?_
  refine o_iloadN X105.here hx (dE 16 rfl) rfl ?_
  refine o_iinc X105.here hx (dE 17 rfl) rfl (l' := #[.val (.ref a1), .val (.int ((17 : Int32) + (1 : Int32))), .val (.ref t)]) rfl ?_
  rw [show ((17 : Int32) + (1 : Int32)) = (18 : Int32) from by decide]
  show own_Go p e below Pst (T105.setTop (mkF m 32 #[.val (.ref a1), .val (.int (18 : Int32)), .val (.ref t)] [(.int (17 : Int32)), (.ref t)]))
  refine o_bipush X105.here hx (dE 18 rfl) (z := (110 : Int32)) rfl ?_
  refine p_arB X105 hx hZ e105 A1 (17 : Int32) 17 ⟨by decide, by decide⟩ rfl (Nat.le_of_ble_eq_true rfl) rfl (dE 19 rfl) fun T106 h106 X106 e106 W106 V106 => ?_
  have N106 := Fr.snoc X106 N105 gt
  refine o_aloadN X106.here hx (dE 20 rfl) rfl rfl ?_
  refine o_iloadN X106.here hx (dE 21 rfl) rfl ?_
  refine o_iinc X106.here hx (dE 22 rfl) rfl (l' := #[.val (.ref a1), .val (.int ((18 : Int32) + (1 : Int32))), .val (.ref t)]) rfl ?_
  rw [show ((18 : Int32) + (1 : Int32)) = (19 : Int32) from by decide]
  show own_Go p e below Pst (T106.setTop (mkF m 40 #[.val (.ref a1), .val (.int (19 : Int32)), .val (.ref t)] [(.int (18 : Int32)), (.ref t)]))
  refine o_bipush X106.here hx (dE 23 rfl) (z := (117 : Int32)) rfl ?_
  refine p_arB X106 hx hZ e106 V106 (18 : Int32) 18 ⟨by decide, by decide⟩ rfl (Nat.le_of_ble_eq_true rfl) rfl (dE 24 rfl) fun T107 h107 X107 e107 W107 V107 => ?_
  have N107 := Fr.snoc X107 N106 gt
  refine o_aloadN X107.here hx (dE 25 rfl) rfl rfl ?_
  refine o_iloadN X107.here hx (dE 26 rfl) rfl ?_
  refine o_iinc X107.here hx (dE 27 rfl) rfl (l' := #[.val (.ref a1), .val (.int ((19 : Int32) + (1 : Int32))), .val (.ref t)]) rfl ?_
  rw [show ((19 : Int32) + (1 : Int32)) = (20 : Int32) from by decide]
  show own_Go p e below Pst (T107.setTop (mkF m 48 #[.val (.ref a1), .val (.int (20 : Int32)), .val (.ref t)] [(.int (19 : Int32)), (.ref t)]))
  refine o_bipush X107.here hx (dE 28 rfl) (z := (108 : Int32)) rfl ?_
  refine p_arB X107 hx hZ e107 V107 (19 : Int32) 19 ⟨by decide, by decide⟩ rfl (Nat.le_of_ble_eq_true rfl) rfl (dE 29 rfl) fun T108 h108 X108 e108 W108 V108 => ?_
  have N108 := Fr.snoc X108 N107 gt
  refine o_aloadN X108.here hx (dE 30 rfl) rfl rfl ?_
  refine o_iloadN X108.here hx (dE 31 rfl) rfl ?_
  refine o_iinc X108.here hx (dE 32 rfl) rfl (l' := #[.val (.ref a1), .val (.int ((20 : Int32) + (1 : Int32))), .val (.ref t)]) rfl ?_
  rw [show ((20 : Int32) + (1 : Int32)) = (21 : Int32) from by decide]
  show own_Go p e below Pst (T108.setTop (mkF m 56 #[.val (.ref a1), .val (.int (21 : Int32)), .val (.ref t)] [(.int (20 : Int32)), (.ref t)]))
  refine o_bipush X108.here hx (dE 33 rfl) (z := (108 : Int32)) rfl ?_
  refine p_arB X108 hx hZ e108 V108 (20 : Int32) 20 ⟨by decide, by decide⟩ rfl (Nat.le_of_ble_eq_true rfl) rfl (dE 34 rfl) fun T109 h109 X109 e109 W109 V109 => ?_
  have N109 := Fr.snoc X109 N108 gt
  refine o_goto X109.here hx (pc0 := 59) (pc' := 76) rfl (dE 35 rfl) (by decide) (by decide) ?_
  refine o_aloadN X109.here hx (dE 36 rfl) rfl rfl ?_
  refine o_iloadN X109.here hx (dE 37 rfl) rfl ?_
  have c110 := ((((E1.wr W106).wr W107).wr W108).wr W109)
  have c111 := ((((F3.other W106 (Or.inl (Ne.symm ne3))).other W107 (Or.inl (Ne.symm ne3))).other W108 (Or.inl (Ne.symm ne3))).other W109 (Or.inl (Ne.symm ne3)))
  refine p_putF X109 hx hZ hown (host := "") (Or.inl (g_ hw 87 rfl)) Via.refl e109 c111 c110 (Or.inl (g_ hw 88 rfl)) (g_ hw 47 rfl) (ty := .int) (by decide) rfl rfl rfl (dE 38 rfl) fun T112 h112 X112 e112 W112 => ?_
  have Fw112 := Fld.same W112 c111
  have N112 := Fr.snoc X112 N109 g1
  refine o_aloadN X112.here hx (dE 39 rfl) rfl rfl ?_
  have c113 := ((((((Keep.refl h0 [a1, t]).wr W106 (Or.inl (List.mem_of_getElem? (i := 1) rfl))).wr W107 (Or.inl (List.mem_of_getElem? (i := 1) rfl))).wr W108 (Or.inl (List.mem_of_getElem? (i := 1) rfl))).wr W109 (Or.inl (List.mem_of_getElem? (i := 1) rfl))).wr W112 (Or.inl (List.mem_of_getElem? (i := 0) rfl)))
  have c114 := (c110.wr W112)
  have c115 := (((((F2.other W106 (Or.inl (Ne.symm ne3))).other W107 (Or.inl (Ne.symm ne3))).other W108 (Or.inl (Ne.symm ne3))).other W109 (Or.inl (Ne.symm ne3))).other W112 (Or.inr (slot_ne (Or.inl (g_ hw 63 rfl)) (Or.inl (g_ hw 88 rfl)) (by decide) (t := .byte) (t' := .int) (by decide) (by decide))))
  have c116 := (((((F1.other W106 (Or.inl (Ne.symm ne3))).other W107 (Or.inl (Ne.symm ne3))).other W108 (Or.inl (Ne.symm ne3))).other W109 (Or.inl (Ne.symm ne3))).other W112 (Or.inr (slot_ne (Or.inl (g_ hw 61 rfl)) (Or.inl (g_ hw 88 rfl)) (by decide) (t := (.array .byte)) (t' := .int) (by decide) (by decide))))
  have c117 := (V109.other W112 ne3)
  rw [hPst]
  exact own_retP X112 (v := (some (.ref a1))) (Q := Q_an Z z a1 t kb h0 n0) (fun h => by rw [Bd.returns] at h; cases h) Bd.notSynchronized (fun fs hr => retOut X112 hx Bd.returns rfl (Or.inr (Or.inr (Or.inr (Or.inr ⟨rfl, rfl, rfl⟩)))) (dE 40 rfl) hr) (by decide) (by decide) (by rw [e112]; exact ⟨rfl, N112, c113, c114, c115, Fw112, c116, c117⟩)
theorem own_pd13 : parseMethodDescriptor "()Ljava/lang/AbstractStringBuilder;" = some ⟨[], some (.object "java/lang/AbstractStringBuilder")⟩ := by decide +kernel
theorem own_ef_RN_3 (m : MethodId) (x0 : Addr) : entryFrame m #[(.ref x0), .null] 3 = mkF m 0 #[.val (.ref x0), .val .null, .unset] [] := by first | (simp [entryFrame, mkF, argsToLocals, Value.category]; done) | rfl
def Q_aan (Z : State) (z : Int32) (a1 t : Addr) (kb : ClassId) (h0 : Heap) (n0 : Nat) (v : Option Value) (h : Heap) (L : List Loc) : Prop := v = some (.ref a1) ∧ Fr n0 L ∧ Keep h0 h [a1, t] ∧ Exa Z h a1 "java/lang/StringBuilder" ∧ Fld Z h a1 "java/lang/AbstractStringBuilder" "coder" "B" (.int (0 : Int32)) ∧ Fld Z h a1 "java/lang/AbstractStringBuilder" "count" "I" (.int (21 : Int32)) ∧ Fld Z h a1 "java/lang/AbstractStringBuilder" "value" "[B" (.ref t) ∧ Arv Z h t kb .byte (34 : Int32) own_nn (.int 0)
theorem rm_aan (l : Launch) (Z : State) (a0 : Array Value) (hw : own_H a0 Z) (ws : List Jvm.Cond) (z : Int32) (a1 t : Addr) (kb : ClassId) (h0 : Heap) (n0 : Nat) (Z0 : n0 ≤ h0.size) (O : Old Z n0 h0) (SC : Sta Z Z.heap "java/lang/String" "COMPACT_STRINGS" "Z" (.int z)) (hz : ¬ z = 0) (E1 : Exa Z h0 a1 "java/lang/StringBuilder") (F1 : Fld Z h0 a1 "java/lang/AbstractStringBuilder" "value" "[B" (.ref t)) (F2 : Fld Z h0 a1 "java/lang/AbstractStringBuilder" "coder" "B" (.int (0 : Int32))) (F3 : Fld Z h0 a1 "java/lang/AbstractStringBuilder" "count" "I" (.int (17 : Int32))) (A1 : Arv Z h0 t kb .byte (34 : Int32) own_n1 (.int 0)) (g1 : n0 ≤ a1) (gt : n0 ≤ t) : own_MP l Mn7 jdk_68_method_22_code 3 (some (.object "java/lang/AbstractStringBuilder")) ws ({ frames := 2, cells := 0, slots := 0, locals := 30 } : Room) Z h0 #[(.ref a1), .null] (fun _ _ _ _ _ => True) (Q_aan Z z a1 t kb h0 n0) := by
  refine own_startP (plainFor_of_name own_pn_java_lang_AbstractStringBuilder) fun p e s m below meth c s₁ Bd hx hby hml hown0 X0 e0 hh0 hZ hK Pst hPst => ?_
  have dE := own_E hby own_D13
  have hown : s.vm.findClass "java/lang/AbstractStringBuilder" = some m.cls := hown0
  have hnm := (name_of_methodNamed Bd.named Bd.method).1
  have N0 := Fr.nil n0
  rw [own_ef_RN_3 m a1]
  have ne3 : t ≠ a1 := Ne.symm (Exa.neArv E1 A1 (g_ hw 47 rfl))
  refine o_aloadN X0.here hx (dE 0 rfl) rfl rfl ?_
  refine o_ifnonnullNo X0.here hx (dE 1 rfl) rfl ?_
  refine o_aloadN X0.here hx (dE 24 rfl) rfl rfl ?_
  obtain ⟨cq101, kq101, q101a, q101b, q101c⟩ := isOf hZ e0 E1
  refine own_cP X0 (X0.virtualBack hx (y := Mn27) (z := Mn27) hown (mvT hZ (g_ hw 269 rfl)) (mvT hZ (own_decl (g_ hw 270 rfl) (g_ hw 273 rfl))) (notFace_of_selects (args := #[]) (mvT hZ (g_ hw 272 rfl))) (mvT hZ (g_ hw 272 rfl)) (mvT hZ (g_ hw 270 rfl)) (by decide) (backOf (W := 0) (rm_an l Z a0 hw [] z a1 t kb h0 n0 Z0 O SC hz E1 F1 F2 F3 A1 g1 gt) hZ (g_ hw 273 rfl) (g_ hw 56 rfl) (by decide) (by decide)) q101a q101c (g := (mkF m 5 #[.val (.ref a1), .val .null, .unset] [(.ref a1)])) rfl (by rw [hml]; rfl) (Steps.refl _) (argsL := []) (rest := []) (lenOf own_pd13 rfl) rfl (by show 2 * 0 + _ ≤ _; exact Nat.le_of_eq rfl) (dE 25 rfl) (fun _ _ => ⟨rfl, e0, (by decide : 0 + 0 ≤ _), (by decide : 0 + 0 ≤ _)⟩)) fun v101 T101 L101 X101 hQ101 => ?_
  obtain ⟨rfl, Nq101, K101, A101, C101, D101, V101, B101⟩ := hQ101
  have N101 := Fr.app N0 Nq101
  show own_Go p e below Pst (T101.setTop (mkF m 8 #[.val (.ref a1), .val .null, .unset] [(.ref a1)]))
  have c102 := (Keep.trans (Keep.refl h0 [a1, t]) K101 (allS (Or.inl (List.mem_of_getElem? (i := 0) rfl)) (allS (Or.inl (List.mem_of_getElem? (i := 1) rfl)) all0)))
  rw [hPst]
  exact own_retP X101 (v := (some (.ref a1))) (Q := Q_aan Z z a1 t kb h0 n0) (fun h => by rw [Bd.returns] at h; cases h) Bd.notSynchronized (fun fs hr => retOut X101 hx Bd.returns rfl (Or.inr (Or.inr (Or.inr (Or.inr ⟨rfl, rfl, rfl⟩)))) (dE 26 rfl) hr) (by decide) (by decide) ⟨rfl, N101, c102, A101, C101, D101, V101, B101⟩
theorem own_ef_RN_2 (m : MethodId) (x0 : Addr) : entryFrame m #[(.ref x0), .null] 2 = mkF m 0 #[.val (.ref x0), .val .null] [] := by first | (simp [entryFrame, mkF, argsToLocals, Value.category]; done) | rfl
def Q_san (Z : State) (z : Int32) (a1 t : Addr) (kb : ClassId) (h0 : Heap) (n0 : Nat) (v : Option Value) (h : Heap) (L : List Loc) : Prop := v = some (.ref a1) ∧ Fr n0 L ∧ Keep h0 h [a1, t] ∧ Exa Z h a1 "java/lang/StringBuilder" ∧ Fld Z h a1 "java/lang/AbstractStringBuilder" "coder" "B" (.int (0 : Int32)) ∧ Fld Z h a1 "java/lang/AbstractStringBuilder" "count" "I" (.int (21 : Int32)) ∧ Fld Z h a1 "java/lang/AbstractStringBuilder" "value" "[B" (.ref t) ∧ Arv Z h t kb .byte (34 : Int32) own_nn (.int 0)
theorem rm_san (l : Launch) (Z : State) (a0 : Array Value) (hw : own_H a0 Z) (ws : List Jvm.Cond) (z : Int32) (a1 t : Addr) (kb : ClassId) (h0 : Heap) (n0 : Nat) (Z0 : n0 ≤ h0.size) (O : Old Z n0 h0) (SC : Sta Z Z.heap "java/lang/String" "COMPACT_STRINGS" "Z" (.int z)) (hz : ¬ z = 0) (E1 : Exa Z h0 a1 "java/lang/StringBuilder") (F1 : Fld Z h0 a1 "java/lang/AbstractStringBuilder" "value" "[B" (.ref t)) (F2 : Fld Z h0 a1 "java/lang/AbstractStringBuilder" "coder" "B" (.int (0 : Int32))) (F3 : Fld Z h0 a1 "java/lang/AbstractStringBuilder" "count" "I" (.int (17 : Int32))) (A1 : Arv Z h0 t kb .byte (34 : Int32) own_n1 (.int 0)) (g1 : n0 ≤ a1) (gt : n0 ≤ t) : own_MP l Mn0 jdk_67_method_7_code 2 (some (.object "java/lang/StringBuilder")) ws ({ frames := 3, cells := 0, slots := 0, locals := 46 } : Room) Z h0 #[(.ref a1), .null] (fun _ _ _ _ _ => True) (Q_san Z z a1 t kb h0 n0) := by
  refine own_startP (plainFor_of_name own_pn_java_lang_StringBuilder) fun p e s m below meth c s₁ Bd hx hby hml hown0 X0 e0 hh0 hZ hK Pst hPst => ?_
  have dE := own_E hby own_D12
  have hown : s.vm.findClass "java/lang/StringBuilder" = some m.cls := hown0
  have hnm := (name_of_methodNamed Bd.named Bd.method).1
  have N0 := Fr.nil n0
  rw [own_ef_RN_2 m a1]
  have ne3 : t ≠ a1 := Ne.symm (Exa.neArv E1 A1 (g_ hw 47 rfl))
  refine o_aloadN X0.here hx (dE 0 rfl) rfl rfl ?_
  refine o_aloadN X0.here hx (dE 1 rfl) rfl rfl ?_
  refine own_cP X0 (superBack X0 hx hZ (y := Mn7) hown (g_ hw 72 rfl) (own_sameM (g_ hw 92 rfl) (g_ hw 73 rfl) rfl (by decide)) (g_ hw 73 rfl) (g_ hw 74 rfl) (by decide) (backOf (W := 0) (rm_aan l Z a0 hw [] z a1 t kb h0 n0 Z0 O SC hz E1 F1 F2 F3 A1 g1 gt) hZ (g_ hw 76 rfl) (g_ hw 56 rfl) (by decide) (by decide)) e0 (Ins.self E1) (g := (mkF m 2 #[.val (.ref a1), .val .null] [.null, (.ref a1)])) rfl (by rw [hml]; rfl) (g_ hw 76 rfl) (argsL := [.null]) (rest := []) (lenOf own_pd11 rfl) rfl (by show 2 * 0 + _ ≤ _; exact Nat.le_of_eq rfl) (dE 2 rfl) (fun _ _ => ⟨rfl, e0, (by decide : 0 + 0 ≤ _), (by decide : 0 + 0 ≤ _)⟩)) fun v101 T101 L101 X101 hQ101 => ?_
  obtain ⟨rfl, Nq101, K101, A101, C101, D101, V101, B101⟩ := hQ101
  have N101 := Fr.app N0 Nq101
  show own_Go p e below Pst (T101.setTop (mkF m 5 #[.val (.ref a1), .val .null] [(.ref a1)]))
  refine o_pop X101.here hx (dE 3 rfl) rfl rfl ?_
  refine o_aloadN X101.here hx (dE 4 rfl) rfl rfl ?_
  have c102 := (Keep.trans (Keep.refl h0 [a1, t]) K101 (allS (Or.inl (List.mem_of_getElem? (i := 0) rfl)) (allS (Or.inl (List.mem_of_getElem? (i := 1) rfl)) all0)))
  rw [hPst]
  exact own_retP X101 (v := (some (.ref a1))) (Q := Q_san Z z a1 t kb h0 n0) (fun h => by rw [Bd.returns] at h; cases h) Bd.notSynchronized (fun fs hr => retOut X101 hx Bd.returns rfl (Or.inr (Or.inr (Or.inr (Or.inr ⟨rfl, rfl, rfl⟩)))) (dE 5 rfl) hr) (by decide) (by decide) ⟨rfl, N101, c102, A101, C101, D101, V101, B101⟩
def Q_gv (Z : State) (a1 : Addr) (u : Addr) (h0 : Heap) (n0 : Nat) (v : Option Value) (h : Heap) (L : List Loc) : Prop := v = some (.ref u) ∧ Fr n0 L ∧ h = h0
theorem rm_gv (l : Launch) (Z : State) (a0 : Array Value) (hw : own_H a0 Z) (ws : List Jvm.Cond) (a1 : Addr) (u : Addr) (h0 : Heap) (n0 : Nat) (Z0 : n0 ≤ h0.size) (F1 : Fld Z h0 a1 "java/lang/AbstractStringBuilder" "value" "[B" (.ref u)) : own_MP l Mn10 jdk_68_method_64_code 1 (some (.array .byte)) ws ({ frames := 0, cells := 0, slots := 0, locals := 0 } : Room) Z h0 #[(.ref a1)] (fun _ _ _ _ _ => True) (Q_gv Z a1 u h0 n0) := by
  refine own_startP (plainFor_of_name own_pn_java_lang_AbstractStringBuilder) fun p e s m below meth c s₁ Bd hx hby hml hown0 X0 e0 hh0 hZ hK Pst hPst => ?_
  have dE := own_E hby own_D28
  have hown : s.vm.findClass "java/lang/AbstractStringBuilder" = some m.cls := hown0
  have hnm := (name_of_methodNamed Bd.named Bd.method).1
  have N0 := Fr.nil n0
  rw [own_ef_R_1 m a1]
  refine o_aloadN X0.here hx (dE 0 rfl) rfl rfl ?_
  refine p_getF X0 hx hZ hown (host := "") (Or.inl (g_ hw 60 rfl)) Via.refl e0 F1 rfl (dE 1 rfl) fun T101 X101 e101 => ?_
  rw [hPst]
  exact own_retP X101 (v := (some (.ref u))) (Q := Q_gv Z a1 u h0 n0) (fun h => by rw [Bd.returns] at h; cases h) Bd.notSynchronized (fun fs hr => retOut X101 hx Bd.returns rfl (Or.inr (Or.inr (Or.inr (Or.inr ⟨rfl, rfl, rfl⟩)))) (dE 2 rfl) hr) (by decide) (by decide) (by rw [e101]; exact ⟨rfl, N0, rfl⟩)
def Q_al (Z : State) (a1 : Addr) (u : Int32) (h0 : Heap) (n0 : Nat) (v : Option Value) (h : Heap) (L : List Loc) : Prop := v = some (.int u) ∧ Fr n0 L ∧ h = h0
theorem rm_al (l : Launch) (Z : State) (a0 : Array Value) (hw : own_H a0 Z) (ws : List Jvm.Cond) (a1 : Addr) (u : Int32) (h0 : Heap) (n0 : Nat) (Z0 : n0 ≤ h0.size) (F1 : Fld Z h0 a1 "java/lang/AbstractStringBuilder" "count" "I" (.int u)) : own_MP l Mn17 jdk_68_method_6_code 1 (some .int) ws ({ frames := 0, cells := 0, slots := 0, locals := 0 } : Room) Z h0 #[(.ref a1)] (fun _ _ _ _ _ => True) (Q_al Z a1 u h0 n0) := by
  refine own_startP (plainFor_of_name own_pn_java_lang_AbstractStringBuilder) fun p e s m below meth c s₁ Bd hx hby hml hown0 X0 e0 hh0 hZ hK Pst hPst => ?_
  have dE := own_E hby own_D30
  have hown : s.vm.findClass "java/lang/AbstractStringBuilder" = some m.cls := hown0
  have hnm := (name_of_methodNamed Bd.named Bd.method).1
  have N0 := Fr.nil n0
  rw [own_ef_R_1 m a1]
  refine o_aloadN X0.here hx (dE 0 rfl) rfl rfl ?_
  refine p_getF X0 hx hZ hown (host := "") (Or.inl (g_ hw 87 rfl)) Via.refl e0 F1 rfl (dE 1 rfl) fun T101 X101 e101 => ?_
  rw [hPst]
  exact own_retP X101 (v := (some (.int u))) (Q := Q_al Z a1 u h0 n0) (fun h => by rw [Bd.returns] at h; cases h) Bd.notSynchronized (fun fs hr => own_retI X101 hx Bd.returns (dE 2 rfl) hr) (by decide) (by decide) (by rw [e101]; exact ⟨rfl, N0, rfl⟩)
def Q_sl (Z : State) (a1 : Addr) (u : Int32) (h0 : Heap) (n0 : Nat) (v : Option Value) (h : Heap) (L : List Loc) : Prop := v = some (.int u) ∧ Fr n0 L ∧ h = h0
theorem rm_sl (l : Launch) (Z : State) (a0 : Array Value) (hw : own_H a0 Z) (ws : List Jvm.Cond) (a1 : Addr) (u : Int32) (h0 : Heap) (n0 : Nat) (Z0 : n0 ≤ h0.size) (E1 : Exa Z h0 a1 "java/lang/StringBuilder") (F1 : Fld Z h0 a1 "java/lang/AbstractStringBuilder" "count" "I" (.int u)) : own_MP l Mn18 jdk_67_method_93_code 1 (some .int) ws ({ frames := 1, cells := 0, slots := 0, locals := 12 } : Room) Z h0 #[(.ref a1)] (fun _ _ _ _ _ => True) (Q_sl Z a1 u h0 n0) := by
  refine own_startP (plainFor_of_name own_pn_java_lang_StringBuilder) fun p e s m below meth c s₁ Bd hx hby hml hown0 X0 e0 hh0 hZ hK Pst hPst => ?_
  have dE := own_E hby own_D29
  have hown : s.vm.findClass "java/lang/StringBuilder" = some m.cls := hown0
  have hnm := (name_of_methodNamed Bd.named Bd.method).1
  have N0 := Fr.nil n0
  rw [own_ef_R_1 m a1]
  refine o_aloadN X0.here hx (dE 0 rfl) rfl rfl ?_
  refine own_cP X0 (superBack X0 hx hZ (y := Mn17) hown (g_ hw 160 rfl) (own_sameM (g_ hw 92 rfl) (g_ hw 156 rfl) rfl (by decide)) (g_ hw 156 rfl) (g_ hw 74 rfl) (by decide) (backOf (W := 0) (rm_al l Z a0 hw [] a1 u h0 n0 Z0 F1) hZ (g_ hw 161 rfl) (g_ hw 56 rfl) (by decide) (by decide)) e0 (Ins.self E1) (g := (mkF m 1 #[.val (.ref a1)] [(.ref a1)])) rfl (by rw [hml]; rfl) (g_ hw 161 rfl) (argsL := []) (rest := []) (lenOf own_pd9 rfl) rfl (by show 2 * 0 + _ ≤ _; exact Nat.le_of_eq rfl) (dE 1 rfl) (fun _ _ => ⟨rfl, e0, (by decide : 0 + 0 ≤ _), (by decide : 0 + 0 ≤ _)⟩)) fun v101 T101 L101 X101 hQ101 => ?_
  obtain ⟨rfl, Nq101, e101⟩ := hQ101
  have N101 := Fr.app N0 Nq101
  show own_Go p e below Pst (T101.setTop (mkF m 4 #[.val (.ref a1)] [(.int u)]))
  rw [hPst]
  exact own_retP X101 (v := (some (.int u))) (Q := Q_sl Z a1 u h0 n0) (fun h => by rw [Bd.returns] at h; cases h) Bd.notSynchronized (fun fs hr => own_retI X101 hx Bd.returns (dE 2 rfl) hr) (by decide) (by decide) (by rw [e101]; exact ⟨rfl, N101, rfl⟩)
def Q_ckl (Z : State) (x y : Int32) (h0 : Heap) (n0 : Nat) (v : Option Value) (h : Heap) (L : List Loc) : Prop := v = none ∧ Fr n0 L ∧ h = h0
theorem rm_ckl (l : Launch) (Z : State) (a0 : Array Value) (hw : own_H a0 Z) (ws : List Jvm.Cond) (x y : Int32) (h0 : Heap) (n0 : Nat) (Z0 : n0 ≤ h0.size) (hh : ¬ y < x) : own_MP l Mn19 jdk_65_method_131_code 2 none ws ({ frames := 0, cells := 0, slots := 0, locals := 0 } : Room) Z h0 #[(.int x), (.int y)] (fun _ _ _ _ _ => True) (Q_ckl Z x y h0 n0) := by
  refine own_startP (plainFor_of_name own_pn_java_util_Arrays) fun p e s m below meth c s₁ Bd hx hby hml hown0 X0 e0 hh0 hZ hK Pst hPst => ?_
  have dE := own_E hby own_D34
  have hown : s.vm.findClass "java/util/Arrays" = some m.cls := hown0
  have hnm := (name_of_methodNamed Bd.named Bd.method).1
  have N0 := Fr.nil n0
  rw [own_ef_II_2 m x y]
  refine o_iloadN X0.here hx (dE 0 rfl) rfl ?_
  refine o_iloadN X0.here hx (dE 1 rfl) rfl ?_
  refine o_icmpYes X0.here hx (pc0 := 2) (pc' := 37) rfl (dE 2 rfl) rfl (flt hh).2.1 (by decide) (by decide) ?_
  rw [hPst]
  exact own_retP X0 (v := none) (Q := Q_ckl Z x y h0 n0) (fun _ => rfl) Bd.notSynchronized (fun fs hr => X0.returnOut hx Bd.returns (dE 3 rfl) hr) (by decide) (by decide) (by rw [e0]; exact ⟨rfl, N0, rfl⟩)
theorem own_pd14 : parseMethodDescriptor "(II)V" = some ⟨[.int, .int], none⟩ := by decide +kernel
theorem own_ef_RII_5 (m : MethodId) (x0 : Addr) (x1 : Int32) (x2 : Int32) : entryFrame m #[(.ref x0), (.int x1), (.int x2)] 5 = mkF m 0 #[.val (.ref x0), .val (.int x1), .val (.int x2), .unset, .unset] [] := by first | (simp [entryFrame, mkF, argsToLocals, Value.category]; done) | rfl
def Q_crb0 (Z : State) (t : Addr) (kb : ClassId) (h0 : Heap) (n0 : Nat) (v : Option Value) (h : Heap) (L : List Loc) : Prop := ∃ b : Addr, v = some (.ref b) ∧ Fr n0 L ∧ Keep h0 h [] ∧ h0.size ≤ b ∧ ∃ kb : ClassId, Arv Z h b kb .byte (17 : Int32) own_l17 (.int (0 : Int32))
theorem rm_crb0 (l : Launch) (Z : State) (a0 : Array Value) (hw : own_H a0 Z) (ws : List Jvm.Cond) (t : Addr) (kb : ClassId) (h0 : Heap) (n0 : Nat) (Z0 : n0 ≤ h0.size) (A1 : Arv Z h0 t kb .byte (34 : Int32) own_n1 (.int 0)) : own_MP l Mn11 jdk_65_method_133_code 5 (some (.array .byte)) ws ({ frames := 1, cells := 1, slots := 17, locals := 24 } : Room) Z h0 #[(.ref t), (.int (0 : Int32)), (.int (17 : Int32))] (fun _ _ _ _ _ => True) (Q_crb0 Z t kb h0 n0) := by
  refine own_startP (plainFor_of_name own_pn_java_util_Arrays) fun p e s m below meth c s₁ Bd hx hby hml hown0 X0 e0 hh0 hZ hK Pst hPst => ?_
  have dE := own_E hby own_D33
  have hown : s.vm.findClass "java/util/Arrays" = some m.cls := hown0
  have hnm := (name_of_methodNamed Bd.named Bd.method).1
  have N0 := Fr.nil n0
  rw [own_ef_RII_5 m t (0 : Int32) (17 : Int32)]
  refine o_iloadN X0.here hx (dE 0 rfl) rfl ?_
  refine o_iloadN X0.here hx (dE 1 rfl) rfl ?_
  refine own_cF X0 (Jvm.LawKit.callS X0 hx (y := Mn19) hown (mvT hZ (g_ hw 173 rfl)) (mvT hZ (g_ hw 174 rfl)) (mvT hZ (g_ hw 111 rfl)) (mvT hZ (g_ hw 175 rfl)) (by decide) (backOf (W := 0) (rm_ckl l Z a0 hw [] (0 : Int32) (17 : Int32) h0 n0 Z0 (by decide)) hZ (g_ hw 175 rfl) (g_ hw 111 rfl) (by decide) (by decide)) (g := (mkF m 2 #[.val (.ref t), .val (.int (0 : Int32)), .val (.int (17 : Int32)), .unset, .unset] [(.int (17 : Int32)), (.int (0 : Int32))])) rfl (by rw [hml]; rfl) (argsL := [(.int (0 : Int32)), (.int (17 : Int32))]) (rest := []) (lenOf own_pd14 rfl) rfl (by show 2 * 0 + _ ≤ _; exact Nat.le_of_eq rfl) (dE 2 rfl) (fun _ _ => ⟨rfl, e0, (by decide : 0 + 0 ≤ _), (by decide : 0 + 0 ≤ _)⟩)) fun v101 T101 L101 X101 hQ101 => ?_
  obtain ⟨rfl, Nq101, e101⟩ := hQ101
  have N101 := Fr.app N0 Nq101
  show own_Go p e below Pst (T101.setTop (mkF m 5 #[.val (.ref t), .val (.int (0 : Int32)), .val (.int (17 : Int32)), .unset, .unset] []))
  refine o_iloadN X101.here hx (dE 3 rfl) rfl ?_
  refine o_iloadN X101.here hx (dE 4 rfl) rfl ?_
  refine o_isub X101.here hx (dE 5 rfl) rfl ?_
  rw [show ((17 : Int32) - (0 : Int32)) = (17 : Int32) from by decide]
  show own_Go p e below Pst (T101.setTop (mkF m 8 #[.val (.ref t), .val (.int (0 : Int32)), .val (.int (17 : Int32)), .unset, .unset] [(.int (17 : Int32))]))
  refine o_istoreN X101.here hx (dE 6 rfl) rfl (l' := #[.val (.ref t), .val (.int (0 : Int32)), .val (.int (17 : Int32)), .val (.int (17 : Int32)), .unset]) rfl ?_
  refine o_iloadN X101.here hx (dE 7 rfl) rfl ?_
  refine p_newP (aty := .byte) X101 hx hZ (g_ hw 23 rfl) e101 (dE 8 rfl) rfl (by decide) (cap := 17) (by decide) (by decide) (by decide) (by decide) fun T102 h102 k102 b102 g102 X102 e102 E102 A102 => ?_
  have ne_t_b102 : t ≠ b102 := Nat.ne_of_lt (Nat.lt_of_lt_of_le A1.lt (Nat.le_of_eq g102.symm))
  have gn_b102 : n0 ≤ b102 := Nat.le_trans Z0 (Nat.le_of_eq g102.symm)
  have sz_b102 : h0.size ≤ b102 := Nat.le_trans (Keep.refl h0 []).1 (Nat.le_of_eq g102.symm)
  have V102 : Arv Z h102 b102 k102 .byte (17 : Int32) [(.int (0 : Int32)), (.int (0 : Int32)), (.int (0 : Int32)), (.int (0 : Int32)), (.int (0 : Int32)), (.int (0 : Int32)), (.int (0 : Int32)), (.int (0 : Int32)), (.int (0 : Int32)), (.int (0 : Int32)), (.int (0 : Int32)), (.int (0 : Int32)), (.int (0 : Int32)), (.int (0 : Int32)), (.int (0 : Int32)), (.int (0 : Int32)), (.int (0 : Int32))] (.int (0 : Int32)) := (Arv.new A102 (by decide)).pad (pad_rep [] (.int (0 : Int32)) 17)
  refine o_astore X102.here hx (dE 9 rfl) rfl rfl (l' := #[.val (.ref t), .val (.int (0 : Int32)), .val (.int (17 : Int32)), .val (.int (17 : Int32)), .val (.ref b102)]) rfl ?_
  refine o_aloadN X102.here hx (dE 10 rfl) rfl rfl ?_
  refine o_iloadN X102.here hx (dE 11 rfl) rfl ?_
  refine o_aload X102.here hx (dE 12 rfl) rfl rfl ?_
  refine o_iconst X102.here hx (dE 13 rfl) (z := (0 : Int32)) rfl ?_
  refine o_aloadN X102.here hx (dE 14 rfl) rfl rfl ?_
  have c103 := (A1.ext E102)
  obtain ⟨cl104, Ar104, -, S104, P104, -, -⟩ := id c103
  refine own_Go.of (S' := T102.setTop (mkF m 21 #[.val (.ref t), .val (.int (0 : Int32)), .val (.int (17 : Int32)), .val (.int (17 : Int32)), .val (.ref b102)] [(.int (34 : Int32)), (.int (0 : Int32)), (.ref b102), (.int (0 : Int32)), (.ref t)])) (fun tgt kst => X102.arraylength hx (by rw [e102]; exact Ar104.1) (State.isArrayOf_alike hZ.alike Ar104.2.1) (g := (mkF m 20 #[.val (.ref t), .val (.int (0 : Int32)), .val (.int (17 : Int32)), .val (.int (17 : Int32)), .val (.ref b102)] [(.ref t), (.int (0 : Int32)), (.ref b102), (.int (0 : Int32)), (.ref t)])) rfl rfl (dE 15 rfl) _ (by rw [len_of S104 P104]; exact kst)) ?_
  refine o_iloadN X102.here hx (dE 16 rfl) rfl ?_
  refine o_isub X102.here hx (dE 17 rfl) rfl ?_
  rw [show ((34 : Int32) - (0 : Int32)) = (34 : Int32) from by decide]
  show own_Go p e below Pst (T102.setTop (mkF m 23 #[.val (.ref t), .val (.int (0 : Int32)), .val (.int (17 : Int32)), .val (.int (17 : Int32)), .val (.ref b102)] [(.int (34 : Int32)), (.int (0 : Int32)), (.ref b102), (.int (0 : Int32)), (.ref t)]))
  refine o_iloadN X102.here hx (dE 18 rfl) rfl ?_
  have c106 := (Nat.le_trans Z0 E102.1)
  refine own_cF X102 (Jvm.LawKit.callS X102 hx (y := Mn16) hown (mvT hZ (g_ hw 113 rfl)) (mvT hZ (g_ hw 114 rfl)) (mvT hZ (g_ hw 105 rfl)) (mvT hZ (g_ hw 115 rfl)) (by decide) (backOf (W := 4) (rm_minR l Z a0 hw [] (34 : Int32) (17 : Int32) h102 n0 c106 (by decide)) hZ (g_ hw 115 rfl) (g_ hw 105 rfl) (by decide) (by decide)) (g := (mkF m 24 #[.val (.ref t), .val (.int (0 : Int32)), .val (.int (17 : Int32)), .val (.int (17 : Int32)), .val (.ref b102)] [(.int (17 : Int32)), (.int (34 : Int32)), (.int (0 : Int32)), (.ref b102), (.int (0 : Int32)), (.ref t)])) rfl (by rw [hml]; rfl) (argsL := [(.int (34 : Int32)), (.int (17 : Int32))]) (rest := [(.int (0 : Int32)), (.ref b102), (.int (0 : Int32)), (.ref t)]) (lenOf own_pd3 rfl) rfl (by show 2 * 0 + _ ≤ _; exact Nat.le_of_eq rfl) (dE 19 rfl) (fun _ _ => ⟨rfl, e102, (by decide : 1 + 0 ≤ _), (by decide : 17 + 0 ≤ _)⟩)) fun v105 T105 L105 X105 hQ105 => ?_
  obtain ⟨rfl, Nq105, e105⟩ := hQ105
  have N105 := Fr.app N101 Nq105
  show own_Go p e below Pst (T105.setTop (mkF m 27 #[.val (.ref t), .val (.int (0 : Int32)), .val (.int (17 : Int32)), .val (.int (17 : Int32)), .val (.ref b102)] [(.int (17 : Int32)), (.int (0 : Int32)), (.ref b102), (.int (0 : Int32)), (.ref t)]))
  obtain ⟨T107, h107, L107, X107, e107, N107, K107, V107r, st107⟩ := cpA X105 hx hZ hown (g_ hw 116 rfl) (g_ hw 119 rfl) (g_ hw 117 rfl) (g_ hw 118 rfl) e105 c103 V102 (Or.inl ⟨rfl, rfl⟩) (by decide) (by decide) (by decide) (by decide) (by decide) (us := own_l17) rfl (by decide) N105 gn_b102 (g := (mkF m 27 #[.val (.ref t), .val (.int (0 : Int32)), .val (.int (17 : Int32)), .val (.int (17 : Int32)), .val (.ref b102)] [(.int (17 : Int32)), (.int (0 : Int32)), (.ref b102), (.int (0 : Int32)), (.ref t)])) rfl (by rw [hml]; rfl) rfl (dE 20 rfl) (by decide) (W := 0) (by show 2 * 0 + _ ≤ _; exact Nat.le_of_eq rfl) (by decide)
  have V107 : Arv Z h107 b102 k102 .byte (17 : Int32) own_l17 (.int (0 : Int32)) := V107r
  refine own_Go.of st107 ?_
  show own_Go p e below Pst (T107.setTop (mkF m 30 #[.val (.ref t), .val (.int (0 : Int32)), .val (.int (17 : Int32)), .val (.int (17 : Int32)), .val (.ref b102)] []))
  refine o_aload X107.here hx (dE 21 rfl) rfl rfl ?_
  have c108 := (Keep.trans ((Keep.refl h0 []).ext E102) K107 (allS (Or.inr sz_b102) all0))
  rw [hPst]
  exact own_retP X107 (v := (some (.ref b102))) (Q := Q_crb0 Z t kb h0 n0) (fun h => by rw [Bd.returns] at h; cases h) Bd.notSynchronized (fun fs hr => retOut X107 hx Bd.returns rfl (Or.inr (Or.inr (Or.inr (Or.inr ⟨rfl, rfl, rfl⟩)))) (dE 22 rfl) hr) (by decide) (by decide) (by rw [e107]; exact ⟨_, rfl, N107, c108, sz_b102, _, V107⟩)
theorem own_pd15 : parseMethodDescriptor "([BII)[B" = some ⟨[(.array .byte), .int, .int], some (.array .byte)⟩ := by decide +kernel
theorem own_ef_RII_3 (m : MethodId) (x0 : Addr) (x1 : Int32) (x2 : Int32) : entryFrame m #[(.ref x0), (.int x1), (.int x2)] 3 = mkF m 0 #[.val (.ref x0), .val (.int x1), .val (.int x2)] [] := by first | (simp [entryFrame, mkF, argsToLocals, Value.category]; done) | rfl
def Q_cr0 (Z : State) (t : Addr) (kb : ClassId) (h0 : Heap) (n0 : Nat) (v : Option Value) (h : Heap) (L : List Loc) : Prop := ∃ b : Addr, v = some (.ref b) ∧ Fr n0 L ∧ Keep h0 h [] ∧ h0.size ≤ b ∧ ∃ kb : ClassId, Arv Z h b kb .byte (17 : Int32) own_l17 (.int (0 : Int32))
theorem rm_cr0 (l : Launch) (Z : State) (a0 : Array Value) (hw : own_H a0 Z) (ws : List Jvm.Cond) (t : Addr) (kb : ClassId) (h0 : Heap) (n0 : Nat) (Z0 : n0 ≤ h0.size) (A1 : Arv Z h0 t kb .byte (34 : Int32) own_n1 (.int 0)) : own_MP l Mn12 jdk_65_method_132_code 3 (some (.array .byte)) ws ({ frames := 2, cells := 1, slots := 17, locals := 40 } : Room) Z h0 #[(.ref t), (.int (0 : Int32)), (.int (17 : Int32))] (fun _ _ _ _ _ => True) (Q_cr0 Z t kb h0 n0) := by
  refine own_startP (plainFor_of_name own_pn_java_util_Arrays) fun p e s m below meth c s₁ Bd hx hby hml hown0 X0 e0 hh0 hZ hK Pst hPst => ?_
  have dE := own_E hby own_D32
  have hown : s.vm.findClass "java/util/Arrays" = some m.cls := hown0
  have hnm := (name_of_methodNamed Bd.named Bd.method).1
  have N0 := Fr.nil n0
  rw [own_ef_RII_3 m t (0 : Int32) (17 : Int32)]
  refine o_iloadN X0.here hx (dE 0 rfl) rfl ?_
  refine o_ifNo X0.here hx (dE 1 rfl) rfl ((if0 _ _).trans (teq rfl).2) ?_
  refine o_iloadN X0.here hx (dE 2 rfl) rfl ?_
  refine o_aloadN X0.here hx (dE 3 rfl) rfl rfl ?_
  obtain ⟨cl101, Ar101, -, S101, P101, -, -⟩ := id A1
  refine own_Go.of (S' := s₁.setTop (mkF m 7 #[.val (.ref t), .val (.int (0 : Int32)), .val (.int (17 : Int32))] [(.int (34 : Int32)), (.int (17 : Int32))])) (fun tgt kst => X0.arraylength hx (by rw [e0]; exact Ar101.1) (State.isArrayOf_alike hZ.alike Ar101.2.1) (g := (mkF m 6 #[.val (.ref t), .val (.int (0 : Int32)), .val (.int (17 : Int32))] [(.ref t), (.int (17 : Int32))])) rfl rfl (dE 4 rfl) _ (by rw [len_of S101 P101]; exact kst)) ?_
  refine o_icmpNo X0.here hx (dE 5 rfl) rfl (feq (by decide)).1 ?_
  refine o_aloadN X0.here hx (dE 6 rfl) rfl rfl ?_
  refine o_iloadN X0.here hx (dE 7 rfl) rfl ?_
  refine o_iloadN X0.here hx (dE 8 rfl) rfl ?_
  refine own_cF X0 (Jvm.LawKit.callS X0 hx (y := Mn11) hown (mvT hZ (g_ hw 170 rfl)) (mvT hZ (g_ hw 171 rfl)) (mvT hZ (g_ hw 111 rfl)) (mvT hZ (g_ hw 172 rfl)) (by decide) (backOf (W := 0) (rm_crb0 l Z a0 hw [] t kb  h0 n0 Z0 A1) hZ (g_ hw 172 rfl) (g_ hw 111 rfl) (by decide) (by decide)) (g := (mkF m 13 #[.val (.ref t), .val (.int (0 : Int32)), .val (.int (17 : Int32))] [(.int (17 : Int32)), (.int (0 : Int32)), (.ref t)])) rfl (by rw [hml]; rfl) (argsL := [(.ref t), (.int (0 : Int32)), (.int (17 : Int32))]) (rest := []) (lenOf own_pd15 rfl) rfl (by show 2 * 0 + _ ≤ _; exact Nat.le_of_eq rfl) (dE 9 rfl) (fun _ _ => ⟨rfl, e0, (by decide : 0 + 1 ≤ _), (by decide : 0 + 17 ≤ _)⟩)) fun v102 T102 L102 X102 hQ102 => ?_
  obtain ⟨b102, rfl, Nq102, K102, sb102, kb102, V102⟩ := hQ102
  have N102 := Fr.app N0 Nq102
  have gn_b102 : n0 ≤ b102 := Nat.le_trans Z0 sb102
  have sz_b102 : h0.size ≤ b102 := Nat.le_trans (Keep.refl h0 []).1 sb102
  show own_Go p e below Pst (T102.setTop (mkF m 16 #[.val (.ref t), .val (.int (0 : Int32)), .val (.int (17 : Int32))] [(.ref b102)]))
  have c103 := (Keep.trans (Keep.refl h0 []) K102 all0)
  rw [hPst]
  exact own_retP X102 (v := (some (.ref b102))) (Q := Q_cr0 Z t kb h0 n0) (fun h => by rw [Bd.returns] at h; cases h) Bd.notSynchronized (fun fs hr => retOut X102 hx Bd.returns rfl (Or.inr (Or.inr (Or.inr (Or.inr ⟨rfl, rfl, rfl⟩)))) (dE 10 rfl) hr) (by decide) (by decide) ⟨_, rfl, N102, c103, sz_b102, _, V102⟩
theorem own_pd16 : parseMethodDescriptor "()[B" = some ⟨[], some (.array .byte)⟩ := by decide +kernel
theorem own_ef_RRN_5 (m : MethodId) (x0 : Addr) (x1 : Addr) : entryFrame m #[(.ref x0), (.ref x1), .null] 5 = mkF m 0 #[.val (.ref x0), .val (.ref x1), .val .null, .unset, .unset] [] := by first | (simp [entryFrame, mkF, argsToLocals, Value.category]; done) | rfl
def Q_ib0 (Z : State) (z : Int32) (x a1 t : Addr) (kb : ClassId) (u1 u2 : Value) (h0 : Heap) (n0 : Nat) (v : Option Value) (h : Heap) (L : List Loc) : Prop := v = none ∧ Fr n0 L ∧ Keep h0 h [x] ∧ Exa Z h x "java/lang/String" ∧ Fld Z h x "java/lang/String" "coder" "B" (.int (0 : Int32)) ∧ ∃ (t' : Addr) (kb : ClassId), h0.size ≤ t' ∧ Fld Z h x "java/lang/String" "value" "[B" (.ref t') ∧ Arv Z h t' kb .byte (17 : Int32) own_l17 (.int (0 : Int32))
theorem rm_ib0 (l : Launch) (Z : State) (a0 : Array Value) (hw : own_H a0 Z) (ws : List Jvm.Cond) (z : Int32) (x a1 t : Addr) (kb : ClassId) (u1 u2 : Value) (h0 : Heap) (n0 : Nat) (Z0 : n0 ≤ h0.size) (O : Old Z n0 h0) (SC : Sta Z Z.heap "java/lang/String" "COMPACT_STRINGS" "Z" (.int z)) (hz : ¬ z = 0) (E1 : Exa Z h0 a1 "java/lang/StringBuilder") (F1 : Fld Z h0 a1 "java/lang/AbstractStringBuilder" "value" "[B" (.ref t)) (F2 : Fld Z h0 a1 "java/lang/AbstractStringBuilder" "coder" "B" (.int (0 : Int32))) (F3 : Fld Z h0 a1 "java/lang/AbstractStringBuilder" "count" "I" (.int (17 : Int32))) (A1 : Arv Z h0 t kb .byte (34 : Int32) own_n1 (.int 0)) (X1 : Exa Z h0 x "java/lang/String") (gx : n0 ≤ x) (Y1 : Fld Z h0 x "java/lang/String" "value" "[B" u1) (Y2 : Fld Z h0 x "java/lang/String" "coder" "B" u2) : own_MP l Mn13 jdk_42_method_150_code 5 none ws ({ frames := 3, cells := 1, slots := 17, locals := 60 } : Room) Z h0 #[(.ref x), (.ref a1), .null] (fun _ _ _ _ _ => True) (Q_ib0 Z z x a1 t kb u1 u2 h0 n0) := by
  refine own_startP (plainFor_of_name own_pn_java_lang_String) fun p e s m below meth c s₁ Bd hx hby hml hown0 X0 e0 hh0 hZ hK Pst hPst => ?_
  have dE := own_E hby own_D27
  have hown : s.vm.findClass "java/lang/String" = some m.cls := hown0
  have hnm := (name_of_methodNamed Bd.named Bd.method).1
  have N0 := Fr.nil n0
  rw [own_ef_RRN_5 m x a1]
  have ne1 : a1 ≠ x := ne_exa E1 X1 (by decide)
  have ne2 : t ≠ x := Ne.symm (Exa.neArv X1 A1 (g_ hw 6 rfl))
  refine o_aloadN X0.here hx (dE 0 rfl) rfl rfl ?_
  refine p_initO X0 hx hZ hown (g_ hw 15 rfl) (g_ hw 16 rfl) (g_ hw 17 rfl) e0 (by rw [hml]; rfl) rfl (dE 1 rfl) (by decide) (W := 0) (by show 2 * 0 + _ ≤ _; exact Nat.le_of_eq rfl) (by decide) fun T101 X101 e101 => ?_
  refine o_aloadN X101.here hx (dE 2 rfl) rfl rfl ?_
  obtain ⟨cq102, kq102, q102a, q102b, q102c⟩ := isOf hZ e101 E1
  refine own_cP X101 (X101.virtualBack hx (y := Mn10) (z := Mn10) hown (mvT hZ (g_ hw 149 rfl)) (mvT hZ (g_ hw 150 rfl)) (notFace_of_selects (args := #[]) (mvT hZ (g_ hw 152 rfl))) (mvT hZ (g_ hw 152 rfl)) (mvT hZ (g_ hw 151 rfl)) (by decide) (backOf (W := 0) (rm_gv l Z a0 hw [] a1 t h0 n0 Z0 F1) hZ (g_ hw 153 rfl) (g_ hw 56 rfl) (by decide) (by decide)) q102a q102c (g := (mkF m 5 #[.val (.ref x), .val (.ref a1), .val .null, .unset, .unset] [(.ref a1)])) rfl (by rw [hml]; rfl) (Steps.refl _) (argsL := []) (rest := []) (lenOf own_pd16 rfl) rfl (by show 2 * 0 + _ ≤ _; exact Nat.le_of_eq rfl) (dE 3 rfl) (fun _ _ => ⟨rfl, e101, (by decide : 0 + 0 ≤ _), (by decide : 0 + 0 ≤ _)⟩)) fun v102 T102 L102 X102 hQ102 => ?_
  obtain ⟨rfl, Nq102, e102⟩ := hQ102
  have N102 := Fr.app N0 Nq102
  show own_Go p e below Pst (T102.setTop (mkF m 8 #[.val (.ref x), .val (.ref a1), .val .null, .unset, .unset] [(.ref t)]))
  refine o_astoreN X102.here hx (dE 4 rfl) rfl rfl (l' := #[.val (.ref x), .val (.ref a1), .val .null, .val (.ref t), .unset]) rfl ?_
  refine o_aloadN X102.here hx (dE 5 rfl) rfl rfl ?_
  obtain ⟨cq103, kq103, q103a, q103b, q103c⟩ := isOf hZ e102 E1
  refine own_cP X102 (X102.virtualBack hx (y := Mn17) (z := Mn18) hown (mvT hZ (g_ hw 154 rfl)) (mvT hZ (g_ hw 155 rfl)) (own_nf (args := #[]) (mvT hZ (g_ hw 92 rfl)) rfl) (mvT hZ (g_ hw 157 rfl)) (mvT hZ (g_ hw 158 rfl)) (by decide) (backOf (W := 0) (rm_sl l Z a0 hw [] a1 (17 : Int32) h0 n0 Z0 E1 F3) hZ (g_ hw 159 rfl) (g_ hw 48 rfl) (by decide) (by decide)) q103a q103c (g := (mkF m 10 #[.val (.ref x), .val (.ref a1), .val .null, .val (.ref t), .unset] [(.ref a1)])) rfl (by rw [hml]; rfl) (Steps.refl _) (argsL := []) (rest := []) (lenOf own_pd9 rfl) rfl (by show 2 * 0 + _ ≤ _; exact Nat.le_of_eq rfl) (dE 6 rfl) (fun _ _ => ⟨rfl, e102, (by decide : 0 + 0 ≤ _), (by decide : 0 + 0 ≤ _)⟩)) fun v103 T103 L103 X103 hQ103 => ?_
  obtain ⟨rfl, Nq103, e103⟩ := hQ103
  have N103 := Fr.app N102 Nq103
  show own_Go p e below Pst (T103.setTop (mkF m 13 #[.val (.ref x), .val (.ref a1), .val .null, .val (.ref t), .unset] [(.int (17 : Int32))]))
  refine o_istore X103.here hx (dE 7 rfl) rfl (l' := #[.val (.ref x), .val (.ref a1), .val .null, .val (.ref t), .val (.int (17 : Int32))]) rfl ?_
  refine o_aloadN X103.here hx (dE 8 rfl) rfl rfl ?_
  obtain ⟨cq104, kq104, q104a, q104b, q104c⟩ := isOf hZ e103 E1
  refine own_cP X103 (X103.virtualBack hx (y := Mn6) (z := Mn6) hown (mvT hZ (g_ hw 162 rfl)) (mvT hZ (g_ hw 163 rfl)) (notFace_of_selects (args := #[]) (mvT hZ (g_ hw 165 rfl))) (mvT hZ (g_ hw 165 rfl)) (mvT hZ (g_ hw 164 rfl)) (by decide) (backOf (W := 0) (rm_bl l Z a0 hw [] z a1 h0 n0 Z0 O SC hz F2) hZ (g_ hw 166 rfl) (g_ hw 56 rfl) (by decide) (by decide)) q104a q104c (g := (mkF m 16 #[.val (.ref x), .val (.ref a1), .val .null, .val (.ref t), .val (.int (17 : Int32))] [(.ref a1)])) rfl (by rw [hml]; rfl) (Steps.refl _) (argsL := []) (rest := []) (lenOf own_pd12 rfl) rfl (by show 2 * 0 + _ ≤ _; exact Nat.le_of_eq rfl) (dE 9 rfl) (fun _ _ => ⟨rfl, e103, (by decide : 0 + 0 ≤ _), (by decide : 0 + 0 ≤ _)⟩)) fun v104 T104 L104 X104 hQ104 => ?_
  obtain ⟨rfl, Nq104, e104⟩ := hQ104
  have N104 := Fr.app N103 Nq104
  show own_Go p e below Pst (T104.setTop (mkF m 19 #[.val (.ref x), .val (.ref a1), .val .null, .val (.ref t), .val (.int (17 : Int32))] [(.int (1 : Int32))]))
  refine o_ifNo X104.here hx (dE 10 rfl) rfl ((if0 _ _).trans (feq (by decide)).1) ?_
  refine o_aloadN X104.here hx (dE 11 rfl) rfl rfl ?_
  refine o_iconst X104.here hx (dE 12 rfl) (z := (0 : Int32)) rfl ?_
  refine p_putFN X104 hx hZ hown (g_ hw 30 rfl) Via.refl e104 Y2 X1 (Or.inr ⟨(g_ hw 31 rfl), rfl, hnm⟩) (g_ hw 6 rfl) (ty := .byte) (v' := (.int (0 : Int32))) (by decide) rfl rfl rfl (dE 13 rfl) fun T105 h105 X105 e105 W105 => ?_
  have Fw105 := Fld.same W105 Y2
  have N105 := Fr.snoc X105 N104 gx
  refine o_aloadN X105.here hx (dE 14 rfl) rfl rfl ?_
  refine o_aloadN X105.here hx (dE 15 rfl) rfl rfl ?_
  refine o_iconst X105.here hx (dE 16 rfl) (z := (0 : Int32)) rfl ?_
  refine o_iload X105.here hx (dE 17 rfl) rfl ?_
  have c106 := (A1.other W105 ne2)
  have c108 := (Nat.le_trans Z0 (Keep.of_wr W105).1)
  refine own_cF X105 (Jvm.LawKit.callS X105 hx (y := Mn12) hown (mvT hZ (g_ hw 167 rfl)) (mvT hZ (g_ hw 168 rfl)) (mvT hZ (g_ hw 111 rfl)) (mvT hZ (g_ hw 169 rfl)) (by decide) (backOf (W := 1) (rm_cr0 l Z a0 hw [] t kb  h105 n0 c108 c106) hZ (g_ hw 169 rfl) (g_ hw 111 rfl) (by decide) (by decide)) (g := (mkF m 32 #[.val (.ref x), .val (.ref a1), .val .null, .val (.ref t), .val (.int (17 : Int32))] [(.int (17 : Int32)), (.int (0 : Int32)), (.ref t), (.ref x)])) rfl (by rw [hml]; rfl) (argsL := [(.ref t), (.int (0 : Int32)), (.int (17 : Int32))]) (rest := [(.ref x)]) (lenOf own_pd15 rfl) rfl (by show 2 * 0 + _ ≤ _; exact Nat.le_of_eq rfl) (dE 18 rfl) (fun _ _ => ⟨rfl, e105, (by decide : 0 + 1 ≤ _), (by decide : 0 + 17 ≤ _)⟩)) fun v107 T107 L107 X107 hQ107 => ?_
  obtain ⟨b107, rfl, Nq107, K107, sb107, kb107, V107⟩ := hQ107
  have N107 := Fr.app N105 Nq107
  have c109 := (X1.wr W105)
  have ne_x_b107 : x ≠ b107 := Nat.ne_of_lt (Nat.lt_of_lt_of_le c109.lt sb107)
  have c110 := (E1.wr W105)
  have ne_a1_b107 : a1 ≠ b107 := Nat.ne_of_lt (Nat.lt_of_lt_of_le c110.lt sb107)
  have ne_t_b107 : t ≠ b107 := Nat.ne_of_lt (Nat.lt_of_lt_of_le c106.lt sb107)
  have gn_b107 : n0 ≤ b107 := Nat.le_trans c108 sb107
  have c111 := ((Keep.refl h0 [x]).wr W105 (Or.inl (List.mem_of_getElem? (i := 0) rfl)))
  have sz_b107 : h0.size ≤ b107 := Nat.le_trans c111.1 sb107
  show own_Go p e below Pst (T107.setTop (mkF m 35 #[.val (.ref x), .val (.ref a1), .val .null, .val (.ref t), .val (.int (17 : Int32))] [(.ref b107), (.ref x)]))
  have c112 := (c109.keep K107)
  have c113 := ((Y1.other W105 (Or.inr (slot_ne (Or.inr (g_ hw 33 rfl)) (Or.inr (g_ hw 31 rfl)) (by decide) (t := (.array .byte)) (t' := .byte) (by decide) (by decide)))).keep K107 nin0)
  refine p_putF X107 hx hZ hown (host := "") (Or.inl (g_ hw 32 rfl)) Via.refl rfl c113 c112 (Or.inr ⟨(g_ hw 33 rfl), rfl, hnm⟩) (g_ hw 6 rfl) (ty := (.array .byte)) (by decide) rfl rfl rfl (dE 19 rfl) fun T114 h114 X114 e114 W114 => ?_
  have Fw114 := Fld.same W114 c113
  have N114 := Fr.snoc X114 N107 gx
  refine o_goto X114.here hx (pc0 := 38) (pc' := 97) rfl (dE 20 rfl) (by decide) (by decide) ?_
  have c115 := ((Keep.trans c111 K107 all0).wr W114 (Or.inl (List.mem_of_getElem? (i := 0) rfl)))
  have c116 := (c112.wr W114)
  have c117 := ((Fw105.keep K107 nin0).other W114 (Or.inr (slot_ne (Or.inr (g_ hw 31 rfl)) (Or.inr (g_ hw 33 rfl)) (by decide) (t := .byte) (t' := (.array .byte)) (by decide) (by decide))))
  have c118 := (V107.other W114 (Ne.symm ne_x_b107))
  rw [hPst]
  exact own_retP X114 (v := none) (Q := Q_ib0 Z z x a1 t kb u1 u2 h0 n0) (fun _ => rfl) Bd.notSynchronized (fun fs hr => X114.returnOut hx Bd.returns (dE 21 rfl) hr) (by decide) (by decide) (by rw [e114]; exact ⟨rfl, N114, c115, c116, c117, _, _, sz_b107, Fw114, c118⟩)
theorem own_pd17 : parseMethodDescriptor "(Ljava/lang/AbstractStringBuilder;Ljava/lang/Void;)V" = some ⟨[(.object "java/lang/AbstractStringBuilder"), (.object "java/lang/Void")], none⟩ := by decide +kernel
def Q_is0 (Z : State) (z : Int32) (x a1 t : Addr) (kb : ClassId) (u1 u2 : Value) (h0 : Heap) (n0 : Nat) (v : Option Value) (h : Heap) (L : List Loc) : Prop := v = none ∧ Fr n0 L ∧ Keep h0 h [x] ∧ Exa Z h x "java/lang/String" ∧ Fld Z h x "java/lang/String" "coder" "B" (.int (0 : Int32)) ∧ ∃ (t' : Addr) (kb : ClassId), h0.size ≤ t' ∧ Fld Z h x "java/lang/String" "value" "[B" (.ref t') ∧ Arv Z h t' kb .byte (17 : Int32) own_l17 (.int (0 : Int32))
theorem rm_is0 (l : Launch) (Z : State) (a0 : Array Value) (hw : own_H a0 Z) (ws : List Jvm.Cond) (z : Int32) (x a1 t : Addr) (kb : ClassId) (u1 u2 : Value) (h0 : Heap) (n0 : Nat) (Z0 : n0 ≤ h0.size) (O : Old Z n0 h0) (SC : Sta Z Z.heap "java/lang/String" "COMPACT_STRINGS" "Z" (.int z)) (hz : ¬ z = 0) (E1 : Exa Z h0 a1 "java/lang/StringBuilder") (F1 : Fld Z h0 a1 "java/lang/AbstractStringBuilder" "value" "[B" (.ref t)) (F2 : Fld Z h0 a1 "java/lang/AbstractStringBuilder" "coder" "B" (.int (0 : Int32))) (F3 : Fld Z h0 a1 "java/lang/AbstractStringBuilder" "count" "I" (.int (17 : Int32))) (A1 : Arv Z h0 t kb .byte (34 : Int32) own_n1 (.int 0)) (X1 : Exa Z h0 x "java/lang/String") (gx : n0 ≤ x) (Y1 : Fld Z h0 x "java/lang/String" "value" "[B" u1) (Y2 : Fld Z h0 x "java/lang/String" "coder" "B" u2) : own_MP l Mn14 jdk_42_method_53_code 2 none ws ({ frames := 4, cells := 1, slots := 17, locals := 76 } : Room) Z h0 #[(.ref x), (.ref a1)] (fun _ _ _ _ _ => True) (Q_is0 Z z x a1 t kb u1 u2 h0 n0) := by
  refine own_startP (plainFor_of_name own_pn_java_lang_String) fun p e s m below meth c s₁ Bd hx hby hml hown0 X0 e0 hh0 hZ hK Pst hPst => ?_
  have dE := own_E hby own_D26
  have hown : s.vm.findClass "java/lang/String" = some m.cls := hown0
  have hnm := (name_of_methodNamed Bd.named Bd.method).1
  have N0 := Fr.nil n0
  rw [own_ef_RR_2 m x a1]
  refine o_aloadN X0.here hx (dE 0 rfl) rfl rfl ?_
  refine o_aloadN X0.here hx (dE 1 rfl) rfl rfl ?_
  refine o_aconstNull X0.here hx (dE 2 rfl) ?_
  refine own_cP X0 (X0.specialBack hx (y := Mn13) rfl hown (mvT hZ (g_ hw 146 rfl)) (mvT hZ (g_ hw 147 rfl)) (mvT hZ (g_ hw 148 rfl)) (by decide) (backOf (W := 0) (rm_ib0 l Z a0 hw [] z x a1 t kb u1 u2  h0 n0 Z0 O SC hz E1 F1 F2 F3 A1 X1 gx Y1 Y2) hZ (g_ hw 148 rfl) (g_ hw 7 rfl) (by decide) (by decide)) (g := (mkF m 3 #[.val (.ref x), .val (.ref a1)] [.null, (.ref a1), (.ref x)])) rfl (by rw [hml]; rfl) (Steps.refl _) (a := x) (argsL := [(.ref a1), .null]) (rest := []) (lenOf own_pd17 rfl) rfl (by show 2 * 0 + _ ≤ _; exact Nat.le_of_eq rfl) (dE 3 rfl) (fun _ _ => ⟨rfl, e0, (by decide : 0 + 1 ≤ _), (by decide : 0 + 17 ≤ _)⟩)) fun v101 T101 L101 X101 hQ101 => ?_
  obtain ⟨rfl, Nq101, K101, A101, C101, t101, kb101, st_101, V101, B101⟩ := hQ101
  have N101 := Fr.app N0 Nq101
  show own_Go p e below Pst (T101.setTop (mkF m 6 #[.val (.ref x), .val (.ref a1)] []))
  have c102 := (Keep.trans (Keep.refl h0 [x]) K101 (allS (Or.inl (List.mem_of_getElem? (i := 0) rfl)) all0))
  rw [hPst]
  exact own_retP X101 (v := none) (Q := Q_is0 Z z x a1 t kb u1 u2 h0 n0) (fun _ => rfl) Bd.notSynchronized (fun fs hr => X101.returnOut hx Bd.returns (dE 4 rfl) hr) (by decide) (by decide) ⟨rfl, N101, c102, A101, C101, _, _, st_101, V101, B101⟩
theorem own_pd18 : parseMethodDescriptor "(Ljava/lang/StringBuilder;)V" = some ⟨[(.object "java/lang/StringBuilder")], none⟩ := by decide +kernel
def Q_ts0 (Z : State) (z : Int32) (a1 t : Addr) (kb : ClassId) (h0 : Heap) (n0 : Nat) (v : Option Value) (h : Heap) (L : List Loc) : Prop := ∃ x : Addr, v = some (.ref x) ∧ Fr n0 L ∧ Keep h0 h [] ∧ h0.size ≤ x ∧ Exa Z h x "java/lang/String" ∧ Fld Z h x "java/lang/String" "coder" "B" (.int (0 : Int32)) ∧ ∃ (t' : Addr) (kb : ClassId), h0.size ≤ t' ∧ Fld Z h x "java/lang/String" "value" "[B" (.ref t') ∧ Arv Z h t' kb .byte (17 : Int32) own_l17 (.int (0 : Int32))
theorem rm_ts0 (l : Launch) (Z : State) (a0 : Array Value) (hw : own_H a0 Z) (ws : List Jvm.Cond) (z : Int32) (a1 t : Addr) (kb : ClassId) (h0 : Heap) (n0 : Nat) (Z0 : n0 ≤ h0.size) (O : Old Z n0 h0) (SC : Sta Z Z.heap "java/lang/String" "COMPACT_STRINGS" "Z" (.int z)) (hz : ¬ z = 0) (E1 : Exa Z h0 a1 "java/lang/StringBuilder") (F1 : Fld Z h0 a1 "java/lang/AbstractStringBuilder" "value" "[B" (.ref t)) (F2 : Fld Z h0 a1 "java/lang/AbstractStringBuilder" "coder" "B" (.int (0 : Int32))) (F3 : Fld Z h0 a1 "java/lang/AbstractStringBuilder" "count" "I" (.int (17 : Int32))) (A1 : Arv Z h0 t kb .byte (34 : Int32) own_n1 (.int 0)) : own_MP l Mn4 jdk_67_method_42_code 1 (some (.object "java/lang/String")) ws ({ frames := 5, cells := 2, slots := 21, locals := 92 } : Room) Z h0 #[(.ref a1)] (fun _ _ _ _ _ => True) (Q_ts0 Z z a1 t kb h0 n0) := by
  refine own_startP (plainFor_of_name own_pn_java_lang_StringBuilder) fun p e s m below meth c s₁ Bd hx hby hml hown0 X0 e0 hh0 hZ hK Pst hPst => ?_
  have dE := own_E hby own_D25
  have hown : s.vm.findClass "java/lang/StringBuilder" = some m.cls := hown0
  have hnm := (name_of_methodNamed Bd.named Bd.method).1
  have N0 := Fr.nil n0
  rw [own_ef_R_1 m a1]
  refine p_newO X0 hx hZ hown (g_ hw 142 rfl) (g_ hw 6 rfl) (g_ hw 7 rfl) e0 (dE 0 rfl) (by decide) (by decide) fun T101 h101 b101 g101 X101 e101 E101 A101 D101 U101 => ?_
  have ne_a1_b101 : a1 ≠ b101 := Nat.ne_of_lt (Nat.lt_of_lt_of_le E1.lt (Nat.le_of_eq g101.symm))
  have ne_t_b101 : t ≠ b101 := Nat.ne_of_lt (Nat.lt_of_lt_of_le A1.lt (Nat.le_of_eq g101.symm))
  have gn_b101 : n0 ≤ b101 := Nat.le_trans Z0 (Nat.le_of_eq g101.symm)
  have sz_b101 : h0.size ≤ b101 := Nat.le_trans (Keep.refl h0 []).1 (Nat.le_of_eq g101.symm)
  have f101_coder : Fld Z h101 b101 "java/lang/String" "coder" "B" (.int (0 : Int32)) := D101 (Or.inr (g_ hw 31 rfl)) (ty := .byte) (by decide)
  have f101_value : Fld Z h101 b101 "java/lang/String" "value" "[B" .null := D101 (Or.inr (g_ hw 33 rfl)) (ty := (.array .byte)) (by decide)
  refine o_dup X101.here hx (dE 1 rfl) rfl rfl ?_
  refine o_aloadN X101.here hx (dE 2 rfl) rfl rfl ?_
  have c102 := ((Keep.refl h0 []).ext E101)
  have c103 := (O.ext E101)
  have c104 := (E1.ext E101)
  have c105 := (F1.ext E101)
  have c106 := (F2.ext E101)
  have c107 := (F3.ext E101)
  have c108 := (A1.ext E101)
  have c110 := (Nat.le_trans Z0 E101.1)
  refine own_cP X101 (X101.specialBack hx (y := Mn14) rfl hown (mvT hZ (g_ hw 143 rfl)) (mvT hZ (g_ hw 144 rfl)) (mvT hZ (g_ hw 145 rfl)) (by decide) (backOf (W := 1) (rm_is0 l Z a0 hw [] z b101 a1 t kb .null (.int 0)  h101 n0 c110 c103 SC hz c104 c105 c106 c107 c108 A101 gn_b101 f101_value f101_coder) hZ (g_ hw 145 rfl) (g_ hw 7 rfl) (by decide) (by decide)) (g := (mkF m 5 #[.val (.ref a1)] [(.ref a1), (.ref b101), (.ref b101)])) rfl (by rw [hml]; rfl) (Steps.refl _) (a := b101) (argsL := [(.ref a1)]) (rest := [(.ref b101)]) (lenOf own_pd18 rfl) rfl (by show 2 * 0 + _ ≤ _; exact Nat.le_of_eq rfl) (dE 3 rfl) (fun _ _ => ⟨rfl, e101, (by decide : 1 + 1 ≤ _), (by decide : 4 + 17 ≤ _)⟩)) fun v109 T109 L109 X109 hQ109 => ?_
  obtain ⟨rfl, Nq109, K109, A109, C109, t109, kb109, st_109, V109, B109⟩ := hQ109
  have N109 := Fr.app N0 Nq109
  show own_Go p e below Pst (T109.setTop (mkF m 8 #[.val (.ref a1)] [(.ref b101)]))
  have c111 := (Keep.trans c102 K109 (allS (Or.inr sz_b101) all0))
  rw [hPst]
  exact own_retP X109 (v := (some (.ref b101))) (Q := Q_ts0 Z z a1 t kb h0 n0) (fun h => by rw [Bd.returns] at h; cases h) Bd.notSynchronized (fun fs hr => retOut X109 hx Bd.returns rfl (Or.inr (Or.inr (Or.inr (Or.inr ⟨rfl, rfl, rfl⟩)))) (dE 4 rfl) hr) (by decide) (by decide) ⟨_, rfl, N109, c111, sz_b101, A109, C109, _, _, (Nat.le_trans c102.1 st_109), V109, B109⟩
def Q_crb1 (Z : State) (t : Addr) (kb : ClassId) (b0 : Int32) (h0 : Heap) (n0 : Nat) (v : Option Value) (h : Heap) (L : List Loc) : Prop := ∃ b : Addr, v = some (.ref b) ∧ Fr n0 L ∧ Keep h0 h [] ∧ h0.size ≤ b ∧ ∃ kb : ClassId, Arv Z h b kb .byte (18 : Int32) (own_o1 b0) (.int (0 : Int32))
theorem rm_crb1 (l : Launch) (Z : State) (a0 : Array Value) (hw : own_H a0 Z) (ws : List Jvm.Cond) (t : Addr) (kb : ClassId) (b0 : Int32) (h0 : Heap) (n0 : Nat) (Z0 : n0 ≤ h0.size) (A1 : Arv Z h0 t kb .byte (34 : Int32) (own_nw1 b0) (.int 0)) : own_MP l Mn11 jdk_65_method_133_code 5 (some (.array .byte)) ws ({ frames := 1, cells := 1, slots := 18, locals := 24 } : Room) Z h0 #[(.ref t), (.int (0 : Int32)), (.int (18 : Int32))] (fun _ _ _ _ _ => True) (Q_crb1 Z t kb b0 h0 n0) := by
  refine own_startP (plainFor_of_name own_pn_java_util_Arrays) fun p e s m below meth c s₁ Bd hx hby hml hown0 X0 e0 hh0 hZ hK Pst hPst => ?_
  have dE := own_E hby own_D33
  have hown : s.vm.findClass "java/util/Arrays" = some m.cls := hown0
  have hnm := (name_of_methodNamed Bd.named Bd.method).1
  have N0 := Fr.nil n0
  rw [own_ef_RII_5 m t (0 : Int32) (18 : Int32)]
  refine o_iloadN X0.here hx (dE 0 rfl) rfl ?_
  refine o_iloadN X0.here hx (dE 1 rfl) rfl ?_
  refine own_cF X0 (Jvm.LawKit.callS X0 hx (y := Mn19) hown (mvT hZ (g_ hw 173 rfl)) (mvT hZ (g_ hw 174 rfl)) (mvT hZ (g_ hw 111 rfl)) (mvT hZ (g_ hw 175 rfl)) (by decide) (backOf (W := 0) (rm_ckl l Z a0 hw [] (0 : Int32) (18 : Int32) h0 n0 Z0 (by decide)) hZ (g_ hw 175 rfl) (g_ hw 111 rfl) (by decide) (by decide)) (g := (mkF m 2 #[.val (.ref t), .val (.int (0 : Int32)), .val (.int (18 : Int32)), .unset, .unset] [(.int (18 : Int32)), (.int (0 : Int32))])) rfl (by rw [hml]; rfl) (argsL := [(.int (0 : Int32)), (.int (18 : Int32))]) (rest := []) (lenOf own_pd14 rfl) rfl (by show 2 * 0 + _ ≤ _; exact Nat.le_of_eq rfl) (dE 2 rfl) (fun _ _ => ⟨rfl, e0, (by decide : 0 + 0 ≤ _), (by decide : 0 + 0 ≤ _)⟩)) fun v101 T101 L101 X101 hQ101 => ?_
  obtain ⟨rfl, Nq101, e101⟩ := hQ101
  have N101 := Fr.app N0 Nq101
  show own_Go p e below Pst (T101.setTop (mkF m 5 #[.val (.ref t), .val (.int (0 : Int32)), .val (.int (18 : Int32)), .unset, .unset] []))
  refine o_iloadN X101.here hx (dE 3 rfl) rfl ?_
  refine o_iloadN X101.here hx (dE 4 rfl) rfl ?_
  refine o_isub X101.here hx (dE 5 rfl) rfl ?_
  rw [show ((18 : Int32) - (0 : Int32)) = (18 : Int32) from by decide]
  show own_Go p e below Pst (T101.setTop (mkF m 8 #[.val (.ref t), .val (.int (0 : Int32)), .val (.int (18 : Int32)), .unset, .unset] [(.int (18 : Int32))]))
  refine o_istoreN X101.here hx (dE 6 rfl) rfl (l' := #[.val (.ref t), .val (.int (0 : Int32)), .val (.int (18 : Int32)), .val (.int (18 : Int32)), .unset]) rfl ?_
  refine o_iloadN X101.here hx (dE 7 rfl) rfl ?_
  refine p_newP (aty := .byte) X101 hx hZ (g_ hw 23 rfl) e101 (dE 8 rfl) rfl (by decide) (cap := 18) (by decide) (by decide) (by decide) (by decide) fun T102 h102 k102 b102 g102 X102 e102 E102 A102 => ?_
  have ne_t_b102 : t ≠ b102 := Nat.ne_of_lt (Nat.lt_of_lt_of_le A1.lt (Nat.le_of_eq g102.symm))
  have gn_b102 : n0 ≤ b102 := Nat.le_trans Z0 (Nat.le_of_eq g102.symm)
  have sz_b102 : h0.size ≤ b102 := Nat.le_trans (Keep.refl h0 []).1 (Nat.le_of_eq g102.symm)
  have V102 : Arv Z h102 b102 k102 .byte (18 : Int32) [(.int (0 : Int32)), (.int (0 : Int32)), (.int (0 : Int32)), (.int (0 : Int32)), (.int (0 : Int32)), (.int (0 : Int32)), (.int (0 : Int32)), (.int (0 : Int32)), (.int (0 : Int32)), (.int (0 : Int32)), (.int (0 : Int32)), (.int (0 : Int32)), (.int (0 : Int32)), (.int (0 : Int32)), (.int (0 : Int32)), (.int (0 : Int32)), (.int (0 : Int32)), (.int (0 : Int32))] (.int (0 : Int32)) := (Arv.new A102 (by decide)).pad (pad_rep [] (.int (0 : Int32)) 18)
  refine o_astore X102.here hx (dE 9 rfl) rfl rfl (l' := #[.val (.ref t), .val (.int (0 : Int32)), .val (.int (18 : Int32)), .val (.int (18 : Int32)), .val (.ref b102)]) rfl ?_
  refine o_aloadN X102.here hx (dE 10 rfl) rfl rfl ?_
  refine o_iloadN X102.here hx (dE 11 rfl) rfl ?_
  refine o_aload X102.here hx (dE 12 rfl) rfl rfl ?_
  refine o_iconst X102.here hx (dE 13 rfl) (z := (0 : Int32)) rfl ?_
  refine o_aloadN X102.here hx (dE 14 rfl) rfl rfl ?_
  have c103 := (A1.ext E102)
  obtain ⟨cl104, Ar104, -, S104, P104, -, -⟩ := id c103
  refine own_Go.of (S' := T102.setTop (mkF m 21 #[.val (.ref t), .val (.int (0 : Int32)), .val (.int (18 : Int32)), .val (.int (18 : Int32)), .val (.ref b102)] [(.int (34 : Int32)), (.int (0 : Int32)), (.ref b102), (.int (0 : Int32)), (.ref t)])) (fun tgt kst => X102.arraylength hx (by rw [e102]; exact Ar104.1) (State.isArrayOf_alike hZ.alike Ar104.2.1) (g := (mkF m 20 #[.val (.ref t), .val (.int (0 : Int32)), .val (.int (18 : Int32)), .val (.int (18 : Int32)), .val (.ref b102)] [(.ref t), (.int (0 : Int32)), (.ref b102), (.int (0 : Int32)), (.ref t)])) rfl rfl (dE 15 rfl) _ (by rw [len_of S104 P104]; exact kst)) ?_
  refine o_iloadN X102.here hx (dE 16 rfl) rfl ?_
  refine o_isub X102.here hx (dE 17 rfl) rfl ?_
  rw [show ((34 : Int32) - (0 : Int32)) = (34 : Int32) from by decide]
  show own_Go p e below Pst (T102.setTop (mkF m 23 #[.val (.ref t), .val (.int (0 : Int32)), .val (.int (18 : Int32)), .val (.int (18 : Int32)), .val (.ref b102)] [(.int (34 : Int32)), (.int (0 : Int32)), (.ref b102), (.int (0 : Int32)), (.ref t)]))
  refine o_iloadN X102.here hx (dE 18 rfl) rfl ?_
  have c106 := (Nat.le_trans Z0 E102.1)
  refine own_cF X102 (Jvm.LawKit.callS X102 hx (y := Mn16) hown (mvT hZ (g_ hw 113 rfl)) (mvT hZ (g_ hw 114 rfl)) (mvT hZ (g_ hw 105 rfl)) (mvT hZ (g_ hw 115 rfl)) (by decide) (backOf (W := 4) (rm_minR l Z a0 hw [] (34 : Int32) (18 : Int32) h102 n0 c106 (by decide)) hZ (g_ hw 115 rfl) (g_ hw 105 rfl) (by decide) (by decide)) (g := (mkF m 24 #[.val (.ref t), .val (.int (0 : Int32)), .val (.int (18 : Int32)), .val (.int (18 : Int32)), .val (.ref b102)] [(.int (18 : Int32)), (.int (34 : Int32)), (.int (0 : Int32)), (.ref b102), (.int (0 : Int32)), (.ref t)])) rfl (by rw [hml]; rfl) (argsL := [(.int (34 : Int32)), (.int (18 : Int32))]) (rest := [(.int (0 : Int32)), (.ref b102), (.int (0 : Int32)), (.ref t)]) (lenOf own_pd3 rfl) rfl (by show 2 * 0 + _ ≤ _; exact Nat.le_of_eq rfl) (dE 19 rfl) (fun _ _ => ⟨rfl, e102, (by decide : 1 + 0 ≤ _), (by decide : 18 + 0 ≤ _)⟩)) fun v105 T105 L105 X105 hQ105 => ?_
  obtain ⟨rfl, Nq105, e105⟩ := hQ105
  have N105 := Fr.app N101 Nq105
  show own_Go p e below Pst (T105.setTop (mkF m 27 #[.val (.ref t), .val (.int (0 : Int32)), .val (.int (18 : Int32)), .val (.int (18 : Int32)), .val (.ref b102)] [(.int (18 : Int32)), (.int (0 : Int32)), (.ref b102), (.int (0 : Int32)), (.ref t)]))
  obtain ⟨T107, h107, L107, X107, e107, N107, K107, V107r, st107⟩ := cpA X105 hx hZ hown (g_ hw 116 rfl) (g_ hw 119 rfl) (g_ hw 117 rfl) (g_ hw 118 rfl) e105 c103 V102 (Or.inl ⟨rfl, rfl⟩) (by decide) (by decide) (by decide) (by decide) (by decide) (us := (own_o1 b0)) rfl (by decide) N105 gn_b102 (g := (mkF m 27 #[.val (.ref t), .val (.int (0 : Int32)), .val (.int (18 : Int32)), .val (.int (18 : Int32)), .val (.ref b102)] [(.int (18 : Int32)), (.int (0 : Int32)), (.ref b102), (.int (0 : Int32)), (.ref t)])) rfl (by rw [hml]; rfl) rfl (dE 20 rfl) (by decide) (W := 0) (by show 2 * 0 + _ ≤ _; exact Nat.le_of_eq rfl) (by decide)
  have V107 : Arv Z h107 b102 k102 .byte (18 : Int32) (own_o1 b0) (.int (0 : Int32)) := V107r
  refine own_Go.of st107 ?_
  show own_Go p e below Pst (T107.setTop (mkF m 30 #[.val (.ref t), .val (.int (0 : Int32)), .val (.int (18 : Int32)), .val (.int (18 : Int32)), .val (.ref b102)] []))
  refine o_aload X107.here hx (dE 21 rfl) rfl rfl ?_
  have c108 := (Keep.trans ((Keep.refl h0 []).ext E102) K107 (allS (Or.inr sz_b102) all0))
  rw [hPst]
  exact own_retP X107 (v := (some (.ref b102))) (Q := Q_crb1 Z t kb b0 h0 n0) (fun h => by rw [Bd.returns] at h; cases h) Bd.notSynchronized (fun fs hr => retOut X107 hx Bd.returns rfl (Or.inr (Or.inr (Or.inr (Or.inr ⟨rfl, rfl, rfl⟩)))) (dE 22 rfl) hr) (by decide) (by decide) (by rw [e107]; exact ⟨_, rfl, N107, c108, sz_b102, _, V107⟩)
def Q_cr1 (Z : State) (t : Addr) (kb : ClassId) (b0 : Int32) (h0 : Heap) (n0 : Nat) (v : Option Value) (h : Heap) (L : List Loc) : Prop := ∃ b : Addr, v = some (.ref b) ∧ Fr n0 L ∧ Keep h0 h [] ∧ h0.size ≤ b ∧ ∃ kb : ClassId, Arv Z h b kb .byte (18 : Int32) (own_o1 b0) (.int (0 : Int32))
theorem rm_cr1 (l : Launch) (Z : State) (a0 : Array Value) (hw : own_H a0 Z) (ws : List Jvm.Cond) (t : Addr) (kb : ClassId) (b0 : Int32) (h0 : Heap) (n0 : Nat) (Z0 : n0 ≤ h0.size) (A1 : Arv Z h0 t kb .byte (34 : Int32) (own_nw1 b0) (.int 0)) : own_MP l Mn12 jdk_65_method_132_code 3 (some (.array .byte)) ws ({ frames := 2, cells := 1, slots := 18, locals := 40 } : Room) Z h0 #[(.ref t), (.int (0 : Int32)), (.int (18 : Int32))] (fun _ _ _ _ _ => True) (Q_cr1 Z t kb b0 h0 n0) := by
  refine own_startP (plainFor_of_name own_pn_java_util_Arrays) fun p e s m below meth c s₁ Bd hx hby hml hown0 X0 e0 hh0 hZ hK Pst hPst => ?_
  have dE := own_E hby own_D32
  have hown : s.vm.findClass "java/util/Arrays" = some m.cls := hown0
  have hnm := (name_of_methodNamed Bd.named Bd.method).1
  have N0 := Fr.nil n0
  rw [own_ef_RII_3 m t (0 : Int32) (18 : Int32)]
  refine o_iloadN X0.here hx (dE 0 rfl) rfl ?_
  refine o_ifNo X0.here hx (dE 1 rfl) rfl ((if0 _ _).trans (teq rfl).2) ?_
  refine o_iloadN X0.here hx (dE 2 rfl) rfl ?_
  refine o_aloadN X0.here hx (dE 3 rfl) rfl rfl ?_
  obtain ⟨cl101, Ar101, -, S101, P101, -, -⟩ := id A1
  refine own_Go.of (S' := s₁.setTop (mkF m 7 #[.val (.ref t), .val (.int (0 : Int32)), .val (.int (18 : Int32))] [(.int (34 : Int32)), (.int (18 : Int32))])) (fun tgt kst => X0.arraylength hx (by rw [e0]; exact Ar101.1) (State.isArrayOf_alike hZ.alike Ar101.2.1) (g := (mkF m 6 #[.val (.ref t), .val (.int (0 : Int32)), .val (.int (18 : Int32))] [(.ref t), (.int (18 : Int32))])) rfl rfl (dE 4 rfl) _ (by rw [len_of S101 P101]; exact kst)) ?_
  refine o_icmpNo X0.here hx (dE 5 rfl) rfl (feq (by decide)).1 ?_
  refine o_aloadN X0.here hx (dE 6 rfl) rfl rfl ?_
  refine o_iloadN X0.here hx (dE 7 rfl) rfl ?_
  refine o_iloadN X0.here hx (dE 8 rfl) rfl ?_
  refine own_cF X0 (Jvm.LawKit.callS X0 hx (y := Mn11) hown (mvT hZ (g_ hw 170 rfl)) (mvT hZ (g_ hw 171 rfl)) (mvT hZ (g_ hw 111 rfl)) (mvT hZ (g_ hw 172 rfl)) (by decide) (backOf (W := 0) (rm_crb1 l Z a0 hw [] t kb b0 h0 n0 Z0 A1) hZ (g_ hw 172 rfl) (g_ hw 111 rfl) (by decide) (by decide)) (g := (mkF m 13 #[.val (.ref t), .val (.int (0 : Int32)), .val (.int (18 : Int32))] [(.int (18 : Int32)), (.int (0 : Int32)), (.ref t)])) rfl (by rw [hml]; rfl) (argsL := [(.ref t), (.int (0 : Int32)), (.int (18 : Int32))]) (rest := []) (lenOf own_pd15 rfl) rfl (by show 2 * 0 + _ ≤ _; exact Nat.le_of_eq rfl) (dE 9 rfl) (fun _ _ => ⟨rfl, e0, (by decide : 0 + 1 ≤ _), (by decide : 0 + 18 ≤ _)⟩)) fun v102 T102 L102 X102 hQ102 => ?_
  obtain ⟨b102, rfl, Nq102, K102, sb102, kb102, V102⟩ := hQ102
  have N102 := Fr.app N0 Nq102
  have gn_b102 : n0 ≤ b102 := Nat.le_trans Z0 sb102
  have sz_b102 : h0.size ≤ b102 := Nat.le_trans (Keep.refl h0 []).1 sb102
  show own_Go p e below Pst (T102.setTop (mkF m 16 #[.val (.ref t), .val (.int (0 : Int32)), .val (.int (18 : Int32))] [(.ref b102)]))
  have c103 := (Keep.trans (Keep.refl h0 []) K102 all0)
  rw [hPst]
  exact own_retP X102 (v := (some (.ref b102))) (Q := Q_cr1 Z t kb b0 h0 n0) (fun h => by rw [Bd.returns] at h; cases h) Bd.notSynchronized (fun fs hr => retOut X102 hx Bd.returns rfl (Or.inr (Or.inr (Or.inr (Or.inr ⟨rfl, rfl, rfl⟩)))) (dE 10 rfl) hr) (by decide) (by decide) ⟨_, rfl, N102, c103, sz_b102, _, V102⟩
def Q_ib1 (Z : State) (z : Int32) (x a1 t : Addr) (kb : ClassId) (u1 u2 : Value) (b0 : Int32) (h0 : Heap) (n0 : Nat) (v : Option Value) (h : Heap) (L : List Loc) : Prop := v = none ∧ Fr n0 L ∧ Keep h0 h [x] ∧ Exa Z h x "java/lang/String" ∧ Fld Z h x "java/lang/String" "coder" "B" (.int (0 : Int32)) ∧ ∃ (t' : Addr) (kb : ClassId), h0.size ≤ t' ∧ Fld Z h x "java/lang/String" "value" "[B" (.ref t') ∧ Arv Z h t' kb .byte (18 : Int32) (own_o1 b0) (.int (0 : Int32))
theorem rm_ib1 (l : Launch) (Z : State) (a0 : Array Value) (hw : own_H a0 Z) (ws : List Jvm.Cond) (z : Int32) (x a1 t : Addr) (kb : ClassId) (u1 u2 : Value) (b0 : Int32) (h0 : Heap) (n0 : Nat) (Z0 : n0 ≤ h0.size) (O : Old Z n0 h0) (SC : Sta Z Z.heap "java/lang/String" "COMPACT_STRINGS" "Z" (.int z)) (hz : ¬ z = 0) (E1 : Exa Z h0 a1 "java/lang/StringBuilder") (F1 : Fld Z h0 a1 "java/lang/AbstractStringBuilder" "value" "[B" (.ref t)) (F2 : Fld Z h0 a1 "java/lang/AbstractStringBuilder" "coder" "B" (.int (0 : Int32))) (F3 : Fld Z h0 a1 "java/lang/AbstractStringBuilder" "count" "I" (.int (18 : Int32))) (A1 : Arv Z h0 t kb .byte (34 : Int32) (own_nw1 b0) (.int 0)) (X1 : Exa Z h0 x "java/lang/String") (gx : n0 ≤ x) (Y1 : Fld Z h0 x "java/lang/String" "value" "[B" u1) (Y2 : Fld Z h0 x "java/lang/String" "coder" "B" u2) : own_MP l Mn13 jdk_42_method_150_code 5 none ws ({ frames := 3, cells := 1, slots := 18, locals := 60 } : Room) Z h0 #[(.ref x), (.ref a1), .null] (fun _ _ _ _ _ => True) (Q_ib1 Z z x a1 t kb u1 u2 b0 h0 n0) := by
  refine own_startP (plainFor_of_name own_pn_java_lang_String) fun p e s m below meth c s₁ Bd hx hby hml hown0 X0 e0 hh0 hZ hK Pst hPst => ?_
  have dE := own_E hby own_D27
  have hown : s.vm.findClass "java/lang/String" = some m.cls := hown0
  have hnm := (name_of_methodNamed Bd.named Bd.method).1
  have N0 := Fr.nil n0
  rw [own_ef_RRN_5 m x a1]
  have ne1 : a1 ≠ x := ne_exa E1 X1 (by decide)
  have ne2 : t ≠ x := Ne.symm (Exa.neArv X1 A1 (g_ hw 6 rfl))
  refine o_aloadN X0.here hx (dE 0 rfl) rfl rfl ?_
  refine p_initO X0 hx hZ hown (g_ hw 15 rfl) (g_ hw 16 rfl) (g_ hw 17 rfl) e0 (by rw [hml]; rfl) rfl (dE 1 rfl) (by decide) (W := 0) (by show 2 * 0 + _ ≤ _; exact Nat.le_of_eq rfl) (by decide) fun T101 X101 e101 => ?_
  refine o_aloadN X101.here hx (dE 2 rfl) rfl rfl ?_
  obtain ⟨cq102, kq102, q102a, q102b, q102c⟩ := isOf hZ e101 E1
  refine own_cP X101 (X101.virtualBack hx (y := Mn10) (z := Mn10) hown (mvT hZ (g_ hw 149 rfl)) (mvT hZ (g_ hw 150 rfl)) (notFace_of_selects (args := #[]) (mvT hZ (g_ hw 152 rfl))) (mvT hZ (g_ hw 152 rfl)) (mvT hZ (g_ hw 151 rfl)) (by decide) (backOf (W := 0) (rm_gv l Z a0 hw [] a1 t h0 n0 Z0 F1) hZ (g_ hw 153 rfl) (g_ hw 56 rfl) (by decide) (by decide)) q102a q102c (g := (mkF m 5 #[.val (.ref x), .val (.ref a1), .val .null, .unset, .unset] [(.ref a1)])) rfl (by rw [hml]; rfl) (Steps.refl _) (argsL := []) (rest := []) (lenOf own_pd16 rfl) rfl (by show 2 * 0 + _ ≤ _; exact Nat.le_of_eq rfl) (dE 3 rfl) (fun _ _ => ⟨rfl, e101, (by decide : 0 + 0 ≤ _), (by decide : 0 + 0 ≤ _)⟩)) fun v102 T102 L102 X102 hQ102 => ?_
  obtain ⟨rfl, Nq102, e102⟩ := hQ102
  have N102 := Fr.app N0 Nq102
  show own_Go p e below Pst (T102.setTop (mkF m 8 #[.val (.ref x), .val (.ref a1), .val .null, .unset, .unset] [(.ref t)]))
  refine o_astoreN X102.here hx (dE 4 rfl) rfl rfl (l' := #[.val (.ref x), .val (.ref a1), .val .null, .val (.ref t), .unset]) rfl ?_
  refine o_aloadN X102.here hx (dE 5 rfl) rfl rfl ?_
  obtain ⟨cq103, kq103, q103a, q103b, q103c⟩ := isOf hZ e102 E1
  refine own_cP X102 (X102.virtualBack hx (y := Mn17) (z := Mn18) hown (mvT hZ (g_ hw 154 rfl)) (mvT hZ (g_ hw 155 rfl)) (own_nf (args := #[]) (mvT hZ (g_ hw 92 rfl)) rfl) (mvT hZ (g_ hw 157 rfl)) (mvT hZ (g_ hw 158 rfl)) (by decide) (backOf (W := 0) (rm_sl l Z a0 hw [] a1 (18 : Int32) h0 n0 Z0 E1 F3) hZ (g_ hw 159 rfl) (g_ hw 48 rfl) (by decide) (by decide)) q103a q103c (g := (mkF m 10 #[.val (.ref x), .val (.ref a1), .val .null, .val (.ref t), .unset] [(.ref a1)])) rfl (by rw [hml]; rfl) (Steps.refl _) (argsL := []) (rest := []) (lenOf own_pd9 rfl) rfl (by show 2 * 0 + _ ≤ _; exact Nat.le_of_eq rfl) (dE 6 rfl) (fun _ _ => ⟨rfl, e102, (by decide : 0 + 0 ≤ _), (by decide : 0 + 0 ≤ _)⟩)) fun v103 T103 L103 X103 hQ103 => ?_
  obtain ⟨rfl, Nq103, e103⟩ := hQ103
  have N103 := Fr.app N102 Nq103
  show own_Go p e below Pst (T103.setTop (mkF m 13 #[.val (.ref x), .val (.ref a1), .val .null, .val (.ref t), .unset] [(.int (18 : Int32))]))
  refine o_istore X103.here hx (dE 7 rfl) rfl (l' := #[.val (.ref x), .val (.ref a1), .val .null, .val (.ref t), .val (.int (18 : Int32))]) rfl ?_
  refine o_aloadN X103.here hx (dE 8 rfl) rfl rfl ?_
  obtain ⟨cq104, kq104, q104a, q104b, q104c⟩ := isOf hZ e103 E1
  refine own_cP X103 (X103.virtualBack hx (y := Mn6) (z := Mn6) hown (mvT hZ (g_ hw 162 rfl)) (mvT hZ (g_ hw 163 rfl)) (notFace_of_selects (args := #[]) (mvT hZ (g_ hw 165 rfl))) (mvT hZ (g_ hw 165 rfl)) (mvT hZ (g_ hw 164 rfl)) (by decide) (backOf (W := 0) (rm_bl l Z a0 hw [] z a1 h0 n0 Z0 O SC hz F2) hZ (g_ hw 166 rfl) (g_ hw 56 rfl) (by decide) (by decide)) q104a q104c (g := (mkF m 16 #[.val (.ref x), .val (.ref a1), .val .null, .val (.ref t), .val (.int (18 : Int32))] [(.ref a1)])) rfl (by rw [hml]; rfl) (Steps.refl _) (argsL := []) (rest := []) (lenOf own_pd12 rfl) rfl (by show 2 * 0 + _ ≤ _; exact Nat.le_of_eq rfl) (dE 9 rfl) (fun _ _ => ⟨rfl, e103, (by decide : 0 + 0 ≤ _), (by decide : 0 + 0 ≤ _)⟩)) fun v104 T104 L104 X104 hQ104 => ?_
  obtain ⟨rfl, Nq104, e104⟩ := hQ104
  have N104 := Fr.app N103 Nq104
  show own_Go p e below Pst (T104.setTop (mkF m 19 #[.val (.ref x), .val (.ref a1), .val .null, .val (.ref t), .val (.int (18 : Int32))] [(.int (1 : Int32))]))
  refine o_ifNo X104.here hx (dE 10 rfl) rfl ((if0 _ _).trans (feq (by decide)).1) ?_
  refine o_aloadN X104.here hx (dE 11 rfl) rfl rfl ?_
  refine o_iconst X104.here hx (dE 12 rfl) (z := (0 : Int32)) rfl ?_
  refine p_putFN X104 hx hZ hown (g_ hw 30 rfl) Via.refl e104 Y2 X1 (Or.inr ⟨(g_ hw 31 rfl), rfl, hnm⟩) (g_ hw 6 rfl) (ty := .byte) (v' := (.int (0 : Int32))) (by decide) rfl rfl rfl (dE 13 rfl) fun T105 h105 X105 e105 W105 => ?_
  have Fw105 := Fld.same W105 Y2
  have N105 := Fr.snoc X105 N104 gx
  refine o_aloadN X105.here hx (dE 14 rfl) rfl rfl ?_
  refine o_aloadN X105.here hx (dE 15 rfl) rfl rfl ?_
  refine o_iconst X105.here hx (dE 16 rfl) (z := (0 : Int32)) rfl ?_
  refine o_iload X105.here hx (dE 17 rfl) rfl ?_
  have c106 := (A1.other W105 ne2)
  have c108 := (Nat.le_trans Z0 (Keep.of_wr W105).1)
  refine own_cF X105 (Jvm.LawKit.callS X105 hx (y := Mn12) hown (mvT hZ (g_ hw 167 rfl)) (mvT hZ (g_ hw 168 rfl)) (mvT hZ (g_ hw 111 rfl)) (mvT hZ (g_ hw 169 rfl)) (by decide) (backOf (W := 1) (rm_cr1 l Z a0 hw [] t kb b0 h105 n0 c108 c106) hZ (g_ hw 169 rfl) (g_ hw 111 rfl) (by decide) (by decide)) (g := (mkF m 32 #[.val (.ref x), .val (.ref a1), .val .null, .val (.ref t), .val (.int (18 : Int32))] [(.int (18 : Int32)), (.int (0 : Int32)), (.ref t), (.ref x)])) rfl (by rw [hml]; rfl) (argsL := [(.ref t), (.int (0 : Int32)), (.int (18 : Int32))]) (rest := [(.ref x)]) (lenOf own_pd15 rfl) rfl (by show 2 * 0 + _ ≤ _; exact Nat.le_of_eq rfl) (dE 18 rfl) (fun _ _ => ⟨rfl, e105, (by decide : 0 + 1 ≤ _), (by decide : 0 + 18 ≤ _)⟩)) fun v107 T107 L107 X107 hQ107 => ?_
  obtain ⟨b107, rfl, Nq107, K107, sb107, kb107, V107⟩ := hQ107
  have N107 := Fr.app N105 Nq107
  have c109 := (X1.wr W105)
  have ne_x_b107 : x ≠ b107 := Nat.ne_of_lt (Nat.lt_of_lt_of_le c109.lt sb107)
  have c110 := (E1.wr W105)
  have ne_a1_b107 : a1 ≠ b107 := Nat.ne_of_lt (Nat.lt_of_lt_of_le c110.lt sb107)
  have ne_t_b107 : t ≠ b107 := Nat.ne_of_lt (Nat.lt_of_lt_of_le c106.lt sb107)
  have gn_b107 : n0 ≤ b107 := Nat.le_trans c108 sb107
  have c111 := ((Keep.refl h0 [x]).wr W105 (Or.inl (List.mem_of_getElem? (i := 0) rfl)))
  have sz_b107 : h0.size ≤ b107 := Nat.le_trans c111.1 sb107
  show own_Go p e below Pst (T107.setTop (mkF m 35 #[.val (.ref x), .val (.ref a1), .val .null, .val (.ref t), .val (.int (18 : Int32))] [(.ref b107), (.ref x)]))
  have c112 := (c109.keep K107)
  have c113 := ((Y1.other W105 (Or.inr (slot_ne (Or.inr (g_ hw 33 rfl)) (Or.inr (g_ hw 31 rfl)) (by decide) (t := (.array .byte)) (t' := .byte) (by decide) (by decide)))).keep K107 nin0)
  refine p_putF X107 hx hZ hown (host := "") (Or.inl (g_ hw 32 rfl)) Via.refl rfl c113 c112 (Or.inr ⟨(g_ hw 33 rfl), rfl, hnm⟩) (g_ hw 6 rfl) (ty := (.array .byte)) (by decide) rfl rfl rfl (dE 19 rfl) fun T114 h114 X114 e114 W114 => ?_
  have Fw114 := Fld.same W114 c113
  have N114 := Fr.snoc X114 N107 gx
  refine o_goto X114.here hx (pc0 := 38) (pc' := 97) rfl (dE 20 rfl) (by decide) (by decide) ?_
  have c115 := ((Keep.trans c111 K107 all0).wr W114 (Or.inl (List.mem_of_getElem? (i := 0) rfl)))
  have c116 := (c112.wr W114)
  have c117 := ((Fw105.keep K107 nin0).other W114 (Or.inr (slot_ne (Or.inr (g_ hw 31 rfl)) (Or.inr (g_ hw 33 rfl)) (by decide) (t := .byte) (t' := (.array .byte)) (by decide) (by decide))))
  have c118 := (V107.other W114 (Ne.symm ne_x_b107))
  rw [hPst]
  exact own_retP X114 (v := none) (Q := Q_ib1 Z z x a1 t kb u1 u2 b0 h0 n0) (fun _ => rfl) Bd.notSynchronized (fun fs hr => X114.returnOut hx Bd.returns (dE 21 rfl) hr) (by decide) (by decide) (by rw [e114]; exact ⟨rfl, N114, c115, c116, c117, _, _, sz_b107, Fw114, c118⟩)
def Q_is1 (Z : State) (z : Int32) (x a1 t : Addr) (kb : ClassId) (u1 u2 : Value) (b0 : Int32) (h0 : Heap) (n0 : Nat) (v : Option Value) (h : Heap) (L : List Loc) : Prop := v = none ∧ Fr n0 L ∧ Keep h0 h [x] ∧ Exa Z h x "java/lang/String" ∧ Fld Z h x "java/lang/String" "coder" "B" (.int (0 : Int32)) ∧ ∃ (t' : Addr) (kb : ClassId), h0.size ≤ t' ∧ Fld Z h x "java/lang/String" "value" "[B" (.ref t') ∧ Arv Z h t' kb .byte (18 : Int32) (own_o1 b0) (.int (0 : Int32))
theorem rm_is1 (l : Launch) (Z : State) (a0 : Array Value) (hw : own_H a0 Z) (ws : List Jvm.Cond) (z : Int32) (x a1 t : Addr) (kb : ClassId) (u1 u2 : Value) (b0 : Int32) (h0 : Heap) (n0 : Nat) (Z0 : n0 ≤ h0.size) (O : Old Z n0 h0) (SC : Sta Z Z.heap "java/lang/String" "COMPACT_STRINGS" "Z" (.int z)) (hz : ¬ z = 0) (E1 : Exa Z h0 a1 "java/lang/StringBuilder") (F1 : Fld Z h0 a1 "java/lang/AbstractStringBuilder" "value" "[B" (.ref t)) (F2 : Fld Z h0 a1 "java/lang/AbstractStringBuilder" "coder" "B" (.int (0 : Int32))) (F3 : Fld Z h0 a1 "java/lang/AbstractStringBuilder" "count" "I" (.int (18 : Int32))) (A1 : Arv Z h0 t kb .byte (34 : Int32) (own_nw1 b0) (.int 0)) (X1 : Exa Z h0 x "java/lang/String") (gx : n0 ≤ x) (Y1 : Fld Z h0 x "java/lang/String" "value" "[B" u1) (Y2 : Fld Z h0 x "java/lang/String" "coder" "B" u2) : own_MP l Mn14 jdk_42_method_53_code 2 none ws ({ frames := 4, cells := 1, slots := 18, locals := 76 } : Room) Z h0 #[(.ref x), (.ref a1)] (fun _ _ _ _ _ => True) (Q_is1 Z z x a1 t kb u1 u2 b0 h0 n0) := by
  refine own_startP (plainFor_of_name own_pn_java_lang_String) fun p e s m below meth c s₁ Bd hx hby hml hown0 X0 e0 hh0 hZ hK Pst hPst => ?_
  have dE := own_E hby own_D26
  have hown : s.vm.findClass "java/lang/String" = some m.cls := hown0
  have hnm := (name_of_methodNamed Bd.named Bd.method).1
  have N0 := Fr.nil n0
  rw [own_ef_RR_2 m x a1]
  refine o_aloadN X0.here hx (dE 0 rfl) rfl rfl ?_
  refine o_aloadN X0.here hx (dE 1 rfl) rfl rfl ?_
  refine o_aconstNull X0.here hx (dE 2 rfl) ?_
  refine own_cP X0 (X0.specialBack hx (y := Mn13) rfl hown (mvT hZ (g_ hw 146 rfl)) (mvT hZ (g_ hw 147 rfl)) (mvT hZ (g_ hw 148 rfl)) (by decide) (backOf (W := 0) (rm_ib1 l Z a0 hw [] z x a1 t kb u1 u2 b0 h0 n0 Z0 O SC hz E1 F1 F2 F3 A1 X1 gx Y1 Y2) hZ (g_ hw 148 rfl) (g_ hw 7 rfl) (by decide) (by decide)) (g := (mkF m 3 #[.val (.ref x), .val (.ref a1)] [.null, (.ref a1), (.ref x)])) rfl (by rw [hml]; rfl) (Steps.refl _) (a := x) (argsL := [(.ref a1), .null]) (rest := []) (lenOf own_pd17 rfl) rfl (by show 2 * 0 + _ ≤ _; exact Nat.le_of_eq rfl) (dE 3 rfl) (fun _ _ => ⟨rfl, e0, (by decide : 0 + 1 ≤ _), (by decide : 0 + 18 ≤ _)⟩)) fun v101 T101 L101 X101 hQ101 => ?_
  obtain ⟨rfl, Nq101, K101, A101, C101, t101, kb101, st_101, V101, B101⟩ := hQ101
  have N101 := Fr.app N0 Nq101
  show own_Go p e below Pst (T101.setTop (mkF m 6 #[.val (.ref x), .val (.ref a1)] []))
  have c102 := (Keep.trans (Keep.refl h0 [x]) K101 (allS (Or.inl (List.mem_of_getElem? (i := 0) rfl)) all0))
  rw [hPst]
  exact own_retP X101 (v := none) (Q := Q_is1 Z z x a1 t kb u1 u2 b0 h0 n0) (fun _ => rfl) Bd.notSynchronized (fun fs hr => X101.returnOut hx Bd.returns (dE 4 rfl) hr) (by decide) (by decide) ⟨rfl, N101, c102, A101, C101, _, _, st_101, V101, B101⟩
def Q_ts1 (Z : State) (z : Int32) (a1 t : Addr) (kb : ClassId) (b0 : Int32) (h0 : Heap) (n0 : Nat) (v : Option Value) (h : Heap) (L : List Loc) : Prop := ∃ x : Addr, v = some (.ref x) ∧ Fr n0 L ∧ Keep h0 h [] ∧ h0.size ≤ x ∧ Exa Z h x "java/lang/String" ∧ Fld Z h x "java/lang/String" "coder" "B" (.int (0 : Int32)) ∧ ∃ (t' : Addr) (kb : ClassId), h0.size ≤ t' ∧ Fld Z h x "java/lang/String" "value" "[B" (.ref t') ∧ Arv Z h t' kb .byte (18 : Int32) (own_o1 b0) (.int (0 : Int32))
theorem rm_ts1 (l : Launch) (Z : State) (a0 : Array Value) (hw : own_H a0 Z) (ws : List Jvm.Cond) (z : Int32) (a1 t : Addr) (kb : ClassId) (b0 : Int32) (h0 : Heap) (n0 : Nat) (Z0 : n0 ≤ h0.size) (O : Old Z n0 h0) (SC : Sta Z Z.heap "java/lang/String" "COMPACT_STRINGS" "Z" (.int z)) (hz : ¬ z = 0) (E1 : Exa Z h0 a1 "java/lang/StringBuilder") (F1 : Fld Z h0 a1 "java/lang/AbstractStringBuilder" "value" "[B" (.ref t)) (F2 : Fld Z h0 a1 "java/lang/AbstractStringBuilder" "coder" "B" (.int (0 : Int32))) (F3 : Fld Z h0 a1 "java/lang/AbstractStringBuilder" "count" "I" (.int (18 : Int32))) (A1 : Arv Z h0 t kb .byte (34 : Int32) (own_nw1 b0) (.int 0)) : own_MP l Mn4 jdk_67_method_42_code 1 (some (.object "java/lang/String")) ws ({ frames := 5, cells := 2, slots := 22, locals := 92 } : Room) Z h0 #[(.ref a1)] (fun _ _ _ _ _ => True) (Q_ts1 Z z a1 t kb b0 h0 n0) := by
  refine own_startP (plainFor_of_name own_pn_java_lang_StringBuilder) fun p e s m below meth c s₁ Bd hx hby hml hown0 X0 e0 hh0 hZ hK Pst hPst => ?_
  have dE := own_E hby own_D25
  have hown : s.vm.findClass "java/lang/StringBuilder" = some m.cls := hown0
  have hnm := (name_of_methodNamed Bd.named Bd.method).1
  have N0 := Fr.nil n0
  rw [own_ef_R_1 m a1]
  refine p_newO X0 hx hZ hown (g_ hw 142 rfl) (g_ hw 6 rfl) (g_ hw 7 rfl) e0 (dE 0 rfl) (by decide) (by decide) fun T101 h101 b101 g101 X101 e101 E101 A101 D101 U101 => ?_
  have ne_a1_b101 : a1 ≠ b101 := Nat.ne_of_lt (Nat.lt_of_lt_of_le E1.lt (Nat.le_of_eq g101.symm))
  have ne_t_b101 : t ≠ b101 := Nat.ne_of_lt (Nat.lt_of_lt_of_le A1.lt (Nat.le_of_eq g101.symm))
  have gn_b101 : n0 ≤ b101 := Nat.le_trans Z0 (Nat.le_of_eq g101.symm)
  have sz_b101 : h0.size ≤ b101 := Nat.le_trans (Keep.refl h0 []).1 (Nat.le_of_eq g101.symm)
  have f101_coder : Fld Z h101 b101 "java/lang/String" "coder" "B" (.int (0 : Int32)) := D101 (Or.inr (g_ hw 31 rfl)) (ty := .byte) (by decide)
  have f101_value : Fld Z h101 b101 "java/lang/String" "value" "[B" .null := D101 (Or.inr (g_ hw 33 rfl)) (ty := (.array .byte)) (by decide)
  refine o_dup X101.here hx (dE 1 rfl) rfl rfl ?_
  refine o_aloadN X101.here hx (dE 2 rfl) rfl rfl ?_
  have c102 := ((Keep.refl h0 []).ext E101)
  have c103 := (O.ext E101)
  have c104 := (E1.ext E101)
  have c105 := (F1.ext E101)
  have c106 := (F2.ext E101)
  have c107 := (F3.ext E101)
  have c108 := (A1.ext E101)
  have c110 := (Nat.le_trans Z0 E101.1)
  refine own_cP X101 (X101.specialBack hx (y := Mn14) rfl hown (mvT hZ (g_ hw 143 rfl)) (mvT hZ (g_ hw 144 rfl)) (mvT hZ (g_ hw 145 rfl)) (by decide) (backOf (W := 1) (rm_is1 l Z a0 hw [] z b101 a1 t kb .null (.int 0) b0 h101 n0 c110 c103 SC hz c104 c105 c106 c107 c108 A101 gn_b101 f101_value f101_coder) hZ (g_ hw 145 rfl) (g_ hw 7 rfl) (by decide) (by decide)) (g := (mkF m 5 #[.val (.ref a1)] [(.ref a1), (.ref b101), (.ref b101)])) rfl (by rw [hml]; rfl) (Steps.refl _) (a := b101) (argsL := [(.ref a1)]) (rest := [(.ref b101)]) (lenOf own_pd18 rfl) rfl (by show 2 * 0 + _ ≤ _; exact Nat.le_of_eq rfl) (dE 3 rfl) (fun _ _ => ⟨rfl, e101, (by decide : 1 + 1 ≤ _), (by decide : 4 + 18 ≤ _)⟩)) fun v109 T109 L109 X109 hQ109 => ?_
  obtain ⟨rfl, Nq109, K109, A109, C109, t109, kb109, st_109, V109, B109⟩ := hQ109
  have N109 := Fr.app N0 Nq109
  show own_Go p e below Pst (T109.setTop (mkF m 8 #[.val (.ref a1)] [(.ref b101)]))
  have c111 := (Keep.trans c102 K109 (allS (Or.inr sz_b101) all0))
  rw [hPst]
  exact own_retP X109 (v := (some (.ref b101))) (Q := Q_ts1 Z z a1 t kb b0 h0 n0) (fun h => by rw [Bd.returns] at h; cases h) Bd.notSynchronized (fun fs hr => retOut X109 hx Bd.returns rfl (Or.inr (Or.inr (Or.inr (Or.inr ⟨rfl, rfl, rfl⟩)))) (dE 4 rfl) hr) (by decide) (by decide) ⟨_, rfl, N109, c111, sz_b101, A109, C109, _, _, (Nat.le_trans c102.1 st_109), V109, B109⟩
def Q_crb2 (Z : State) (t : Addr) (kb : ClassId) (b0 b1 : Int32) (h0 : Heap) (n0 : Nat) (v : Option Value) (h : Heap) (L : List Loc) : Prop := ∃ b : Addr, v = some (.ref b) ∧ Fr n0 L ∧ Keep h0 h [] ∧ h0.size ≤ b ∧ ∃ kb : ClassId, Arv Z h b kb .byte (19 : Int32) (own_o2 b0 b1) (.int (0 : Int32))
theorem rm_crb2 (l : Launch) (Z : State) (a0 : Array Value) (hw : own_H a0 Z) (ws : List Jvm.Cond) (t : Addr) (kb : ClassId) (b0 b1 : Int32) (h0 : Heap) (n0 : Nat) (Z0 : n0 ≤ h0.size) (A1 : Arv Z h0 t kb .byte (34 : Int32) (own_nw2 b0 b1) (.int 0)) : own_MP l Mn11 jdk_65_method_133_code 5 (some (.array .byte)) ws ({ frames := 1, cells := 1, slots := 19, locals := 24 } : Room) Z h0 #[(.ref t), (.int (0 : Int32)), (.int (19 : Int32))] (fun _ _ _ _ _ => True) (Q_crb2 Z t kb b0 b1 h0 n0) := by
  refine own_startP (plainFor_of_name own_pn_java_util_Arrays) fun p e s m below meth c s₁ Bd hx hby hml hown0 X0 e0 hh0 hZ hK Pst hPst => ?_
  have dE := own_E hby own_D33
  have hown : s.vm.findClass "java/util/Arrays" = some m.cls := hown0
  have hnm := (name_of_methodNamed Bd.named Bd.method).1
  have N0 := Fr.nil n0
  rw [own_ef_RII_5 m t (0 : Int32) (19 : Int32)]
  refine o_iloadN X0.here hx (dE 0 rfl) rfl ?_
  refine o_iloadN X0.here hx (dE 1 rfl) rfl ?_
  refine own_cF X0 (Jvm.LawKit.callS X0 hx (y := Mn19) hown (mvT hZ (g_ hw 173 rfl)) (mvT hZ (g_ hw 174 rfl)) (mvT hZ (g_ hw 111 rfl)) (mvT hZ (g_ hw 175 rfl)) (by decide) (backOf (W := 0) (rm_ckl l Z a0 hw [] (0 : Int32) (19 : Int32) h0 n0 Z0 (by decide)) hZ (g_ hw 175 rfl) (g_ hw 111 rfl) (by decide) (by decide)) (g := (mkF m 2 #[.val (.ref t), .val (.int (0 : Int32)), .val (.int (19 : Int32)), .unset, .unset] [(.int (19 : Int32)), (.int (0 : Int32))])) rfl (by rw [hml]; rfl) (argsL := [(.int (0 : Int32)), (.int (19 : Int32))]) (rest := []) (lenOf own_pd14 rfl) rfl (by show 2 * 0 + _ ≤ _; exact Nat.le_of_eq rfl) (dE 2 rfl) (fun _ _ => ⟨rfl, e0, (by decide : 0 + 0 ≤ _), (by decide : 0 + 0 ≤ _)⟩)) fun v101 T101 L101 X101 hQ101 => ?_
  obtain ⟨rfl, Nq101, e101⟩ := hQ101
  have N101 := Fr.app N0 Nq101
  show own_Go p e below Pst (T101.setTop (mkF m 5 #[.val (.ref t), .val (.int (0 : Int32)), .val (.int (19 : Int32)), .unset, .unset] []))
  refine o_iloadN X101.here hx (dE 3 rfl) rfl ?_
  refine o_iloadN X101.here hx (dE 4 rfl) rfl ?_
  refine o_isub X101.here hx (dE 5 rfl) rfl ?_
  rw [show ((19 : Int32) - (0 : Int32)) = (19 : Int32) from by decide]
  show own_Go p e below Pst (T101.setTop (mkF m 8 #[.val (.ref t), .val (.int (0 : Int32)), .val (.int (19 : Int32)), .unset, .unset] [(.int (19 : Int32))]))
  refine o_istoreN X101.here hx (dE 6 rfl) rfl (l' := #[.val (.ref t), .val (.int (0 : Int32)), .val (.int (19 : Int32)), .val (.int (19 : Int32)), .unset]) rfl ?_
  refine o_iloadN X101.here hx (dE 7 rfl) rfl ?_
  refine p_newP (aty := .byte) X101 hx hZ (g_ hw 23 rfl) e101 (dE 8 rfl) rfl (by decide) (cap := 19) (by decide) (by decide) (by decide) (by decide) fun T102 h102 k102 b102 g102 X102 e102 E102 A102 => ?_
  have ne_t_b102 : t ≠ b102 := Nat.ne_of_lt (Nat.lt_of_lt_of_le A1.lt (Nat.le_of_eq g102.symm))
  have gn_b102 : n0 ≤ b102 := Nat.le_trans Z0 (Nat.le_of_eq g102.symm)
  have sz_b102 : h0.size ≤ b102 := Nat.le_trans (Keep.refl h0 []).1 (Nat.le_of_eq g102.symm)
  have V102 : Arv Z h102 b102 k102 .byte (19 : Int32) [(.int (0 : Int32)), (.int (0 : Int32)), (.int (0 : Int32)), (.int (0 : Int32)), (.int (0 : Int32)), (.int (0 : Int32)), (.int (0 : Int32)), (.int (0 : Int32)), (.int (0 : Int32)), (.int (0 : Int32)), (.int (0 : Int32)), (.int (0 : Int32)), (.int (0 : Int32)), (.int (0 : Int32)), (.int (0 : Int32)), (.int (0 : Int32)), (.int (0 : Int32)), (.int (0 : Int32)), (.int (0 : Int32))] (.int (0 : Int32)) := (Arv.new A102 (by decide)).pad (pad_rep [] (.int (0 : Int32)) 19)
  refine o_astore X102.here hx (dE 9 rfl) rfl rfl (l' := #[.val (.ref t), .val (.int (0 : Int32)), .val (.int (19 : Int32)), .val (.int (19 : Int32)), .val (.ref b102)]) rfl ?_
  refine o_aloadN X102.here hx (dE 10 rfl) rfl rfl ?_
  refine o_iloadN X102.here hx (dE 11 rfl) rfl ?_
  refine o_aload X102.here hx (dE 12 rfl) rfl rfl ?_
  refine o_iconst X102.here hx (dE 13 rfl) (z := (0 : Int32)) rfl ?_
  refine o_aloadN X102.here hx (dE 14 rfl) rfl rfl ?_
  have c103 := (A1.ext E102)
  obtain ⟨cl104, Ar104, -, S104, P104, -, -⟩ := id c103
  refine own_Go.of (S' := T102.setTop (mkF m 21 #[.val (.ref t), .val (.int (0 : Int32)), .val (.int (19 : Int32)), .val (.int (19 : Int32)), .val (.ref b102)] [(.int (34 : Int32)), (.int (0 : Int32)), (.ref b102), (.int (0 : Int32)), (.ref t)])) (fun tgt kst => X102.arraylength hx (by rw [e102]; exact Ar104.1) (State.isArrayOf_alike hZ.alike Ar104.2.1) (g := (mkF m 20 #[.val (.ref t), .val (.int (0 : Int32)), .val (.int (19 : Int32)), .val (.int (19 : Int32)), .val (.ref b102)] [(.ref t), (.int (0 : Int32)), (.ref b102), (.int (0 : Int32)), (.ref t)])) rfl rfl (dE 15 rfl) _ (by rw [len_of S104 P104]; exact kst)) ?_
  refine o_iloadN X102.here hx (dE 16 rfl) rfl ?_
  refine o_isub X102.here hx (dE 17 rfl) rfl ?_
  rw [show ((34 : Int32) - (0 : Int32)) = (34 : Int32) from by decide]
  show own_Go p e below Pst (T102.setTop (mkF m 23 #[.val (.ref t), .val (.int (0 : Int32)), .val (.int (19 : Int32)), .val (.int (19 : Int32)), .val (.ref b102)] [(.int (34 : Int32)), (.int (0 : Int32)), (.ref b102), (.int (0 : Int32)), (.ref t)]))
  refine o_iloadN X102.here hx (dE 18 rfl) rfl ?_
  have c106 := (Nat.le_trans Z0 E102.1)
  refine own_cF X102 (Jvm.LawKit.callS X102 hx (y := Mn16) hown (mvT hZ (g_ hw 113 rfl)) (mvT hZ (g_ hw 114 rfl)) (mvT hZ (g_ hw 105 rfl)) (mvT hZ (g_ hw 115 rfl)) (by decide) (backOf (W := 4) (rm_minR l Z a0 hw [] (34 : Int32) (19 : Int32) h102 n0 c106 (by decide)) hZ (g_ hw 115 rfl) (g_ hw 105 rfl) (by decide) (by decide)) (g := (mkF m 24 #[.val (.ref t), .val (.int (0 : Int32)), .val (.int (19 : Int32)), .val (.int (19 : Int32)), .val (.ref b102)] [(.int (19 : Int32)), (.int (34 : Int32)), (.int (0 : Int32)), (.ref b102), (.int (0 : Int32)), (.ref t)])) rfl (by rw [hml]; rfl) (argsL := [(.int (34 : Int32)), (.int (19 : Int32))]) (rest := [(.int (0 : Int32)), (.ref b102), (.int (0 : Int32)), (.ref t)]) (lenOf own_pd3 rfl) rfl (by show 2 * 0 + _ ≤ _; exact Nat.le_of_eq rfl) (dE 19 rfl) (fun _ _ => ⟨rfl, e102, (by decide : 1 + 0 ≤ _), (by decide : 19 + 0 ≤ _)⟩)) fun v105 T105 L105 X105 hQ105 => ?_
  obtain ⟨rfl, Nq105, e105⟩ := hQ105
  have N105 := Fr.app N101 Nq105
  show own_Go p e below Pst (T105.setTop (mkF m 27 #[.val (.ref t), .val (.int (0 : Int32)), .val (.int (19 : Int32)), .val (.int (19 : Int32)), .val (.ref b102)] [(.int (19 : Int32)), (.int (0 : Int32)), (.ref b102), (.int (0 : Int32)), (.ref t)]))
  obtain ⟨T107, h107, L107, X107, e107, N107, K107, V107r, st107⟩ := cpA X105 hx hZ hown (g_ hw 116 rfl) (g_ hw 119 rfl) (g_ hw 117 rfl) (g_ hw 118 rfl) e105 c103 V102 (Or.inl ⟨rfl, rfl⟩) (by decide) (by decide) (by decide) (by decide) (by decide) (us := (own_o2 b0 b1)) rfl (by decide) N105 gn_b102 (g := (mkF m 27 #[.val (.ref t), .val (.int (0 : Int32)), .val (.int (19 : Int32)), .val (.int (19 : Int32)), .val (.ref b102)] [(.int (19 : Int32)), (.int (0 : Int32)), (.ref b102), (.int (0 : Int32)), (.ref t)])) rfl (by rw [hml]; rfl) rfl (dE 20 rfl) (by decide) (W := 0) (by show 2 * 0 + _ ≤ _; exact Nat.le_of_eq rfl) (by decide)
  have V107 : Arv Z h107 b102 k102 .byte (19 : Int32) (own_o2 b0 b1) (.int (0 : Int32)) := V107r
  refine own_Go.of st107 ?_
  show own_Go p e below Pst (T107.setTop (mkF m 30 #[.val (.ref t), .val (.int (0 : Int32)), .val (.int (19 : Int32)), .val (.int (19 : Int32)), .val (.ref b102)] []))
  refine o_aload X107.here hx (dE 21 rfl) rfl rfl ?_
  have c108 := (Keep.trans ((Keep.refl h0 []).ext E102) K107 (allS (Or.inr sz_b102) all0))
  rw [hPst]
  exact own_retP X107 (v := (some (.ref b102))) (Q := Q_crb2 Z t kb b0 b1 h0 n0) (fun h => by rw [Bd.returns] at h; cases h) Bd.notSynchronized (fun fs hr => retOut X107 hx Bd.returns rfl (Or.inr (Or.inr (Or.inr (Or.inr ⟨rfl, rfl, rfl⟩)))) (dE 22 rfl) hr) (by decide) (by decide) (by rw [e107]; exact ⟨_, rfl, N107, c108, sz_b102, _, V107⟩)
def Q_cr2 (Z : State) (t : Addr) (kb : ClassId) (b0 b1 : Int32) (h0 : Heap) (n0 : Nat) (v : Option Value) (h : Heap) (L : List Loc) : Prop := ∃ b : Addr, v = some (.ref b) ∧ Fr n0 L ∧ Keep h0 h [] ∧ h0.size ≤ b ∧ ∃ kb : ClassId, Arv Z h b kb .byte (19 : Int32) (own_o2 b0 b1) (.int (0 : Int32))
theorem rm_cr2 (l : Launch) (Z : State) (a0 : Array Value) (hw : own_H a0 Z) (ws : List Jvm.Cond) (t : Addr) (kb : ClassId) (b0 b1 : Int32) (h0 : Heap) (n0 : Nat) (Z0 : n0 ≤ h0.size) (A1 : Arv Z h0 t kb .byte (34 : Int32) (own_nw2 b0 b1) (.int 0)) : own_MP l Mn12 jdk_65_method_132_code 3 (some (.array .byte)) ws ({ frames := 2, cells := 1, slots := 19, locals := 40 } : Room) Z h0 #[(.ref t), (.int (0 : Int32)), (.int (19 : Int32))] (fun _ _ _ _ _ => True) (Q_cr2 Z t kb b0 b1 h0 n0) := by
  refine own_startP (plainFor_of_name own_pn_java_util_Arrays) fun p e s m below meth c s₁ Bd hx hby hml hown0 X0 e0 hh0 hZ hK Pst hPst => ?_
  have dE := own_E hby own_D32
  have hown : s.vm.findClass "java/util/Arrays" = some m.cls := hown0
  have hnm := (name_of_methodNamed Bd.named Bd.method).1
  have N0 := Fr.nil n0
  rw [own_ef_RII_3 m t (0 : Int32) (19 : Int32)]
  refine o_iloadN X0.here hx (dE 0 rfl) rfl ?_
  refine o_ifNo X0.here hx (dE 1 rfl) rfl ((if0 _ _).trans (teq rfl).2) ?_
  refine o_iloadN X0.here hx (dE 2 rfl) rfl ?_
  refine o_aloadN X0.here hx (dE 3 rfl) rfl rfl ?_
  obtain ⟨cl101, Ar101, -, S101, P101, -, -⟩ := id A1
  refine own_Go.of (S' := s₁.setTop (mkF m 7 #[.val (.ref t), .val (.int (0 : Int32)), .val (.int (19 : Int32))] [(.int (34 : Int32)), (.int (19 : Int32))])) (fun tgt kst => X0.arraylength hx (by rw [e0]; exact Ar101.1) (State.isArrayOf_alike hZ.alike Ar101.2.1) (g := (mkF m 6 #[.val (.ref t), .val (.int (0 : Int32)), .val (.int (19 : Int32))] [(.ref t), (.int (19 : Int32))])) rfl rfl (dE 4 rfl) _ (by rw [len_of S101 P101]; exact kst)) ?_
  refine o_icmpNo X0.here hx (dE 5 rfl) rfl (feq (by decide)).1 ?_
  refine o_aloadN X0.here hx (dE 6 rfl) rfl rfl ?_
  refine o_iloadN X0.here hx (dE 7 rfl) rfl ?_
  refine o_iloadN X0.here hx (dE 8 rfl) rfl ?_
  refine own_cF X0 (Jvm.LawKit.callS X0 hx (y := Mn11) hown (mvT hZ (g_ hw 170 rfl)) (mvT hZ (g_ hw 171 rfl)) (mvT hZ (g_ hw 111 rfl)) (mvT hZ (g_ hw 172 rfl)) (by decide) (backOf (W := 0) (rm_crb2 l Z a0 hw [] t kb b0 b1 h0 n0 Z0 A1) hZ (g_ hw 172 rfl) (g_ hw 111 rfl) (by decide) (by decide)) (g := (mkF m 13 #[.val (.ref t), .val (.int (0 : Int32)), .val (.int (19 : Int32))] [(.int (19 : Int32)), (.int (0 : Int32)), (.ref t)])) rfl (by rw [hml]; rfl) (argsL := [(.ref t), (.int (0 : Int32)), (.int (19 : Int32))]) (rest := []) (lenOf own_pd15 rfl) rfl (by show 2 * 0 + _ ≤ _; exact Nat.le_of_eq rfl) (dE 9 rfl) (fun _ _ => ⟨rfl, e0, (by decide : 0 + 1 ≤ _), (by decide : 0 + 19 ≤ _)⟩)) fun v102 T102 L102 X102 hQ102 => ?_
  obtain ⟨b102, rfl, Nq102, K102, sb102, kb102, V102⟩ := hQ102
  have N102 := Fr.app N0 Nq102
  have gn_b102 : n0 ≤ b102 := Nat.le_trans Z0 sb102
  have sz_b102 : h0.size ≤ b102 := Nat.le_trans (Keep.refl h0 []).1 sb102
  show own_Go p e below Pst (T102.setTop (mkF m 16 #[.val (.ref t), .val (.int (0 : Int32)), .val (.int (19 : Int32))] [(.ref b102)]))
  have c103 := (Keep.trans (Keep.refl h0 []) K102 all0)
  rw [hPst]
  exact own_retP X102 (v := (some (.ref b102))) (Q := Q_cr2 Z t kb b0 b1 h0 n0) (fun h => by rw [Bd.returns] at h; cases h) Bd.notSynchronized (fun fs hr => retOut X102 hx Bd.returns rfl (Or.inr (Or.inr (Or.inr (Or.inr ⟨rfl, rfl, rfl⟩)))) (dE 10 rfl) hr) (by decide) (by decide) ⟨_, rfl, N102, c103, sz_b102, _, V102⟩
def Q_ib2 (Z : State) (z : Int32) (x a1 t : Addr) (kb : ClassId) (u1 u2 : Value) (b0 b1 : Int32) (h0 : Heap) (n0 : Nat) (v : Option Value) (h : Heap) (L : List Loc) : Prop := v = none ∧ Fr n0 L ∧ Keep h0 h [x] ∧ Exa Z h x "java/lang/String" ∧ Fld Z h x "java/lang/String" "coder" "B" (.int (0 : Int32)) ∧ ∃ (t' : Addr) (kb : ClassId), h0.size ≤ t' ∧ Fld Z h x "java/lang/String" "value" "[B" (.ref t') ∧ Arv Z h t' kb .byte (19 : Int32) (own_o2 b0 b1) (.int (0 : Int32))
theorem rm_ib2 (l : Launch) (Z : State) (a0 : Array Value) (hw : own_H a0 Z) (ws : List Jvm.Cond) (z : Int32) (x a1 t : Addr) (kb : ClassId) (u1 u2 : Value) (b0 b1 : Int32) (h0 : Heap) (n0 : Nat) (Z0 : n0 ≤ h0.size) (O : Old Z n0 h0) (SC : Sta Z Z.heap "java/lang/String" "COMPACT_STRINGS" "Z" (.int z)) (hz : ¬ z = 0) (E1 : Exa Z h0 a1 "java/lang/StringBuilder") (F1 : Fld Z h0 a1 "java/lang/AbstractStringBuilder" "value" "[B" (.ref t)) (F2 : Fld Z h0 a1 "java/lang/AbstractStringBuilder" "coder" "B" (.int (0 : Int32))) (F3 : Fld Z h0 a1 "java/lang/AbstractStringBuilder" "count" "I" (.int (19 : Int32))) (A1 : Arv Z h0 t kb .byte (34 : Int32) (own_nw2 b0 b1) (.int 0)) (X1 : Exa Z h0 x "java/lang/String") (gx : n0 ≤ x) (Y1 : Fld Z h0 x "java/lang/String" "value" "[B" u1) (Y2 : Fld Z h0 x "java/lang/String" "coder" "B" u2) : own_MP l Mn13 jdk_42_method_150_code 5 none ws ({ frames := 3, cells := 1, slots := 19, locals := 60 } : Room) Z h0 #[(.ref x), (.ref a1), .null] (fun _ _ _ _ _ => True) (Q_ib2 Z z x a1 t kb u1 u2 b0 b1 h0 n0) := by
  refine own_startP (plainFor_of_name own_pn_java_lang_String) fun p e s m below meth c s₁ Bd hx hby hml hown0 X0 e0 hh0 hZ hK Pst hPst => ?_
  have dE := own_E hby own_D27
  have hown : s.vm.findClass "java/lang/String" = some m.cls := hown0
  have hnm := (name_of_methodNamed Bd.named Bd.method).1
  have N0 := Fr.nil n0
  rw [own_ef_RRN_5 m x a1]
  have ne1 : a1 ≠ x := ne_exa E1 X1 (by decide)
  have ne2 : t ≠ x := Ne.symm (Exa.neArv X1 A1 (g_ hw 6 rfl))
  refine o_aloadN X0.here hx (dE 0 rfl) rfl rfl ?_
  refine p_initO X0 hx hZ hown (g_ hw 15 rfl) (g_ hw 16 rfl) (g_ hw 17 rfl) e0 (by rw [hml]; rfl) rfl (dE 1 rfl) (by decide) (W := 0) (by show 2 * 0 + _ ≤ _; exact Nat.le_of_eq rfl) (by decide) fun T101 X101 e101 => ?_
  refine o_aloadN X101.here hx (dE 2 rfl) rfl rfl ?_
  obtain ⟨cq102, kq102, q102a, q102b, q102c⟩ := isOf hZ e101 E1
  refine own_cP X101 (X101.virtualBack hx (y := Mn10) (z := Mn10) hown (mvT hZ (g_ hw 149 rfl)) (mvT hZ (g_ hw 150 rfl)) (notFace_of_selects (args := #[]) (mvT hZ (g_ hw 152 rfl))) (mvT hZ (g_ hw 152 rfl)) (mvT hZ (g_ hw 151 rfl)) (by decide) (backOf (W := 0) (rm_gv l Z a0 hw [] a1 t h0 n0 Z0 F1) hZ (g_ hw 153 rfl) (g_ hw 56 rfl) (by decide) (by decide)) q102a q102c (g := (mkF m 5 #[.val (.ref x), .val (.ref a1), .val .null, .unset, .unset] [(.ref a1)])) rfl (by rw [hml]; rfl) (Steps.refl _) (argsL := []) (rest := []) (lenOf own_pd16 rfl) rfl (by show 2 * 0 + _ ≤ _; exact Nat.le_of_eq rfl) (dE 3 rfl) (fun _ _ => ⟨rfl, e101, (by decide : 0 + 0 ≤ _), (by decide : 0 + 0 ≤ _)⟩)) fun v102 T102 L102 X102 hQ102 => ?_
  obtain ⟨rfl, Nq102, e102⟩ := hQ102
  have N102 := Fr.app N0 Nq102
  show own_Go p e below Pst (T102.setTop (mkF m 8 #[.val (.ref x), .val (.ref a1), .val .null, .unset, .unset] [(.ref t)]))
  refine o_astoreN X102.here hx (dE 4 rfl) rfl rfl (l' := #[.val (.ref x), .val (.ref a1), .val .null, .val (.ref t), .unset]) rfl ?_
  refine o_aloadN X102.here hx (dE 5 rfl) rfl rfl ?_
  obtain ⟨cq103, kq103, q103a, q103b, q103c⟩ := isOf hZ e102 E1
  refine own_cP X102 (X102.virtualBack hx (y := Mn17) (z := Mn18) hown (mvT hZ (g_ hw 154 rfl)) (mvT hZ (g_ hw 155 rfl)) (own_nf (args := #[]) (mvT hZ (g_ hw 92 rfl)) rfl) (mvT hZ (g_ hw 157 rfl)) (mvT hZ (g_ hw 158 rfl)) (by decide) (backOf (W := 0) (rm_sl l Z a0 hw [] a1 (19 : Int32) h0 n0 Z0 E1 F3) hZ (g_ hw 159 rfl) (g_ hw 48 rfl) (by decide) (by decide)) q103a q103c (g := (mkF m 10 #[.val (.ref x), .val (.ref a1), .val .null, .val (.ref t), .unset] [(.ref a1)])) rfl (by rw [hml]; rfl) (Steps.refl _) (argsL := []) (rest := []) (lenOf own_pd9 rfl) rfl (by show 2 * 0 + _ ≤ _; exact Nat.le_of_eq rfl) (dE 6 rfl) (fun _ _ => ⟨rfl, e102, (by decide : 0 + 0 ≤ _), (by decide : 0 + 0 ≤ _)⟩)) fun v103 T103 L103 X103 hQ103 => ?_
  obtain ⟨rfl, Nq103, e103⟩ := hQ103
  have N103 := Fr.app N102 Nq103
  show own_Go p e below Pst (T103.setTop (mkF m 13 #[.val (.ref x), .val (.ref a1), .val .null, .val (.ref t), .unset] [(.int (19 : Int32))]))
  refine o_istore X103.here hx (dE 7 rfl) rfl (l' := #[.val (.ref x), .val (.ref a1), .val .null, .val (.ref t), .val (.int (19 : Int32))]) rfl ?_
  refine o_aloadN X103.here hx (dE 8 rfl) rfl rfl ?_
  obtain ⟨cq104, kq104, q104a, q104b, q104c⟩ := isOf hZ e103 E1
  refine own_cP X103 (X103.virtualBack hx (y := Mn6) (z := Mn6) hown (mvT hZ (g_ hw 162 rfl)) (mvT hZ (g_ hw 163 rfl)) (notFace_of_selects (args := #[]) (mvT hZ (g_ hw 165 rfl))) (mvT hZ (g_ hw 165 rfl)) (mvT hZ (g_ hw 164 rfl)) (by decide) (backOf (W := 0) (rm_bl l Z a0 hw [] z a1 h0 n0 Z0 O SC hz F2) hZ (g_ hw 166 rfl) (g_ hw 56 rfl) (by decide) (by decide)) q104a q104c (g := (mkF m 16 #[.val (.ref x), .val (.ref a1), .val .null, .val (.ref t), .val (.int (19 : Int32))] [(.ref a1)])) rfl (by rw [hml]; rfl) (Steps.refl _) (argsL := []) (rest := []) (lenOf own_pd12 rfl) rfl (by show 2 * 0 + _ ≤ _; exact Nat.le_of_eq rfl) (dE 9 rfl) (fun _ _ => ⟨rfl, e103, (by decide : 0 + 0 ≤ _), (by decide : 0 + 0 ≤ _)⟩)) fun v104 T104 L104 X104 hQ104 => ?_
  obtain ⟨rfl, Nq104, e104⟩ := hQ104
  have N104 := Fr.app N103 Nq104
  show own_Go p e below Pst (T104.setTop (mkF m 19 #[.val (.ref x), .val (.ref a1), .val .null, .val (.ref t), .val (.int (19 : Int32))] [(.int (1 : Int32))]))
  refine o_ifNo X104.here hx (dE 10 rfl) rfl ((if0 _ _).trans (feq (by decide)).1) ?_
  refine o_aloadN X104.here hx (dE 11 rfl) rfl rfl ?_
  refine o_iconst X104.here hx (dE 12 rfl) (z := (0 : Int32)) rfl ?_
  refine p_putFN X104 hx hZ hown (g_ hw 30 rfl) Via.refl e104 Y2 X1 (Or.inr ⟨(g_ hw 31 rfl), rfl, hnm⟩) (g_ hw 6 rfl) (ty := .byte) (v' := (.int (0 : Int32))) (by decide) rfl rfl rfl (dE 13 rfl) fun T105 h105 X105 e105 W105 => ?_
  have Fw105 := Fld.same W105 Y2
  have N105 := Fr.snoc X105 N104 gx
  refine o_aloadN X105.here hx (dE 14 rfl) rfl rfl ?_
  refine o_aloadN X105.here hx (dE 15 rfl) rfl rfl ?_
  refine o_iconst X105.here hx (dE 16 rfl) (z := (0 : Int32)) rfl ?_
  refine o_iload X105.here hx (dE 17 rfl) rfl ?_
  have c106 := (A1.other W105 ne2)
  have c108 := (Nat.le_trans Z0 (Keep.of_wr W105).1)
  refine own_cF X105 (Jvm.LawKit.callS X105 hx (y := Mn12) hown (mvT hZ (g_ hw 167 rfl)) (mvT hZ (g_ hw 168 rfl)) (mvT hZ (g_ hw 111 rfl)) (mvT hZ (g_ hw 169 rfl)) (by decide) (backOf (W := 1) (rm_cr2 l Z a0 hw [] t kb b0 b1 h105 n0 c108 c106) hZ (g_ hw 169 rfl) (g_ hw 111 rfl) (by decide) (by decide)) (g := (mkF m 32 #[.val (.ref x), .val (.ref a1), .val .null, .val (.ref t), .val (.int (19 : Int32))] [(.int (19 : Int32)), (.int (0 : Int32)), (.ref t), (.ref x)])) rfl (by rw [hml]; rfl) (argsL := [(.ref t), (.int (0 : Int32)), (.int (19 : Int32))]) (rest := [(.ref x)]) (lenOf own_pd15 rfl) rfl (by show 2 * 0 + _ ≤ _; exact Nat.le_of_eq rfl) (dE 18 rfl) (fun _ _ => ⟨rfl, e105, (by decide : 0 + 1 ≤ _), (by decide : 0 + 19 ≤ _)⟩)) fun v107 T107 L107 X107 hQ107 => ?_
  obtain ⟨b107, rfl, Nq107, K107, sb107, kb107, V107⟩ := hQ107
  have N107 := Fr.app N105 Nq107
  have c109 := (X1.wr W105)
  have ne_x_b107 : x ≠ b107 := Nat.ne_of_lt (Nat.lt_of_lt_of_le c109.lt sb107)
  have c110 := (E1.wr W105)
  have ne_a1_b107 : a1 ≠ b107 := Nat.ne_of_lt (Nat.lt_of_lt_of_le c110.lt sb107)
  have ne_t_b107 : t ≠ b107 := Nat.ne_of_lt (Nat.lt_of_lt_of_le c106.lt sb107)
  have gn_b107 : n0 ≤ b107 := Nat.le_trans c108 sb107
  have c111 := ((Keep.refl h0 [x]).wr W105 (Or.inl (List.mem_of_getElem? (i := 0) rfl)))
  have sz_b107 : h0.size ≤ b107 := Nat.le_trans c111.1 sb107
  show own_Go p e below Pst (T107.setTop (mkF m 35 #[.val (.ref x), .val (.ref a1), .val .null, .val (.ref t), .val (.int (19 : Int32))] [(.ref b107), (.ref x)]))
  have c112 := (c109.keep K107)
  have c113 := ((Y1.other W105 (Or.inr (slot_ne (Or.inr (g_ hw 33 rfl)) (Or.inr (g_ hw 31 rfl)) (by decide) (t := (.array .byte)) (t' := .byte) (by decide) (by decide)))).keep K107 nin0)
  refine p_putF X107 hx hZ hown (host := "") (Or.inl (g_ hw 32 rfl)) Via.refl rfl c113 c112 (Or.inr ⟨(g_ hw 33 rfl), rfl, hnm⟩) (g_ hw 6 rfl) (ty := (.array .byte)) (by decide) rfl rfl rfl (dE 19 rfl) fun T114 h114 X114 e114 W114 => ?_
  have Fw114 := Fld.same W114 c113
  have N114 := Fr.snoc X114 N107 gx
  refine o_goto X114.here hx (pc0 := 38) (pc' := 97) rfl (dE 20 rfl) (by decide) (by decide) ?_
  have c115 := ((Keep.trans c111 K107 all0).wr W114 (Or.inl (List.mem_of_getElem? (i := 0) rfl)))
  have c116 := (c112.wr W114)
  have c117 := ((Fw105.keep K107 nin0).other W114 (Or.inr (slot_ne (Or.inr (g_ hw 31 rfl)) (Or.inr (g_ hw 33 rfl)) (by decide) (t := .byte) (t' := (.array .byte)) (by decide) (by decide))))
  have c118 := (V107.other W114 (Ne.symm ne_x_b107))
  rw [hPst]
  exact own_retP X114 (v := none) (Q := Q_ib2 Z z x a1 t kb u1 u2 b0 b1 h0 n0) (fun _ => rfl) Bd.notSynchronized (fun fs hr => X114.returnOut hx Bd.returns (dE 21 rfl) hr) (by decide) (by decide) (by rw [e114]; exact ⟨rfl, N114, c115, c116, c117, _, _, sz_b107, Fw114, c118⟩)
def Q_is2 (Z : State) (z : Int32) (x a1 t : Addr) (kb : ClassId) (u1 u2 : Value) (b0 b1 : Int32) (h0 : Heap) (n0 : Nat) (v : Option Value) (h : Heap) (L : List Loc) : Prop := v = none ∧ Fr n0 L ∧ Keep h0 h [x] ∧ Exa Z h x "java/lang/String" ∧ Fld Z h x "java/lang/String" "coder" "B" (.int (0 : Int32)) ∧ ∃ (t' : Addr) (kb : ClassId), h0.size ≤ t' ∧ Fld Z h x "java/lang/String" "value" "[B" (.ref t') ∧ Arv Z h t' kb .byte (19 : Int32) (own_o2 b0 b1) (.int (0 : Int32))
theorem rm_is2 (l : Launch) (Z : State) (a0 : Array Value) (hw : own_H a0 Z) (ws : List Jvm.Cond) (z : Int32) (x a1 t : Addr) (kb : ClassId) (u1 u2 : Value) (b0 b1 : Int32) (h0 : Heap) (n0 : Nat) (Z0 : n0 ≤ h0.size) (O : Old Z n0 h0) (SC : Sta Z Z.heap "java/lang/String" "COMPACT_STRINGS" "Z" (.int z)) (hz : ¬ z = 0) (E1 : Exa Z h0 a1 "java/lang/StringBuilder") (F1 : Fld Z h0 a1 "java/lang/AbstractStringBuilder" "value" "[B" (.ref t)) (F2 : Fld Z h0 a1 "java/lang/AbstractStringBuilder" "coder" "B" (.int (0 : Int32))) (F3 : Fld Z h0 a1 "java/lang/AbstractStringBuilder" "count" "I" (.int (19 : Int32))) (A1 : Arv Z h0 t kb .byte (34 : Int32) (own_nw2 b0 b1) (.int 0)) (X1 : Exa Z h0 x "java/lang/String") (gx : n0 ≤ x) (Y1 : Fld Z h0 x "java/lang/String" "value" "[B" u1) (Y2 : Fld Z h0 x "java/lang/String" "coder" "B" u2) : own_MP l Mn14 jdk_42_method_53_code 2 none ws ({ frames := 4, cells := 1, slots := 19, locals := 76 } : Room) Z h0 #[(.ref x), (.ref a1)] (fun _ _ _ _ _ => True) (Q_is2 Z z x a1 t kb u1 u2 b0 b1 h0 n0) := by
  refine own_startP (plainFor_of_name own_pn_java_lang_String) fun p e s m below meth c s₁ Bd hx hby hml hown0 X0 e0 hh0 hZ hK Pst hPst => ?_
  have dE := own_E hby own_D26
  have hown : s.vm.findClass "java/lang/String" = some m.cls := hown0
  have hnm := (name_of_methodNamed Bd.named Bd.method).1
  have N0 := Fr.nil n0
  rw [own_ef_RR_2 m x a1]
  refine o_aloadN X0.here hx (dE 0 rfl) rfl rfl ?_
  refine o_aloadN X0.here hx (dE 1 rfl) rfl rfl ?_
  refine o_aconstNull X0.here hx (dE 2 rfl) ?_
  refine own_cP X0 (X0.specialBack hx (y := Mn13) rfl hown (mvT hZ (g_ hw 146 rfl)) (mvT hZ (g_ hw 147 rfl)) (mvT hZ (g_ hw 148 rfl)) (by decide) (backOf (W := 0) (rm_ib2 l Z a0 hw [] z x a1 t kb u1 u2 b0 b1 h0 n0 Z0 O SC hz E1 F1 F2 F3 A1 X1 gx Y1 Y2) hZ (g_ hw 148 rfl) (g_ hw 7 rfl) (by decide) (by decide)) (g := (mkF m 3 #[.val (.ref x), .val (.ref a1)] [.null, (.ref a1), (.ref x)])) rfl (by rw [hml]; rfl) (Steps.refl _) (a := x) (argsL := [(.ref a1), .null]) (rest := []) (lenOf own_pd17 rfl) rfl (by show 2 * 0 + _ ≤ _; exact Nat.le_of_eq rfl) (dE 3 rfl) (fun _ _ => ⟨rfl, e0, (by decide : 0 + 1 ≤ _), (by decide : 0 + 19 ≤ _)⟩)) fun v101 T101 L101 X101 hQ101 => ?_
  obtain ⟨rfl, Nq101, K101, A101, C101, t101, kb101, st_101, V101, B101⟩ := hQ101
  have N101 := Fr.app N0 Nq101
  show own_Go p e below Pst (T101.setTop (mkF m 6 #[.val (.ref x), .val (.ref a1)] []))
  have c102 := (Keep.trans (Keep.refl h0 [x]) K101 (allS (Or.inl (List.mem_of_getElem? (i := 0) rfl)) all0))
  rw [hPst]
  exact own_retP X101 (v := none) (Q := Q_is2 Z z x a1 t kb u1 u2 b0 b1 h0 n0) (fun _ => rfl) Bd.notSynchronized (fun fs hr => X101.returnOut hx Bd.returns (dE 4 rfl) hr) (by decide) (by decide) ⟨rfl, N101, c102, A101, C101, _, _, st_101, V101, B101⟩
def Q_ts2 (Z : State) (z : Int32) (a1 t : Addr) (kb : ClassId) (b0 b1 : Int32) (h0 : Heap) (n0 : Nat) (v : Option Value) (h : Heap) (L : List Loc) : Prop := ∃ x : Addr, v = some (.ref x) ∧ Fr n0 L ∧ Keep h0 h [] ∧ h0.size ≤ x ∧ Exa Z h x "java/lang/String" ∧ Fld Z h x "java/lang/String" "coder" "B" (.int (0 : Int32)) ∧ ∃ (t' : Addr) (kb : ClassId), h0.size ≤ t' ∧ Fld Z h x "java/lang/String" "value" "[B" (.ref t') ∧ Arv Z h t' kb .byte (19 : Int32) (own_o2 b0 b1) (.int (0 : Int32))
theorem rm_ts2 (l : Launch) (Z : State) (a0 : Array Value) (hw : own_H a0 Z) (ws : List Jvm.Cond) (z : Int32) (a1 t : Addr) (kb : ClassId) (b0 b1 : Int32) (h0 : Heap) (n0 : Nat) (Z0 : n0 ≤ h0.size) (O : Old Z n0 h0) (SC : Sta Z Z.heap "java/lang/String" "COMPACT_STRINGS" "Z" (.int z)) (hz : ¬ z = 0) (E1 : Exa Z h0 a1 "java/lang/StringBuilder") (F1 : Fld Z h0 a1 "java/lang/AbstractStringBuilder" "value" "[B" (.ref t)) (F2 : Fld Z h0 a1 "java/lang/AbstractStringBuilder" "coder" "B" (.int (0 : Int32))) (F3 : Fld Z h0 a1 "java/lang/AbstractStringBuilder" "count" "I" (.int (19 : Int32))) (A1 : Arv Z h0 t kb .byte (34 : Int32) (own_nw2 b0 b1) (.int 0)) : own_MP l Mn4 jdk_67_method_42_code 1 (some (.object "java/lang/String")) ws ({ frames := 5, cells := 2, slots := 23, locals := 92 } : Room) Z h0 #[(.ref a1)] (fun _ _ _ _ _ => True) (Q_ts2 Z z a1 t kb b0 b1 h0 n0) := by
  refine own_startP (plainFor_of_name own_pn_java_lang_StringBuilder) fun p e s m below meth c s₁ Bd hx hby hml hown0 X0 e0 hh0 hZ hK Pst hPst => ?_
  have dE := own_E hby own_D25
  have hown : s.vm.findClass "java/lang/StringBuilder" = some m.cls := hown0
  have hnm := (name_of_methodNamed Bd.named Bd.method).1
  have N0 := Fr.nil n0
  rw [own_ef_R_1 m a1]
  refine p_newO X0 hx hZ hown (g_ hw 142 rfl) (g_ hw 6 rfl) (g_ hw 7 rfl) e0 (dE 0 rfl) (by decide) (by decide) fun T101 h101 b101 g101 X101 e101 E101 A101 D101 U101 => ?_
  have ne_a1_b101 : a1 ≠ b101 := Nat.ne_of_lt (Nat.lt_of_lt_of_le E1.lt (Nat.le_of_eq g101.symm))
  have ne_t_b101 : t ≠ b101 := Nat.ne_of_lt (Nat.lt_of_lt_of_le A1.lt (Nat.le_of_eq g101.symm))
  have gn_b101 : n0 ≤ b101 := Nat.le_trans Z0 (Nat.le_of_eq g101.symm)
  have sz_b101 : h0.size ≤ b101 := Nat.le_trans (Keep.refl h0 []).1 (Nat.le_of_eq g101.symm)
  have f101_coder : Fld Z h101 b101 "java/lang/String" "coder" "B" (.int (0 : Int32)) := D101 (Or.inr (g_ hw 31 rfl)) (ty := .byte) (by decide)
  have f101_value : Fld Z h101 b101 "java/lang/String" "value" "[B" .null := D101 (Or.inr (g_ hw 33 rfl)) (ty := (.array .byte)) (by decide)
  refine o_dup X101.here hx (dE 1 rfl) rfl rfl ?_
  refine o_aloadN X101.here hx (dE 2 rfl) rfl rfl ?_
  have c102 := ((Keep.refl h0 []).ext E101)
  have c103 := (O.ext E101)
  have c104 := (E1.ext E101)
  have c105 := (F1.ext E101)
  have c106 := (F2.ext E101)
  have c107 := (F3.ext E101)
  have c108 := (A1.ext E101)
  have c110 := (Nat.le_trans Z0 E101.1)
  refine own_cP X101 (X101.specialBack hx (y := Mn14) rfl hown (mvT hZ (g_ hw 143 rfl)) (mvT hZ (g_ hw 144 rfl)) (mvT hZ (g_ hw 145 rfl)) (by decide) (backOf (W := 1) (rm_is2 l Z a0 hw [] z b101 a1 t kb .null (.int 0) b0 b1 h101 n0 c110 c103 SC hz c104 c105 c106 c107 c108 A101 gn_b101 f101_value f101_coder) hZ (g_ hw 145 rfl) (g_ hw 7 rfl) (by decide) (by decide)) (g := (mkF m 5 #[.val (.ref a1)] [(.ref a1), (.ref b101), (.ref b101)])) rfl (by rw [hml]; rfl) (Steps.refl _) (a := b101) (argsL := [(.ref a1)]) (rest := [(.ref b101)]) (lenOf own_pd18 rfl) rfl (by show 2 * 0 + _ ≤ _; exact Nat.le_of_eq rfl) (dE 3 rfl) (fun _ _ => ⟨rfl, e101, (by decide : 1 + 1 ≤ _), (by decide : 4 + 19 ≤ _)⟩)) fun v109 T109 L109 X109 hQ109 => ?_
  obtain ⟨rfl, Nq109, K109, A109, C109, t109, kb109, st_109, V109, B109⟩ := hQ109
  have N109 := Fr.app N0 Nq109
  show own_Go p e below Pst (T109.setTop (mkF m 8 #[.val (.ref a1)] [(.ref b101)]))
  have c111 := (Keep.trans c102 K109 (allS (Or.inr sz_b101) all0))
  rw [hPst]
  exact own_retP X109 (v := (some (.ref b101))) (Q := Q_ts2 Z z a1 t kb b0 b1 h0 n0) (fun h => by rw [Bd.returns] at h; cases h) Bd.notSynchronized (fun fs hr => retOut X109 hx Bd.returns rfl (Or.inr (Or.inr (Or.inr (Or.inr ⟨rfl, rfl, rfl⟩)))) (dE 4 rfl) hr) (by decide) (by decide) ⟨_, rfl, N109, c111, sz_b101, A109, C109, _, _, (Nat.le_trans c102.1 st_109), V109, B109⟩
def Q_crb3 (Z : State) (t : Addr) (kb : ClassId) (b0 b1 b2 : Int32) (h0 : Heap) (n0 : Nat) (v : Option Value) (h : Heap) (L : List Loc) : Prop := ∃ b : Addr, v = some (.ref b) ∧ Fr n0 L ∧ Keep h0 h [] ∧ h0.size ≤ b ∧ ∃ kb : ClassId, Arv Z h b kb .byte (20 : Int32) (own_o3 b0 b1 b2) (.int (0 : Int32))
theorem rm_crb3 (l : Launch) (Z : State) (a0 : Array Value) (hw : own_H a0 Z) (ws : List Jvm.Cond) (t : Addr) (kb : ClassId) (b0 b1 b2 : Int32) (h0 : Heap) (n0 : Nat) (Z0 : n0 ≤ h0.size) (A1 : Arv Z h0 t kb .byte (34 : Int32) (own_nw3 b0 b1 b2) (.int 0)) : own_MP l Mn11 jdk_65_method_133_code 5 (some (.array .byte)) ws ({ frames := 1, cells := 1, slots := 20, locals := 24 } : Room) Z h0 #[(.ref t), (.int (0 : Int32)), (.int (20 : Int32))] (fun _ _ _ _ _ => True) (Q_crb3 Z t kb b0 b1 b2 h0 n0) := by
  refine own_startP (plainFor_of_name own_pn_java_util_Arrays) fun p e s m below meth c s₁ Bd hx hby hml hown0 X0 e0 hh0 hZ hK Pst hPst => ?_
  have dE := own_E hby own_D33
  have hown : s.vm.findClass "java/util/Arrays" = some m.cls := hown0
  have hnm := (name_of_methodNamed Bd.named Bd.method).1
  have N0 := Fr.nil n0
  rw [own_ef_RII_5 m t (0 : Int32) (20 : Int32)]
  refine o_iloadN X0.here hx (dE 0 rfl) rfl ?_
  refine o_iloadN X0.here hx (dE 1 rfl) rfl ?_
  refine own_cF X0 (Jvm.LawKit.callS X0 hx (y := Mn19) hown (mvT hZ (g_ hw 173 rfl)) (mvT hZ (g_ hw 174 rfl)) (mvT hZ (g_ hw 111 rfl)) (mvT hZ (g_ hw 175 rfl)) (by decide) (backOf (W := 0) (rm_ckl l Z a0 hw [] (0 : Int32) (20 : Int32) h0 n0 Z0 (by decide)) hZ (g_ hw 175 rfl) (g_ hw 111 rfl) (by decide) (by decide)) (g := (mkF m 2 #[.val (.ref t), .val (.int (0 : Int32)), .val (.int (20 : Int32)), .unset, .unset] [(.int (20 : Int32)), (.int (0 : Int32))])) rfl (by rw [hml]; rfl) (argsL := [(.int (0 : Int32)), (.int (20 : Int32))]) (rest := []) (lenOf own_pd14 rfl) rfl (by show 2 * 0 + _ ≤ _; exact Nat.le_of_eq rfl) (dE 2 rfl) (fun _ _ => ⟨rfl, e0, (by decide : 0 + 0 ≤ _), (by decide : 0 + 0 ≤ _)⟩)) fun v101 T101 L101 X101 hQ101 => ?_
  obtain ⟨rfl, Nq101, e101⟩ := hQ101
  have N101 := Fr.app N0 Nq101
  show own_Go p e below Pst (T101.setTop (mkF m 5 #[.val (.ref t), .val (.int (0 : Int32)), .val (.int (20 : Int32)), .unset, .unset] []))
  refine o_iloadN X101.here hx (dE 3 rfl) rfl ?_
  refine o_iloadN X101.here hx (dE 4 rfl) rfl ?_
  refine o_isub X101.here hx (dE 5 rfl) rfl ?_
  rw [show ((20 : Int32) - (0 : Int32)) = (20 : Int32) from by decide]
  show own_Go p e below Pst (T101.setTop (mkF m 8 #[.val (.ref t), .val (.int (0 : Int32)), .val (.int (20 : Int32)), .unset, .unset] [(.int (20 : Int32))]))
  refine o_istoreN X101.here hx (dE 6 rfl) rfl (l' := #[.val (.ref t), .val (.int (0 : Int32)), .val (.int (20 : Int32)), .val (.int (20 : Int32)), .unset]) rfl ?_
  refine o_iloadN X101.here hx (dE 7 rfl) rfl ?_
  refine p_newP (aty := .byte) X101 hx hZ (g_ hw 23 rfl) e101 (dE 8 rfl) rfl (by decide) (cap := 20) (by decide) (by decide) (by decide) (by decide) fun T102 h102 k102 b102 g102 X102 e102 E102 A102 => ?_
  have ne_t_b102 : t ≠ b102 := Nat.ne_of_lt (Nat.lt_of_lt_of_le A1.lt (Nat.le_of_eq g102.symm))
  have gn_b102 : n0 ≤ b102 := Nat.le_trans Z0 (Nat.le_of_eq g102.symm)
  have sz_b102 : h0.size ≤ b102 := Nat.le_trans (Keep.refl h0 []).1 (Nat.le_of_eq g102.symm)
  have V102 : Arv Z h102 b102 k102 .byte (20 : Int32) [(.int (0 : Int32)), (.int (0 : Int32)), (.int (0 : Int32)), (.int (0 : Int32)), (.int (0 : Int32)), (.int (0 : Int32)), (.int (0 : Int32)), (.int (0 : Int32)), (.int (0 : Int32)), (.int (0 : Int32)), (.int (0 : Int32)), (.int (0 : Int32)), (.int (0 : Int32)), (.int (0 : Int32)), (.int (0 : Int32)), (.int (0 : Int32)), (.int (0 : Int32)), (.int (0 : Int32)), (.int (0 : Int32)), (.int (0 : Int32))] (.int (0 : Int32)) := (Arv.new A102 (by decide)).pad (pad_rep [] (.int (0 : Int32)) 20)
  refine o_astore X102.here hx (dE 9 rfl) rfl rfl (l' := #[.val (.ref t), .val (.int (0 : Int32)), .val (.int (20 : Int32)), .val (.int (20 : Int32)), .val (.ref b102)]) rfl ?_
  refine o_aloadN X102.here hx (dE 10 rfl) rfl rfl ?_
  refine o_iloadN X102.here hx (dE 11 rfl) rfl ?_
  refine o_aload X102.here hx (dE 12 rfl) rfl rfl ?_
  refine o_iconst X102.here hx (dE 13 rfl) (z := (0 : Int32)) rfl ?_
  refine o_aloadN X102.here hx (dE 14 rfl) rfl rfl ?_
  have c103 := (A1.ext E102)
  obtain ⟨cl104, Ar104, -, S104, P104, -, -⟩ := id c103
  refine own_Go.of (S' := T102.setTop (mkF m 21 #[.val (.ref t), .val (.int (0 : Int32)), .val (.int (20 : Int32)), .val (.int (20 : Int32)), .val (.ref b102)] [(.int (34 : Int32)), (.int (0 : Int32)), (.ref b102), (.int (0 : Int32)), (.ref t)])) (fun tgt kst => X102.arraylength hx (by rw [e102]; exact Ar104.1) (State.isArrayOf_alike hZ.alike Ar104.2.1) (g := (mkF m 20 #[.val (.ref t), .val (.int (0 : Int32)), .val (.int (20 : Int32)), .val (.int (20 : Int32)), .val (.ref b102)] [(.ref t), (.int (0 : Int32)), (.ref b102), (.int (0 : Int32)), (.ref t)])) rfl rfl (dE 15 rfl) _ (by rw [len_of S104 P104]; exact kst)) ?_
  refine o_iloadN X102.here hx (dE 16 rfl) rfl ?_
  refine o_isub X102.here hx (dE 17 rfl) rfl ?_
  rw [show ((34 : Int32) - (0 : Int32)) = (34 : Int32) from by decide]
  show own_Go p e below Pst (T102.setTop (mkF m 23 #[.val (.ref t), .val (.int (0 : Int32)), .val (.int (20 : Int32)), .val (.int (20 : Int32)), .val (.ref b102)] [(.int (34 : Int32)), (.int (0 : Int32)), (.ref b102), (.int (0 : Int32)), (.ref t)]))
  refine o_iloadN X102.here hx (dE 18 rfl) rfl ?_
  have c106 := (Nat.le_trans Z0 E102.1)
  refine own_cF X102 (Jvm.LawKit.callS X102 hx (y := Mn16) hown (mvT hZ (g_ hw 113 rfl)) (mvT hZ (g_ hw 114 rfl)) (mvT hZ (g_ hw 105 rfl)) (mvT hZ (g_ hw 115 rfl)) (by decide) (backOf (W := 4) (rm_minR l Z a0 hw [] (34 : Int32) (20 : Int32) h102 n0 c106 (by decide)) hZ (g_ hw 115 rfl) (g_ hw 105 rfl) (by decide) (by decide)) (g := (mkF m 24 #[.val (.ref t), .val (.int (0 : Int32)), .val (.int (20 : Int32)), .val (.int (20 : Int32)), .val (.ref b102)] [(.int (20 : Int32)), (.int (34 : Int32)), (.int (0 : Int32)), (.ref b102), (.int (0 : Int32)), (.ref t)])) rfl (by rw [hml]; rfl) (argsL := [(.int (34 : Int32)), (.int (20 : Int32))]) (rest := [(.int (0 : Int32)), (.ref b102), (.int (0 : Int32)), (.ref t)]) (lenOf own_pd3 rfl) rfl (by show 2 * 0 + _ ≤ _; exact Nat.le_of_eq rfl) (dE 19 rfl) (fun _ _ => ⟨rfl, e102, (by decide : 1 + 0 ≤ _), (by decide : 20 + 0 ≤ _)⟩)) fun v105 T105 L105 X105 hQ105 => ?_
  obtain ⟨rfl, Nq105, e105⟩ := hQ105
  have N105 := Fr.app N101 Nq105
  show own_Go p e below Pst (T105.setTop (mkF m 27 #[.val (.ref t), .val (.int (0 : Int32)), .val (.int (20 : Int32)), .val (.int (20 : Int32)), .val (.ref b102)] [(.int (20 : Int32)), (.int (0 : Int32)), (.ref b102), (.int (0 : Int32)), (.ref t)]))
  obtain ⟨T107, h107, L107, X107, e107, N107, K107, V107r, st107⟩ := cpA X105 hx hZ hown (g_ hw 116 rfl) (g_ hw 119 rfl) (g_ hw 117 rfl) (g_ hw 118 rfl) e105 c103 V102 (Or.inl ⟨rfl, rfl⟩) (by decide) (by decide) (by decide) (by decide) (by decide) (us := (own_o3 b0 b1 b2)) rfl (by decide) N105 gn_b102 (g := (mkF m 27 #[.val (.ref t), .val (.int (0 : Int32)), .val (.int (20 : Int32)), .val (.int (20 : Int32)), .val (.ref b102)] [(.int (20 : Int32)), (.int (0 : Int32)), (.ref b102), (.int (0 : Int32)), (.ref t)])) rfl (by rw [hml]; rfl) rfl (dE 20 rfl) (by decide) (W := 0) (by show 2 * 0 + _ ≤ _; exact Nat.le_of_eq rfl) (by decide)
  have V107 : Arv Z h107 b102 k102 .byte (20 : Int32) (own_o3 b0 b1 b2) (.int (0 : Int32)) := V107r
  refine own_Go.of st107 ?_
  show own_Go p e below Pst (T107.setTop (mkF m 30 #[.val (.ref t), .val (.int (0 : Int32)), .val (.int (20 : Int32)), .val (.int (20 : Int32)), .val (.ref b102)] []))
  refine o_aload X107.here hx (dE 21 rfl) rfl rfl ?_
  have c108 := (Keep.trans ((Keep.refl h0 []).ext E102) K107 (allS (Or.inr sz_b102) all0))
  rw [hPst]
  exact own_retP X107 (v := (some (.ref b102))) (Q := Q_crb3 Z t kb b0 b1 b2 h0 n0) (fun h => by rw [Bd.returns] at h; cases h) Bd.notSynchronized (fun fs hr => retOut X107 hx Bd.returns rfl (Or.inr (Or.inr (Or.inr (Or.inr ⟨rfl, rfl, rfl⟩)))) (dE 22 rfl) hr) (by decide) (by decide) (by rw [e107]; exact ⟨_, rfl, N107, c108, sz_b102, _, V107⟩)
def Q_cr3 (Z : State) (t : Addr) (kb : ClassId) (b0 b1 b2 : Int32) (h0 : Heap) (n0 : Nat) (v : Option Value) (h : Heap) (L : List Loc) : Prop := ∃ b : Addr, v = some (.ref b) ∧ Fr n0 L ∧ Keep h0 h [] ∧ h0.size ≤ b ∧ ∃ kb : ClassId, Arv Z h b kb .byte (20 : Int32) (own_o3 b0 b1 b2) (.int (0 : Int32))
theorem rm_cr3 (l : Launch) (Z : State) (a0 : Array Value) (hw : own_H a0 Z) (ws : List Jvm.Cond) (t : Addr) (kb : ClassId) (b0 b1 b2 : Int32) (h0 : Heap) (n0 : Nat) (Z0 : n0 ≤ h0.size) (A1 : Arv Z h0 t kb .byte (34 : Int32) (own_nw3 b0 b1 b2) (.int 0)) : own_MP l Mn12 jdk_65_method_132_code 3 (some (.array .byte)) ws ({ frames := 2, cells := 1, slots := 20, locals := 40 } : Room) Z h0 #[(.ref t), (.int (0 : Int32)), (.int (20 : Int32))] (fun _ _ _ _ _ => True) (Q_cr3 Z t kb b0 b1 b2 h0 n0) := by
  refine own_startP (plainFor_of_name own_pn_java_util_Arrays) fun p e s m below meth c s₁ Bd hx hby hml hown0 X0 e0 hh0 hZ hK Pst hPst => ?_
  have dE := own_E hby own_D32
  have hown : s.vm.findClass "java/util/Arrays" = some m.cls := hown0
  have hnm := (name_of_methodNamed Bd.named Bd.method).1
  have N0 := Fr.nil n0
  rw [own_ef_RII_3 m t (0 : Int32) (20 : Int32)]
  refine o_iloadN X0.here hx (dE 0 rfl) rfl ?_
  refine o_ifNo X0.here hx (dE 1 rfl) rfl ((if0 _ _).trans (teq rfl).2) ?_
  refine o_iloadN X0.here hx (dE 2 rfl) rfl ?_
  refine o_aloadN X0.here hx (dE 3 rfl) rfl rfl ?_
  obtain ⟨cl101, Ar101, -, S101, P101, -, -⟩ := id A1
  refine own_Go.of (S' := s₁.setTop (mkF m 7 #[.val (.ref t), .val (.int (0 : Int32)), .val (.int (20 : Int32))] [(.int (34 : Int32)), (.int (20 : Int32))])) (fun tgt kst => X0.arraylength hx (by rw [e0]; exact Ar101.1) (State.isArrayOf_alike hZ.alike Ar101.2.1) (g := (mkF m 6 #[.val (.ref t), .val (.int (0 : Int32)), .val (.int (20 : Int32))] [(.ref t), (.int (20 : Int32))])) rfl rfl (dE 4 rfl) _ (by rw [len_of S101 P101]; exact kst)) ?_
  refine o_icmpNo X0.here hx (dE 5 rfl) rfl (feq (by decide)).1 ?_
  refine o_aloadN X0.here hx (dE 6 rfl) rfl rfl ?_
  refine o_iloadN X0.here hx (dE 7 rfl) rfl ?_
  refine o_iloadN X0.here hx (dE 8 rfl) rfl ?_
  refine own_cF X0 (Jvm.LawKit.callS X0 hx (y := Mn11) hown (mvT hZ (g_ hw 170 rfl)) (mvT hZ (g_ hw 171 rfl)) (mvT hZ (g_ hw 111 rfl)) (mvT hZ (g_ hw 172 rfl)) (by decide) (backOf (W := 0) (rm_crb3 l Z a0 hw [] t kb b0 b1 b2 h0 n0 Z0 A1) hZ (g_ hw 172 rfl) (g_ hw 111 rfl) (by decide) (by decide)) (g := (mkF m 13 #[.val (.ref t), .val (.int (0 : Int32)), .val (.int (20 : Int32))] [(.int (20 : Int32)), (.int (0 : Int32)), (.ref t)])) rfl (by rw [hml]; rfl) (argsL := [(.ref t), (.int (0 : Int32)), (.int (20 : Int32))]) (rest := []) (lenOf own_pd15 rfl) rfl (by show 2 * 0 + _ ≤ _; exact Nat.le_of_eq rfl) (dE 9 rfl) (fun _ _ => ⟨rfl, e0, (by decide : 0 + 1 ≤ _), (by decide : 0 + 20 ≤ _)⟩)) fun v102 T102 L102 X102 hQ102 => ?_
  obtain ⟨b102, rfl, Nq102, K102, sb102, kb102, V102⟩ := hQ102
  have N102 := Fr.app N0 Nq102
  have gn_b102 : n0 ≤ b102 := Nat.le_trans Z0 sb102
  have sz_b102 : h0.size ≤ b102 := Nat.le_trans (Keep.refl h0 []).1 sb102
  show own_Go p e below Pst (T102.setTop (mkF m 16 #[.val (.ref t), .val (.int (0 : Int32)), .val (.int (20 : Int32))] [(.ref b102)]))
  have c103 := (Keep.trans (Keep.refl h0 []) K102 all0)
  rw [hPst]
  exact own_retP X102 (v := (some (.ref b102))) (Q := Q_cr3 Z t kb b0 b1 b2 h0 n0) (fun h => by rw [Bd.returns] at h; cases h) Bd.notSynchronized (fun fs hr => retOut X102 hx Bd.returns rfl (Or.inr (Or.inr (Or.inr (Or.inr ⟨rfl, rfl, rfl⟩)))) (dE 10 rfl) hr) (by decide) (by decide) ⟨_, rfl, N102, c103, sz_b102, _, V102⟩
def Q_ib3 (Z : State) (z : Int32) (x a1 t : Addr) (kb : ClassId) (u1 u2 : Value) (b0 b1 b2 : Int32) (h0 : Heap) (n0 : Nat) (v : Option Value) (h : Heap) (L : List Loc) : Prop := v = none ∧ Fr n0 L ∧ Keep h0 h [x] ∧ Exa Z h x "java/lang/String" ∧ Fld Z h x "java/lang/String" "coder" "B" (.int (0 : Int32)) ∧ ∃ (t' : Addr) (kb : ClassId), h0.size ≤ t' ∧ Fld Z h x "java/lang/String" "value" "[B" (.ref t') ∧ Arv Z h t' kb .byte (20 : Int32) (own_o3 b0 b1 b2) (.int (0 : Int32))
theorem rm_ib3 (l : Launch) (Z : State) (a0 : Array Value) (hw : own_H a0 Z) (ws : List Jvm.Cond) (z : Int32) (x a1 t : Addr) (kb : ClassId) (u1 u2 : Value) (b0 b1 b2 : Int32) (h0 : Heap) (n0 : Nat) (Z0 : n0 ≤ h0.size) (O : Old Z n0 h0) (SC : Sta Z Z.heap "java/lang/String" "COMPACT_STRINGS" "Z" (.int z)) (hz : ¬ z = 0) (E1 : Exa Z h0 a1 "java/lang/StringBuilder") (F1 : Fld Z h0 a1 "java/lang/AbstractStringBuilder" "value" "[B" (.ref t)) (F2 : Fld Z h0 a1 "java/lang/AbstractStringBuilder" "coder" "B" (.int (0 : Int32))) (F3 : Fld Z h0 a1 "java/lang/AbstractStringBuilder" "count" "I" (.int (20 : Int32))) (A1 : Arv Z h0 t kb .byte (34 : Int32) (own_nw3 b0 b1 b2) (.int 0)) (X1 : Exa Z h0 x "java/lang/String") (gx : n0 ≤ x) (Y1 : Fld Z h0 x "java/lang/String" "value" "[B" u1) (Y2 : Fld Z h0 x "java/lang/String" "coder" "B" u2) : own_MP l Mn13 jdk_42_method_150_code 5 none ws ({ frames := 3, cells := 1, slots := 20, locals := 60 } : Room) Z h0 #[(.ref x), (.ref a1), .null] (fun _ _ _ _ _ => True) (Q_ib3 Z z x a1 t kb u1 u2 b0 b1 b2 h0 n0) := by
  refine own_startP (plainFor_of_name own_pn_java_lang_String) fun p e s m below meth c s₁ Bd hx hby hml hown0 X0 e0 hh0 hZ hK Pst hPst => ?_
  have dE := own_E hby own_D27
  have hown : s.vm.findClass "java/lang/String" = some m.cls := hown0
  have hnm := (name_of_methodNamed Bd.named Bd.method).1
  have N0 := Fr.nil n0
  rw [own_ef_RRN_5 m x a1]
  have ne1 : a1 ≠ x := ne_exa E1 X1 (by decide)
  have ne2 : t ≠ x := Ne.symm (Exa.neArv X1 A1 (g_ hw 6 rfl))
  refine o_aloadN X0.here hx (dE 0 rfl) rfl rfl ?_
  refine p_initO X0 hx hZ hown (g_ hw 15 rfl) (g_ hw 16 rfl) (g_ hw 17 rfl) e0 (by rw [hml]; rfl) rfl (dE 1 rfl) (by decide) (W := 0) (by show 2 * 0 + _ ≤ _; exact Nat.le_of_eq rfl) (by decide) fun T101 X101 e101 => ?_
  refine o_aloadN X101.here hx (dE 2 rfl) rfl rfl ?_
  obtain ⟨cq102, kq102, q102a, q102b, q102c⟩ := isOf hZ e101 E1
  refine own_cP X101 (X101.virtualBack hx (y := Mn10) (z := Mn10) hown (mvT hZ (g_ hw 149 rfl)) (mvT hZ (g_ hw 150 rfl)) (notFace_of_selects (args := #[]) (mvT hZ (g_ hw 152 rfl))) (mvT hZ (g_ hw 152 rfl)) (mvT hZ (g_ hw 151 rfl)) (by decide) (backOf (W := 0) (rm_gv l Z a0 hw [] a1 t h0 n0 Z0 F1) hZ (g_ hw 153 rfl) (g_ hw 56 rfl) (by decide) (by decide)) q102a q102c (g := (mkF m 5 #[.val (.ref x), .val (.ref a1), .val .null, .unset, .unset] [(.ref a1)])) rfl (by rw [hml]; rfl) (Steps.refl _) (argsL := []) (rest := []) (lenOf own_pd16 rfl) rfl (by show 2 * 0 + _ ≤ _; exact Nat.le_of_eq rfl) (dE 3 rfl) (fun _ _ => ⟨rfl, e101, (by decide : 0 + 0 ≤ _), (by decide : 0 + 0 ≤ _)⟩)) fun v102 T102 L102 X102 hQ102 => ?_
  obtain ⟨rfl, Nq102, e102⟩ := hQ102
  have N102 := Fr.app N0 Nq102
  show own_Go p e below Pst (T102.setTop (mkF m 8 #[.val (.ref x), .val (.ref a1), .val .null, .unset, .unset] [(.ref t)]))
  refine o_astoreN X102.here hx (dE 4 rfl) rfl rfl (l' := #[.val (.ref x), .val (.ref a1), .val .null, .val (.ref t), .unset]) rfl ?_
  refine o_aloadN X102.here hx (dE 5 rfl) rfl rfl ?_
  obtain ⟨cq103, kq103, q103a, q103b, q103c⟩ := isOf hZ e102 E1
  refine own_cP X102 (X102.virtualBack hx (y := Mn17) (z := Mn18) hown (mvT hZ (g_ hw 154 rfl)) (mvT hZ (g_ hw 155 rfl)) (own_nf (args := #[]) (mvT hZ (g_ hw 92 rfl)) rfl) (mvT hZ (g_ hw 157 rfl)) (mvT hZ (g_ hw 158 rfl)) (by decide) (backOf (W := 0) (rm_sl l Z a0 hw [] a1 (20 : Int32) h0 n0 Z0 E1 F3) hZ (g_ hw 159 rfl) (g_ hw 48 rfl) (by decide) (by decide)) q103a q103c (g := (mkF m 10 #[.val (.ref x), .val (.ref a1), .val .null, .val (.ref t), .unset] [(.ref a1)])) rfl (by rw [hml]; rfl) (Steps.refl _) (argsL := []) (rest := []) (lenOf own_pd9 rfl) rfl (by show 2 * 0 + _ ≤ _; exact Nat.le_of_eq rfl) (dE 6 rfl) (fun _ _ => ⟨rfl, e102, (by decide : 0 + 0 ≤ _), (by decide : 0 + 0 ≤ _)⟩)) fun v103 T103 L103 X103 hQ103 => ?_
  obtain ⟨rfl, Nq103, e103⟩ := hQ103
  have N103 := Fr.app N102 Nq103
  show own_Go p e below Pst (T103.setTop (mkF m 13 #[.val (.ref x), .val (.ref a1), .val .null, .val (.ref t), .unset] [(.int (20 : Int32))]))
  refine o_istore X103.here hx (dE 7 rfl) rfl (l' := #[.val (.ref x), .val (.ref a1), .val .null, .val (.ref t), .val (.int (20 : Int32))]) rfl ?_
  refine o_aloadN X103.here hx (dE 8 rfl) rfl rfl ?_
  obtain ⟨cq104, kq104, q104a, q104b, q104c⟩ := isOf hZ e103 E1
  refine own_cP X103 (X103.virtualBack hx (y := Mn6) (z := Mn6) hown (mvT hZ (g_ hw 162 rfl)) (mvT hZ (g_ hw 163 rfl)) (notFace_of_selects (args := #[]) (mvT hZ (g_ hw 165 rfl))) (mvT hZ (g_ hw 165 rfl)) (mvT hZ (g_ hw 164 rfl)) (by decide) (backOf (W := 0) (rm_bl l Z a0 hw [] z a1 h0 n0 Z0 O SC hz F2) hZ (g_ hw 166 rfl) (g_ hw 56 rfl) (by decide) (by decide)) q104a q104c (g := (mkF m 16 #[.val (.ref x), .val (.ref a1), .val .null, .val (.ref t), .val (.int (20 : Int32))] [(.ref a1)])) rfl (by rw [hml]; rfl) (Steps.refl _) (argsL := []) (rest := []) (lenOf own_pd12 rfl) rfl (by show 2 * 0 + _ ≤ _; exact Nat.le_of_eq rfl) (dE 9 rfl) (fun _ _ => ⟨rfl, e103, (by decide : 0 + 0 ≤ _), (by decide : 0 + 0 ≤ _)⟩)) fun v104 T104 L104 X104 hQ104 => ?_
  obtain ⟨rfl, Nq104, e104⟩ := hQ104
  have N104 := Fr.app N103 Nq104
  show own_Go p e below Pst (T104.setTop (mkF m 19 #[.val (.ref x), .val (.ref a1), .val .null, .val (.ref t), .val (.int (20 : Int32))] [(.int (1 : Int32))]))
  refine o_ifNo X104.here hx (dE 10 rfl) rfl ((if0 _ _).trans (feq (by decide)).1) ?_
  refine o_aloadN X104.here hx (dE 11 rfl) rfl rfl ?_
  refine o_iconst X104.here hx (dE 12 rfl) (z := (0 : Int32)) rfl ?_
  refine p_putFN X104 hx hZ hown (g_ hw 30 rfl) Via.refl e104 Y2 X1 (Or.inr ⟨(g_ hw 31 rfl), rfl, hnm⟩) (g_ hw 6 rfl) (ty := .byte) (v' := (.int (0 : Int32))) (by decide) rfl rfl rfl (dE 13 rfl) fun T105 h105 X105 e105 W105 => ?_
  have Fw105 := Fld.same W105 Y2
  have N105 := Fr.snoc X105 N104 gx
  refine o_aloadN X105.here hx (dE 14 rfl) rfl rfl ?_
  refine o_aloadN X105.here hx (dE 15 rfl) rfl rfl ?_
  refine o_iconst X105.here hx (dE 16 rfl) (z := (0 : Int32)) rfl ?_
  refine o_iload X105.here hx (dE 17 rfl) rfl ?_
  have c106 := (A1.other W105 ne2)
  have c108 := (Nat.le_trans Z0 (Keep.of_wr W105).1)
  refine own_cF X105 (Jvm.LawKit.callS X105 hx (y := Mn12) hown (mvT hZ (g_ hw 167 rfl)) (mvT hZ (g_ hw 168 rfl)) (mvT hZ (g_ hw 111 rfl)) (mvT hZ (g_ hw 169 rfl)) (by decide) (backOf (W := 1) (rm_cr3 l Z a0 hw [] t kb b0 b1 b2 h105 n0 c108 c106) hZ (g_ hw 169 rfl) (g_ hw 111 rfl) (by decide) (by decide)) (g := (mkF m 32 #[.val (.ref x), .val (.ref a1), .val .null, .val (.ref t), .val (.int (20 : Int32))] [(.int (20 : Int32)), (.int (0 : Int32)), (.ref t), (.ref x)])) rfl (by rw [hml]; rfl) (argsL := [(.ref t), (.int (0 : Int32)), (.int (20 : Int32))]) (rest := [(.ref x)]) (lenOf own_pd15 rfl) rfl (by show 2 * 0 + _ ≤ _; exact Nat.le_of_eq rfl) (dE 18 rfl) (fun _ _ => ⟨rfl, e105, (by decide : 0 + 1 ≤ _), (by decide : 0 + 20 ≤ _)⟩)) fun v107 T107 L107 X107 hQ107 => ?_
  obtain ⟨b107, rfl, Nq107, K107, sb107, kb107, V107⟩ := hQ107
  have N107 := Fr.app N105 Nq107
  have c109 := (X1.wr W105)
  have ne_x_b107 : x ≠ b107 := Nat.ne_of_lt (Nat.lt_of_lt_of_le c109.lt sb107)
  have c110 := (E1.wr W105)
  have ne_a1_b107 : a1 ≠ b107 := Nat.ne_of_lt (Nat.lt_of_lt_of_le c110.lt sb107)
  have ne_t_b107 : t ≠ b107 := Nat.ne_of_lt (Nat.lt_of_lt_of_le c106.lt sb107)
  have gn_b107 : n0 ≤ b107 := Nat.le_trans c108 sb107
  have c111 := ((Keep.refl h0 [x]).wr W105 (Or.inl (List.mem_of_getElem? (i := 0) rfl)))
  have sz_b107 : h0.size ≤ b107 := Nat.le_trans c111.1 sb107
  show own_Go p e below Pst (T107.setTop (mkF m 35 #[.val (.ref x), .val (.ref a1), .val .null, .val (.ref t), .val (.int (20 : Int32))] [(.ref b107), (.ref x)]))
  have c112 := (c109.keep K107)
  have c113 := ((Y1.other W105 (Or.inr (slot_ne (Or.inr (g_ hw 33 rfl)) (Or.inr (g_ hw 31 rfl)) (by decide) (t := (.array .byte)) (t' := .byte) (by decide) (by decide)))).keep K107 nin0)
  refine p_putF X107 hx hZ hown (host := "") (Or.inl (g_ hw 32 rfl)) Via.refl rfl c113 c112 (Or.inr ⟨(g_ hw 33 rfl), rfl, hnm⟩) (g_ hw 6 rfl) (ty := (.array .byte)) (by decide) rfl rfl rfl (dE 19 rfl) fun T114 h114 X114 e114 W114 => ?_
  have Fw114 := Fld.same W114 c113
  have N114 := Fr.snoc X114 N107 gx
  refine o_goto X114.here hx (pc0 := 38) (pc' := 97) rfl (dE 20 rfl) (by decide) (by decide) ?_
  have c115 := ((Keep.trans c111 K107 all0).wr W114 (Or.inl (List.mem_of_getElem? (i := 0) rfl)))
  have c116 := (c112.wr W114)
  have c117 := ((Fw105.keep K107 nin0).other W114 (Or.inr (slot_ne (Or.inr (g_ hw 31 rfl)) (Or.inr (g_ hw 33 rfl)) (by decide) (t := .byte) (t' := (.array .byte)) (by decide) (by decide))))
  have c118 := (V107.other W114 (Ne.symm ne_x_b107))
  rw [hPst]
  exact own_retP X114 (v := none) (Q := Q_ib3 Z z x a1 t kb u1 u2 b0 b1 b2 h0 n0) (fun _ => rfl) Bd.notSynchronized (fun fs hr => X114.returnOut hx Bd.returns (dE 21 rfl) hr) (by decide) (by decide) (by rw [e114]; exact ⟨rfl, N114, c115, c116, c117, _, _, sz_b107, Fw114, c118⟩)
def Q_is3 (Z : State) (z : Int32) (x a1 t : Addr) (kb : ClassId) (u1 u2 : Value) (b0 b1 b2 : Int32) (h0 : Heap) (n0 : Nat) (v : Option Value) (h : Heap) (L : List Loc) : Prop := v = none ∧ Fr n0 L ∧ Keep h0 h [x] ∧ Exa Z h x "java/lang/String" ∧ Fld Z h x "java/lang/String" "coder" "B" (.int (0 : Int32)) ∧ ∃ (t' : Addr) (kb : ClassId), h0.size ≤ t' ∧ Fld Z h x "java/lang/String" "value" "[B" (.ref t') ∧ Arv Z h t' kb .byte (20 : Int32) (own_o3 b0 b1 b2) (.int (0 : Int32))
theorem rm_is3 (l : Launch) (Z : State) (a0 : Array Value) (hw : own_H a0 Z) (ws : List Jvm.Cond) (z : Int32) (x a1 t : Addr) (kb : ClassId) (u1 u2 : Value) (b0 b1 b2 : Int32) (h0 : Heap) (n0 : Nat) (Z0 : n0 ≤ h0.size) (O : Old Z n0 h0) (SC : Sta Z Z.heap "java/lang/String" "COMPACT_STRINGS" "Z" (.int z)) (hz : ¬ z = 0) (E1 : Exa Z h0 a1 "java/lang/StringBuilder") (F1 : Fld Z h0 a1 "java/lang/AbstractStringBuilder" "value" "[B" (.ref t)) (F2 : Fld Z h0 a1 "java/lang/AbstractStringBuilder" "coder" "B" (.int (0 : Int32))) (F3 : Fld Z h0 a1 "java/lang/AbstractStringBuilder" "count" "I" (.int (20 : Int32))) (A1 : Arv Z h0 t kb .byte (34 : Int32) (own_nw3 b0 b1 b2) (.int 0)) (X1 : Exa Z h0 x "java/lang/String") (gx : n0 ≤ x) (Y1 : Fld Z h0 x "java/lang/String" "value" "[B" u1) (Y2 : Fld Z h0 x "java/lang/String" "coder" "B" u2) : own_MP l Mn14 jdk_42_method_53_code 2 none ws ({ frames := 4, cells := 1, slots := 20, locals := 76 } : Room) Z h0 #[(.ref x), (.ref a1)] (fun _ _ _ _ _ => True) (Q_is3 Z z x a1 t kb u1 u2 b0 b1 b2 h0 n0) := by
  refine own_startP (plainFor_of_name own_pn_java_lang_String) fun p e s m below meth c s₁ Bd hx hby hml hown0 X0 e0 hh0 hZ hK Pst hPst => ?_
  have dE := own_E hby own_D26
  have hown : s.vm.findClass "java/lang/String" = some m.cls := hown0
  have hnm := (name_of_methodNamed Bd.named Bd.method).1
  have N0 := Fr.nil n0
  rw [own_ef_RR_2 m x a1]
  refine o_aloadN X0.here hx (dE 0 rfl) rfl rfl ?_
  refine o_aloadN X0.here hx (dE 1 rfl) rfl rfl ?_
  refine o_aconstNull X0.here hx (dE 2 rfl) ?_
  refine own_cP X0 (X0.specialBack hx (y := Mn13) rfl hown (mvT hZ (g_ hw 146 rfl)) (mvT hZ (g_ hw 147 rfl)) (mvT hZ (g_ hw 148 rfl)) (by decide) (backOf (W := 0) (rm_ib3 l Z a0 hw [] z x a1 t kb u1 u2 b0 b1 b2 h0 n0 Z0 O SC hz E1 F1 F2 F3 A1 X1 gx Y1 Y2) hZ (g_ hw 148 rfl) (g_ hw 7 rfl) (by decide) (by decide)) (g := (mkF m 3 #[.val (.ref x), .val (.ref a1)] [.null, (.ref a1), (.ref x)])) rfl (by rw [hml]; rfl) (Steps.refl _) (a := x) (argsL := [(.ref a1), .null]) (rest := []) (lenOf own_pd17 rfl) rfl (by show 2 * 0 + _ ≤ _; exact Nat.le_of_eq rfl) (dE 3 rfl) (fun _ _ => ⟨rfl, e0, (by decide : 0 + 1 ≤ _), (by decide : 0 + 20 ≤ _)⟩)) fun v101 T101 L101 X101 hQ101 => ?_
  obtain ⟨rfl, Nq101, K101, A101, C101, t101, kb101, st_101, V101, B101⟩ := hQ101
  have N101 := Fr.app N0 Nq101
  show own_Go p e below Pst (T101.setTop (mkF m 6 #[.val (.ref x), .val (.ref a1)] []))
  have c102 := (Keep.trans (Keep.refl h0 [x]) K101 (allS (Or.inl (List.mem_of_getElem? (i := 0) rfl)) all0))
  rw [hPst]
  exact own_retP X101 (v := none) (Q := Q_is3 Z z x a1 t kb u1 u2 b0 b1 b2 h0 n0) (fun _ => rfl) Bd.notSynchronized (fun fs hr => X101.returnOut hx Bd.returns (dE 4 rfl) hr) (by decide) (by decide) ⟨rfl, N101, c102, A101, C101, _, _, st_101, V101, B101⟩
def Q_ts3 (Z : State) (z : Int32) (a1 t : Addr) (kb : ClassId) (b0 b1 b2 : Int32) (h0 : Heap) (n0 : Nat) (v : Option Value) (h : Heap) (L : List Loc) : Prop := ∃ x : Addr, v = some (.ref x) ∧ Fr n0 L ∧ Keep h0 h [] ∧ h0.size ≤ x ∧ Exa Z h x "java/lang/String" ∧ Fld Z h x "java/lang/String" "coder" "B" (.int (0 : Int32)) ∧ ∃ (t' : Addr) (kb : ClassId), h0.size ≤ t' ∧ Fld Z h x "java/lang/String" "value" "[B" (.ref t') ∧ Arv Z h t' kb .byte (20 : Int32) (own_o3 b0 b1 b2) (.int (0 : Int32))
theorem rm_ts3 (l : Launch) (Z : State) (a0 : Array Value) (hw : own_H a0 Z) (ws : List Jvm.Cond) (z : Int32) (a1 t : Addr) (kb : ClassId) (b0 b1 b2 : Int32) (h0 : Heap) (n0 : Nat) (Z0 : n0 ≤ h0.size) (O : Old Z n0 h0) (SC : Sta Z Z.heap "java/lang/String" "COMPACT_STRINGS" "Z" (.int z)) (hz : ¬ z = 0) (E1 : Exa Z h0 a1 "java/lang/StringBuilder") (F1 : Fld Z h0 a1 "java/lang/AbstractStringBuilder" "value" "[B" (.ref t)) (F2 : Fld Z h0 a1 "java/lang/AbstractStringBuilder" "coder" "B" (.int (0 : Int32))) (F3 : Fld Z h0 a1 "java/lang/AbstractStringBuilder" "count" "I" (.int (20 : Int32))) (A1 : Arv Z h0 t kb .byte (34 : Int32) (own_nw3 b0 b1 b2) (.int 0)) : own_MP l Mn4 jdk_67_method_42_code 1 (some (.object "java/lang/String")) ws ({ frames := 5, cells := 2, slots := 24, locals := 92 } : Room) Z h0 #[(.ref a1)] (fun _ _ _ _ _ => True) (Q_ts3 Z z a1 t kb b0 b1 b2 h0 n0) := by
  refine own_startP (plainFor_of_name own_pn_java_lang_StringBuilder) fun p e s m below meth c s₁ Bd hx hby hml hown0 X0 e0 hh0 hZ hK Pst hPst => ?_
  have dE := own_E hby own_D25
  have hown : s.vm.findClass "java/lang/StringBuilder" = some m.cls := hown0
  have hnm := (name_of_methodNamed Bd.named Bd.method).1
  have N0 := Fr.nil n0
  rw [own_ef_R_1 m a1]
  refine p_newO X0 hx hZ hown (g_ hw 142 rfl) (g_ hw 6 rfl) (g_ hw 7 rfl) e0 (dE 0 rfl) (by decide) (by decide) fun T101 h101 b101 g101 X101 e101 E101 A101 D101 U101 => ?_
  have ne_a1_b101 : a1 ≠ b101 := Nat.ne_of_lt (Nat.lt_of_lt_of_le E1.lt (Nat.le_of_eq g101.symm))
  have ne_t_b101 : t ≠ b101 := Nat.ne_of_lt (Nat.lt_of_lt_of_le A1.lt (Nat.le_of_eq g101.symm))
  have gn_b101 : n0 ≤ b101 := Nat.le_trans Z0 (Nat.le_of_eq g101.symm)
  have sz_b101 : h0.size ≤ b101 := Nat.le_trans (Keep.refl h0 []).1 (Nat.le_of_eq g101.symm)
  have f101_coder : Fld Z h101 b101 "java/lang/String" "coder" "B" (.int (0 : Int32)) := D101 (Or.inr (g_ hw 31 rfl)) (ty := .byte) (by decide)
  have f101_value : Fld Z h101 b101 "java/lang/String" "value" "[B" .null := D101 (Or.inr (g_ hw 33 rfl)) (ty := (.array .byte)) (by decide)
  refine o_dup X101.here hx (dE 1 rfl) rfl rfl ?_
  refine o_aloadN X101.here hx (dE 2 rfl) rfl rfl ?_
  have c102 := ((Keep.refl h0 []).ext E101)
  have c103 := (O.ext E101)
  have c104 := (E1.ext E101)
  have c105 := (F1.ext E101)
  have c106 := (F2.ext E101)
  have c107 := (F3.ext E101)
  have c108 := (A1.ext E101)
  have c110 := (Nat.le_trans Z0 E101.1)
  refine own_cP X101 (X101.specialBack hx (y := Mn14) rfl hown (mvT hZ (g_ hw 143 rfl)) (mvT hZ (g_ hw 144 rfl)) (mvT hZ (g_ hw 145 rfl)) (by decide) (backOf (W := 1) (rm_is3 l Z a0 hw [] z b101 a1 t kb .null (.int 0) b0 b1 b2 h101 n0 c110 c103 SC hz c104 c105 c106 c107 c108 A101 gn_b101 f101_value f101_coder) hZ (g_ hw 145 rfl) (g_ hw 7 rfl) (by decide) (by decide)) (g := (mkF m 5 #[.val (.ref a1)] [(.ref a1), (.ref b101), (.ref b101)])) rfl (by rw [hml]; rfl) (Steps.refl _) (a := b101) (argsL := [(.ref a1)]) (rest := [(.ref b101)]) (lenOf own_pd18 rfl) rfl (by show 2 * 0 + _ ≤ _; exact Nat.le_of_eq rfl) (dE 3 rfl) (fun _ _ => ⟨rfl, e101, (by decide : 1 + 1 ≤ _), (by decide : 4 + 20 ≤ _)⟩)) fun v109 T109 L109 X109 hQ109 => ?_
  obtain ⟨rfl, Nq109, K109, A109, C109, t109, kb109, st_109, V109, B109⟩ := hQ109
  have N109 := Fr.app N0 Nq109
  show own_Go p e below Pst (T109.setTop (mkF m 8 #[.val (.ref a1)] [(.ref b101)]))
  have c111 := (Keep.trans c102 K109 (allS (Or.inr sz_b101) all0))
  rw [hPst]
  exact own_retP X109 (v := (some (.ref b101))) (Q := Q_ts3 Z z a1 t kb b0 b1 b2 h0 n0) (fun h => by rw [Bd.returns] at h; cases h) Bd.notSynchronized (fun fs hr => retOut X109 hx Bd.returns rfl (Or.inr (Or.inr (Or.inr (Or.inr ⟨rfl, rfl, rfl⟩)))) (dE 4 rfl) hr) (by decide) (by decide) ⟨_, rfl, N109, c111, sz_b101, A109, C109, _, _, (Nat.le_trans c102.1 st_109), V109, B109⟩
def Q_crbn (Z : State) (t : Addr) (kb : ClassId) (h0 : Heap) (n0 : Nat) (v : Option Value) (h : Heap) (L : List Loc) : Prop := ∃ b : Addr, v = some (.ref b) ∧ Fr n0 L ∧ Keep h0 h [] ∧ h0.size ≤ b ∧ ∃ kb : ClassId, Arv Z h b kb .byte (21 : Int32) own_on (.int (0 : Int32))
theorem rm_crbn (l : Launch) (Z : State) (a0 : Array Value) (hw : own_H a0 Z) (ws : List Jvm.Cond) (t : Addr) (kb : ClassId) (h0 : Heap) (n0 : Nat) (Z0 : n0 ≤ h0.size) (A1 : Arv Z h0 t kb .byte (34 : Int32) own_nn (.int 0)) : own_MP l Mn11 jdk_65_method_133_code 5 (some (.array .byte)) ws ({ frames := 1, cells := 1, slots := 21, locals := 24 } : Room) Z h0 #[(.ref t), (.int (0 : Int32)), (.int (21 : Int32))] (fun _ _ _ _ _ => True) (Q_crbn Z t kb h0 n0) := by
  refine own_startP (plainFor_of_name own_pn_java_util_Arrays) fun p e s m below meth c s₁ Bd hx hby hml hown0 X0 e0 hh0 hZ hK Pst hPst => ?_
  have dE := own_E hby own_D33
  have hown : s.vm.findClass "java/util/Arrays" = some m.cls := hown0
  have hnm := (name_of_methodNamed Bd.named Bd.method).1
  have N0 := Fr.nil n0
  rw [own_ef_RII_5 m t (0 : Int32) (21 : Int32)]
  refine o_iloadN X0.here hx (dE 0 rfl) rfl ?_
  refine o_iloadN X0.here hx (dE 1 rfl) rfl ?_
  refine own_cF X0 (Jvm.LawKit.callS X0 hx (y := Mn19) hown (mvT hZ (g_ hw 173 rfl)) (mvT hZ (g_ hw 174 rfl)) (mvT hZ (g_ hw 111 rfl)) (mvT hZ (g_ hw 175 rfl)) (by decide) (backOf (W := 0) (rm_ckl l Z a0 hw [] (0 : Int32) (21 : Int32) h0 n0 Z0 (by decide)) hZ (g_ hw 175 rfl) (g_ hw 111 rfl) (by decide) (by decide)) (g := (mkF m 2 #[.val (.ref t), .val (.int (0 : Int32)), .val (.int (21 : Int32)), .unset, .unset] [(.int (21 : Int32)), (.int (0 : Int32))])) rfl (by rw [hml]; rfl) (argsL := [(.int (0 : Int32)), (.int (21 : Int32))]) (rest := []) (lenOf own_pd14 rfl) rfl (by show 2 * 0 + _ ≤ _; exact Nat.le_of_eq rfl) (dE 2 rfl) (fun _ _ => ⟨rfl, e0, (by decide : 0 + 0 ≤ _), (by decide : 0 + 0 ≤ _)⟩)) fun v101 T101 L101 X101 hQ101 => ?_
  obtain ⟨rfl, Nq101, e101⟩ := hQ101
  have N101 := Fr.app N0 Nq101
  show own_Go p e below Pst (T101.setTop (mkF m 5 #[.val (.ref t), .val (.int (0 : Int32)), .val (.int (21 : Int32)), .unset, .unset] []))
  refine o_iloadN X101.here hx (dE 3 rfl) rfl ?_
  refine o_iloadN X101.here hx (dE 4 rfl) rfl ?_
  refine o_isub X101.here hx (dE 5 rfl) rfl ?_
  rw [show ((21 : Int32) - (0 : Int32)) = (21 : Int32) from by decide]
  show own_Go p e below Pst (T101.setTop (mkF m 8 #[.val (.ref t), .val (.int (0 : Int32)), .val (.int (21 : Int32)), .unset, .unset] [(.int (21 : Int32))]))
  refine o_istoreN X101.here hx (dE 6 rfl) rfl (l' := #[.val (.ref t), .val (.int (0 : Int32)), .val (.int (21 : Int32)), .val (.int (21 : Int32)), .unset]) rfl ?_
  refine o_iloadN X101.here hx (dE 7 rfl) rfl ?_
  refine p_newP (aty := .byte) X101 hx hZ (g_ hw 23 rfl) e101 (dE 8 rfl) rfl (by decide) (cap := 21) (by decide) (by decide) (by decide) (by decide) fun T102 h102 k102 b102 g102 X102 e102 E102 A102 => ?_
  have ne_t_b102 : t ≠ b102 := Nat.ne_of_lt (Nat.lt_of_lt_of_le A1.lt (Nat.le_of_eq g102.symm))
  have gn_b102 : n0 ≤ b102 := Nat.le_trans Z0 (Nat.le_of_eq g102.symm)
  have sz_b102 : h0.size ≤ b102 := Nat.le_trans (Keep.refl h0 []).1 (Nat.le_of_eq g102.symm)
  have V102 : Arv Z h102 b102 k102 .byte (21 : Int32) [(.int (0 : Int32)), (.int (0 : Int32)), (.int (0 : Int32)), (.int (0 : Int32)), (.int (0 : Int32)), (.int (0 : Int32)), (.int (0 : Int32)), (.int (0 : Int32)), (.int (0 : Int32)), (.int (0 : Int32)), (.int (0 : Int32)), (.int (0 : Int32)), (.int (0 : Int32)), (.int (0 : Int32)), (.int (0 : Int32)), (.int (0 : Int32)), (.int (0 : Int32)), (.int (0 : Int32)), (.int (0 : Int32)), (.int (0 : Int32)), (.int (0 : Int32))] (.int (0 : Int32)) := (Arv.new A102 (by decide)).pad (pad_rep [] (.int (0 : Int32)) 21)
  refine o_astore X102.here hx (dE 9 rfl) rfl rfl (l' := #[.val (.ref t), .val (.int (0 : Int32)), .val (.int (21 : Int32)), .val (.int (21 : Int32)), .val (.ref b102)]) rfl ?_
  refine o_aloadN X102.here hx (dE 10 rfl) rfl rfl ?_
  refine o_iloadN X102.here hx (dE 11 rfl) rfl ?_
  refine o_aload X102.here hx (dE 12 rfl) rfl rfl ?_
  refine o_iconst X102.here hx (dE 13 rfl) (z := (0 : Int32)) rfl ?_
  refine o_aloadN X102.here hx (dE 14 rfl) rfl rfl ?_
  have c103 := (A1.ext E102)
  obtain ⟨cl104, Ar104, -, S104, P104, -, -⟩ := id c103
  refine own_Go.of (S' := T102.setTop (mkF m 21 #[.val (.ref t), .val (.int (0 : Int32)), .val (.int (21 : Int32)), .val (.int (21 : Int32)), .val (.ref b102)] [(.int (34 : Int32)), (.int (0 : Int32)), (.ref b102), (.int (0 : Int32)), (.ref t)])) (fun tgt kst => X102.arraylength hx (by rw [e102]; exact Ar104.1) (State.isArrayOf_alike hZ.alike Ar104.2.1) (g := (mkF m 20 #[.val (.ref t), .val (.int (0 : Int32)), .val (.int (21 : Int32)), .val (.int (21 : Int32)), .val (.ref b102)] [(.ref t), (.int (0 : Int32)), (.ref b102), (.int (0 : Int32)), (.ref t)])) rfl rfl (dE 15 rfl) _ (by rw [len_of S104 P104]; exact kst)) ?_
  refine o_iloadN X102.here hx (dE 16 rfl) rfl ?_
  refine o_isub X102.here hx (dE 17 rfl) rfl ?_
  rw [show ((34 : Int32) - (0 : Int32)) = (34 : Int32) from by decide]
  show own_Go p e below Pst (T102.setTop (mkF m 23 #[.val (.ref t), .val (.int (0 : Int32)), .val (.int (21 : Int32)), .val (.int (21 : Int32)), .val (.ref b102)] [(.int (34 : Int32)), (.int (0 : Int32)), (.ref b102), (.int (0 : Int32)), (.ref t)]))
  refine o_iloadN X102.here hx (dE 18 rfl) rfl ?_
  have c106 := (Nat.le_trans Z0 E102.1)
  refine own_cF X102 (Jvm.LawKit.callS X102 hx (y := Mn16) hown (mvT hZ (g_ hw 113 rfl)) (mvT hZ (g_ hw 114 rfl)) (mvT hZ (g_ hw 105 rfl)) (mvT hZ (g_ hw 115 rfl)) (by decide) (backOf (W := 4) (rm_minR l Z a0 hw [] (34 : Int32) (21 : Int32) h102 n0 c106 (by decide)) hZ (g_ hw 115 rfl) (g_ hw 105 rfl) (by decide) (by decide)) (g := (mkF m 24 #[.val (.ref t), .val (.int (0 : Int32)), .val (.int (21 : Int32)), .val (.int (21 : Int32)), .val (.ref b102)] [(.int (21 : Int32)), (.int (34 : Int32)), (.int (0 : Int32)), (.ref b102), (.int (0 : Int32)), (.ref t)])) rfl (by rw [hml]; rfl) (argsL := [(.int (34 : Int32)), (.int (21 : Int32))]) (rest := [(.int (0 : Int32)), (.ref b102), (.int (0 : Int32)), (.ref t)]) (lenOf own_pd3 rfl) rfl (by show 2 * 0 + _ ≤ _; exact Nat.le_of_eq rfl) (dE 19 rfl) (fun _ _ => ⟨rfl, e102, (by decide : 1 + 0 ≤ _), (by decide : 21 + 0 ≤ _)⟩)) fun v105 T105 L105 X105 hQ105 => ?_
  obtain ⟨rfl, Nq105, e105⟩ := hQ105
  have N105 := Fr.app N101 Nq105
  show own_Go p e below Pst (T105.setTop (mkF m 27 #[.val (.ref t), .val (.int (0 : Int32)), .val (.int (21 : Int32)), .val (.int (21 : Int32)), .val (.ref b102)] [(.int (21 : Int32)), (.int (0 : Int32)), (.ref b102), (.int (0 : Int32)), (.ref t)]))
  obtain ⟨T107, h107, L107, X107, e107, N107, K107, V107r, st107⟩ := cpA X105 hx hZ hown (g_ hw 116 rfl) (g_ hw 119 rfl) (g_ hw 117 rfl) (g_ hw 118 rfl) e105 c103 V102 (Or.inl ⟨rfl, rfl⟩) (by decide) (by decide) (by decide) (by decide) (by decide) (us := own_on) rfl (by decide) N105 gn_b102 (g := (mkF m 27 #[.val (.ref t), .val (.int (0 : Int32)), .val (.int (21 : Int32)), .val (.int (21 : Int32)), .val (.ref b102)] [(.int (21 : Int32)), (.int (0 : Int32)), (.ref b102), (.int (0 : Int32)), (.ref t)])) rfl (by rw [hml]; rfl) rfl (dE 20 rfl) (by decide) (W := 0) (by show 2 * 0 + _ ≤ _; exact Nat.le_of_eq rfl) (by decide)
  have V107 : Arv Z h107 b102 k102 .byte (21 : Int32) own_on (.int (0 : Int32)) := V107r
  refine own_Go.of st107 ?_
  show own_Go p e below Pst (T107.setTop (mkF m 30 #[.val (.ref t), .val (.int (0 : Int32)), .val (.int (21 : Int32)), .val (.int (21 : Int32)), .val (.ref b102)] []))
  refine o_aload X107.here hx (dE 21 rfl) rfl rfl ?_
  have c108 := (Keep.trans ((Keep.refl h0 []).ext E102) K107 (allS (Or.inr sz_b102) all0))
  rw [hPst]
  exact own_retP X107 (v := (some (.ref b102))) (Q := Q_crbn Z t kb h0 n0) (fun h => by rw [Bd.returns] at h; cases h) Bd.notSynchronized (fun fs hr => retOut X107 hx Bd.returns rfl (Or.inr (Or.inr (Or.inr (Or.inr ⟨rfl, rfl, rfl⟩)))) (dE 22 rfl) hr) (by decide) (by decide) (by rw [e107]; exact ⟨_, rfl, N107, c108, sz_b102, _, V107⟩)
def Q_crn (Z : State) (t : Addr) (kb : ClassId) (h0 : Heap) (n0 : Nat) (v : Option Value) (h : Heap) (L : List Loc) : Prop := ∃ b : Addr, v = some (.ref b) ∧ Fr n0 L ∧ Keep h0 h [] ∧ h0.size ≤ b ∧ ∃ kb : ClassId, Arv Z h b kb .byte (21 : Int32) own_on (.int (0 : Int32))
theorem rm_crn (l : Launch) (Z : State) (a0 : Array Value) (hw : own_H a0 Z) (ws : List Jvm.Cond) (t : Addr) (kb : ClassId) (h0 : Heap) (n0 : Nat) (Z0 : n0 ≤ h0.size) (A1 : Arv Z h0 t kb .byte (34 : Int32) own_nn (.int 0)) : own_MP l Mn12 jdk_65_method_132_code 3 (some (.array .byte)) ws ({ frames := 2, cells := 1, slots := 21, locals := 40 } : Room) Z h0 #[(.ref t), (.int (0 : Int32)), (.int (21 : Int32))] (fun _ _ _ _ _ => True) (Q_crn Z t kb h0 n0) := by
  refine own_startP (plainFor_of_name own_pn_java_util_Arrays) fun p e s m below meth c s₁ Bd hx hby hml hown0 X0 e0 hh0 hZ hK Pst hPst => ?_
  have dE := own_E hby own_D32
  have hown : s.vm.findClass "java/util/Arrays" = some m.cls := hown0
  have hnm := (name_of_methodNamed Bd.named Bd.method).1
  have N0 := Fr.nil n0
  rw [own_ef_RII_3 m t (0 : Int32) (21 : Int32)]
  refine o_iloadN X0.here hx (dE 0 rfl) rfl ?_
  refine o_ifNo X0.here hx (dE 1 rfl) rfl ((if0 _ _).trans (teq rfl).2) ?_
  refine o_iloadN X0.here hx (dE 2 rfl) rfl ?_
  refine o_aloadN X0.here hx (dE 3 rfl) rfl rfl ?_
  obtain ⟨cl101, Ar101, -, S101, P101, -, -⟩ := id A1
  refine own_Go.of (S' := s₁.setTop (mkF m 7 #[.val (.ref t), .val (.int (0 : Int32)), .val (.int (21 : Int32))] [(.int (34 : Int32)), (.int (21 : Int32))])) (fun tgt kst => X0.arraylength hx (by rw [e0]; exact Ar101.1) (State.isArrayOf_alike hZ.alike Ar101.2.1) (g := (mkF m 6 #[.val (.ref t), .val (.int (0 : Int32)), .val (.int (21 : Int32))] [(.ref t), (.int (21 : Int32))])) rfl rfl (dE 4 rfl) _ (by rw [len_of S101 P101]; exact kst)) ?_
  refine o_icmpNo X0.here hx (dE 5 rfl) rfl (feq (by decide)).1 ?_
  refine o_aloadN X0.here hx (dE 6 rfl) rfl rfl ?_
  refine o_iloadN X0.here hx (dE 7 rfl) rfl ?_
  refine o_iloadN X0.here hx (dE 8 rfl) rfl ?_
  refine own_cF X0 (Jvm.LawKit.callS X0 hx (y := Mn11) hown (mvT hZ (g_ hw 170 rfl)) (mvT hZ (g_ hw 171 rfl)) (mvT hZ (g_ hw 111 rfl)) (mvT hZ (g_ hw 172 rfl)) (by decide) (backOf (W := 0) (rm_crbn l Z a0 hw [] t kb  h0 n0 Z0 A1) hZ (g_ hw 172 rfl) (g_ hw 111 rfl) (by decide) (by decide)) (g := (mkF m 13 #[.val (.ref t), .val (.int (0 : Int32)), .val (.int (21 : Int32))] [(.int (21 : Int32)), (.int (0 : Int32)), (.ref t)])) rfl (by rw [hml]; rfl) (argsL := [(.ref t), (.int (0 : Int32)), (.int (21 : Int32))]) (rest := []) (lenOf own_pd15 rfl) rfl (by show 2 * 0 + _ ≤ _; exact Nat.le_of_eq rfl) (dE 9 rfl) (fun _ _ => ⟨rfl, e0, (by decide : 0 + 1 ≤ _), (by decide : 0 + 21 ≤ _)⟩)) fun v102 T102 L102 X102 hQ102 => ?_
  obtain ⟨b102, rfl, Nq102, K102, sb102, kb102, V102⟩ := hQ102
  have N102 := Fr.app N0 Nq102
  have gn_b102 : n0 ≤ b102 := Nat.le_trans Z0 sb102
  have sz_b102 : h0.size ≤ b102 := Nat.le_trans (Keep.refl h0 []).1 sb102
  show own_Go p e below Pst (T102.setTop (mkF m 16 #[.val (.ref t), .val (.int (0 : Int32)), .val (.int (21 : Int32))] [(.ref b102)]))
  have c103 := (Keep.trans (Keep.refl h0 []) K102 all0)
  rw [hPst]
  exact own_retP X102 (v := (some (.ref b102))) (Q := Q_crn Z t kb h0 n0) (fun h => by rw [Bd.returns] at h; cases h) Bd.notSynchronized (fun fs hr => retOut X102 hx Bd.returns rfl (Or.inr (Or.inr (Or.inr (Or.inr ⟨rfl, rfl, rfl⟩)))) (dE 10 rfl) hr) (by decide) (by decide) ⟨_, rfl, N102, c103, sz_b102, _, V102⟩
def Q_ibn (Z : State) (z : Int32) (x a1 t : Addr) (kb : ClassId) (u1 u2 : Value) (h0 : Heap) (n0 : Nat) (v : Option Value) (h : Heap) (L : List Loc) : Prop := v = none ∧ Fr n0 L ∧ Keep h0 h [x] ∧ Exa Z h x "java/lang/String" ∧ Fld Z h x "java/lang/String" "coder" "B" (.int (0 : Int32)) ∧ ∃ (t' : Addr) (kb : ClassId), h0.size ≤ t' ∧ Fld Z h x "java/lang/String" "value" "[B" (.ref t') ∧ Arv Z h t' kb .byte (21 : Int32) own_on (.int (0 : Int32))
theorem rm_ibn (l : Launch) (Z : State) (a0 : Array Value) (hw : own_H a0 Z) (ws : List Jvm.Cond) (z : Int32) (x a1 t : Addr) (kb : ClassId) (u1 u2 : Value) (h0 : Heap) (n0 : Nat) (Z0 : n0 ≤ h0.size) (O : Old Z n0 h0) (SC : Sta Z Z.heap "java/lang/String" "COMPACT_STRINGS" "Z" (.int z)) (hz : ¬ z = 0) (E1 : Exa Z h0 a1 "java/lang/StringBuilder") (F1 : Fld Z h0 a1 "java/lang/AbstractStringBuilder" "value" "[B" (.ref t)) (F2 : Fld Z h0 a1 "java/lang/AbstractStringBuilder" "coder" "B" (.int (0 : Int32))) (F3 : Fld Z h0 a1 "java/lang/AbstractStringBuilder" "count" "I" (.int (21 : Int32))) (A1 : Arv Z h0 t kb .byte (34 : Int32) own_nn (.int 0)) (X1 : Exa Z h0 x "java/lang/String") (gx : n0 ≤ x) (Y1 : Fld Z h0 x "java/lang/String" "value" "[B" u1) (Y2 : Fld Z h0 x "java/lang/String" "coder" "B" u2) : own_MP l Mn13 jdk_42_method_150_code 5 none ws ({ frames := 3, cells := 1, slots := 21, locals := 60 } : Room) Z h0 #[(.ref x), (.ref a1), .null] (fun _ _ _ _ _ => True) (Q_ibn Z z x a1 t kb u1 u2 h0 n0) := by
  refine own_startP (plainFor_of_name own_pn_java_lang_String) fun p e s m below meth c s₁ Bd hx hby hml hown0 X0 e0 hh0 hZ hK Pst hPst => ?_
  have dE := own_E hby own_D27
  have hown : s.vm.findClass "java/lang/String" = some m.cls := hown0
  have hnm := (name_of_methodNamed Bd.named Bd.method).1
  have N0 := Fr.nil n0
  rw [own_ef_RRN_5 m x a1]
  have ne1 : a1 ≠ x := ne_exa E1 X1 (by decide)
  have ne2 : t ≠ x := Ne.symm (Exa.neArv X1 A1 (g_ hw 6 rfl))
  refine o_aloadN X0.here hx (dE 0 rfl) rfl rfl ?_
  refine p_initO X0 hx hZ hown (g_ hw 15 rfl) (g_ hw 16 rfl) (g_ hw 17 rfl) e0 (by rw [hml]; rfl) rfl (dE 1 rfl) (by decide) (W := 0) (by show 2 * 0 + _ ≤ _; exact Nat.le_of_eq rfl) (by decide) fun T101 X101 e101 => ?_
  refine o_aloadN X101.here hx (dE 2 rfl) rfl rfl ?_
  obtain ⟨cq102, kq102, q102a, q102b, q102c⟩ := isOf hZ e101 E1
  refine own_cP X101 (X101.virtualBack hx (y := Mn10) (z := Mn10) hown (mvT hZ (g_ hw 149 rfl)) (mvT hZ (g_ hw 150 rfl)) (notFace_of_selects (args := #[]) (mvT hZ (g_ hw 152 rfl))) (mvT hZ (g_ hw 152 rfl)) (mvT hZ (g_ hw 151 rfl)) (by decide) (backOf (W := 0) (rm_gv l Z a0 hw [] a1 t h0 n0 Z0 F1) hZ (g_ hw 153 rfl) (g_ hw 56 rfl) (by decide) (by decide)) q102a q102c (g := (mkF m 5 #[.val (.ref x), .val (.ref a1), .val .null, .unset, .unset] [(.ref a1)])) rfl (by rw [hml]; rfl) (Steps.refl _) (argsL := []) (rest := []) (lenOf own_pd16 rfl) rfl (by show 2 * 0 + _ ≤ _; exact Nat.le_of_eq rfl) (dE 3 rfl) (fun _ _ => ⟨rfl, e101, (by decide : 0 + 0 ≤ _), (by decide : 0 + 0 ≤ _)⟩)) fun v102 T102 L102 X102 hQ102 => ?_
  obtain ⟨rfl, Nq102, e102⟩ := hQ102
  have N102 := Fr.app N0 Nq102
  show own_Go p e below Pst (T102.setTop (mkF m 8 #[.val (.ref x), .val (.ref a1), .val .null, .unset, .unset] [(.ref t)]))
  refine o_astoreN X102.here hx (dE 4 rfl) rfl rfl (l' := #[.val (.ref x), .val (.ref a1), .val .null, .val (.ref t), .unset]) rfl ?_
  refine o_aloadN X102.here hx (dE 5 rfl) rfl rfl ?_
  obtain ⟨cq103, kq103, q103a, q103b, q103c⟩ := isOf hZ e102 E1
  refine own_cP X102 (X102.virtualBack hx (y := Mn17) (z := Mn18) hown (mvT hZ (g_ hw 154 rfl)) (mvT hZ (g_ hw 155 rfl)) (own_nf (args := #[]) (mvT hZ (g_ hw 92 rfl)) rfl) (mvT hZ (g_ hw 157 rfl)) (mvT hZ (g_ hw 158 rfl)) (by decide) (backOf (W := 0) (rm_sl l Z a0 hw [] a1 (21 : Int32) h0 n0 Z0 E1 F3) hZ (g_ hw 159 rfl) (g_ hw 48 rfl) (by decide) (by decide)) q103a q103c (g := (mkF m 10 #[.val (.ref x), .val (.ref a1), .val .null, .val (.ref t), .unset] [(.ref a1)])) rfl (by rw [hml]; rfl) (Steps.refl _) (argsL := []) (rest := []) (lenOf own_pd9 rfl) rfl (by show 2 * 0 + _ ≤ _; exact Nat.le_of_eq rfl) (dE 6 rfl) (fun _ _ => ⟨rfl, e102, (by decide : 0 + 0 ≤ _), (by decide : 0 + 0 ≤ _)⟩)) fun v103 T103 L103 X103 hQ103 => ?_
  obtain ⟨rfl, Nq103, e103⟩ := hQ103
  have N103 := Fr.app N102 Nq103
  show own_Go p e below Pst (T103.setTop (mkF m 13 #[.val (.ref x), .val (.ref a1), .val .null, .val (.ref t), .unset] [(.int (21 : Int32))]))
  refine o_istore X103.here hx (dE 7 rfl) rfl (l' := #[.val (.ref x), .val (.ref a1), .val .null, .val (.ref t), .val (.int (21 : Int32))]) rfl ?_
  refine o_aloadN X103.here hx (dE 8 rfl) rfl rfl ?_
  obtain ⟨cq104, kq104, q104a, q104b, q104c⟩ := isOf hZ e103 E1
  refine own_cP X103 (X103.virtualBack hx (y := Mn6) (z := Mn6) hown (mvT hZ (g_ hw 162 rfl)) (mvT hZ (g_ hw 163 rfl)) (notFace_of_selects (args := #[]) (mvT hZ (g_ hw 165 rfl))) (mvT hZ (g_ hw 165 rfl)) (mvT hZ (g_ hw 164 rfl)) (by decide) (backOf (W := 0) (rm_bl l Z a0 hw [] z a1 h0 n0 Z0 O SC hz F2) hZ (g_ hw 166 rfl) (g_ hw 56 rfl) (by decide) (by decide)) q104a q104c (g := (mkF m 16 #[.val (.ref x), .val (.ref a1), .val .null, .val (.ref t), .val (.int (21 : Int32))] [(.ref a1)])) rfl (by rw [hml]; rfl) (Steps.refl _) (argsL := []) (rest := []) (lenOf own_pd12 rfl) rfl (by show 2 * 0 + _ ≤ _; exact Nat.le_of_eq rfl) (dE 9 rfl) (fun _ _ => ⟨rfl, e103, (by decide : 0 + 0 ≤ _), (by decide : 0 + 0 ≤ _)⟩)) fun v104 T104 L104 X104 hQ104 => ?_
  obtain ⟨rfl, Nq104, e104⟩ := hQ104
  have N104 := Fr.app N103 Nq104
  show own_Go p e below Pst (T104.setTop (mkF m 19 #[.val (.ref x), .val (.ref a1), .val .null, .val (.ref t), .val (.int (21 : Int32))] [(.int (1 : Int32))]))
  refine o_ifNo X104.here hx (dE 10 rfl) rfl ((if0 _ _).trans (feq (by decide)).1) ?_
  refine o_aloadN X104.here hx (dE 11 rfl) rfl rfl ?_
  refine o_iconst X104.here hx (dE 12 rfl) (z := (0 : Int32)) rfl ?_
  refine p_putFN X104 hx hZ hown (g_ hw 30 rfl) Via.refl e104 Y2 X1 (Or.inr ⟨(g_ hw 31 rfl), rfl, hnm⟩) (g_ hw 6 rfl) (ty := .byte) (v' := (.int (0 : Int32))) (by decide) rfl rfl rfl (dE 13 rfl) fun T105 h105 X105 e105 W105 => ?_
  have Fw105 := Fld.same W105 Y2
  have N105 := Fr.snoc X105 N104 gx
  refine o_aloadN X105.here hx (dE 14 rfl) rfl rfl ?_
  refine o_aloadN X105.here hx (dE 15 rfl) rfl rfl ?_
  refine o_iconst X105.here hx (dE 16 rfl) (z := (0 : Int32)) rfl ?_
  refine o_iload X105.here hx (dE 17 rfl) rfl ?_
  have c106 := (A1.other W105 ne2)
  have c108 := (Nat.le_trans Z0 (Keep.of_wr W105).1)
  refine own_cF X105 (Jvm.LawKit.callS X105 hx (y := Mn12) hown (mvT hZ (g_ hw 167 rfl)) (mvT hZ (g_ hw 168 rfl)) (mvT hZ (g_ hw 111 rfl)) (mvT hZ (g_ hw 169 rfl)) (by decide) (backOf (W := 1) (rm_crn l Z a0 hw [] t kb  h105 n0 c108 c106) hZ (g_ hw 169 rfl) (g_ hw 111 rfl) (by decide) (by decide)) (g := (mkF m 32 #[.val (.ref x), .val (.ref a1), .val .null, .val (.ref t), .val (.int (21 : Int32))] [(.int (21 : Int32)), (.int (0 : Int32)), (.ref t), (.ref x)])) rfl (by rw [hml]; rfl) (argsL := [(.ref t), (.int (0 : Int32)), (.int (21 : Int32))]) (rest := [(.ref x)]) (lenOf own_pd15 rfl) rfl (by show 2 * 0 + _ ≤ _; exact Nat.le_of_eq rfl) (dE 18 rfl) (fun _ _ => ⟨rfl, e105, (by decide : 0 + 1 ≤ _), (by decide : 0 + 21 ≤ _)⟩)) fun v107 T107 L107 X107 hQ107 => ?_
  obtain ⟨b107, rfl, Nq107, K107, sb107, kb107, V107⟩ := hQ107
  have N107 := Fr.app N105 Nq107
  have c109 := (X1.wr W105)
  have ne_x_b107 : x ≠ b107 := Nat.ne_of_lt (Nat.lt_of_lt_of_le c109.lt sb107)
  have c110 := (E1.wr W105)
  have ne_a1_b107 : a1 ≠ b107 := Nat.ne_of_lt (Nat.lt_of_lt_of_le c110.lt sb107)
  have ne_t_b107 : t ≠ b107 := Nat.ne_of_lt (Nat.lt_of_lt_of_le c106.lt sb107)
  have gn_b107 : n0 ≤ b107 := Nat.le_trans c108 sb107
  have c111 := ((Keep.refl h0 [x]).wr W105 (Or.inl (List.mem_of_getElem? (i := 0) rfl)))
  have sz_b107 : h0.size ≤ b107 := Nat.le_trans c111.1 sb107
  show own_Go p e below Pst (T107.setTop (mkF m 35 #[.val (.ref x), .val (.ref a1), .val .null, .val (.ref t), .val (.int (21 : Int32))] [(.ref b107), (.ref x)]))
  have c112 := (c109.keep K107)
  have c113 := ((Y1.other W105 (Or.inr (slot_ne (Or.inr (g_ hw 33 rfl)) (Or.inr (g_ hw 31 rfl)) (by decide) (t := (.array .byte)) (t' := .byte) (by decide) (by decide)))).keep K107 nin0)
  refine p_putF X107 hx hZ hown (host := "") (Or.inl (g_ hw 32 rfl)) Via.refl rfl c113 c112 (Or.inr ⟨(g_ hw 33 rfl), rfl, hnm⟩) (g_ hw 6 rfl) (ty := (.array .byte)) (by decide) rfl rfl rfl (dE 19 rfl) fun T114 h114 X114 e114 W114 => ?_
  have Fw114 := Fld.same W114 c113
  have N114 := Fr.snoc X114 N107 gx
  refine o_goto X114.here hx (pc0 := 38) (pc' := 97) rfl (dE 20 rfl) (by decide) (by decide) ?_
  have c115 := ((Keep.trans c111 K107 all0).wr W114 (Or.inl (List.mem_of_getElem? (i := 0) rfl)))
  have c116 := (c112.wr W114)
  have c117 := ((Fw105.keep K107 nin0).other W114 (Or.inr (slot_ne (Or.inr (g_ hw 31 rfl)) (Or.inr (g_ hw 33 rfl)) (by decide) (t := .byte) (t' := (.array .byte)) (by decide) (by decide))))
  have c118 := (V107.other W114 (Ne.symm ne_x_b107))
  rw [hPst]
  exact own_retP X114 (v := none) (Q := Q_ibn Z z x a1 t kb u1 u2 h0 n0) (fun _ => rfl) Bd.notSynchronized (fun fs hr => X114.returnOut hx Bd.returns (dE 21 rfl) hr) (by decide) (by decide) (by rw [e114]; exact ⟨rfl, N114, c115, c116, c117, _, _, sz_b107, Fw114, c118⟩)
def Q_isn (Z : State) (z : Int32) (x a1 t : Addr) (kb : ClassId) (u1 u2 : Value) (h0 : Heap) (n0 : Nat) (v : Option Value) (h : Heap) (L : List Loc) : Prop := v = none ∧ Fr n0 L ∧ Keep h0 h [x] ∧ Exa Z h x "java/lang/String" ∧ Fld Z h x "java/lang/String" "coder" "B" (.int (0 : Int32)) ∧ ∃ (t' : Addr) (kb : ClassId), h0.size ≤ t' ∧ Fld Z h x "java/lang/String" "value" "[B" (.ref t') ∧ Arv Z h t' kb .byte (21 : Int32) own_on (.int (0 : Int32))
theorem rm_isn (l : Launch) (Z : State) (a0 : Array Value) (hw : own_H a0 Z) (ws : List Jvm.Cond) (z : Int32) (x a1 t : Addr) (kb : ClassId) (u1 u2 : Value) (h0 : Heap) (n0 : Nat) (Z0 : n0 ≤ h0.size) (O : Old Z n0 h0) (SC : Sta Z Z.heap "java/lang/String" "COMPACT_STRINGS" "Z" (.int z)) (hz : ¬ z = 0) (E1 : Exa Z h0 a1 "java/lang/StringBuilder") (F1 : Fld Z h0 a1 "java/lang/AbstractStringBuilder" "value" "[B" (.ref t)) (F2 : Fld Z h0 a1 "java/lang/AbstractStringBuilder" "coder" "B" (.int (0 : Int32))) (F3 : Fld Z h0 a1 "java/lang/AbstractStringBuilder" "count" "I" (.int (21 : Int32))) (A1 : Arv Z h0 t kb .byte (34 : Int32) own_nn (.int 0)) (X1 : Exa Z h0 x "java/lang/String") (gx : n0 ≤ x) (Y1 : Fld Z h0 x "java/lang/String" "value" "[B" u1) (Y2 : Fld Z h0 x "java/lang/String" "coder" "B" u2) : own_MP l Mn14 jdk_42_method_53_code 2 none ws ({ frames := 4, cells := 1, slots := 21, locals := 76 } : Room) Z h0 #[(.ref x), (.ref a1)] (fun _ _ _ _ _ => True) (Q_isn Z z x a1 t kb u1 u2 h0 n0) := by
  refine own_startP (plainFor_of_name own_pn_java_lang_String) fun p e s m below meth c s₁ Bd hx hby hml hown0 X0 e0 hh0 hZ hK Pst hPst => ?_
  have dE := own_E hby own_D26
  have hown : s.vm.findClass "java/lang/String" = some m.cls := hown0
  have hnm := (name_of_methodNamed Bd.named Bd.method).1
  have N0 := Fr.nil n0
  rw [own_ef_RR_2 m x a1]
  refine o_aloadN X0.here hx (dE 0 rfl) rfl rfl ?_
  refine o_aloadN X0.here hx (dE 1 rfl) rfl rfl ?_
  refine o_aconstNull X0.here hx (dE 2 rfl) ?_
  refine own_cP X0 (X0.specialBack hx (y := Mn13) rfl hown (mvT hZ (g_ hw 146 rfl)) (mvT hZ (g_ hw 147 rfl)) (mvT hZ (g_ hw 148 rfl)) (by decide) (backOf (W := 0) (rm_ibn l Z a0 hw [] z x a1 t kb u1 u2  h0 n0 Z0 O SC hz E1 F1 F2 F3 A1 X1 gx Y1 Y2) hZ (g_ hw 148 rfl) (g_ hw 7 rfl) (by decide) (by decide)) (g := (mkF m 3 #[.val (.ref x), .val (.ref a1)] [.null, (.ref a1), (.ref x)])) rfl (by rw [hml]; rfl) (Steps.refl _) (a := x) (argsL := [(.ref a1), .null]) (rest := []) (lenOf own_pd17 rfl) rfl (by show 2 * 0 + _ ≤ _; exact Nat.le_of_eq rfl) (dE 3 rfl) (fun _ _ => ⟨rfl, e0, (by decide : 0 + 1 ≤ _), (by decide : 0 + 21 ≤ _)⟩)) fun v101 T101 L101 X101 hQ101 => ?_
  obtain ⟨rfl, Nq101, K101, A101, C101, t101, kb101, st_101, V101, B101⟩ := hQ101
  have N101 := Fr.app N0 Nq101
  show own_Go p e below Pst (T101.setTop (mkF m 6 #[.val (.ref x), .val (.ref a1)] []))
  have c102 := (Keep.trans (Keep.refl h0 [x]) K101 (allS (Or.inl (List.mem_of_getElem? (i := 0) rfl)) all0))
  rw [hPst]
  exact own_retP X101 (v := none) (Q := Q_isn Z z x a1 t kb u1 u2 h0 n0) (fun _ => rfl) Bd.notSynchronized (fun fs hr => X101.returnOut hx Bd.returns (dE 4 rfl) hr) (by decide) (by decide) ⟨rfl, N101, c102, A101, C101, _, _, st_101, V101, B101⟩
def Q_tsn (Z : State) (z : Int32) (a1 t : Addr) (kb : ClassId) (h0 : Heap) (n0 : Nat) (v : Option Value) (h : Heap) (L : List Loc) : Prop := ∃ x : Addr, v = some (.ref x) ∧ Fr n0 L ∧ Keep h0 h [] ∧ h0.size ≤ x ∧ Exa Z h x "java/lang/String" ∧ Fld Z h x "java/lang/String" "coder" "B" (.int (0 : Int32)) ∧ ∃ (t' : Addr) (kb : ClassId), h0.size ≤ t' ∧ Fld Z h x "java/lang/String" "value" "[B" (.ref t') ∧ Arv Z h t' kb .byte (21 : Int32) own_on (.int (0 : Int32))
theorem rm_tsn (l : Launch) (Z : State) (a0 : Array Value) (hw : own_H a0 Z) (ws : List Jvm.Cond) (z : Int32) (a1 t : Addr) (kb : ClassId) (h0 : Heap) (n0 : Nat) (Z0 : n0 ≤ h0.size) (O : Old Z n0 h0) (SC : Sta Z Z.heap "java/lang/String" "COMPACT_STRINGS" "Z" (.int z)) (hz : ¬ z = 0) (E1 : Exa Z h0 a1 "java/lang/StringBuilder") (F1 : Fld Z h0 a1 "java/lang/AbstractStringBuilder" "value" "[B" (.ref t)) (F2 : Fld Z h0 a1 "java/lang/AbstractStringBuilder" "coder" "B" (.int (0 : Int32))) (F3 : Fld Z h0 a1 "java/lang/AbstractStringBuilder" "count" "I" (.int (21 : Int32))) (A1 : Arv Z h0 t kb .byte (34 : Int32) own_nn (.int 0)) : own_MP l Mn4 jdk_67_method_42_code 1 (some (.object "java/lang/String")) ws ({ frames := 5, cells := 2, slots := 25, locals := 92 } : Room) Z h0 #[(.ref a1)] (fun _ _ _ _ _ => True) (Q_tsn Z z a1 t kb h0 n0) := by
  refine own_startP (plainFor_of_name own_pn_java_lang_StringBuilder) fun p e s m below meth c s₁ Bd hx hby hml hown0 X0 e0 hh0 hZ hK Pst hPst => ?_
  have dE := own_E hby own_D25
  have hown : s.vm.findClass "java/lang/StringBuilder" = some m.cls := hown0
  have hnm := (name_of_methodNamed Bd.named Bd.method).1
  have N0 := Fr.nil n0
  rw [own_ef_R_1 m a1]
  refine p_newO X0 hx hZ hown (g_ hw 142 rfl) (g_ hw 6 rfl) (g_ hw 7 rfl) e0 (dE 0 rfl) (by decide) (by decide) fun T101 h101 b101 g101 X101 e101 E101 A101 D101 U101 => ?_
  have ne_a1_b101 : a1 ≠ b101 := Nat.ne_of_lt (Nat.lt_of_lt_of_le E1.lt (Nat.le_of_eq g101.symm))
  have ne_t_b101 : t ≠ b101 := Nat.ne_of_lt (Nat.lt_of_lt_of_le A1.lt (Nat.le_of_eq g101.symm))
  have gn_b101 : n0 ≤ b101 := Nat.le_trans Z0 (Nat.le_of_eq g101.symm)
  have sz_b101 : h0.size ≤ b101 := Nat.le_trans (Keep.refl h0 []).1 (Nat.le_of_eq g101.symm)
  have f101_coder : Fld Z h101 b101 "java/lang/String" "coder" "B" (.int (0 : Int32)) := D101 (Or.inr (g_ hw 31 rfl)) (ty := .byte) (by decide)
  have f101_value : Fld Z h101 b101 "java/lang/String" "value" "[B" .null := D101 (Or.inr (g_ hw 33 rfl)) (ty := (.array .byte)) (by decide)
  refine o_dup X101.here hx (dE 1 rfl) rfl rfl ?_
  refine o_aloadN X101.here hx (dE 2 rfl) rfl rfl ?_
  have c102 := ((Keep.refl h0 []).ext E101)
  have c103 := (O.ext E101)
  have c104 := (E1.ext E101)
  have c105 := (F1.ext E101)
  have c106 := (F2.ext E101)
  have c107 := (F3.ext E101)
  have c108 := (A1.ext E101)
  have c110 := (Nat.le_trans Z0 E101.1)
  refine own_cP X101 (X101.specialBack hx (y := Mn14) rfl hown (mvT hZ (g_ hw 143 rfl)) (mvT hZ (g_ hw 144 rfl)) (mvT hZ (g_ hw 145 rfl)) (by decide) (backOf (W := 1) (rm_isn l Z a0 hw [] z b101 a1 t kb .null (.int 0)  h101 n0 c110 c103 SC hz c104 c105 c106 c107 c108 A101 gn_b101 f101_value f101_coder) hZ (g_ hw 145 rfl) (g_ hw 7 rfl) (by decide) (by decide)) (g := (mkF m 5 #[.val (.ref a1)] [(.ref a1), (.ref b101), (.ref b101)])) rfl (by rw [hml]; rfl) (Steps.refl _) (a := b101) (argsL := [(.ref a1)]) (rest := [(.ref b101)]) (lenOf own_pd18 rfl) rfl (by show 2 * 0 + _ ≤ _; exact Nat.le_of_eq rfl) (dE 3 rfl) (fun _ _ => ⟨rfl, e101, (by decide : 1 + 1 ≤ _), (by decide : 4 + 21 ≤ _)⟩)) fun v109 T109 L109 X109 hQ109 => ?_
  obtain ⟨rfl, Nq109, K109, A109, C109, t109, kb109, st_109, V109, B109⟩ := hQ109
  have N109 := Fr.app N0 Nq109
  show own_Go p e below Pst (T109.setTop (mkF m 8 #[.val (.ref a1)] [(.ref b101)]))
  have c111 := (Keep.trans c102 K109 (allS (Or.inr sz_b101) all0))
  rw [hPst]
  exact own_retP X109 (v := (some (.ref b101))) (Q := Q_tsn Z z a1 t kb h0 n0) (fun h => by rw [Bd.returns] at h; cases h) Bd.notSynchronized (fun fs hr => retOut X109 hx Bd.returns rfl (Or.inr (Or.inr (Or.inr (Or.inr ⟨rfl, rfl, rfl⟩)))) (dE 4 rfl) hr) (by decide) (by decide) ⟨_, rfl, N109, c111, sz_b101, A109, C109, _, _, (Nat.le_trans c102.1 st_109), V109, B109⟩
section OwnT
variable {p : Program} {l : Launch} {e : Env} {R : Room} {s : State} {m : MethodId} {args : Array Value} {below : List Frame} {meth : Method} {c : Code} {T : State} {locs : List Loc} {cells slots : Nat} {Z : State} {a0 : Array Value} {h : Heap}
theorem own_bF : jdk_78_method_18_code = LibCode.Throwable.Fill.code := by decide +kernel
theorem own_pdF : parseMethodDescriptor "()Ljava/lang/Throwable;" = some ⟨[], some (.object "java/lang/Throwable")⟩ := by decide +kernel
theorem own_pdN : parseMethodDescriptor "(I)Ljava/lang/Throwable;" = some ⟨[.int], some (.object "java/lang/Throwable")⟩ := by decide +kernel
theorem own_pdV : parseMethodDescriptor "()V" = some ⟨[], none⟩ := by decide +kernel
theorem own_pdS : parseMethodDescriptor "(Ljava/lang/String;)V" = some ⟨[.object "java/lang/String"], none⟩ := by decide +kernel
/-- a static of Throwable's that holds a reference, as the walk wants it -/
theorem own_sta {F D : String} (w1 : (Jvm.Cond.initialized tN).before a0 Z = true) (w2 : (Jvm.Cond.laysStatic tN F D).before a0 Z = true) (w3 : (Jvm.Cond.isRef (.static tN F D)).before a0 Z = true) : ∃ u : RefV, Sta Z Z.heap tN F D u.v := by
  obtain ⟨v, hv, hr⟩ := Cond.isRef_spec w3
  exact ⟨⟨v, hr⟩, Sta.start hv (Or.inr ⟨w1, w2⟩)⟩
theorem own_so {O n d : String} {f : Field} (hZ : Z.Warmed39 s.vm) (hf : ∃ c k i, s.fieldFound? O n d = some (c, k, i, f)) : f.slot = Jvm.RoadKit.slotOf Z O n d := by
  obtain ⟨c, k, i, q⟩ := Jvm.Free.BdW.found_ride (U := s) (U' := Z) hZ.alike.symm hf
  simp [Jvm.RoadKit.slotOf, q]
theorem own_fs {O n d : String} {a : Addr} {v : Value} {cell : Cell} {f : Field} (hZ : Z.Warmed39 s.vm) (F : Fld Z h a O n d v) (hc : h[a]? = some cell) (hf : ∃ c k i, s.fieldFound? O n d = some (c, k, i, f)) : cell.slots[f.slot]? = some v := by
  obtain ⟨c2, k2, i2, q⟩ := Jvm.Free.BdW.found_ride (U := s) (U' := Z) hZ.alike.symm hf
  obtain ⟨c1, cf, k1, i1, f1, q1, q2, -, -, -, -, q7⟩ := F
  cases q1.symm.trans hc
  cases q2.symm.trans q
  exact q7
/-- a place that a putfield of the walk writes is one of Throwable's six -/
theorem own_six {RC n d : String} {a : Addr} (hZ : Z.Warmed39 s.vm) (w : (Jvm.Cond.lays RC tN n d).before a0 Z = true) (hm : (n, d) ∈ Exc.sixNames) : Exc.Six s a ⟨a, Jvm.RoadKit.slotOf Z tN n d⟩ := by
  obtain ⟨_, _, cf, kf, i, f, -, -, q, -⟩ := Cond.lays_spec w
  have r := Jvm.Free.BdW.found_ride (U := Z) (U' := s) hZ.alike ⟨cf, kf, i, q⟩
  exact ⟨(n, d), f, hm, r, by rw [own_so hZ r]⟩
theorem own_nl {P : Loc → Prop} : ∀ x ∈ ([] : List Loc), P x := fun _ q => absurd q List.not_mem_nil
theorem own_ap {L L' : List Loc} {P : Loc → Prop} (q : ∀ x ∈ L, P x) (r : ∀ x ∈ L', P x) : ∀ x ∈ L ++ L', P x := fun x hx => (List.mem_append.mp hx).elim (q x) (r x)
theorem own_sn {L : List Loc} {P : Loc → Prop} {y : Loc} (q : ∀ x ∈ L, P x) (r : P y) : ∀ x ∈ L ++ [y], P x := own_ap q fun x hx => by rw [List.mem_singleton.mp hx]; exact r
theorem own_tab6 : ∀ nd ∈ Exc.sixNames, Jvm.Cond.lays "com/example/shard_feed/shardfeed/Refusal" tN nd.1 nd.2 ∈ tables_1 ∧ (parseFieldDescriptor nd.2).isSome = true := by decide +kernel
/-- a field of another name lies in none of the six places -/
theorem own_ne6 {O n d : String} {ty : FieldType} (hw : own_H a0 Z) (Lf : Jvm.RoadKit.Laid Z a0 "com/example/shard_feed/shardfeed/Refusal" O n d) (ht : parseFieldDescriptor d = some ty) (hn : ∀ nd ∈ Exc.sixNames, nd.1 ≠ n) : ∀ nd ∈ Exc.sixNames, Jvm.RoadKit.slotOf Z tN nd.1 nd.2 ≠ Jvm.RoadKit.slotOf Z O n d := fun nd hm => by
  obtain ⟨q1, q2⟩ := own_tab6 nd hm
  obtain ⟨t, q3⟩ := Option.isSome_iff_exists.mp q2
  exact Jvm.RoadKit.slot_ne (Or.inl (hw _ q1)) Lf (hn nd hm) q3 ht
/-- the words of the sheet, at a state of the walk -/
theorem own_at (hw : own_H a0 Z) (hT : ThS Z s.heap) (hZ : Z.Warmed39 s.vm) (d : Jvm.Cond) (i : Nat) (q : tables_1[i]? = some d) (k : xOk d = true) : d.before #[] s = true := mvX hT hZ k (g_ hw i q)
/-- the parts of Throwable that the library's law of fillInStackTrace asks (ThrowableC.Links), over the words of this sheet -/
theorem own_thr {pl : Platform} (hw : own_H a0 Z) (hT : ThS Z s.heap) (hZ : Z.Warmed39 s.vm) (p1 : pl.frameOwnsMonitors = true) (p2 : pl.finalization = false) (p3 : pl.magicAccessors = ({} : Platform).magicAccessors) :
    ∃ G : ThrowableC, G.Links pl s ∧ s.vm.findClass tN = some G.cT ∧ s.methodNamed? tFill = some G.fill ∧ s.methodNamed? tFill0 = some G.fill0 ∧
      s.fieldFound? tN "stackTrace" steD = some (G.cT, G.kT, G.i17, G.fStack) ∧ s.fieldFound? tN "UNASSIGNED_STACK" steD = some (G.cT, G.kT, G.i13, G.fUnassigned) := by
  have w := own_at hw hT hZ
  obtain ⟨cT, hc⟩ : ∃ cT, s.vm.findClass tN = some cT := by
    obtain ⟨_, _, q, -⟩ := Cond.instanceMethod_spec (w (.instanceMethod tFill) 210 rfl rfl)
    exact ⟨_, findClass_of_methodNamed q⟩
  obtain ⟨kT, hk, hkn⟩ := Vm.findClass_spec hc
  have hni : kT.isInterface = false := by
    obtain ⟨_, _, _, -, q, -, -, -, -, r⟩ := Cond.superclass_spec hc (w (.superclass tN "java/lang/Object") 215 rfl rfl)
    cases hk.symm.trans q; exact r
  obtain ⟨jF, mF, nF, gF, kF, sF, aF, -, -⟩ := Cond.ownMethod (x := tFill) hc hk (w (.instanceMethod tFill) 210 rfl rfl)
  obtain ⟨_, oF, q, cF, bF, lF, rF, yF, -, dF⟩ := Cond.codeSync_spec nF (w (.codeSync tFill jdk_78_method_18_code 1 (some (.object tN))) 216 rfl rfl)
  cases gF.symm.trans q
  obtain ⟨jN, mN, nN, gN, kN, sN, aN, eN, fN⟩ := Cond.ownMethod (x := tFill0) hc hk (w (.instanceMethod tFill0) 217 rfl rfl)
  obtain ⟨_, _, q, q', tN', cN, yN, dN⟩ := Cond.native_spec (w (.native tFill0) 218 rfl rfl)
  cases nN.symm.trans q
  cases gN.symm.trans q'
  obtain ⟨iO, mO, nO, gO, sO, aO⟩ := Cond.instanceMethod_spec (w (.instanceMethod oInit) 16 rfl rfl)
  obtain ⟨_, oO, q, cO, bO, lO, -, yO, -, dO⟩ := Cond.code_spec nO (w (.code oInit ⟨#[0xb1]⟩ 1 none) 17 rfl rfl)
  cases gO.symm.trans q
  obtain ⟨kO, hkO, nkO⟩ := Vm.findClass_spec (findClass_of_methodNamed nO)
  obtain ⟨zO, vO⟩ := name_of_methodNamed nO gO
  obtain ⟨x1, y1, cf, l1, r1, hf, b1⟩ := Cond.linkedMethod hc hk nO (w (.methodLink tN 1 oInit) 199 rfl rfl) pl p3
  obtain ⟨x27, y27, _, l27, r27, q, b27⟩ := Cond.linkedMethod hc hk nF (w (.methodLink tN 27 tFill) 208 rfl rfl) pl p3
  cases hf.symm.trans q
  obtain ⟨x202, y202, _, l202, r202, q, b202⟩ := Cond.linkedMethod hc hk nN (w (.methodLink tN 202 tFill0) 221 rfl rfl) pl p3
  cases hf.symm.trans q
  obtain ⟨x7, i7, f7, l7, r7, k7, s7, z7, -⟩ := Cond.ownField (t := .object tN) hc hk (by decide +kernel) (w (.fieldLink tN 7 tN "cause" Exc.thD) 200 rfl rfl) (w (.lays "com/example/shard_feed/shardfeed/Refusal" tN "cause" Exc.thD) 201 rfl rfl) pl p3
  obtain ⟨x17, i17, f17, l17, r17, k17, s17, z17, -, -, u17⟩ := Cond.ownField (t := .array (.object "java/lang/StackTraceElement")) hc hk (by decide +kernel) (w (.fieldLink tN 17 tN "stackTrace" steD) 203 rfl rfl) (w (.lays "com/example/shard_feed/shardfeed/Refusal" tN "stackTrace" steD) 204 rfl rfl) pl p3
  obtain ⟨x24, i24, f24, l24, r24, k24, s24, z24, -, -, u24⟩ := Cond.ownField (t := .object "java/util/List") hc hk (by decide +kernel) (w (.fieldLink tN 24 tN "suppressedExceptions" listD) 206 rfl rfl) (w (.lays "com/example/shard_feed/shardfeed/Refusal" tN "suppressedExceptions" listD) 207 rfl rfl) pl p3
  obtain ⟨x13, i13, f13, aS, _, l13, r13, k13, s13, -, -, hS, -, -, -, -, u13⟩ := Cond.ownStatic (t := .array (.object "java/lang/StackTraceElement")) hc hk (by decide +kernel) (w (.fieldLink tN 13 tN "UNASSIGNED_STACK" steD) 202 rfl rfl) (w (.laysStatic tN "UNASSIGNED_STACK" steD) 228 rfl rfl) pl p3
  obtain ⟨x20, i20, f20, _, _, l20, r20, k20, s20, -⟩ := Cond.ownStatic (t := .object "java/util/List") hc hk (by decide +kernel) (w (.fieldLink tN 20 tN "SUPPRESSED_SENTINEL" listD) 205 rfl rfl) (w (.laysStatic tN "SUPPRESSED_SENTINEL" listD) 229 rfl rfl) pl p3
  have apart : f17.slot ≠ f24.slot := by
    have q : Jvm.RoadKit.slotOf s tN "stackTrace" steD ≠ Jvm.RoadKit.slotOf s tN "suppressedExceptions" listD := Jvm.RoadKit.slot_ne (a0 := #[]) (C := "com/example/shard_feed/shardfeed/Refusal") (Or.inl (w (.lays "com/example/shard_feed/shardfeed/Refusal" tN "stackTrace" steD) 204 rfl rfl)) (Or.inl (w (.lays "com/example/shard_feed/shardfeed/Refusal" tN "suppressedExceptions" listD) 207 rfl rfl)) (by decide) (t := .array (.object "java/lang/StackTraceElement")) (t' := .object "java/util/List") (by decide) (by decide)
    simpa [Jvm.RoadKit.slotOf, u17, u24] using q
  refine ⟨{ cT := cT, kT := kT, cO := cT, aS := aS, fillIdx := jF, fill0Idx := jN, initSIdx := jF, obj := iO, kObj := kO, methFill := mF, methFill0 := mN, methInitS := mF, methObj := mO, codeFill := oF, codeInitS := oF, codeObj := oO, fBack := f7, fDepth := f7, fStack := f17, fCause := f7, fSupp := f24, fMsg := f7, fUnassigned := f13, fSentinel := f20, cfT := cf, ci1 := x1, n1 := y1, ci27 := x27, n27 := y27, ci202 := x202, n202 := y202, ci7 := x7, i7 := i7, ci13 := x13, i13 := i13, ci17 := x17, i17 := i17, ci20 := x20, i20 := i20, ci24 := x24, i24 := i24 }, ?_, hc, nF, nN, u17, u13⟩
  constructor
  case owns => exact p1
  case noFinalization => exact p2
  case boot => exact Vm.findClass_boot hc hk
  case initialized => exact Cond.initialized_spec hc hk (w (.initialized tN) 197 rfl rfl)
  case fillBytes => exact bF.trans own_bF
  case fillParams => show mF.sig.parameters = []; rw [Option.some.inj (dF.symm.trans own_pdF)]
  case fill0Params => show mN.sig.parameters = [.int]; rw [Option.some.inj (dN.symm.trans own_pdN)]
  case objParams => show mO.sig.parameters.length = 0; rw [Option.some.inj (dO.symm.trans own_pdV)]; rfl
  case objFound => show lookupSpecial s.vm iO.cls "<init>" mO.desc = .method iO; rw [vO]; exact lookupSpecial_of_named nO gO sO
  all_goals assumption
/-- fillInStackTrace on an object of this sheet's exception: the library's law, at the walk's heap -/
theorem own_fillB (X : Stand p l e R s m args below meth c T locs cells slots) (hx : p.tables.exec = Jvm.exec) (hl : l.stackTraces = true) (hZ : Z.Warmed39 s.vm) (hw : own_H a0 Z) (hT : ThS Z s.heap) (hTK : s.vm.MethodsKnown) (hBelow : s.vm.FramesKnown below)
    {a : Addr} (E : Exa Z h a "com/example/shard_feed/shardfeed/Refusal") (N : Unt h a) (B : Fld Z h a tN "backtrace" Exc.obD .null) {u : RefV} (F : Fld Z h a tN "stackTrace" steD u.v) (S : Sta Z h tN "UNASSIGNED_STACK" steD u.v) {len W : Nat} (hf : 2 < R.frames) (hlo : W + 42 ≤ R.locals) :
    ∃ (cell cS : Cell) (aS : Addr), h[a]? = some cell ∧ h[aS]? = some cS ∧ Back l R p e below s args tFill len W
      (fun A v => v = #[.ref a] ∧ A.cells + 1 ≤ R.cells ∧ A.slots + 2752 ≤ R.slots ∧ A.U.heap[a]? = some cell ∧ A.U.heap[aS]? = some cS)
      (fun A _ v D => v = some (.ref a) ∧ ∃ (L : List Loc) (n : Nat), n ≤ 2752 ∧ (∀ x ∈ L, Exc.Six s a x) ∧ D.locs = A.locs ++ L ∧ D.cells = A.cells + 1 ∧ D.slots = A.slots + n) := by
  have w := own_at hw hT hZ
  have pf : e.platform.magicAccessors = ({} : Platform).magicAccessors := by rw [X.admits.platform]
  obtain ⟨G, K, hc, nF, nN, fS, fU⟩ := own_thr (pl := e.platform) hw hT hZ (by rw [X.admits.platform]) (by rw [X.admits.platform]) pf
  obtain ⟨cell, kZ, e1, e2, e3, -, e5⟩ := E
  obtain ⟨_, q, u2, u3⟩ := N
  cases e1.symm.trans q
  obtain ⟨_, _, i1, i2, i3, -⟩ := Cond.instantiable_spec (show (Jvm.Cond.instantiable "com/example/shard_feed/shardfeed/Refusal" 8).before a0 Z = true from g_ hw 42 rfl)
  cases e2.symm.trans i1
  cases e3.symm.trans i2
  obtain ⟨kX, hkX, ekX⟩ := hZ.alike.2.2 _ _ e3
  have hR : s.vm.findClass "com/example/shard_feed/shardfeed/Refusal" = some cell.cls := by rw [hZ.alike.findClass]; exact e2
  have hord : kX.kind = .ordinary := by rw [ekX]; exact i3
  have hsz : cell.slots.size = kX.instanceTypes.size := by rw [ekX]; exact e5 i3
  have tk : ∀ {f : Field} {v : Value}, kX.instanceTypes[f.slot]? = some f.type → fits f.type v = true → Jvm.Takes s cell f v := fun {f v} q r => by
    obtain ⟨-, t2⟩ := Takes.of_laid (v := v) hkX hord q r
    exact ⟨by rw [hsz]; exact (Array.getElem?_eq_some_iff.mp q).1, by rw [u2]; exact t2⟩
  obtain ⟨xB, iB, fB, lB, rB, kB, sB, -, nB, tB, uB⟩ := Cond.ownField (t := .object "java/lang/Object") hc K.cls (by decide +kernel) (w (.fieldLink tN 198 tN "backtrace" Exc.obD) 226 rfl rfl) (w (.lays "com/example/shard_feed/shardfeed/Refusal" tN "backtrace" Exc.obD) 232 rfl rfl) e.platform pf
  have wD := w (.lays "com/example/shard_feed/shardfeed/Refusal" tN "depth" "I") 233 rfl rfl
  obtain ⟨_, _, cD, kD, iD, fD, -, -, uD, sD, -⟩ := Cond.lays_spec wD
  cases (Cond.lays_declared wD uD).symm.trans hc
  obtain ⟨q, gD⟩ := State.fieldFound?_spec uD
  cases q.symm.trans K.cls
  obtain ⟨nD, tD⟩ := State.fieldFound?_type uD (t := .int) (by decide +kernel)
  obtain ⟨yS, -⟩ := Cond.laysAt hR hkX fS (w (.lays "com/example/shard_feed/shardfeed/Refusal" tN "stackTrace" steD) 204 rfl rfl)
  obtain ⟨yB, -⟩ := Cond.laysAt hR hkX uB (w (.lays "com/example/shard_feed/shardfeed/Refusal" tN "backtrace" Exc.obD) 232 rfl rfl)
  obtain ⟨yD, -⟩ := Cond.laysAt hR hkX uD wD
  have tS : G.fStack.type = .array (.object "java/lang/StackTraceElement") := (State.fieldFound?_type fS (by decide +kernel)).2
  obtain ⟨_, _, kA, hkA, hdA, hA⟩ : ∃ (comp cA : ClassId) (kA : Class), s.vm.classes[cA]? = some kA ∧ kA.kind = .array comp (.object "java/lang/Object") ∧ s.vm.findClass "[Ljava/lang/Object;" = some cA := by
    obtain ⟨comp, cA, kA, -, -, q1, q2, q3⟩ := Cond.arrayOver_spec (w (.arrayOver (.object "java/lang/Object")) 212 rfl rfl)
    exact ⟨comp, cA, kA, q1, q2, q3⟩
  obtain ⟨_, _, kU, _, aS, cS, g1, -, -, g4, g5, g6, g7⟩ := S
  obtain ⟨_, q1, q2⟩ := State.fieldFound?_setVm (s := Z) hZ.alike g1
  cases (show s.fieldFound? tN "UNASSIGNED_STACK" steD = _ from q1).symm.trans fU
  have g4' : G.kT.statics = some aS := by rw [q2]; exact g4
  cases K.statics.symm.trans g4'
  have ne : G.aS ≠ a := fun z => by
    rw [z] at g5
    cases g5.symm.trans e1
    rw [u2] at g6
    cases g6
  have sel : selectMethod e.platform s.vm cell.cls G.fill0 = .method G.fill0 := by
    obtain ⟨_, _, _, o1, o2, o3, o4, -⟩ := Cond.selects_spec (w (.selects "com/example/shard_feed/shardfeed/Refusal" tFill0 tFill0) 230 rfl rfl)
    cases o1.symm.trans hR
    cases o2.symm.trans (State.methodFound?_of_named nN (by decide))
    cases o3.symm.trans nN
    rw [Launch.admits_selectMethod X.admits]; exact o4
  refine ⟨cell, cS, G.aS, e1, g5, Back.mono (Exc.fillPaysAny (l := l) (R := R) (len := len) (W := W) (sargs := args) hx (by rw [X.admits.platform]; exact hl) G K nF (u0 := u) (self := a) (cell := cell) (cellS := cS)
    (fun k => by rw [u2]; simp) (by rw [u2]; simp) (by rw [u3]) (by rw [u3]) (own_fs hZ F e1 ⟨_, _, _, fS⟩) sel ne (fun z => by rw [z] at g6; cases g6) g7 (tk yS (by rw [tS]; exact fits_refV_array _ u))
    ⟨{ ci198 := xB, i198 := iB, fBack := fB }, ⟨lB, rB, kB, sB⟩, own_fs hZ B e1 ⟨_, _, _, uB⟩⟩ hTK hBelow hc hA hkA hdA (Cond.soleField_find hc K.cls (w (.soleField tN "backtrace") 213 rfl rfl) kB nB sB) (Cond.soleField_find hc K.cls (w (.soleField tN "depth") 214 rfl rfl) gD nD sD)
    (fun x => tk yB (by rw [tB]; rfl)) (fun x => tk yD (by rw [tD]; rfl)) hf hlo) (fun A v q => q) ?_⟩
  rintro A v o D - ⟨q1, C, n, q2, -, -, -, -, -, q3, q4, q5⟩
  refine ⟨q1, _, n, q2, ?_, q3, q4, q5⟩
  have six : ∀ {n d : String} {f : Field}, (n, d) ∈ Exc.sixNames → (∃ c k i, s.fieldFound? tN n d = some (c, k, i, f)) → Exc.Six s a ⟨a, f.slot⟩ := fun {n d f} q r => ⟨(n, d), f, q, r, rfl⟩
  exact own_sn (own_sn (own_sn (own_nl (P := Exc.Six s a)) (six (n := "backtrace") (d := Exc.obD) (by decide) ⟨_, _, _, uB⟩)) (six (n := "depth") (d := "I") (by decide) ⟨_, _, _, uD⟩)) (six (n := "stackTrace") (d := steD) (by decide) ⟨_, _, _, fS⟩)
end OwnT
abbrev MnTH : MethodName := ⟨"java/lang/Throwable", "<init>", "(Ljava/lang/String;)V"⟩
abbrev MnEX : MethodName := ⟨"java/lang/Exception", "<init>", "(Ljava/lang/String;)V"⟩
abbrev MnRE : MethodName := ⟨"java/lang/RuntimeException", "<init>", "(Ljava/lang/String;)V"⟩
theorem own_pn_TH : plainName "java/lang/Throwable" = true := by first | (simp [plainName, overriddenIn]; done) | decide +kernel
theorem own_pn_EX : plainName "java/lang/Exception" = true := by first | (simp [plainName, overriddenIn]; done) | decide +kernel
theorem own_pn_RE : plainName "java/lang/RuntimeException" = true := by first | (simp [plainName, overriddenIn]; done) | decide +kernel
theorem own_DTH : ∀ p ∈ ([(0, .aload_n 0, 1), (1, .invokespecial 1, 3), (4, .aload_n 0, 1), (5, .aload_n 0, 1), (6, .putfield 7, 3), (9, .aload_n 0, 1), (10, .getstatic 13, 3), (13, .putfield 17, 3), (16, .aload_n 0, 1), (17, .getstatic 20, 3), (20, .putfield 24, 3), (23, .aload_n 0, 1), (24, .invokevirtual 27, 3), (27, .pop, 1), (28, .aload_n 0, 1), (29, .aload_n 1, 1), (30, .putfield 31, 3), (33, .return_, 1)] : List (Nat × Instr × Nat)), decode jdk_78_method_2_code p.1 = .ok p.2 := by decide +kernel
theorem own_DEX : ∀ p ∈ ([(0, .aload_n 0, 1), (1, .aload_n 1, 1), (2, .invokespecial 7, 3), (5, .return_, 1)] : List (Nat × Instr × Nat)), decode jdk_59_method_2_code p.1 = .ok p.2 := by decide +kernel
theorem own_DRE : ∀ p ∈ ([(0, .aload_n 0, 1), (1, .aload_n 1, 1), (2, .invokespecial 7, 3), (5, .return_, 1)] : List (Nat × Instr × Nat)), decode jdk_58_method_2_code p.1 = .ok p.2 := by decide +kernel
/-- what a constructor of the exception's superclasses leaves: only the six places of the receiver may differ, and the message is laid -/
def Q_te (Z : State) (a1 a3 : Addr) (h0 : Heap) (n0 : Nat) (v : Option Value) (h : Heap) (L : List Loc) : Prop := v = none ∧ Fr n0 L ∧ Kp Z h0 h a1 ∧ Fld Z h a1 tN "detailMessage" Exc.msgD (.ref a3)
theorem rm_te (l : Launch) (Z : State) (a0 : Array Value) (hw : own_H a0 Z) (ws : List Jvm.Cond) (a1 a3 : Addr) (h0 : Heap) (n0 : Nat) (O : Old Z n0 h0) (hl : l.stackTraces = true) (r2 : ∀ d ∈ twoRefs, d.before a0 Z = true) (E1 : Exa Z h0 a1 "com/example/shard_feed/shardfeed/Refusal") (U1 : Unt h0 a1) (g1 : n0 ≤ a1) (B1 : Fld Z h0 a1 tN "backtrace" Exc.obD .null) : own_MP l MnTH jdk_78_method_2_code 2 none ws ({ frames := 3, cells := 1, slots := 2752, locals := 42 } : Room) Z h0 #[(.ref a1), (.ref a3)] (fun _ _ bl s _ => s.vm.MethodsKnown ∧ s.vm.FramesKnown bl) (Q_te Z a1 a3 h0 n0) := by
  refine own_startP (plainFor_of_name own_pn_TH) fun p e s m below meth c s₁ Bd hx hby hml hown0 X0 e0 hh0 hZ hK Pst hPst => ?_
  have dE := own_E hby own_DTH
  have hown : s.vm.findClass tN = some m.cls := hown0
  have Ts : ThS Z s.heap := by rw [hh0]; exact ThS.ext O.2 ThS.start
  obtain ⟨u, SU⟩ := own_sta (a0 := a0) (Z := Z) (F := "UNASSIGNED_STACK") (D := steD) (g_ hw 197 rfl) (g_ hw 228 rfl) (r2 _ (List.mem_of_getElem? (i := 0) rfl))
  obtain ⟨t, SS⟩ := own_sta (a0 := a0) (Z := Z) (F := "SUPPRESSED_SENTINEL") (D := listD) (g_ hw 197 rfl) (g_ hw 229 rfl) (r2 _ (List.mem_of_getElem? (i := 1) rfl))
  obtain ⟨vC, FC⟩ := fld_laid (O := tN) (n := "cause") (d := Exc.thD) E1 U1.known (g_ hw 42 rfl) (Or.inl (g_ hw 201 rfl))
  obtain ⟨vS, FS⟩ := fld_laid (O := tN) (n := "stackTrace") (d := steD) E1 U1.known (g_ hw 42 rfl) (Or.inl (g_ hw 204 rfl))
  obtain ⟨vP, FP⟩ := fld_laid (O := tN) (n := "suppressedExceptions") (d := listD) E1 U1.known (g_ hw 42 rfl) (Or.inl (g_ hw 207 rfl))
  rw [own_ef_RR_2 m a1 a3]
  refine o_aloadN X0.here hx (dE 0 rfl) rfl rfl ?_
  refine p_initO X0 hx hZ hown (g_ hw 199 rfl) (g_ hw 16 rfl) (g_ hw 17 rfl) e0 (by rw [hml]; rfl) rfl (dE 1 rfl) (by decide) (W := 0) (by show 2 * 0 + _ ≤ _; exact Nat.le_of_eq rfl) (by decide) fun T1 X1 e1 => ?_
  refine o_aloadN X1.here hx (dE 2 rfl) rfl rfl ?_
  refine o_aloadN X1.here hx (dE 3 rfl) rfl rfl ?_
  refine p_putF X1 hx hZ hown (host := "") (Or.inl (g_ hw 200 rfl)) Via.refl e1 FC E1 (Or.inl (g_ hw 201 rfl)) (g_ hw 42 rfl) (ty := (.object tN)) (by decide) rfl rfl rfl (dE 4 rfl) fun T2 h2 X2 e2 W2 => ?_
  have E2 := E1.wr W2
  have S2 := FS.other W2 (Or.inr (Jvm.RoadKit.slot_ne (Or.inl (g_ hw 204 rfl)) (Or.inl (g_ hw 201 rfl)) (by decide) (t := (.array (.object "java/lang/StackTraceElement"))) (t' := (.object tN)) (by decide) (by decide)))
  have P2 := FP.other W2 (Or.inr (Jvm.RoadKit.slot_ne (Or.inl (g_ hw 207 rfl)) (Or.inl (g_ hw 201 rfl)) (by decide) (t := (.object "java/util/List")) (t' := (.object tN)) (by decide) (by decide)))
  have B2 := B1.other W2 (Or.inr (Jvm.RoadKit.slot_ne (Or.inl (g_ hw 232 rfl)) (Or.inl (g_ hw 201 rfl)) (by decide) (t := (.object "java/lang/Object")) (t' := (.object tN)) (by decide) (by decide)))
  refine o_aloadN X2.here hx (dE 5 rfl) rfl rfl ?_
  refine p_getS2 X2 hx hZ hown (host := "") (Or.inl (g_ hw 202 rfl)) Via.refl e2 ((SU.ext O.2).wr W2) (dE 6 rfl) fun T3 X3 e3 => ?_
  refine p_putF X3 hx hZ hown (host := "") (Or.inl (g_ hw 203 rfl)) Via.refl e3 S2 E2 (Or.inl (g_ hw 204 rfl)) (g_ hw 42 rfl) (ty := (.array (.object "java/lang/StackTraceElement"))) (by decide) (narrow_refV _ u) (fits_refV_array _ u) rfl (dE 7 rfl) fun T4 h4 X4 e4 W4 => ?_
  have E4 := E2.wr W4
  have F4 := Fld.same W4 S2
  have P4 := P2.other W4 (Or.inr (Jvm.RoadKit.slot_ne (Or.inl (g_ hw 207 rfl)) (Or.inl (g_ hw 204 rfl)) (by decide) (t := (.object "java/util/List")) (t' := (.array (.object "java/lang/StackTraceElement"))) (by decide) (by decide)))
  have B4 := B2.other W4 (Or.inr (Jvm.RoadKit.slot_ne (Or.inl (g_ hw 232 rfl)) (Or.inl (g_ hw 204 rfl)) (by decide) (t := (.object "java/lang/Object")) (t' := (.array (.object "java/lang/StackTraceElement"))) (by decide) (by decide)))
  refine o_aloadN X4.here hx (dE 8 rfl) rfl rfl ?_
  refine p_getS2 X4 hx hZ hown (host := "") (Or.inl (g_ hw 205 rfl)) Via.refl e4 (((SS.ext O.2).wr W2).wr W4) (dE 9 rfl) fun T5 X5 e5 => ?_
  refine p_putF X5 hx hZ hown (host := "") (Or.inl (g_ hw 206 rfl)) Via.refl e5 P4 E4 (Or.inl (g_ hw 207 rfl)) (g_ hw 42 rfl) (ty := (.object "java/util/List")) (by decide) (narrow_refV _ t) (fits_refV_object _ t) rfl (dE 10 rfl) fun T6 h6 X6 e6 W6 => ?_
  have E6 := E4.wr W6
  have F6 := F4.other W6 (Or.inr (Jvm.RoadKit.slot_ne (Or.inl (g_ hw 204 rfl)) (Or.inl (g_ hw 207 rfl)) (by decide) (t := (.array (.object "java/lang/StackTraceElement"))) (t' := (.object "java/util/List")) (by decide) (by decide)))
  have B6 := B4.other W6 (Or.inr (Jvm.RoadKit.slot_ne (Or.inl (g_ hw 232 rfl)) (Or.inl (g_ hw 207 rfl)) (by decide) (t := (.object "java/lang/Object")) (t' := (.object "java/util/List")) (by decide) (by decide)))
  have L6 := own_sn (own_sn (own_sn (own_nl (P := Exc.Six s a1)) (own_six hZ (g_ hw 201 rfl) (by decide))) (own_six hZ (g_ hw 204 rfl) (by decide))) (own_six hZ (g_ hw 207 rfl) (by decide))
  refine o_aloadN X6.here hx (dE 11 rfl) rfl rfl ?_
  obtain ⟨cell, cS, aS, q1, q2, BF⟩ := own_fillB (len := 3) (W := 0) X6 hx hl hZ hw Ts hK.1 hK.2 E6 (((U1.wr W2).wr W4).wr W6) B6 F6 ((((SU.ext O.2).wr W2).wr W4).wr W6) (by decide) (by decide)
  obtain ⟨cq, kq, qa, qb, qc⟩ := isOf hZ e6 E6
  obtain ⟨v7, vm7, ⟨T7, L7, c7, n7⟩, -, X7, ⟨hv, L, n, hn, hL, eL, ec, en⟩, st7⟩ := X6.virtualBack hx (y := tFill) (z := tFill) hown (mvT hZ (g_ hw 208 rfl)) (mvT hZ (g_ hw 209 rfl)) (notFace_of_selects (args := #[]) (mvT hZ (g_ hw 211 rfl))) (mvT hZ (g_ hw 211 rfl)) (mvT hZ (g_ hw 210 rfl)) (by decide) BF qa qc (g := (mkF m 24 #[.val (.ref a1), .val (.ref a3)] [(.ref a1)])) rfl (by rw [hml]; rfl) (Steps.refl _) (argsL := []) (rest := []) (lenOf own_pdF rfl) rfl (by show 2 * 0 + _ ≤ _; exact Nat.le_of_eq rfl) (dE 12 rfl) (fun _ _ => ⟨rfl, (by decide : 0 + 1 ≤ _), (by decide : 0 + 2752 ≤ _), (by show T6.heap[a1]? = some cell; rw [e6]; exact q1), (by show T6.heap[aS]? = some cS; rw [e6]; exact q2)⟩)
  dsimp only [Pt.U, Pt.locs, Pt.cells, Pt.slots] at X7 eL ec en st7
  subst hv eL ec en
  refine own_Go.tr st7 ?_
  show own_Go p e below Pst (T7.setTop (mkF m 27 #[.val (.ref a1), .val (.ref a3)] [(.ref a1)]))
  refine o_pop X7.here hx (dE 13 rfl) rfl rfl ?_
  have K7 : Kp Z h0 T7.heap a1 := kp_of (T := s) (U := T7) hZ hh0 (own_ap L6 hL) (fun y cy hy => X7.same.2.2.2.2.2 y cy hy)
  have E7 := E1.kp K7
  obtain ⟨vM, M7⟩ := fld_laid (O := tN) (n := "detailMessage") (d := Exc.msgD) E7 (U1.kp K7).known (g_ hw 42 rfl) (Or.inl (g_ hw 231 rfl))
  refine o_aloadN X7.here hx (dE 14 rfl) rfl rfl ?_
  refine o_aloadN X7.here hx (dE 15 rfl) rfl rfl ?_
  refine p_putF X7 hx hZ hown (host := "") (Or.inl (g_ hw 235 rfl)) Via.refl rfl M7 E7 (Or.inl (g_ hw 231 rfl)) (g_ hw 42 rfl) (ty := (.object "java/lang/String")) (by decide) rfl rfl rfl (dE 16 rfl) fun T8 h8 X8 e8 W8 => ?_
  have M8 := Fld.same W8 M7
  have L8 := own_sn (own_ap L6 hL) (own_six hZ (g_ hw 231 rfl) (by decide))
  have K8 : Kp Z h0 T8.heap a1 := kp_of (T := s) (U := T8) hZ hh0 L8 (fun y cy hy => X8.same.2.2.2.2.2 y cy hy)
  rw [hPst]
  exact own_retP X8 (v := none) (Q := Q_te Z a1 a3 h0 n0) (fun _ => rfl) Bd.notSynchronized (fun fs hr => X8.returnOut hx Bd.returns (dE 17 rfl) hr) (by decide) (by show 0 + n ≤ 2752; omega) ⟨rfl, fun x hx => by rw [(L8 x hx).base]; exact g1, K8, by rw [e8]; exact M8⟩
theorem rm_pEX (l : Launch) (Z : State) (a0 : Array Value) (hw : own_H a0 Z) (ws : List Jvm.Cond) (a1 a3 : Addr) (h0 : Heap) (n0 : Nat) (O : Old Z n0 h0) (hl : l.stackTraces = true) (r2 : ∀ d ∈ twoRefs, d.before a0 Z = true) (E1 : Exa Z h0 a1 "com/example/shard_feed/shardfeed/Refusal") (U1 : Unt h0 a1) (g1 : n0 ≤ a1) (B1 : Fld Z h0 a1 tN "backtrace" Exc.obD .null) : own_MP l MnEX jdk_59_method_2_code 2 none ws ({ frames := 4, cells := 1, slots := 2752, locals := 56 } : Room) Z h0 #[(.ref a1), (.ref a3)] (fun _ _ bl s _ => s.vm.MethodsKnown ∧ s.vm.FramesKnown bl) (Q_te Z a1 a3 h0 n0) := by
  refine own_startP (plainFor_of_name own_pn_EX) fun p e s m below meth c s₁ Bd hx hby hml hown0 X0 e0 hh0 hZ hK Pst hPst => ?_
  have dE := own_E hby own_DEX
  have hown : s.vm.findClass "java/lang/Exception" = some m.cls := hown0
  rw [own_ef_RR_2 m a1 a3]
  refine o_aloadN X0.here hx (dE 0 rfl) rfl rfl ?_
  refine o_aloadN X0.here hx (dE 1 rfl) rfl rfl ?_
  refine own_cP X0 (X0.specialBack hx (y := MnTH) rfl hown (mvT hZ (g_ hw 193 rfl)) (mvT hZ (g_ hw 194 rfl)) (mvT hZ (g_ hw 198 rfl)) (by decide) (backOfKL (W := 0) (rm_te l Z a0 hw [] a1 a3 h0 n0 O hl r2 E1 U1 g1 B1) hZ (g_ hw 198 rfl) (g_ hw 197 rfl) (by decide) (by decide) hK.1 hK.2) (g := (mkF m 2 #[.val (.ref a1), .val (.ref a3)] [(.ref a3), (.ref a1)])) rfl (by rw [hml]; rfl) (Steps.refl _) (a := a1) (argsL := [(.ref a3)]) (rest := []) (lenOf own_pdS rfl) rfl (by show 2 * 0 + _ ≤ _; exact Nat.le_of_eq rfl) (dE 2 rfl) (fun _ _ => ⟨rfl, e0, (by decide : 0 + 1 ≤ _), (by decide : 0 + 2752 ≤ _)⟩)) fun v1 T1 L1 X1 hQ => ?_
  obtain ⟨rfl, q1, q2, q3⟩ := hQ
  show own_Go p e below Pst (T1.setTop (mkF m 5 #[.val (.ref a1), .val (.ref a3)] []))
  rw [hPst]
  exact own_retP X1 (v := none) (Q := Q_te Z a1 a3 h0 n0) (fun _ => rfl) Bd.notSynchronized (fun fs hr => X1.returnOut hx Bd.returns (dE 3 rfl) hr) (by decide) (by decide) ⟨rfl, Fr.app (Fr.nil n0) q1, q2, q3⟩
theorem rm_pRE (l : Launch) (Z : State) (a0 : Array Value) (hw : own_H a0 Z) (ws : List Jvm.Cond) (a1 a3 : Addr) (h0 : Heap) (n0 : Nat) (O : Old Z n0 h0) (hl : l.stackTraces = true) (r2 : ∀ d ∈ twoRefs, d.before a0 Z = true) (E1 : Exa Z h0 a1 "com/example/shard_feed/shardfeed/Refusal") (U1 : Unt h0 a1) (g1 : n0 ≤ a1) (B1 : Fld Z h0 a1 tN "backtrace" Exc.obD .null) : own_MP l MnRE jdk_58_method_2_code 2 none ws ({ frames := 5, cells := 1, slots := 2752, locals := 70 } : Room) Z h0 #[(.ref a1), (.ref a3)] (fun _ _ bl s _ => s.vm.MethodsKnown ∧ s.vm.FramesKnown bl) (Q_te Z a1 a3 h0 n0) := by
  refine own_startP (plainFor_of_name own_pn_RE) fun p e s m below meth c s₁ Bd hx hby hml hown0 X0 e0 hh0 hZ hK Pst hPst => ?_
  have dE := own_E hby own_DRE
  have hown : s.vm.findClass "java/lang/RuntimeException" = some m.cls := hown0
  rw [own_ef_RR_2 m a1 a3]
  refine o_aloadN X0.here hx (dE 0 rfl) rfl rfl ?_
  refine o_aloadN X0.here hx (dE 1 rfl) rfl rfl ?_
  refine own_cP X0 (X0.specialBack hx (y := MnEX) rfl hown (mvT hZ (g_ hw 187 rfl)) (mvT hZ (g_ hw 188 rfl)) (mvT hZ (g_ hw 192 rfl)) (by decide) (backOfKL (W := 0) (rm_pEX l Z a0 hw [] a1 a3 h0 n0 O hl r2 E1 U1 g1 B1) hZ (g_ hw 192 rfl) (g_ hw 191 rfl) (by decide) (by decide) hK.1 hK.2) (g := (mkF m 2 #[.val (.ref a1), .val (.ref a3)] [(.ref a3), (.ref a1)])) rfl (by rw [hml]; rfl) (Steps.refl _) (a := a1) (argsL := [(.ref a3)]) (rest := []) (lenOf own_pdS rfl) rfl (by show 2 * 0 + _ ≤ _; exact Nat.le_of_eq rfl) (dE 2 rfl) (fun _ _ => ⟨rfl, e0, (by decide : 0 + 1 ≤ _), (by decide : 0 + 2752 ≤ _)⟩)) fun v1 T1 L1 X1 hQ => ?_
  obtain ⟨rfl, q1, q2, q3⟩ := hQ
  show own_Go p e below Pst (T1.setTop (mkF m 5 #[.val (.ref a1), .val (.ref a3)] []))
  rw [hPst]
  exact own_retP X1 (v := none) (Q := Q_te Z a1 a3 h0 n0) (fun _ => rfl) Bd.notSynchronized (fun fs hr => X1.returnOut hx Bd.returns (dE 3 rfl) hr) (by decide) (by decide) ⟨rfl, Fr.app (Fr.nil n0) q1, q2, q3⟩
theorem own_pn_com_example_shard_feed_shardfeed_Refusal : plainName "com/example/shard_feed/shardfeed/Refusal" = true := by first | (simp [plainName, overriddenIn]; done) | decide +kernel
theorem own_ef_RRRI_4 (m : MethodId) (x0 : Addr) (x1 : Addr) (x2 : Addr) (x3 : Int32) : entryFrame m #[(.ref x0), (.ref x1), (.ref x2), (.int x3)] 4 = mkF m 0 #[.val (.ref x0), .val (.ref x1), .val (.ref x2), .val (.int x3)] [] := by first | (simp [entryFrame, mkF, argsToLocals, Value.category]; done) | rfl
def Q_r3 (Z : State) (a1 a2 a3 : Addr) (u1 u2 : Value) (h0 : Heap) (n0 : Nat) (v : Option Value) (h : Heap) (L : List Loc) : Prop := v = none ∧ Fr n0 L ∧ Keep h0 h [a1] ∧ Exa Z h a1 "com/example/shard_feed/shardfeed/Refusal" ∧ Fld Z h a1 "com/example/shard_feed/shardfeed/Refusal" "reason" "Lcom/example/shard_feed/shardfeed/Refusal$Reason;" (.ref a2) ∧ Fld Z h a1 "com/example/shard_feed/shardfeed/Refusal" "line" "I" (.int (0 : Int32)) ∧ Fld Z h a1 "java/lang/Throwable" "detailMessage" "Ljava/lang/String;" (.ref a3)
theorem rm_r3 (l : Launch) (Z : State) (a0 : Array Value) (hw : own_H a0 Z) (ws : List Jvm.Cond) (a1 a2 a3 : Addr) (u1 u2 : Value) (h0 : Heap) (n0 : Nat) (Z0 : n0 ≤ h0.size) (O : Old Z n0 h0) (hl : l.stackTraces = true) (r2 : ∀ d ∈ twoRefs, d.before a0 Z = true) (E1 : Exa Z h0 a1 "com/example/shard_feed/shardfeed/Refusal") (U1 : Unt h0 a1) (g1 : n0 ≤ a1) (B1 : Fld Z h0 a1 tN "backtrace" Exc.obD .null) (B2 : Fld Z h0 a1 tN "detailMessage" Exc.msgD .null) (F1 : Fld Z h0 a1 "com/example/shard_feed/shardfeed/Refusal" "reason" "Lcom/example/shard_feed/shardfeed/Refusal$Reason;" u1) (F2 : Fld Z h0 a1 "com/example/shard_feed/shardfeed/Refusal" "line" "I" u2) : own_MP l Mn34 prog_9_method_2_code 4 none ws ({ frames := 6, cells := 1, slots := 2752, locals := 84 } : Room) Z h0 #[(.ref a1), (.ref a2), (.ref a3), (.int (0 : Int32))] (fun _ _ bl s _ => s.vm.MethodsKnown ∧ s.vm.FramesKnown bl) (Q_r3 Z a1 a2 a3 u1 u2 h0 n0) := by
  refine own_startP (plainFor_of_name own_pn_com_example_shard_feed_shardfeed_Refusal) fun p e s m below meth c s₁ Bd hx hby hml hown0 X0 e0 hh0 hZ hK Pst hPst => ?_
  have dE := own_E hby own_D36
  have hown : s.vm.findClass "com/example/shard_feed/shardfeed/Refusal" = some m.cls := hown0
  have hnm := (name_of_methodNamed Bd.named Bd.method).1
  have N0 := Fr.nil n0
  rw [own_ef_RRRI_4 m a1 a2 a3 (0 : Int32)]
  refine o_aloadN X0.here hx (dE 0 rfl) rfl rfl ?_
  refine o_aloadN X0.here hx (dE 1 rfl) rfl rfl ?_
  refine own_cP X0 (X0.specialBack hx (y := MnRE) rfl hown (mvT hZ (g_ hw 182 rfl)) (mvT hZ (g_ hw 183 rfl)) (mvT hZ (g_ hw 186 rfl)) (by decide) (backOfKL (W := 0) (rm_pRE l Z a0 hw [] a1 a3 h0 n0 O hl r2 E1 U1 g1 B1) hZ (g_ hw 186 rfl) (g_ hw 185 rfl) (by decide) (by decide) hK.1 hK.2) (g := (mkF m 2 #[.val (.ref a1), .val (.ref a2), .val (.ref a3), .val (.int (0 : Int32))] [(.ref a3), (.ref a1)])) rfl (by rw [hml]; rfl) (Steps.refl _) (a := a1) (argsL := [(.ref a3)]) (rest := []) (lenOf own_pdS rfl) rfl (by show 2 * 0 + _ ≤ _; exact Nat.le_of_eq rfl) (dE 2 rfl) (fun _ _ => ⟨rfl, e0, (by decide : 0 + 1 ≤ _), (by decide : 0 + 2752 ≤ _)⟩)) fun v101 T101 L101 X101 hQ101 => ?_
  obtain ⟨rfl, Nq101, K101, M101⟩ := hQ101
  have N101 := Fr.app N0 Nq101
  have A101 := E1.kp K101
  have Kq101 := keep_of_kp K101
  have P101_reason : Fld Z T101.heap a1 "com/example/shard_feed/shardfeed/Refusal" "reason" "Lcom/example/shard_feed/shardfeed/Refusal$Reason;" _ := Fld.kp K101 F1 (Or.inr (own_ne6 hw (Or.inr (g_ hw 237 rfl)) (ty := (.object "com/example/shard_feed/shardfeed/Refusal$Reason")) (by decide) (by decide)))
  have P101_line : Fld Z T101.heap a1 "com/example/shard_feed/shardfeed/Refusal" "line" "I" _ := Fld.kp K101 F2 (Or.inr (own_ne6 hw (Or.inr (g_ hw 239 rfl)) (ty := .int) (by decide) (by decide)))
  show own_Go p e below Pst (T101.setTop (mkF m 5 #[.val (.ref a1), .val (.ref a2), .val (.ref a3), .val (.int (0 : Int32))] []))
  refine o_aloadN X101.here hx (dE 3 rfl) rfl rfl ?_
  refine o_aloadN X101.here hx (dE 4 rfl) rfl rfl ?_
  refine p_putF X101 hx hZ hown (host := "") (Or.inl (g_ hw 236 rfl)) Via.refl rfl P101_reason A101 (Or.inr ⟨(g_ hw 237 rfl), rfl, hnm⟩) (g_ hw 42 rfl) (ty := (.object "com/example/shard_feed/shardfeed/Refusal$Reason")) (by decide) rfl rfl rfl (dE 5 rfl) fun T102 h102 X102 e102 W102 => ?_
  have Fw102 := Fld.same W102 P101_reason
  have N102 := Fr.snoc X102 N101 g1
  refine o_aloadN X102.here hx (dE 6 rfl) rfl rfl ?_
  refine o_iloadN X102.here hx (dE 7 rfl) rfl ?_
  have c103 := (A101.wr W102)
  have c104 := (P101_line.other W102 (Or.inr (slot_ne (Or.inr (g_ hw 239 rfl)) (Or.inr (g_ hw 237 rfl)) (by decide) (t := .int) (t' := (.object "com/example/shard_feed/shardfeed/Refusal$Reason")) (by decide) (by decide))))
  refine p_putF X102 hx hZ hown (host := "") (Or.inl (g_ hw 238 rfl)) Via.refl e102 c104 c103 (Or.inr ⟨(g_ hw 239 rfl), rfl, hnm⟩) (g_ hw 42 rfl) (ty := .int) (by decide) rfl rfl rfl (dE 8 rfl) fun T105 h105 X105 e105 W105 => ?_
  have Fw105 := Fld.same W105 c104
  have N105 := Fr.snoc X105 N102 g1
  have c106 := (((Keep.trans (Keep.refl h0 [a1]) Kq101 (allS (Or.inl (List.mem_of_getElem? (i := 0) rfl)) all0)).wr W102 (Or.inl (List.mem_of_getElem? (i := 0) rfl))).wr W105 (Or.inl (List.mem_of_getElem? (i := 0) rfl)))
  have c107 := (c103.wr W105)
  have c108 := (Fw102.other W105 (Or.inr (slot_ne (Or.inr (g_ hw 237 rfl)) (Or.inr (g_ hw 239 rfl)) (by decide) (t := (.object "com/example/shard_feed/shardfeed/Refusal$Reason")) (t' := .int) (by decide) (by decide))))
  have c109 := ((M101.other W102 (Or.inr (slot_ne (Or.inl (g_ hw 231 rfl)) (Or.inr (g_ hw 237 rfl)) (by decide) (t := (.object "java/lang/String")) (t' := (.object "com/example/shard_feed/shardfeed/Refusal$Reason")) (by decide) (by decide)))).other W105 (Or.inr (slot_ne (Or.inl (g_ hw 231 rfl)) (Or.inr (g_ hw 239 rfl)) (by decide) (t := (.object "java/lang/String")) (t' := .int) (by decide) (by decide))))
  rw [hPst]
  exact own_retP X105 (v := none) (Q := Q_r3 Z a1 a2 a3 u1 u2 h0 n0) (fun _ => rfl) Bd.notSynchronized (fun fs hr => X105.returnOut hx Bd.returns (dE 9 rfl) hr) (by decide) (by decide) (by rw [e105]; exact ⟨rfl, N105, c106, c107, c108, Fw105, c109⟩)
theorem own_pd19 : parseMethodDescriptor "(Lcom/example/shard_feed/shardfeed/Refusal$Reason;Ljava/lang/String;I)V" = some ⟨[(.object "com/example/shard_feed/shardfeed/Refusal$Reason"), (.object "java/lang/String"), .int], none⟩ := by decide +kernel
theorem own_ef_RRR_3 (m : MethodId) (x0 : Addr) (x1 : Addr) (x2 : Addr) : entryFrame m #[(.ref x0), (.ref x1), (.ref x2)] 3 = mkF m 0 #[.val (.ref x0), .val (.ref x1), .val (.ref x2)] [] := by first | (simp [entryFrame, mkF, argsToLocals, Value.category]; done) | rfl
def Q_r2 (Z : State) (a1 a2 a3 : Addr) (u1 u2 : Value) (h0 : Heap) (n0 : Nat) (v : Option Value) (h : Heap) (L : List Loc) : Prop := v = none ∧ Fr n0 L ∧ Keep h0 h [a1] ∧ Exa Z h a1 "com/example/shard_feed/shardfeed/Refusal" ∧ Fld Z h a1 "com/example/shard_feed/shardfeed/Refusal" "reason" "Lcom/example/shard_feed/shardfeed/Refusal$Reason;" (.ref a2) ∧ Fld Z h a1 "com/example/shard_feed/shardfeed/Refusal" "line" "I" (.int (0 : Int32)) ∧ Fld Z h a1 "java/lang/Throwable" "detailMessage" "Ljava/lang/String;" (.ref a3)
theorem rm_r2 (l : Launch) (Z : State) (a0 : Array Value) (hw : own_H a0 Z) (ws : List Jvm.Cond) (a1 a2 a3 : Addr) (u1 u2 : Value) (h0 : Heap) (n0 : Nat) (Z0 : n0 ≤ h0.size) (O : Old Z n0 h0) (hl : l.stackTraces = true) (r2 : ∀ d ∈ twoRefs, d.before a0 Z = true) (E1 : Exa Z h0 a1 "com/example/shard_feed/shardfeed/Refusal") (U1 : Unt h0 a1) (g1 : n0 ≤ a1) (B1 : Fld Z h0 a1 tN "backtrace" Exc.obD .null) (B2 : Fld Z h0 a1 tN "detailMessage" Exc.msgD .null) (F1 : Fld Z h0 a1 "com/example/shard_feed/shardfeed/Refusal" "reason" "Lcom/example/shard_feed/shardfeed/Refusal$Reason;" u1) (F2 : Fld Z h0 a1 "com/example/shard_feed/shardfeed/Refusal" "line" "I" u2) : own_MP l Mn20 prog_9_method_1_code 3 none ws ({ frames := 7, cells := 1, slots := 2752, locals := 99 } : Room) Z h0 #[(.ref a1), (.ref a2), (.ref a3)] (fun _ _ bl s _ => s.vm.MethodsKnown ∧ s.vm.FramesKnown bl) (Q_r2 Z a1 a2 a3 u1 u2 h0 n0) := by
  refine own_startP (plainFor_of_name own_pn_com_example_shard_feed_shardfeed_Refusal) fun p e s m below meth c s₁ Bd hx hby hml hown0 X0 e0 hh0 hZ hK Pst hPst => ?_
  have dE := own_E hby own_D35
  have hown : s.vm.findClass "com/example/shard_feed/shardfeed/Refusal" = some m.cls := hown0
  have hnm := (name_of_methodNamed Bd.named Bd.method).1
  have N0 := Fr.nil n0
  rw [own_ef_RRR_3 m a1 a2 a3]
  refine o_aloadN X0.here hx (dE 0 rfl) rfl rfl ?_
  refine o_aloadN X0.here hx (dE 1 rfl) rfl rfl ?_
  refine o_aloadN X0.here hx (dE 2 rfl) rfl rfl ?_
  refine o_iconst X0.here hx (dE 3 rfl) (z := (0 : Int32)) rfl ?_
  refine own_cP X0 (X0.specialBack hx (y := Mn34) rfl hown (mvT hZ (g_ hw 179 rfl)) (mvT hZ (g_ hw 180 rfl)) (mvT hZ (g_ hw 181 rfl)) (by decide) (backOfKL (W := 0) (rm_r3 l Z a0 hw [] a1 a2 a3 u1 u2 h0 n0 Z0 O hl r2 E1 U1 g1 B1 B2 F1 F2) hZ (g_ hw 181 rfl) (g_ hw 39 rfl) (by decide) (by decide) hK.1 hK.2) (g := (mkF m 4 #[.val (.ref a1), .val (.ref a2), .val (.ref a3)] [(.int (0 : Int32)), (.ref a3), (.ref a2), (.ref a1)])) rfl (by rw [hml]; rfl) (Steps.refl _) (a := a1) (argsL := [(.ref a2), (.ref a3), (.int (0 : Int32))]) (rest := []) (lenOf own_pd19 rfl) rfl (by show 2 * 0 + _ ≤ _; exact Nat.le_of_eq rfl) (dE 4 rfl) (fun _ _ => ⟨rfl, e0, (by decide : 0 + 1 ≤ _), (by decide : 0 + 2752 ≤ _)⟩)) fun v101 T101 L101 X101 hQ101 => ?_
  obtain ⟨rfl, Nq101, K101, A101, G1101, G2101, G3101⟩ := hQ101
  have N101 := Fr.app N0 Nq101
  show own_Go p e below Pst (T101.setTop (mkF m 7 #[.val (.ref a1), .val (.ref a2), .val (.ref a3)] []))
  have c102 := (Keep.trans (Keep.refl h0 [a1]) K101 (allS (Or.inl (List.mem_of_getElem? (i := 0) rfl)) all0))
  rw [hPst]
  exact own_retP X101 (v := none) (Q := Q_r2 Z a1 a2 a3 u1 u2 h0 n0) (fun _ => rfl) Bd.notSynchronized (fun fs hr => X101.returnOut hx Bd.returns (dE 5 rfl) hr) (by decide) (by decide) ⟨rfl, N101, c102, A101, G1101, G2101, G3101⟩
def own_bs (m c1 c2 c3 : Int32) : List Value := if m = 0 then [] else if m = 1 then [(.int ((nar .char c1).toInt8.toInt32))] else if m = 2 then [(.int ((nar .char c1).toInt8.toInt32)), (.int ((nar .char c2).toInt8.toInt32))] else [(.int ((nar .char c1).toInt8.toInt32)), (.int ((nar .char c2).toInt8.toInt32)), (.int ((nar .char c3).toInt8.toInt32))]
def own_out (m c1 c2 c3 : Int32) : List Value := if m = 0 then own_l17 else if m = 1 then (own_o1 ((nar .char c1).toInt8.toInt32)) else if m = 2 then (own_o2 ((nar .char c1).toInt8.toInt32) ((nar .char c2).toInt8.toInt32)) else (own_o3 ((nar .char c1).toInt8.toInt32) ((nar .char c2).toInt8.toInt32) ((nar .char c3).toInt8.toInt32))
def own_cs (m c1 c2 c3 : Int32) : List Int32 := if m = 0 then [110, 111, 32, 117, 115, 101, 114, 32, 105, 115, 32, 110, 97, 109, 101, 100, 32] else if m = 1 then [110, 111, 32, 117, 115, 101, 114, 32, 105, 115, 32, 110, 97, 109, 101, 100, 32, (nar .char c1)] else if m = 2 then [110, 111, 32, 117, 115, 101, 114, 32, 105, 115, 32, 110, 97, 109, 101, 100, 32, (nar .char c1), (nar .char c2)] else [110, 111, 32, 117, 115, 101, 114, 32, 105, 115, 32, 110, 97, 109, 101, 100, 32, (nar .char c1), (nar .char c2), (nar .char c3)]
theorem own_bs0 (c1 c2 c3 : Int32) : own_bs 0 c1 c2 c3 = [] := by unfold own_bs; simp
theorem own_out0 (c1 c2 c3 : Int32) : own_out 0 c1 c2 c3 = own_l17 := by unfold own_out; simp
theorem own_cs0 (c1 c2 c3 : Int32) : own_cs 0 c1 c2 c3 = [110, 111, 32, 117, 115, 101, 114, 32, 105, 115, 32, 110, 97, 109, 101, 100, 32] := by unfold own_cs; simp
theorem own_bs1 (c1 c2 c3 : Int32) : own_bs 1 c1 c2 c3 = [(.int ((nar .char c1).toInt8.toInt32))] := by unfold own_bs; simp
theorem own_out1 (c1 c2 c3 : Int32) : own_out 1 c1 c2 c3 = (own_o1 ((nar .char c1).toInt8.toInt32)) := by unfold own_out; simp
theorem own_cs1 (c1 c2 c3 : Int32) : own_cs 1 c1 c2 c3 = [110, 111, 32, 117, 115, 101, 114, 32, 105, 115, 32, 110, 97, 109, 101, 100, 32, (nar .char c1)] := by unfold own_cs; simp
theorem own_bs2 (c1 c2 c3 : Int32) : own_bs 2 c1 c2 c3 = [(.int ((nar .char c1).toInt8.toInt32)), (.int ((nar .char c2).toInt8.toInt32))] := by unfold own_bs; simp
theorem own_out2 (c1 c2 c3 : Int32) : own_out 2 c1 c2 c3 = (own_o2 ((nar .char c1).toInt8.toInt32) ((nar .char c2).toInt8.toInt32)) := by unfold own_out; simp
theorem own_cs2 (c1 c2 c3 : Int32) : own_cs 2 c1 c2 c3 = [110, 111, 32, 117, 115, 101, 114, 32, 105, 115, 32, 110, 97, 109, 101, 100, 32, (nar .char c1), (nar .char c2)] := by unfold own_cs; simp
theorem own_bs3 (c1 c2 c3 : Int32) : own_bs 3 c1 c2 c3 = [(.int ((nar .char c1).toInt8.toInt32)), (.int ((nar .char c2).toInt8.toInt32)), (.int ((nar .char c3).toInt8.toInt32))] := by unfold own_bs; simp
theorem own_out3 (c1 c2 c3 : Int32) : own_out 3 c1 c2 c3 = (own_o3 ((nar .char c1).toInt8.toInt32) ((nar .char c2).toInt8.toInt32) ((nar .char c3).toInt8.toInt32)) := by unfold own_out; simp
theorem own_cs3 (c1 c2 c3 : Int32) : own_cs 3 c1 c2 c3 = [110, 111, 32, 117, 115, 101, 114, 32, 105, 115, 32, 110, 97, 109, 101, 100, 32, (nar .char c1), (nar .char c2), (nar .char c3)] := by unfold own_cs; simp
theorem own_pd20 : parseMethodDescriptor "()V" = some ⟨[], none⟩ := by decide +kernel
theorem own_pd21 : parseMethodDescriptor "(Ljava/lang/String;)Ljava/lang/StringBuilder;" = some ⟨[(.object "java/lang/String")], some (.object "java/lang/StringBuilder")⟩ := by decide +kernel
theorem own_pd22 : parseMethodDescriptor "()Ljava/lang/String;" = some ⟨[], some (.object "java/lang/String")⟩ := by decide +kernel
theorem own_pd23 : parseMethodDescriptor "(Lcom/example/shard_feed/shardfeed/Refusal$Reason;Ljava/lang/String;)V" = some ⟨[(.object "com/example/shard_feed/shardfeed/Refusal$Reason"), (.object "java/lang/String")], none⟩ := by decide +kernel
def Q_uus (Z : State) (z m c1 c2 c3 : Int32) (o a2 t2 : Addr) (k2 : ClassId) (h0 : Heap) (n0 : Nat) (v : Option Value) (h : Heap) (L : List Loc) : Prop := ∃ x : Addr, v = some (.ref x) ∧ Fr n0 L ∧ Keep h0 h [] ∧ h0.size ≤ x ∧ Exa Z h x "com/example/shard_feed/shardfeed/Refusal" ∧ Fld Z h x "com/example/shard_feed/shardfeed/Refusal" "reason" "Lcom/example/shard_feed/shardfeed/Refusal$Reason;" (.ref o) ∧ Fld Z h x "com/example/shard_feed/shardfeed/Refusal" "line" "I" (.int (0 : Int32)) ∧ ∃ (ms t : Addr) (kb : ClassId), Fld Z h x "java/lang/Throwable" "detailMessage" "Ljava/lang/String;" (.ref ms) ∧ Exa Z h ms "java/lang/String" ∧ Fld Z h ms "java/lang/String" "coder" "B" (.int (0 : Int32)) ∧ Fld Z h ms "java/lang/String" "value" "[B" (.ref t) ∧ Arv Z h t kb .byte (17 + m) (own_out m c1 c2 c3) (.int (0 : Int32))
theorem rm_uus (l : Launch) (Z : State) (a0 : Array Value) (hw : own_H a0 Z) (ws : List Jvm.Cond) (z m c1 c2 c3 : Int32) (o a2 t2 : Addr) (k2 : ClassId) (h0 : Heap) (n0 : Nat) (Z0 : n0 ≤ h0.size) (O : Old Z n0 h0) (SC : Sta Z Z.heap "java/lang/String" "COMPACT_STRINGS" "Z" (.int z)) (hz : ¬ z = 0) (hl : l.stackTraces = true) (r2 : ∀ d ∈ twoRefs, d.before a0 Z = true) (SR : Sta Z Z.heap "com/example/shard_feed/shardfeed/Refusal$Reason" "UNKNOWN_USER" "Lcom/example/shard_feed/shardfeed/Refusal$Reason;" (.ref o)) (E2 : Exa Z h0 a2 "java/lang/String") (G1 : Fld Z h0 a2 "java/lang/String" "value" "[B" (.ref t2)) (G2 : Fld Z h0 a2 "java/lang/String" "coder" "B" (.int 0)) (B1 : Arv Z h0 t2 k2 .byte m (own_bs m c1 c2 c3) (.int 0)) (hm : m = 0 ∨ m = 1 ∨ m = 2 ∨ m = 3) : own_MS own_EL l Mn24 prog_9_method_3_code 1 (some (.object "com/example/shard_feed/shardfeed/Refusal")) ws ({ frames := 8, cells := 9, slots := 2990, locals := 130 } : Room) Z h0 #[(.ref a2)] (fun _ _ bl s _ => s.vm.MethodsKnown ∧ s.vm.FramesKnown bl) (Q_uus Z z m c1 c2 c3 o a2 t2 k2 h0 n0) := by
  refine own_startS (plainFor_of_name own_pn_com_example_shard_feed_shardfeed_Refusal) fun p e s m' below meth c s₁ Bd hx hby hml hown0 X0 e0 hh0 hZ hCH0 hS0 hK Pst hPst => ?_
  have dE := own_E hby own_D9
  have hown : s.vm.findClass "com/example/shard_feed/shardfeed/Refusal" = some m'.cls := hown0
  have hnm := (name_of_methodNamed Bd.named Bd.method).1
  have N0 := Fr.nil n0
  have hk0 : 0 ≤ h0.size := Nat.zero_le _
  have hEL := own_hEL Z a0 hw
  rw [own_ef_R_1 m' a2]
  refine p_newO X0 hx hZ hown (g_ hw 41 rfl) (g_ hw 42 rfl) (g_ hw 39 rfl) e0 (dE 0 rfl) (by decide) (by decide) fun T101 h101 b101 g101 X101 e101 E101 A101 D101 U101 => ?_
  have ne_a2_b101 : a2 ≠ b101 := Nat.ne_of_lt (Nat.lt_of_lt_of_le E2.lt (Nat.le_of_eq g101.symm))
  have ne_t2_b101 : t2 ≠ b101 := Nat.ne_of_lt (Nat.lt_of_lt_of_le B1.lt (Nat.le_of_eq g101.symm))
  have gn_b101 : n0 ≤ b101 := Nat.le_trans Z0 (Nat.le_of_eq g101.symm)
  have sz_b101 : h0.size ≤ b101 := Nat.le_trans (Keep.refl h0 []).1 (Nat.le_of_eq g101.symm)
  have sf_b101 := Safe.ext E101 hCH0 (Safe.new (Nat.le_of_eq g101.symm))
  have c102 := (CHv.ext E101 hCH0)
  have c103 := (CHr.trans (CHr.refl hCH0) (CHr.ext E101 hCH0))
  have c104 := (Nat.le_trans hk0 E101.1)
  have Un101 : Unt h101 b101 := U101
  have f101_cause : Fld Z h101 b101 "java/lang/Throwable" "cause" "Ljava/lang/Throwable;" .null := D101 (Or.inl (g_ hw 201 rfl)) (ty := (.object "java/lang/Throwable")) (by decide)
  have f101_stackTrace : Fld Z h101 b101 "java/lang/Throwable" "stackTrace" "[Ljava/lang/StackTraceElement;" .null := D101 (Or.inl (g_ hw 204 rfl)) (ty := (.array (.object "java/lang/StackTraceElement"))) (by decide)
  have f101_suppressedExceptions : Fld Z h101 b101 "java/lang/Throwable" "suppressedExceptions" "Ljava/util/List;" .null := D101 (Or.inl (g_ hw 207 rfl)) (ty := (.object "java/util/List")) (by decide)
  have f101_detailMessage : Fld Z h101 b101 "java/lang/Throwable" "detailMessage" "Ljava/lang/String;" .null := D101 (Or.inl (g_ hw 231 rfl)) (ty := (.object "java/lang/String")) (by decide)
  have f101_backtrace : Fld Z h101 b101 "java/lang/Throwable" "backtrace" "Ljava/lang/Object;" .null := D101 (Or.inl (g_ hw 232 rfl)) (ty := (.object "java/lang/Object")) (by decide)
  have f101_depth : Fld Z h101 b101 "java/lang/Throwable" "depth" "I" (.int (0 : Int32)) := D101 (Or.inl (g_ hw 233 rfl)) (ty := .int) (by decide)
  have f101_reason : Fld Z h101 b101 "com/example/shard_feed/shardfeed/Refusal" "reason" "Lcom/example/shard_feed/shardfeed/Refusal$Reason;" .null := D101 (Or.inr (g_ hw 237 rfl)) (ty := (.object "com/example/shard_feed/shardfeed/Refusal$Reason")) (by decide)
  have f101_line : Fld Z h101 b101 "com/example/shard_feed/shardfeed/Refusal" "line" "I" (.int (0 : Int32)) := D101 (Or.inr (g_ hw 239 rfl)) (ty := .int) (by decide)
  refine o_dup X101.here hx (dE 1 rfl) rfl rfl ?_
  have c105 := (O.ext E101)
  refine p_getS2 X101 hx hZ hown (host := "") (Or.inl (g_ hw 43 rfl)) Via.refl e101 (SR.ext c105.2) (dE 2 rfl) fun T106 X106 e106 => ?_
  have c108 := (Nat.le_trans Z0 E101.1)
  have c109 := ((Keep.refl h0 []).ext E101)
  refine p_newO X106 hx hZ hown (g_ hw 46 rfl) (g_ hw 47 rfl) (g_ hw 48 rfl) e106 (dE 3 rfl) (by decide) (by decide) fun T107 h107 b107 g107 X107 e107 E107 A107 D107 U107 => ?_
  have c110 := (E2.ext E101)
  have ne_a2_b107 : a2 ≠ b107 := Nat.ne_of_lt (Nat.lt_of_lt_of_le c110.lt (Nat.le_of_eq g107.symm))
  have c111 := (B1.ext E101)
  have ne_t2_b107 : t2 ≠ b107 := Nat.ne_of_lt (Nat.lt_of_lt_of_le c111.lt (Nat.le_of_eq g107.symm))
  have ne_b101_b107 : b101 ≠ b107 := Nat.ne_of_lt (Nat.lt_of_lt_of_le A101.lt (Nat.le_of_eq g107.symm))
  have gn_b107 : n0 ≤ b107 := Nat.le_trans c108 (Nat.le_of_eq g107.symm)
  have sz_b107 : h0.size ≤ b107 := Nat.le_trans c109.1 (Nat.le_of_eq g107.symm)
  have sf_b107 := Safe.ext E107 c102 (Safe.new (Nat.le_of_eq g107.symm))
  have c112 := (CHv.ext E107 c102)
  have c113 := (CHr.trans c103 (CHr.ext E107 c102))
  have c114 := (Nat.le_trans c104 E107.1)
  have Un107 : Unt h107 b107 := U107
  have f107_value : Fld Z h107 b107 "java/lang/AbstractStringBuilder" "value" "[B" .null := D107 (Or.inl (g_ hw 61 rfl)) (ty := (.array .byte)) (by decide)
  have f107_coder : Fld Z h107 b107 "java/lang/AbstractStringBuilder" "coder" "B" (.int (0 : Int32)) := D107 (Or.inl (g_ hw 63 rfl)) (ty := .byte) (by decide)
  have f107_count : Fld Z h107 b107 "java/lang/AbstractStringBuilder" "count" "I" (.int (0 : Int32)) := D107 (Or.inl (g_ hw 88 rfl)) (ty := .int) (by decide)
  refine o_dup X107.here hx (dE 4 rfl) rfl rfl ?_
  have c115 := (c105.ext E107)
  have c117 := (Nat.le_trans c108 E107.1)
  refine own_cP X107 (X107.specialBack hx (y := Mn25) rfl hown (mvT hZ (g_ hw 49 rfl)) (mvT hZ (g_ hw 50 rfl)) (mvT hZ (g_ hw 51 rfl)) (by decide) (backOf (W := 4) (rm_sbi l Z a0 hw [] z b107 .null (.int 0) h107 n0 c117 c115 SC hz A107 gn_b107 f107_value f107_coder f107_count) hZ (g_ hw 51 rfl) (g_ hw 48 rfl) (by decide) (by decide)) (g := (mkF m' 11 #[.val (.ref a2)] [(.ref b107), (.ref b107), (.ref o), (.ref b101), (.ref b101)])) rfl (by rw [hml]; rfl) (Steps.refl _) (a := b107) (argsL := []) (rest := [(.ref b107), (.ref o), (.ref b101), (.ref b101)]) (lenOf own_pd20 rfl) rfl (by show 2 * 0 + _ ≤ _; exact Nat.le_of_eq rfl) (dE 5 rfl) (fun _ _ => ⟨rfl, e107, (by decide : 2 + 1 ≤ _), (by decide : 12 + 16 ≤ _)⟩)) fun v116 T116 L116 X116 hQ116 => ?_
  obtain ⟨rfl, Nq116, K116, A116, C116, D116, t116, kb116, st_116, V116, B116⟩ := hQ116
  have N116 := Fr.app N0 Nq116
  have c118 := (c110.ext E107)
  have ne_a2_t116 : a2 ≠ t116 := Nat.ne_of_lt (Nat.lt_of_lt_of_le c118.lt st_116)
  have c119 := (c111.ext E107)
  have ne_t2_t116 : t2 ≠ t116 := Nat.ne_of_lt (Nat.lt_of_lt_of_le c119.lt st_116)
  have c120 := (A101.ext E107)
  have ne_b101_t116 : b101 ≠ t116 := Nat.ne_of_lt (Nat.lt_of_lt_of_le c120.lt st_116)
  have ne_b107_t116 : b107 ≠ t116 := Nat.ne_of_lt (Nat.lt_of_lt_of_le A107.lt st_116)
  have gn_t116 : n0 ≤ t116 := Nat.le_trans c117 st_116
  have c121 := (c109.ext E107)
  have sz_t116 : h0.size ≤ t116 := Nat.le_trans c121.1 st_116
  have sn_t116 : Safe Z own_EL s.vm h107 t116 := Safe.new st_116
  have c122 := (CHv.keep K116 (sfS sf_b107 sf0) c112)
  have c123 := (CHr.trans c113 (CHr.keep K116 (sfS sf_b107 sf0) c112))
  have c124 := (Nat.le_trans c114 K116.1)
  show own_Go p e below Pst (T116.setTop (mkF m' 14 #[.val (.ref a2)] [(.ref b107), (.ref o), (.ref b101), (.ref b101)]))
  have c126 := (c120.keep K116)
  obtain ⟨a125, T125, h125, j125, b125, k125, X125, e125, E125, hS125, hk125, hZ125, hown125, A125, C125, V125, K125, la125, lb125, cr125, lit125, sn125, st125⟩ := ldcCH X116 hx hZ hown (g_ hw 64 rfl) (own_wS Z a0 hw) rfl hS0 c124 hEL (List.mem_of_getElem? (i := 0) rfl) c122 (vs := own_l17) (z := (17 : Int32)) own_txt_17 (by decide) rfl (g := (mkF m' 14 #[.val (.ref a2)] [(.ref b107), (.ref o), (.ref b101), (.ref b101)])) rfl (dE 6 rfl) (n := 68) (by decide) (by decide) (by decide) (by decide)
  refine own_Go.of st125 ?_
  have c127 := cr125.1
  have c128 := (CHr.trans c123 cr125)
  have c129 := (cr125.safe c126.lt (Safe.keep K116 (sfS sf_b107 sf0) c112 (Safe.ext E107 c102 sf_b101)))
  have nl_b101_125 := sn125 _ c129
  have c130 := (cr125.safe A116.lt (Safe.keep K116 (sfS sf_b107 sf0) c112 sf_b107))
  have nl_b107_125 := sn125 _ c130
  have c131 := (cr125.safe B116.lt (Safe.keep K116 (sfS sf_b107 sf0) c112 sn_t116))
  have nl_t116_125 := sn125 _ c131
  show own_Go p e below Pst (T125.setTop (mkF m' 16 #[.val (.ref a2)] [(.ref a125), (.ref b107), (.ref o), (.ref b101), (.ref b101)]))
  have c132 := ((c115.keep K116 (allS gn_b107 all0)).ext E125)
  have c133 := (A116.ext E125)
  have c134 := (V116.ext E125)
  have c135 := (C116.ext E125)
  have c136 := (D116.ext E125)
  have c137 := (B116.ext E125)
  have c139 := (Nat.le_trans (Nat.le_trans c117 K116.1) E125.1)
  obtain ⟨cq138, kq138, q138a, q138b, q138c⟩ := isOf hZ125 e125 c133
  refine own_cP X125 (X125.virtualBack hx (y := Mn0) (z := Mn0) hown125 (mvT hZ125 (g_ hw 67 rfl)) (mvT hZ125 (g_ hw 68 rfl)) (notFace_of_selects (args := #[]) (mvT hZ125 (g_ hw 70 rfl))) (mvT hZ125 (g_ hw 70 rfl)) (mvT hZ125 (g_ hw 69 rfl)) (by decide) (backOf (W := 3) (rm_saL l Z a0 hw [] z b107 t116 a125 b125 kb116 k125 h125 n0 c139 c132 SC hz c133 c134 c135 c136 c137 A125 V125 C125 K125 gn_b107 gn_t116 (Ne.symm nl_b107_125.1) (Ne.symm nl_t116_125.2)) hZ125 (g_ hw 71 rfl) (g_ hw 48 rfl) (by decide) (by decide)) q138a q138c (g := (mkF m' 16 #[.val (.ref a2)] [(.ref a125), (.ref b107), (.ref o), (.ref b101), (.ref b101)])) rfl (by rw [hml]; rfl) (Steps.refl _) (argsL := [(.ref a125)]) (rest := [(.ref o), (.ref b101), (.ref b101)]) (lenOf own_pd21 rfl) rfl (by show 2 * 0 + _ ≤ _; exact Nat.le_of_eq rfl) (dE 7 rfl) (fun _ _ => ⟨rfl, e125, (by decide : 5 + 1 ≤ _), (by decide : 100 + 34 ≤ _)⟩)) fun v138 T138 L138 X138 hQ138 => ?_
  obtain ⟨rfl, Nq138, K138, A138, C138, D138, t138, kb138, st_138, V138, B138⟩ := hQ138
  have N138 := Fr.app N116 Nq138
  have c140 := ((c118.keep K116).ext E125)
  have ne_a2_t138 : a2 ≠ t138 := Nat.ne_of_lt (Nat.lt_of_lt_of_le c140.lt st_138)
  have c141 := ((c119.keep K116 (ninS ne_t2_b107 nin0)).ext E125)
  have ne_t2_t138 : t2 ≠ t138 := Nat.ne_of_lt (Nat.lt_of_lt_of_le c141.lt st_138)
  have c142 := (c126.ext E125)
  have ne_b101_t138 : b101 ≠ t138 := Nat.ne_of_lt (Nat.lt_of_lt_of_le c142.lt st_138)
  have ne_b107_t138 : b107 ≠ t138 := Nat.ne_of_lt (Nat.lt_of_lt_of_le c133.lt st_138)
  have ne_t116_t138 : t116 ≠ t138 := Nat.ne_of_lt (Nat.lt_of_lt_of_le c137.lt st_138)
  have ne_a125_t138 : a125 ≠ t138 := Nat.ne_of_lt (Nat.lt_of_lt_of_le A125.lt st_138)
  have ne_b125_t138 : b125 ≠ t138 := Nat.ne_of_lt (Nat.lt_of_lt_of_le K125.lt st_138)
  have gn_t138 : n0 ≤ t138 := Nat.le_trans c139 st_138
  have c143 := ((Keep.trans c121 K116 (allS (Or.inr sz_b107) all0)).ext E125)
  have sz_t138 : h0.size ≤ t138 := Nat.le_trans c143.1 st_138
  have sn_t138 : Safe Z own_EL T125.vm h125 t138 := Safe.new st_138
  have c144 := (CHv.keep K138 (sfS c130 sf0) c127)
  have c145 := (CHr.trans c128 (CHr.keep K138 (sfS c130 sf0) c127))
  have c146 := (Nat.le_trans hk125 K138.1)
  show own_Go p e below Pst (T138.setTop (mkF m' 19 #[.val (.ref a2)] [(.ref b107), (.ref o), (.ref b101), (.ref b101)]))
  refine o_aloadN X138.here hx (dE 8 rfl) rfl rfl ?_
  have c147 := (c132.keep K138 (allS gn_b107 all0))
  have c148 := (c140.keep K138)
  have c149 := (Unt.keep K138 (ninS ne_b101_b107 nin0) (Unt.ext E125 (Unt.keep K116 (ninS ne_b101_b107 nin0) (Unt.ext E107 Un101))))
  have c150 := (c142.keep K138)
  have c151 := (((((G1.ext E101).ext E107).keep K116 (ninS ne_a2_b107 nin0)).ext E125).keep K138 (ninS ne_a2_b107 nin0))
  have c152 := (((((G2.ext E101).ext E107).keep K116 (ninS ne_a2_b107 nin0)).ext E125).keep K138 (ninS ne_a2_b107 nin0))
  have c153 := (c141.keep K138 (ninS ne_t2_b107 nin0))
  have c154 := ((((f101_cause.ext E107).keep K116 (ninS ne_b101_b107 nin0)).ext E125).keep K138 (ninS ne_b101_b107 nin0))
  have c155 := ((((f101_stackTrace.ext E107).keep K116 (ninS ne_b101_b107 nin0)).ext E125).keep K138 (ninS ne_b101_b107 nin0))
  have c156 := ((((f101_suppressedExceptions.ext E107).keep K116 (ninS ne_b101_b107 nin0)).ext E125).keep K138 (ninS ne_b101_b107 nin0))
  have c157 := ((((f101_detailMessage.ext E107).keep K116 (ninS ne_b101_b107 nin0)).ext E125).keep K138 (ninS ne_b101_b107 nin0))
  have c158 := ((((f101_backtrace.ext E107).keep K116 (ninS ne_b101_b107 nin0)).ext E125).keep K138 (ninS ne_b101_b107 nin0))
  have c159 := ((((f101_depth.ext E107).keep K116 (ninS ne_b101_b107 nin0)).ext E125).keep K138 (ninS ne_b101_b107 nin0))
  have c160 := ((((f101_reason.ext E107).keep K116 (ninS ne_b101_b107 nin0)).ext E125).keep K138 (ninS ne_b101_b107 nin0))
  have c161 := ((((f101_line.ext E107).keep K116 (ninS ne_b101_b107 nin0)).ext E125).keep K138 (ninS ne_b101_b107 nin0))
  rcases hm with rfl | rfl | rfl | rfl
  · rw [own_bs0] at c153
    have c163 := (Nat.le_trans c139 K138.1)
    obtain ⟨cq162, kq162, q162a, q162b, q162c⟩ := isOf hZ125 rfl A138
    refine own_cP X138 (X138.virtualBack hx (y := Mn0) (z := Mn0) hown125 (mvT hZ125 (g_ hw 67 rfl)) (mvT hZ125 (g_ hw 68 rfl)) (notFace_of_selects (args := #[]) (mvT hZ125 (g_ hw 70 rfl))) (mvT hZ125 (g_ hw 70 rfl)) (mvT hZ125 (g_ hw 69 rfl)) (by decide) (backOf (W := 3) (rm_sa0 l Z a0 hw [] z b107 t138 a2 t2 kb138 k2  T138.heap n0 c163 c147 SC hz A138 V138 C138 D138 B138 c148 c151 c152 c153 gn_b107 gn_t138 ne_a2_b107 ne_t2_t138) hZ125 (g_ hw 71 rfl) (g_ hw 48 rfl) (by decide) (by decide)) q162a q162c (g := (mkF m' 20 #[.val (.ref a2)] [(.ref a2), (.ref b107), (.ref o), (.ref b101), (.ref b101)])) rfl (by rw [hml]; rfl) (Steps.refl _) (argsL := [(.ref a2)]) (rest := [(.ref o), (.ref b101), (.ref b101)]) (lenOf own_pd21 rfl) rfl (by show 2 * 0 + _ ≤ _; exact Nat.le_of_eq rfl) (dE 9 rfl) (fun _ _ => ⟨rfl, rfl, (by decide : 6 + 0 ≤ _), (by decide : 134 + 0 ≤ _)⟩)) fun v162 T162 L162 X162 hQ162 => ?_
    obtain ⟨rfl, Nq162, K162, A162, C162, D162, V162, B162⟩ := hQ162
    have N162 := Fr.app N138 Nq162
    have c164 := (Safe.keep K138 (sfS c130 sf0) c127 c130)
    have c165 := (Safe.keep K138 (sfS c130 sf0) c127 sn_t138)
    have c166 := (CHv.keep K162 (sfS c164 (sfS c165 sf0)) c144)
    have c167 := (CHr.trans c145 (CHr.keep K162 (sfS c164 (sfS c165 sf0)) c144))
    have c168 := (Nat.le_trans c146 K162.1)
    show own_Go p e below Pst (T162.setTop (mkF m' 23 #[.val (.ref a2)] [(.ref b107), (.ref o), (.ref b101), (.ref b101)]))
    have c169 := (c147.keep K162 (allS gn_b107 (allS gn_t138 all0)))
    have c171 := (Nat.le_trans c163 K162.1)
    obtain ⟨cq170, kq170, q170a, q170b, q170c⟩ := isOf hZ125 rfl A162
    refine own_cP X162 (X162.virtualBack hx (y := Mn4) (z := Mn4) hown125 (mvT hZ125 (g_ hw 137 rfl)) (mvT hZ125 (g_ hw 138 rfl)) (notFace_of_selects (args := #[]) (mvT hZ125 (g_ hw 140 rfl))) (mvT hZ125 (g_ hw 140 rfl)) (mvT hZ125 (g_ hw 139 rfl)) (by decide) (backOf (W := 3) (rm_ts0 l Z a0 hw [] z b107 t138 kb138  T162.heap n0 c171 c169 SC hz A162 V162 C162 D162 B162) hZ125 (g_ hw 141 rfl) (g_ hw 48 rfl) (by decide) (by decide)) q170a q170c (g := (mkF m' 23 #[.val (.ref a2)] [(.ref b107), (.ref o), (.ref b101), (.ref b101)])) rfl (by rw [hml]; rfl) (Steps.refl _) (argsL := []) (rest := [(.ref o), (.ref b101), (.ref b101)]) (lenOf own_pd22 rfl) rfl (by show 2 * 0 + _ ≤ _; exact Nat.le_of_eq rfl) (dE 10 rfl) (fun _ _ => ⟨rfl, rfl, (by decide : 6 + 2 ≤ _), (by decide : 134 + 21 ≤ _)⟩)) fun v170 T170 L170 X170 hQ170 => ?_
    obtain ⟨x170, rfl, Nq170, K170, sx170, A170, C170, t170, kb170, st_170, V170, B170⟩ := hQ170
    have N170 := Fr.app N162 Nq170
    have c172 := (c148.keep K162)
    have ne_a2_x170 : a2 ≠ x170 := Nat.ne_of_lt (Nat.lt_of_lt_of_le c172.lt sx170)
    have c173 := (c153.keep K162 (ninS ne_t2_b107 (ninS ne_t2_t138 nin0)))
    have ne_t2_x170 : t2 ≠ x170 := Nat.ne_of_lt (Nat.lt_of_lt_of_le c173.lt sx170)
    have c174 := (c150.keep K162)
    have ne_b101_x170 : b101 ≠ x170 := Nat.ne_of_lt (Nat.lt_of_lt_of_le c174.lt sx170)
    have ne_b107_x170 : b107 ≠ x170 := Nat.ne_of_lt (Nat.lt_of_lt_of_le A162.lt sx170)
    have c175 := ((c137.keep K138 (ninS (Ne.symm ne_b107_t116) nin0)).keep K162 (ninS (Ne.symm ne_b107_t116) (ninS ne_t116_t138 nin0)))
    have ne_t116_x170 : t116 ≠ x170 := Nat.ne_of_lt (Nat.lt_of_lt_of_le c175.lt sx170)
    have c176 := ((A125.keep K138).keep K162)
    have ne_a125_x170 : a125 ≠ x170 := Nat.ne_of_lt (Nat.lt_of_lt_of_le c176.lt sx170)
    have c177 := ((K125.keep K138 (ninS (Ne.symm nl_b107_125.2) nin0)).keep K162 (ninS (Ne.symm nl_b107_125.2) (ninS ne_b125_t138 nin0)))
    have ne_b125_x170 : b125 ≠ x170 := Nat.ne_of_lt (Nat.lt_of_lt_of_le c177.lt sx170)
    have ne_t138_x170 : t138 ≠ x170 := Nat.ne_of_lt (Nat.lt_of_lt_of_le B162.lt sx170)
    have gn_x170 : n0 ≤ x170 := Nat.le_trans c171 sx170
    have c178 := (Keep.trans (Keep.trans c143 K138 (allS (Or.inr sz_b107) all0)) K162 (allS (Or.inr sz_b107) (allS (Or.inr sz_t138) all0)))
    have sz_x170 : h0.size ≤ x170 := Nat.le_trans c178.1 sx170
    have sn_x170 : Safe Z own_EL T125.vm T162.heap x170 := Safe.new sx170
    have ne_a2_t170 : a2 ≠ t170 := Nat.ne_of_lt (Nat.lt_of_lt_of_le c172.lt st_170)
    have ne_t2_t170 : t2 ≠ t170 := Nat.ne_of_lt (Nat.lt_of_lt_of_le c173.lt st_170)
    have ne_b101_t170 : b101 ≠ t170 := Nat.ne_of_lt (Nat.lt_of_lt_of_le c174.lt st_170)
    have ne_b107_t170 : b107 ≠ t170 := Nat.ne_of_lt (Nat.lt_of_lt_of_le A162.lt st_170)
    have ne_t116_t170 : t116 ≠ t170 := Nat.ne_of_lt (Nat.lt_of_lt_of_le c175.lt st_170)
    have ne_a125_t170 : a125 ≠ t170 := Nat.ne_of_lt (Nat.lt_of_lt_of_le c176.lt st_170)
    have ne_b125_t170 : b125 ≠ t170 := Nat.ne_of_lt (Nat.lt_of_lt_of_le c177.lt st_170)
    have ne_t138_t170 : t138 ≠ t170 := Nat.ne_of_lt (Nat.lt_of_lt_of_le B162.lt st_170)
    have gn_t170 : n0 ≤ t170 := Nat.le_trans c171 st_170
    have sz_t170 : h0.size ≤ t170 := Nat.le_trans c178.1 st_170
    have sn_t170 : Safe Z own_EL T125.vm T162.heap t170 := Safe.new st_170
    have c179 := (CHv.keep K170 sf0 c166)
    have c180 := (CHr.trans c167 (CHr.keep K170 sf0 c166))
    have c181 := (Nat.le_trans c168 K170.1)
    show own_Go p e below Pst (T170.setTop (mkF m' 26 #[.val (.ref a2)] [(.ref x170), (.ref o), (.ref b101), (.ref b101)]))
    have c182 := (c169.keep K170 all0)
    have c183 := (c174.keep K170)
    have c184 := (Unt.keep K170 nin0 (Unt.keep K162 (ninS ne_b101_b107 (ninS ne_b101_t138 nin0)) c149))
    have c185 := ((c158.keep K162 (ninS ne_b101_b107 (ninS ne_b101_t138 nin0))).keep K170 nin0)
    have c186 := ((c157.keep K162 (ninS ne_b101_b107 (ninS ne_b101_t138 nin0))).keep K170 nin0)
    have c187 := ((c160.keep K162 (ninS ne_b101_b107 (ninS ne_b101_t138 nin0))).keep K170 nin0)
    have c188 := ((c161.keep K162 (ninS ne_b101_b107 (ninS ne_b101_t138 nin0))).keep K170 nin0)
    have c190 := (Nat.le_trans c171 K170.1)
    refine own_cP X170 (X170.specialBack hx (y := Mn20) rfl hown125 (mvT hZ125 (g_ hw 176 rfl)) (mvT hZ125 (g_ hw 177 rfl)) (mvT hZ125 (g_ hw 178 rfl)) (by decide) (backOfKL (W := 1) (rm_r2 l Z a0 hw [] b101 o x170 .null (.int 0) T170.heap n0 c190 c182 hl r2 c183 c184 gn_b101 c185 c186 c187 c188) hZ125 (g_ hw 178 rfl) (g_ hw 39 rfl) (by decide) (by decide) (Vm.MethodsKnown.alikeC hS125.1.alike hK.1) (Vm.FramesKnown.alikeC hS125.1.alike hK.2)) (g := (mkF m' 26 #[.val (.ref a2)] [(.ref x170), (.ref o), (.ref b101), (.ref b101)])) rfl (by rw [hml]; rfl) (Steps.refl _) (a := b101) (argsL := [(.ref o), (.ref x170)]) (rest := [(.ref b101)]) (lenOf own_pd23 rfl) rfl (by show 2 * 0 + _ ≤ _; exact Nat.le_of_eq rfl) (dE 11 rfl) (fun _ _ => ⟨rfl, rfl, (by decide : 8 + 1 ≤ _), (by decide : 155 + 2752 ≤ _)⟩)) fun v189 T189 L189 X189 hQ189 => ?_
    obtain ⟨rfl, Nq189, K189, A189, G1189, G2189, G3189⟩ := hQ189
    have N189 := Fr.app N170 Nq189
    have c191 := (Safe.keep K170 sf0 c166 (Safe.keep K162 (sfS c164 (sfS c165 sf0)) c144 (Safe.keep K138 (sfS c130 sf0) c127 c129)))
    have c192 := (CHv.keep K189 (sfS c191 sf0) c179)
    have c193 := (CHr.trans c180 (CHr.keep K189 (sfS c191 sf0) c179))
    have c194 := (Nat.le_trans c181 K189.1)
    show own_Go p e below Pst (T189.setTop (mkF m' 29 #[.val (.ref a2)] [(.ref b101)]))
    have c195 := (B170.keep K189 (ninS (Ne.symm ne_b101_t170) nin0))
    have c196 := (Keep.trans (Keep.trans c178 K170 all0) K189 (allS (Or.inr sz_b101) all0))
    have c197 := (A170.keep K189)
    have c198 := (C170.keep K189 (ninS (Ne.symm ne_b101_x170) nin0))
    have c199 := (V170.keep K189 (ninS (Ne.symm ne_b101_x170) nin0))
    rw [hPst]
    exact own_retW X189 hS125 c194 (v := (some (.ref b101))) (Q := Q_uus Z z (0 : Int32) c1 c2 c3 o a2 t2 k2 h0 n0) (fun h => by rw [Bd.returns] at h; cases h) Bd.notSynchronized (fun fs hr => retOut X189 hx Bd.returns rfl (Or.inr (Or.inr (Or.inr (Or.inr ⟨rfl, rfl, rfl⟩)))) (dE 12 rfl) hr) (by decide) (by decide) (by rw [hh0]; exact CHr.trans c193 (CHv.at X189 hZ125 hEL c192)) ⟨_, rfl, N189, c196, sz_b101, A189, G1189, G2189, _, _, _, G3189, c197, c198, c199, (by rw [own_out0]; exact c195)⟩
  · rw [own_bs1] at c153
    have c201 := (Nat.le_trans c139 K138.1)
    obtain ⟨cq200, kq200, q200a, q200b, q200c⟩ := isOf hZ125 rfl A138
    refine own_cP X138 (X138.virtualBack hx (y := Mn0) (z := Mn0) hown125 (mvT hZ125 (g_ hw 67 rfl)) (mvT hZ125 (g_ hw 68 rfl)) (notFace_of_selects (args := #[]) (mvT hZ125 (g_ hw 70 rfl))) (mvT hZ125 (g_ hw 70 rfl)) (mvT hZ125 (g_ hw 69 rfl)) (by decide) (backOf (W := 3) (rm_sa1 l Z a0 hw [] z b107 t138 a2 t2 kb138 k2 ((nar .char c1).toInt8.toInt32) T138.heap n0 c201 c147 SC hz A138 V138 C138 D138 B138 c148 c151 c152 c153 gn_b107 gn_t138 ne_a2_b107 ne_t2_t138) hZ125 (g_ hw 71 rfl) (g_ hw 48 rfl) (by decide) (by decide)) q200a q200c (g := (mkF m' 20 #[.val (.ref a2)] [(.ref a2), (.ref b107), (.ref o), (.ref b101), (.ref b101)])) rfl (by rw [hml]; rfl) (Steps.refl _) (argsL := [(.ref a2)]) (rest := [(.ref o), (.ref b101), (.ref b101)]) (lenOf own_pd21 rfl) rfl (by show 2 * 0 + _ ≤ _; exact Nat.le_of_eq rfl) (dE 9 rfl) (fun _ _ => ⟨rfl, rfl, (by decide : 6 + 0 ≤ _), (by decide : 134 + 0 ≤ _)⟩)) fun v200 T200 L200 X200 hQ200 => ?_
    obtain ⟨rfl, Nq200, K200, A200, C200, D200, V200, B200⟩ := hQ200
    have N200 := Fr.app N138 Nq200
    have c202 := (Safe.keep K138 (sfS c130 sf0) c127 c130)
    have c203 := (Safe.keep K138 (sfS c130 sf0) c127 sn_t138)
    have c204 := (CHv.keep K200 (sfS c202 (sfS c203 sf0)) c144)
    have c205 := (CHr.trans c145 (CHr.keep K200 (sfS c202 (sfS c203 sf0)) c144))
    have c206 := (Nat.le_trans c146 K200.1)
    show own_Go p e below Pst (T200.setTop (mkF m' 23 #[.val (.ref a2)] [(.ref b107), (.ref o), (.ref b101), (.ref b101)]))
    have c207 := (c147.keep K200 (allS gn_b107 (allS gn_t138 all0)))
    have c209 := (Nat.le_trans c201 K200.1)
    obtain ⟨cq208, kq208, q208a, q208b, q208c⟩ := isOf hZ125 rfl A200
    refine own_cP X200 (X200.virtualBack hx (y := Mn4) (z := Mn4) hown125 (mvT hZ125 (g_ hw 137 rfl)) (mvT hZ125 (g_ hw 138 rfl)) (notFace_of_selects (args := #[]) (mvT hZ125 (g_ hw 140 rfl))) (mvT hZ125 (g_ hw 140 rfl)) (mvT hZ125 (g_ hw 139 rfl)) (by decide) (backOf (W := 3) (rm_ts1 l Z a0 hw [] z b107 t138 kb138 ((nar .char c1).toInt8.toInt32) T200.heap n0 c209 c207 SC hz A200 V200 C200 D200 B200) hZ125 (g_ hw 141 rfl) (g_ hw 48 rfl) (by decide) (by decide)) q208a q208c (g := (mkF m' 23 #[.val (.ref a2)] [(.ref b107), (.ref o), (.ref b101), (.ref b101)])) rfl (by rw [hml]; rfl) (Steps.refl _) (argsL := []) (rest := [(.ref o), (.ref b101), (.ref b101)]) (lenOf own_pd22 rfl) rfl (by show 2 * 0 + _ ≤ _; exact Nat.le_of_eq rfl) (dE 10 rfl) (fun _ _ => ⟨rfl, rfl, (by decide : 6 + 2 ≤ _), (by decide : 134 + 22 ≤ _)⟩)) fun v208 T208 L208 X208 hQ208 => ?_
    obtain ⟨x208, rfl, Nq208, K208, sx208, A208, C208, t208, kb208, st_208, V208, B208⟩ := hQ208
    have N208 := Fr.app N200 Nq208
    have c210 := (c148.keep K200)
    have ne_a2_x208 : a2 ≠ x208 := Nat.ne_of_lt (Nat.lt_of_lt_of_le c210.lt sx208)
    have c211 := (c153.keep K200 (ninS ne_t2_b107 (ninS ne_t2_t138 nin0)))
    have ne_t2_x208 : t2 ≠ x208 := Nat.ne_of_lt (Nat.lt_of_lt_of_le c211.lt sx208)
    have c212 := (c150.keep K200)
    have ne_b101_x208 : b101 ≠ x208 := Nat.ne_of_lt (Nat.lt_of_lt_of_le c212.lt sx208)
    have ne_b107_x208 : b107 ≠ x208 := Nat.ne_of_lt (Nat.lt_of_lt_of_le A200.lt sx208)
    have c213 := ((c137.keep K138 (ninS (Ne.symm ne_b107_t116) nin0)).keep K200 (ninS (Ne.symm ne_b107_t116) (ninS ne_t116_t138 nin0)))
    have ne_t116_x208 : t116 ≠ x208 := Nat.ne_of_lt (Nat.lt_of_lt_of_le c213.lt sx208)
    have c214 := ((A125.keep K138).keep K200)
    have ne_a125_x208 : a125 ≠ x208 := Nat.ne_of_lt (Nat.lt_of_lt_of_le c214.lt sx208)
    have c215 := ((K125.keep K138 (ninS (Ne.symm nl_b107_125.2) nin0)).keep K200 (ninS (Ne.symm nl_b107_125.2) (ninS ne_b125_t138 nin0)))
    have ne_b125_x208 : b125 ≠ x208 := Nat.ne_of_lt (Nat.lt_of_lt_of_le c215.lt sx208)
    have ne_t138_x208 : t138 ≠ x208 := Nat.ne_of_lt (Nat.lt_of_lt_of_le B200.lt sx208)
    have gn_x208 : n0 ≤ x208 := Nat.le_trans c209 sx208
    have c216 := (Keep.trans (Keep.trans c143 K138 (allS (Or.inr sz_b107) all0)) K200 (allS (Or.inr sz_b107) (allS (Or.inr sz_t138) all0)))
    have sz_x208 : h0.size ≤ x208 := Nat.le_trans c216.1 sx208
    have sn_x208 : Safe Z own_EL T125.vm T200.heap x208 := Safe.new sx208
    have ne_a2_t208 : a2 ≠ t208 := Nat.ne_of_lt (Nat.lt_of_lt_of_le c210.lt st_208)
    have ne_t2_t208 : t2 ≠ t208 := Nat.ne_of_lt (Nat.lt_of_lt_of_le c211.lt st_208)
    have ne_b101_t208 : b101 ≠ t208 := Nat.ne_of_lt (Nat.lt_of_lt_of_le c212.lt st_208)
    have ne_b107_t208 : b107 ≠ t208 := Nat.ne_of_lt (Nat.lt_of_lt_of_le A200.lt st_208)
    have ne_t116_t208 : t116 ≠ t208 := Nat.ne_of_lt (Nat.lt_of_lt_of_le c213.lt st_208)
    have ne_a125_t208 : a125 ≠ t208 := Nat.ne_of_lt (Nat.lt_of_lt_of_le c214.lt st_208)
    have ne_b125_t208 : b125 ≠ t208 := Nat.ne_of_lt (Nat.lt_of_lt_of_le c215.lt st_208)
    have ne_t138_t208 : t138 ≠ t208 := Nat.ne_of_lt (Nat.lt_of_lt_of_le B200.lt st_208)
    have gn_t208 : n0 ≤ t208 := Nat.le_trans c209 st_208
    have sz_t208 : h0.size ≤ t208 := Nat.le_trans c216.1 st_208
    have sn_t208 : Safe Z own_EL T125.vm T200.heap t208 := Safe.new st_208
    have c217 := (CHv.keep K208 sf0 c204)
    have c218 := (CHr.trans c205 (CHr.keep K208 sf0 c204))
    have c219 := (Nat.le_trans c206 K208.1)
    show own_Go p e below Pst (T208.setTop (mkF m' 26 #[.val (.ref a2)] [(.ref x208), (.ref o), (.ref b101), (.ref b101)]))
    have c220 := (c207.keep K208 all0)
    have c221 := (c212.keep K208)
    have c222 := (Unt.keep K208 nin0 (Unt.keep K200 (ninS ne_b101_b107 (ninS ne_b101_t138 nin0)) c149))
    have c223 := ((c158.keep K200 (ninS ne_b101_b107 (ninS ne_b101_t138 nin0))).keep K208 nin0)
    have c224 := ((c157.keep K200 (ninS ne_b101_b107 (ninS ne_b101_t138 nin0))).keep K208 nin0)
    have c225 := ((c160.keep K200 (ninS ne_b101_b107 (ninS ne_b101_t138 nin0))).keep K208 nin0)
    have c226 := ((c161.keep K200 (ninS ne_b101_b107 (ninS ne_b101_t138 nin0))).keep K208 nin0)
    have c228 := (Nat.le_trans c209 K208.1)
    refine own_cP X208 (X208.specialBack hx (y := Mn20) rfl hown125 (mvT hZ125 (g_ hw 176 rfl)) (mvT hZ125 (g_ hw 177 rfl)) (mvT hZ125 (g_ hw 178 rfl)) (by decide) (backOfKL (W := 1) (rm_r2 l Z a0 hw [] b101 o x208 .null (.int 0) T208.heap n0 c228 c220 hl r2 c221 c222 gn_b101 c223 c224 c225 c226) hZ125 (g_ hw 178 rfl) (g_ hw 39 rfl) (by decide) (by decide) (Vm.MethodsKnown.alikeC hS125.1.alike hK.1) (Vm.FramesKnown.alikeC hS125.1.alike hK.2)) (g := (mkF m' 26 #[.val (.ref a2)] [(.ref x208), (.ref o), (.ref b101), (.ref b101)])) rfl (by rw [hml]; rfl) (Steps.refl _) (a := b101) (argsL := [(.ref o), (.ref x208)]) (rest := [(.ref b101)]) (lenOf own_pd23 rfl) rfl (by show 2 * 0 + _ ≤ _; exact Nat.le_of_eq rfl) (dE 11 rfl) (fun _ _ => ⟨rfl, rfl, (by decide : 8 + 1 ≤ _), (by decide : 156 + 2752 ≤ _)⟩)) fun v227 T227 L227 X227 hQ227 => ?_
    obtain ⟨rfl, Nq227, K227, A227, G1227, G2227, G3227⟩ := hQ227
    have N227 := Fr.app N208 Nq227
    have c229 := (Safe.keep K208 sf0 c204 (Safe.keep K200 (sfS c202 (sfS c203 sf0)) c144 (Safe.keep K138 (sfS c130 sf0) c127 c129)))
    have c230 := (CHv.keep K227 (sfS c229 sf0) c217)
    have c231 := (CHr.trans c218 (CHr.keep K227 (sfS c229 sf0) c217))
    have c232 := (Nat.le_trans c219 K227.1)
    show own_Go p e below Pst (T227.setTop (mkF m' 29 #[.val (.ref a2)] [(.ref b101)]))
    have c233 := (B208.keep K227 (ninS (Ne.symm ne_b101_t208) nin0))
    have c234 := (Keep.trans (Keep.trans c216 K208 all0) K227 (allS (Or.inr sz_b101) all0))
    have c235 := (A208.keep K227)
    have c236 := (C208.keep K227 (ninS (Ne.symm ne_b101_x208) nin0))
    have c237 := (V208.keep K227 (ninS (Ne.symm ne_b101_x208) nin0))
    rw [hPst]
    exact own_retW X227 hS125 c232 (v := (some (.ref b101))) (Q := Q_uus Z z (1 : Int32) c1 c2 c3 o a2 t2 k2 h0 n0) (fun h => by rw [Bd.returns] at h; cases h) Bd.notSynchronized (fun fs hr => retOut X227 hx Bd.returns rfl (Or.inr (Or.inr (Or.inr (Or.inr ⟨rfl, rfl, rfl⟩)))) (dE 12 rfl) hr) (by decide) (by decide) (by rw [hh0]; exact CHr.trans c231 (CHv.at X227 hZ125 hEL c230)) ⟨_, rfl, N227, c234, sz_b101, A227, G1227, G2227, _, _, _, G3227, c235, c236, c237, (by rw [own_out1]; exact c233)⟩
  · rw [own_bs2] at c153
    have c239 := (Nat.le_trans c139 K138.1)
    obtain ⟨cq238, kq238, q238a, q238b, q238c⟩ := isOf hZ125 rfl A138
    refine own_cP X138 (X138.virtualBack hx (y := Mn0) (z := Mn0) hown125 (mvT hZ125 (g_ hw 67 rfl)) (mvT hZ125 (g_ hw 68 rfl)) (notFace_of_selects (args := #[]) (mvT hZ125 (g_ hw 70 rfl))) (mvT hZ125 (g_ hw 70 rfl)) (mvT hZ125 (g_ hw 69 rfl)) (by decide) (backOf (W := 3) (rm_sa2 l Z a0 hw [] z b107 t138 a2 t2 kb138 k2 ((nar .char c1).toInt8.toInt32) ((nar .char c2).toInt8.toInt32) T138.heap n0 c239 c147 SC hz A138 V138 C138 D138 B138 c148 c151 c152 c153 gn_b107 gn_t138 ne_a2_b107 ne_t2_t138) hZ125 (g_ hw 71 rfl) (g_ hw 48 rfl) (by decide) (by decide)) q238a q238c (g := (mkF m' 20 #[.val (.ref a2)] [(.ref a2), (.ref b107), (.ref o), (.ref b101), (.ref b101)])) rfl (by rw [hml]; rfl) (Steps.refl _) (argsL := [(.ref a2)]) (rest := [(.ref o), (.ref b101), (.ref b101)]) (lenOf own_pd21 rfl) rfl (by show 2 * 0 + _ ≤ _; exact Nat.le_of_eq rfl) (dE 9 rfl) (fun _ _ => ⟨rfl, rfl, (by decide : 6 + 0 ≤ _), (by decide : 134 + 0 ≤ _)⟩)) fun v238 T238 L238 X238 hQ238 => ?_
    obtain ⟨rfl, Nq238, K238, A238, C238, D238, V238, B238⟩ := hQ238
    have N238 := Fr.app N138 Nq238
    have c240 := (Safe.keep K138 (sfS c130 sf0) c127 c130)
    have c241 := (Safe.keep K138 (sfS c130 sf0) c127 sn_t138)
    have c242 := (CHv.keep K238 (sfS c240 (sfS c241 sf0)) c144)
    have c243 := (CHr.trans c145 (CHr.keep K238 (sfS c240 (sfS c241 sf0)) c144))
    have c244 := (Nat.le_trans c146 K238.1)
    show own_Go p e below Pst (T238.setTop (mkF m' 23 #[.val (.ref a2)] [(.ref b107), (.ref o), (.ref b101), (.ref b101)]))
    have c245 := (c147.keep K238 (allS gn_b107 (allS gn_t138 all0)))
    have c247 := (Nat.le_trans c239 K238.1)
    obtain ⟨cq246, kq246, q246a, q246b, q246c⟩ := isOf hZ125 rfl A238
    refine own_cP X238 (X238.virtualBack hx (y := Mn4) (z := Mn4) hown125 (mvT hZ125 (g_ hw 137 rfl)) (mvT hZ125 (g_ hw 138 rfl)) (notFace_of_selects (args := #[]) (mvT hZ125 (g_ hw 140 rfl))) (mvT hZ125 (g_ hw 140 rfl)) (mvT hZ125 (g_ hw 139 rfl)) (by decide) (backOf (W := 3) (rm_ts2 l Z a0 hw [] z b107 t138 kb138 ((nar .char c1).toInt8.toInt32) ((nar .char c2).toInt8.toInt32) T238.heap n0 c247 c245 SC hz A238 V238 C238 D238 B238) hZ125 (g_ hw 141 rfl) (g_ hw 48 rfl) (by decide) (by decide)) q246a q246c (g := (mkF m' 23 #[.val (.ref a2)] [(.ref b107), (.ref o), (.ref b101), (.ref b101)])) rfl (by rw [hml]; rfl) (Steps.refl _) (argsL := []) (rest := [(.ref o), (.ref b101), (.ref b101)]) (lenOf own_pd22 rfl) rfl (by show 2 * 0 + _ ≤ _; exact Nat.le_of_eq rfl) (dE 10 rfl) (fun _ _ => ⟨rfl, rfl, (by decide : 6 + 2 ≤ _), (by decide : 134 + 23 ≤ _)⟩)) fun v246 T246 L246 X246 hQ246 => ?_
    obtain ⟨x246, rfl, Nq246, K246, sx246, A246, C246, t246, kb246, st_246, V246, B246⟩ := hQ246
    have N246 := Fr.app N238 Nq246
    have c248 := (c148.keep K238)
    have ne_a2_x246 : a2 ≠ x246 := Nat.ne_of_lt (Nat.lt_of_lt_of_le c248.lt sx246)
    have c249 := (c153.keep K238 (ninS ne_t2_b107 (ninS ne_t2_t138 nin0)))
    have ne_t2_x246 : t2 ≠ x246 := Nat.ne_of_lt (Nat.lt_of_lt_of_le c249.lt sx246)
    have c250 := (c150.keep K238)
    have ne_b101_x246 : b101 ≠ x246 := Nat.ne_of_lt (Nat.lt_of_lt_of_le c250.lt sx246)
    have ne_b107_x246 : b107 ≠ x246 := Nat.ne_of_lt (Nat.lt_of_lt_of_le A238.lt sx246)
    have c251 := ((c137.keep K138 (ninS (Ne.symm ne_b107_t116) nin0)).keep K238 (ninS (Ne.symm ne_b107_t116) (ninS ne_t116_t138 nin0)))
    have ne_t116_x246 : t116 ≠ x246 := Nat.ne_of_lt (Nat.lt_of_lt_of_le c251.lt sx246)
    have c252 := ((A125.keep K138).keep K238)
    have ne_a125_x246 : a125 ≠ x246 := Nat.ne_of_lt (Nat.lt_of_lt_of_le c252.lt sx246)
    have c253 := ((K125.keep K138 (ninS (Ne.symm nl_b107_125.2) nin0)).keep K238 (ninS (Ne.symm nl_b107_125.2) (ninS ne_b125_t138 nin0)))
    have ne_b125_x246 : b125 ≠ x246 := Nat.ne_of_lt (Nat.lt_of_lt_of_le c253.lt sx246)
    have ne_t138_x246 : t138 ≠ x246 := Nat.ne_of_lt (Nat.lt_of_lt_of_le B238.lt sx246)
    have gn_x246 : n0 ≤ x246 := Nat.le_trans c247 sx246
    have c254 := (Keep.trans (Keep.trans c143 K138 (allS (Or.inr sz_b107) all0)) K238 (allS (Or.inr sz_b107) (allS (Or.inr sz_t138) all0)))
    have sz_x246 : h0.size ≤ x246 := Nat.le_trans c254.1 sx246
    have sn_x246 : Safe Z own_EL T125.vm T238.heap x246 := Safe.new sx246
    have ne_a2_t246 : a2 ≠ t246 := Nat.ne_of_lt (Nat.lt_of_lt_of_le c248.lt st_246)
    have ne_t2_t246 : t2 ≠ t246 := Nat.ne_of_lt (Nat.lt_of_lt_of_le c249.lt st_246)
    have ne_b101_t246 : b101 ≠ t246 := Nat.ne_of_lt (Nat.lt_of_lt_of_le c250.lt st_246)
    have ne_b107_t246 : b107 ≠ t246 := Nat.ne_of_lt (Nat.lt_of_lt_of_le A238.lt st_246)
    have ne_t116_t246 : t116 ≠ t246 := Nat.ne_of_lt (Nat.lt_of_lt_of_le c251.lt st_246)
    have ne_a125_t246 : a125 ≠ t246 := Nat.ne_of_lt (Nat.lt_of_lt_of_le c252.lt st_246)
    have ne_b125_t246 : b125 ≠ t246 := Nat.ne_of_lt (Nat.lt_of_lt_of_le c253.lt st_246)
    have ne_t138_t246 : t138 ≠ t246 := Nat.ne_of_lt (Nat.lt_of_lt_of_le B238.lt st_246)
    have gn_t246 : n0 ≤ t246 := Nat.le_trans c247 st_246
    have sz_t246 : h0.size ≤ t246 := Nat.le_trans c254.1 st_246
    have sn_t246 : Safe Z own_EL T125.vm T238.heap t246 := Safe.new st_246
    have c255 := (CHv.keep K246 sf0 c242)
    have c256 := (CHr.trans c243 (CHr.keep K246 sf0 c242))
    have c257 := (Nat.le_trans c244 K246.1)
    show own_Go p e below Pst (T246.setTop (mkF m' 26 #[.val (.ref a2)] [(.ref x246), (.ref o), (.ref b101), (.ref b101)]))
    have c258 := (c245.keep K246 all0)
    have c259 := (c250.keep K246)
    have c260 := (Unt.keep K246 nin0 (Unt.keep K238 (ninS ne_b101_b107 (ninS ne_b101_t138 nin0)) c149))
    have c261 := ((c158.keep K238 (ninS ne_b101_b107 (ninS ne_b101_t138 nin0))).keep K246 nin0)
    have c262 := ((c157.keep K238 (ninS ne_b101_b107 (ninS ne_b101_t138 nin0))).keep K246 nin0)
    have c263 := ((c160.keep K238 (ninS ne_b101_b107 (ninS ne_b101_t138 nin0))).keep K246 nin0)
    have c264 := ((c161.keep K238 (ninS ne_b101_b107 (ninS ne_b101_t138 nin0))).keep K246 nin0)
    have c266 := (Nat.le_trans c247 K246.1)
    refine own_cP X246 (X246.specialBack hx (y := Mn20) rfl hown125 (mvT hZ125 (g_ hw 176 rfl)) (mvT hZ125 (g_ hw 177 rfl)) (mvT hZ125 (g_ hw 178 rfl)) (by decide) (backOfKL (W := 1) (rm_r2 l Z a0 hw [] b101 o x246 .null (.int 0) T246.heap n0 c266 c258 hl r2 c259 c260 gn_b101 c261 c262 c263 c264) hZ125 (g_ hw 178 rfl) (g_ hw 39 rfl) (by decide) (by decide) (Vm.MethodsKnown.alikeC hS125.1.alike hK.1) (Vm.FramesKnown.alikeC hS125.1.alike hK.2)) (g := (mkF m' 26 #[.val (.ref a2)] [(.ref x246), (.ref o), (.ref b101), (.ref b101)])) rfl (by rw [hml]; rfl) (Steps.refl _) (a := b101) (argsL := [(.ref o), (.ref x246)]) (rest := [(.ref b101)]) (lenOf own_pd23 rfl) rfl (by show 2 * 0 + _ ≤ _; exact Nat.le_of_eq rfl) (dE 11 rfl) (fun _ _ => ⟨rfl, rfl, (by decide : 8 + 1 ≤ _), (by decide : 157 + 2752 ≤ _)⟩)) fun v265 T265 L265 X265 hQ265 => ?_
    obtain ⟨rfl, Nq265, K265, A265, G1265, G2265, G3265⟩ := hQ265
    have N265 := Fr.app N246 Nq265
    have c267 := (Safe.keep K246 sf0 c242 (Safe.keep K238 (sfS c240 (sfS c241 sf0)) c144 (Safe.keep K138 (sfS c130 sf0) c127 c129)))
    have c268 := (CHv.keep K265 (sfS c267 sf0) c255)
    have c269 := (CHr.trans c256 (CHr.keep K265 (sfS c267 sf0) c255))
    have c270 := (Nat.le_trans c257 K265.1)
    show own_Go p e below Pst (T265.setTop (mkF m' 29 #[.val (.ref a2)] [(.ref b101)]))
    have c271 := (B246.keep K265 (ninS (Ne.symm ne_b101_t246) nin0))
    have c272 := (Keep.trans (Keep.trans c254 K246 all0) K265 (allS (Or.inr sz_b101) all0))
    have c273 := (A246.keep K265)
    have c274 := (C246.keep K265 (ninS (Ne.symm ne_b101_x246) nin0))
    have c275 := (V246.keep K265 (ninS (Ne.symm ne_b101_x246) nin0))
    rw [hPst]
    exact own_retW X265 hS125 c270 (v := (some (.ref b101))) (Q := Q_uus Z z (2 : Int32) c1 c2 c3 o a2 t2 k2 h0 n0) (fun h => by rw [Bd.returns] at h; cases h) Bd.notSynchronized (fun fs hr => retOut X265 hx Bd.returns rfl (Or.inr (Or.inr (Or.inr (Or.inr ⟨rfl, rfl, rfl⟩)))) (dE 12 rfl) hr) (by decide) (by decide) (by rw [hh0]; exact CHr.trans c269 (CHv.at X265 hZ125 hEL c268)) ⟨_, rfl, N265, c272, sz_b101, A265, G1265, G2265, _, _, _, G3265, c273, c274, c275, (by rw [own_out2]; exact c271)⟩
  · rw [own_bs3] at c153
    have c277 := (Nat.le_trans c139 K138.1)
    obtain ⟨cq276, kq276, q276a, q276b, q276c⟩ := isOf hZ125 rfl A138
    refine own_cP X138 (X138.virtualBack hx (y := Mn0) (z := Mn0) hown125 (mvT hZ125 (g_ hw 67 rfl)) (mvT hZ125 (g_ hw 68 rfl)) (notFace_of_selects (args := #[]) (mvT hZ125 (g_ hw 70 rfl))) (mvT hZ125 (g_ hw 70 rfl)) (mvT hZ125 (g_ hw 69 rfl)) (by decide) (backOf (W := 3) (rm_sa3 l Z a0 hw [] z b107 t138 a2 t2 kb138 k2 ((nar .char c1).toInt8.toInt32) ((nar .char c2).toInt8.toInt32) ((nar .char c3).toInt8.toInt32) T138.heap n0 c277 c147 SC hz A138 V138 C138 D138 B138 c148 c151 c152 c153 gn_b107 gn_t138 ne_a2_b107 ne_t2_t138) hZ125 (g_ hw 71 rfl) (g_ hw 48 rfl) (by decide) (by decide)) q276a q276c (g := (mkF m' 20 #[.val (.ref a2)] [(.ref a2), (.ref b107), (.ref o), (.ref b101), (.ref b101)])) rfl (by rw [hml]; rfl) (Steps.refl _) (argsL := [(.ref a2)]) (rest := [(.ref o), (.ref b101), (.ref b101)]) (lenOf own_pd21 rfl) rfl (by show 2 * 0 + _ ≤ _; exact Nat.le_of_eq rfl) (dE 9 rfl) (fun _ _ => ⟨rfl, rfl, (by decide : 6 + 0 ≤ _), (by decide : 134 + 0 ≤ _)⟩)) fun v276 T276 L276 X276 hQ276 => ?_
    obtain ⟨rfl, Nq276, K276, A276, C276, D276, V276, B276⟩ := hQ276
    have N276 := Fr.app N138 Nq276
    have c278 := (Safe.keep K138 (sfS c130 sf0) c127 c130)
    have c279 := (Safe.keep K138 (sfS c130 sf0) c127 sn_t138)
    have c280 := (CHv.keep K276 (sfS c278 (sfS c279 sf0)) c144)
    have c281 := (CHr.trans c145 (CHr.keep K276 (sfS c278 (sfS c279 sf0)) c144))
    have c282 := (Nat.le_trans c146 K276.1)
    show own_Go p e below Pst (T276.setTop (mkF m' 23 #[.val (.ref a2)] [(.ref b107), (.ref o), (.ref b101), (.ref b101)]))
    have c283 := (c147.keep K276 (allS gn_b107 (allS gn_t138 all0)))
    have c285 := (Nat.le_trans c277 K276.1)
    obtain ⟨cq284, kq284, q284a, q284b, q284c⟩ := isOf hZ125 rfl A276
    refine own_cP X276 (X276.virtualBack hx (y := Mn4) (z := Mn4) hown125 (mvT hZ125 (g_ hw 137 rfl)) (mvT hZ125 (g_ hw 138 rfl)) (notFace_of_selects (args := #[]) (mvT hZ125 (g_ hw 140 rfl))) (mvT hZ125 (g_ hw 140 rfl)) (mvT hZ125 (g_ hw 139 rfl)) (by decide) (backOf (W := 3) (rm_ts3 l Z a0 hw [] z b107 t138 kb138 ((nar .char c1).toInt8.toInt32) ((nar .char c2).toInt8.toInt32) ((nar .char c3).toInt8.toInt32) T276.heap n0 c285 c283 SC hz A276 V276 C276 D276 B276) hZ125 (g_ hw 141 rfl) (g_ hw 48 rfl) (by decide) (by decide)) q284a q284c (g := (mkF m' 23 #[.val (.ref a2)] [(.ref b107), (.ref o), (.ref b101), (.ref b101)])) rfl (by rw [hml]; rfl) (Steps.refl _) (argsL := []) (rest := [(.ref o), (.ref b101), (.ref b101)]) (lenOf own_pd22 rfl) rfl (by show 2 * 0 + _ ≤ _; exact Nat.le_of_eq rfl) (dE 10 rfl) (fun _ _ => ⟨rfl, rfl, (by decide : 6 + 2 ≤ _), (by decide : 134 + 24 ≤ _)⟩)) fun v284 T284 L284 X284 hQ284 => ?_
    obtain ⟨x284, rfl, Nq284, K284, sx284, A284, C284, t284, kb284, st_284, V284, B284⟩ := hQ284
    have N284 := Fr.app N276 Nq284
    have c286 := (c148.keep K276)
    have ne_a2_x284 : a2 ≠ x284 := Nat.ne_of_lt (Nat.lt_of_lt_of_le c286.lt sx284)
    have c287 := (c153.keep K276 (ninS ne_t2_b107 (ninS ne_t2_t138 nin0)))
    have ne_t2_x284 : t2 ≠ x284 := Nat.ne_of_lt (Nat.lt_of_lt_of_le c287.lt sx284)
    have c288 := (c150.keep K276)
    have ne_b101_x284 : b101 ≠ x284 := Nat.ne_of_lt (Nat.lt_of_lt_of_le c288.lt sx284)
    have ne_b107_x284 : b107 ≠ x284 := Nat.ne_of_lt (Nat.lt_of_lt_of_le A276.lt sx284)
    have c289 := ((c137.keep K138 (ninS (Ne.symm ne_b107_t116) nin0)).keep K276 (ninS (Ne.symm ne_b107_t116) (ninS ne_t116_t138 nin0)))
    have ne_t116_x284 : t116 ≠ x284 := Nat.ne_of_lt (Nat.lt_of_lt_of_le c289.lt sx284)
    have c290 := ((A125.keep K138).keep K276)
    have ne_a125_x284 : a125 ≠ x284 := Nat.ne_of_lt (Nat.lt_of_lt_of_le c290.lt sx284)
    have c291 := ((K125.keep K138 (ninS (Ne.symm nl_b107_125.2) nin0)).keep K276 (ninS (Ne.symm nl_b107_125.2) (ninS ne_b125_t138 nin0)))
    have ne_b125_x284 : b125 ≠ x284 := Nat.ne_of_lt (Nat.lt_of_lt_of_le c291.lt sx284)
    have ne_t138_x284 : t138 ≠ x284 := Nat.ne_of_lt (Nat.lt_of_lt_of_le B276.lt sx284)
    have gn_x284 : n0 ≤ x284 := Nat.le_trans c285 sx284
    have c292 := (Keep.trans (Keep.trans c143 K138 (allS (Or.inr sz_b107) all0)) K276 (allS (Or.inr sz_b107) (allS (Or.inr sz_t138) all0)))
    have sz_x284 : h0.size ≤ x284 := Nat.le_trans c292.1 sx284
    have sn_x284 : Safe Z own_EL T125.vm T276.heap x284 := Safe.new sx284
    have ne_a2_t284 : a2 ≠ t284 := Nat.ne_of_lt (Nat.lt_of_lt_of_le c286.lt st_284)
    have ne_t2_t284 : t2 ≠ t284 := Nat.ne_of_lt (Nat.lt_of_lt_of_le c287.lt st_284)
    have ne_b101_t284 : b101 ≠ t284 := Nat.ne_of_lt (Nat.lt_of_lt_of_le c288.lt st_284)
    have ne_b107_t284 : b107 ≠ t284 := Nat.ne_of_lt (Nat.lt_of_lt_of_le A276.lt st_284)
    have ne_t116_t284 : t116 ≠ t284 := Nat.ne_of_lt (Nat.lt_of_lt_of_le c289.lt st_284)
    have ne_a125_t284 : a125 ≠ t284 := Nat.ne_of_lt (Nat.lt_of_lt_of_le c290.lt st_284)
    have ne_b125_t284 : b125 ≠ t284 := Nat.ne_of_lt (Nat.lt_of_lt_of_le c291.lt st_284)
    have ne_t138_t284 : t138 ≠ t284 := Nat.ne_of_lt (Nat.lt_of_lt_of_le B276.lt st_284)
    have gn_t284 : n0 ≤ t284 := Nat.le_trans c285 st_284
    have sz_t284 : h0.size ≤ t284 := Nat.le_trans c292.1 st_284
    have sn_t284 : Safe Z own_EL T125.vm T276.heap t284 := Safe.new st_284
    have c293 := (CHv.keep K284 sf0 c280)
    have c294 := (CHr.trans c281 (CHr.keep K284 sf0 c280))
    have c295 := (Nat.le_trans c282 K284.1)
    show own_Go p e below Pst (T284.setTop (mkF m' 26 #[.val (.ref a2)] [(.ref x284), (.ref o), (.ref b101), (.ref b101)]))
    have c296 := (c283.keep K284 all0)
    have c297 := (c288.keep K284)
    have c298 := (Unt.keep K284 nin0 (Unt.keep K276 (ninS ne_b101_b107 (ninS ne_b101_t138 nin0)) c149))
    have c299 := ((c158.keep K276 (ninS ne_b101_b107 (ninS ne_b101_t138 nin0))).keep K284 nin0)
    have c300 := ((c157.keep K276 (ninS ne_b101_b107 (ninS ne_b101_t138 nin0))).keep K284 nin0)
    have c301 := ((c160.keep K276 (ninS ne_b101_b107 (ninS ne_b101_t138 nin0))).keep K284 nin0)
    have c302 := ((c161.keep K276 (ninS ne_b101_b107 (ninS ne_b101_t138 nin0))).keep K284 nin0)
    have c304 := (Nat.le_trans c285 K284.1)
    refine own_cP X284 (X284.specialBack hx (y := Mn20) rfl hown125 (mvT hZ125 (g_ hw 176 rfl)) (mvT hZ125 (g_ hw 177 rfl)) (mvT hZ125 (g_ hw 178 rfl)) (by decide) (backOfKL (W := 1) (rm_r2 l Z a0 hw [] b101 o x284 .null (.int 0) T284.heap n0 c304 c296 hl r2 c297 c298 gn_b101 c299 c300 c301 c302) hZ125 (g_ hw 178 rfl) (g_ hw 39 rfl) (by decide) (by decide) (Vm.MethodsKnown.alikeC hS125.1.alike hK.1) (Vm.FramesKnown.alikeC hS125.1.alike hK.2)) (g := (mkF m' 26 #[.val (.ref a2)] [(.ref x284), (.ref o), (.ref b101), (.ref b101)])) rfl (by rw [hml]; rfl) (Steps.refl _) (a := b101) (argsL := [(.ref o), (.ref x284)]) (rest := [(.ref b101)]) (lenOf own_pd23 rfl) rfl (by show 2 * 0 + _ ≤ _; exact Nat.le_of_eq rfl) (dE 11 rfl) (fun _ _ => ⟨rfl, rfl, (by decide : 8 + 1 ≤ _), (by decide : 158 + 2752 ≤ _)⟩)) fun v303 T303 L303 X303 hQ303 => ?_
    obtain ⟨rfl, Nq303, K303, A303, G1303, G2303, G3303⟩ := hQ303
    have N303 := Fr.app N284 Nq303
    have c305 := (Safe.keep K284 sf0 c280 (Safe.keep K276 (sfS c278 (sfS c279 sf0)) c144 (Safe.keep K138 (sfS c130 sf0) c127 c129)))
    have c306 := (CHv.keep K303 (sfS c305 sf0) c293)
    have c307 := (CHr.trans c294 (CHr.keep K303 (sfS c305 sf0) c293))
    have c308 := (Nat.le_trans c295 K303.1)
    show own_Go p e below Pst (T303.setTop (mkF m' 29 #[.val (.ref a2)] [(.ref b101)]))
    have c309 := (B284.keep K303 (ninS (Ne.symm ne_b101_t284) nin0))
    have c310 := (Keep.trans (Keep.trans c292 K284 all0) K303 (allS (Or.inr sz_b101) all0))
    have c311 := (A284.keep K303)
    have c312 := (C284.keep K303 (ninS (Ne.symm ne_b101_x284) nin0))
    have c313 := (V284.keep K303 (ninS (Ne.symm ne_b101_x284) nin0))
    rw [hPst]
    exact own_retW X303 hS125 c308 (v := (some (.ref b101))) (Q := Q_uus Z z (3 : Int32) c1 c2 c3 o a2 t2 k2 h0 n0) (fun h => by rw [Bd.returns] at h; cases h) Bd.notSynchronized (fun fs hr => retOut X303 hx Bd.returns rfl (Or.inr (Or.inr (Or.inr (Or.inr ⟨rfl, rfl, rfl⟩)))) (dE 12 rfl) hr) (by decide) (by decide) (by rw [hh0]; exact CHr.trans c307 (CHv.at X303 hZ125 hEL c306)) ⟨_, rfl, N303, c310, sz_b101, A303, G1303, G2303, _, _, _, G3303, c311, c312, c313, (by rw [own_out3]; exact c309)⟩
theorem own_ef_N_1 (m : MethodId)  : entryFrame m #[.null] 1 = mkF m 0 #[.val .null] [] := by first | (simp [entryFrame, mkF, argsToLocals, Value.category]; done) | rfl
def Q_uun (Z : State) (z : Int32) (o : Addr) (h0 : Heap) (n0 : Nat) (v : Option Value) (h : Heap) (L : List Loc) : Prop := ∃ x : Addr, v = some (.ref x) ∧ Fr n0 L ∧ Keep h0 h [] ∧ h0.size ≤ x ∧ Exa Z h x "com/example/shard_feed/shardfeed/Refusal" ∧ Fld Z h x "com/example/shard_feed/shardfeed/Refusal" "reason" "Lcom/example/shard_feed/shardfeed/Refusal$Reason;" (.ref o) ∧ Fld Z h x "com/example/shard_feed/shardfeed/Refusal" "line" "I" (.int (0 : Int32)) ∧ ∃ (ms t : Addr) (kb : ClassId), Fld Z h x "java/lang/Throwable" "detailMessage" "Ljava/lang/String;" (.ref ms) ∧ Exa Z h ms "java/lang/String" ∧ Fld Z h ms "java/lang/String" "coder" "B" (.int (0 : Int32)) ∧ Fld Z h ms "java/lang/String" "value" "[B" (.ref t) ∧ Arv Z h t kb .byte (21 : Int32) own_on (.int (0 : Int32))
theorem rm_uun (l : Launch) (Z : State) (a0 : Array Value) (hw : own_H a0 Z) (ws : List Jvm.Cond) (z : Int32) (o : Addr) (h0 : Heap) (n0 : Nat) (Z0 : n0 ≤ h0.size) (O : Old Z n0 h0) (SC : Sta Z Z.heap "java/lang/String" "COMPACT_STRINGS" "Z" (.int z)) (hz : ¬ z = 0) (hl : l.stackTraces = true) (r2 : ∀ d ∈ twoRefs, d.before a0 Z = true) (SR : Sta Z Z.heap "com/example/shard_feed/shardfeed/Refusal$Reason" "UNKNOWN_USER" "Lcom/example/shard_feed/shardfeed/Refusal$Reason;" (.ref o)) : own_MS own_EL l Mn24 prog_9_method_3_code 1 (some (.object "com/example/shard_feed/shardfeed/Refusal")) ws ({ frames := 8, cells := 9, slots := 2990, locals := 130 } : Room) Z h0 #[.null] (fun _ _ bl s _ => s.vm.MethodsKnown ∧ s.vm.FramesKnown bl) (Q_uun Z z o h0 n0) := by
  refine own_startS (plainFor_of_name own_pn_com_example_shard_feed_shardfeed_Refusal) fun p e s m below meth c s₁ Bd hx hby hml hown0 X0 e0 hh0 hZ hCH0 hS0 hK Pst hPst => ?_
  have dE := own_E hby own_D9
  have hown : s.vm.findClass "com/example/shard_feed/shardfeed/Refusal" = some m.cls := hown0
  have hnm := (name_of_methodNamed Bd.named Bd.method).1
  have N0 := Fr.nil n0
  have hk0 : 0 ≤ h0.size := Nat.zero_le _
  have hEL := own_hEL Z a0 hw
  rw [own_ef_N_1 m ]
  refine p_newO X0 hx hZ hown (g_ hw 41 rfl) (g_ hw 42 rfl) (g_ hw 39 rfl) e0 (dE 0 rfl) (by decide) (by decide) fun T101 h101 b101 g101 X101 e101 E101 A101 D101 U101 => ?_
  have gn_b101 : n0 ≤ b101 := Nat.le_trans Z0 (Nat.le_of_eq g101.symm)
  have sz_b101 : h0.size ≤ b101 := Nat.le_trans (Keep.refl h0 []).1 (Nat.le_of_eq g101.symm)
  have sf_b101 := Safe.ext E101 hCH0 (Safe.new (Nat.le_of_eq g101.symm))
  have c102 := (CHv.ext E101 hCH0)
  have c103 := (CHr.trans (CHr.refl hCH0) (CHr.ext E101 hCH0))
  have c104 := (Nat.le_trans hk0 E101.1)
  have Un101 : Unt h101 b101 := U101
  have f101_cause : Fld Z h101 b101 "java/lang/Throwable" "cause" "Ljava/lang/Throwable;" .null := D101 (Or.inl (g_ hw 201 rfl)) (ty := (.object "java/lang/Throwable")) (by decide)
  have f101_stackTrace : Fld Z h101 b101 "java/lang/Throwable" "stackTrace" "[Ljava/lang/StackTraceElement;" .null := D101 (Or.inl (g_ hw 204 rfl)) (ty := (.array (.object "java/lang/StackTraceElement"))) (by decide)
  have f101_suppressedExceptions : Fld Z h101 b101 "java/lang/Throwable" "suppressedExceptions" "Ljava/util/List;" .null := D101 (Or.inl (g_ hw 207 rfl)) (ty := (.object "java/util/List")) (by decide)
  have f101_detailMessage : Fld Z h101 b101 "java/lang/Throwable" "detailMessage" "Ljava/lang/String;" .null := D101 (Or.inl (g_ hw 231 rfl)) (ty := (.object "java/lang/String")) (by decide)
  have f101_backtrace : Fld Z h101 b101 "java/lang/Throwable" "backtrace" "Ljava/lang/Object;" .null := D101 (Or.inl (g_ hw 232 rfl)) (ty := (.object "java/lang/Object")) (by decide)
  have f101_depth : Fld Z h101 b101 "java/lang/Throwable" "depth" "I" (.int (0 : Int32)) := D101 (Or.inl (g_ hw 233 rfl)) (ty := .int) (by decide)
  have f101_reason : Fld Z h101 b101 "com/example/shard_feed/shardfeed/Refusal" "reason" "Lcom/example/shard_feed/shardfeed/Refusal$Reason;" .null := D101 (Or.inr (g_ hw 237 rfl)) (ty := (.object "com/example/shard_feed/shardfeed/Refusal$Reason")) (by decide)
  have f101_line : Fld Z h101 b101 "com/example/shard_feed/shardfeed/Refusal" "line" "I" (.int (0 : Int32)) := D101 (Or.inr (g_ hw 239 rfl)) (ty := .int) (by decide)
  refine o_dup X101.here hx (dE 1 rfl) rfl rfl ?_
  have c105 := (O.ext E101)
  refine p_getS2 X101 hx hZ hown (host := "") (Or.inl (g_ hw 43 rfl)) Via.refl e101 (SR.ext c105.2) (dE 2 rfl) fun T106 X106 e106 => ?_
  have c108 := (Nat.le_trans Z0 E101.1)
  have c109 := ((Keep.refl h0 []).ext E101)
  refine p_newO X106 hx hZ hown (g_ hw 46 rfl) (g_ hw 47 rfl) (g_ hw 48 rfl) e106 (dE 3 rfl) (by decide) (by decide) fun T107 h107 b107 g107 X107 e107 E107 A107 D107 U107 => ?_
  have ne_b101_b107 : b101 ≠ b107 := Nat.ne_of_lt (Nat.lt_of_lt_of_le A101.lt (Nat.le_of_eq g107.symm))
  have gn_b107 : n0 ≤ b107 := Nat.le_trans c108 (Nat.le_of_eq g107.symm)
  have sz_b107 : h0.size ≤ b107 := Nat.le_trans c109.1 (Nat.le_of_eq g107.symm)
  have sf_b107 := Safe.ext E107 c102 (Safe.new (Nat.le_of_eq g107.symm))
  have c110 := (CHv.ext E107 c102)
  have c111 := (CHr.trans c103 (CHr.ext E107 c102))
  have c112 := (Nat.le_trans c104 E107.1)
  have Un107 : Unt h107 b107 := U107
  have f107_value : Fld Z h107 b107 "java/lang/AbstractStringBuilder" "value" "[B" .null := D107 (Or.inl (g_ hw 61 rfl)) (ty := (.array .byte)) (by decide)
  have f107_coder : Fld Z h107 b107 "java/lang/AbstractStringBuilder" "coder" "B" (.int (0 : Int32)) := D107 (Or.inl (g_ hw 63 rfl)) (ty := .byte) (by decide)
  have f107_count : Fld Z h107 b107 "java/lang/AbstractStringBuilder" "count" "I" (.int (0 : Int32)) := D107 (Or.inl (g_ hw 88 rfl)) (ty := .int) (by decide)
  refine o_dup X107.here hx (dE 4 rfl) rfl rfl ?_
  have c113 := (c105.ext E107)
  have c115 := (Nat.le_trans c108 E107.1)
  refine own_cP X107 (X107.specialBack hx (y := Mn25) rfl hown (mvT hZ (g_ hw 49 rfl)) (mvT hZ (g_ hw 50 rfl)) (mvT hZ (g_ hw 51 rfl)) (by decide) (backOf (W := 4) (rm_sbi l Z a0 hw [] z b107 .null (.int 0) h107 n0 c115 c113 SC hz A107 gn_b107 f107_value f107_coder f107_count) hZ (g_ hw 51 rfl) (g_ hw 48 rfl) (by decide) (by decide)) (g := (mkF m 11 #[.val .null] [(.ref b107), (.ref b107), (.ref o), (.ref b101), (.ref b101)])) rfl (by rw [hml]; rfl) (Steps.refl _) (a := b107) (argsL := []) (rest := [(.ref b107), (.ref o), (.ref b101), (.ref b101)]) (lenOf own_pd20 rfl) rfl (by show 2 * 0 + _ ≤ _; exact Nat.le_of_eq rfl) (dE 5 rfl) (fun _ _ => ⟨rfl, e107, (by decide : 2 + 1 ≤ _), (by decide : 12 + 16 ≤ _)⟩)) fun v114 T114 L114 X114 hQ114 => ?_
  obtain ⟨rfl, Nq114, K114, A114, C114, D114, t114, kb114, st_114, V114, B114⟩ := hQ114
  have N114 := Fr.app N0 Nq114
  have c116 := (A101.ext E107)
  have ne_b101_t114 : b101 ≠ t114 := Nat.ne_of_lt (Nat.lt_of_lt_of_le c116.lt st_114)
  have ne_b107_t114 : b107 ≠ t114 := Nat.ne_of_lt (Nat.lt_of_lt_of_le A107.lt st_114)
  have gn_t114 : n0 ≤ t114 := Nat.le_trans c115 st_114
  have c117 := (c109.ext E107)
  have sz_t114 : h0.size ≤ t114 := Nat.le_trans c117.1 st_114
  have sn_t114 : Safe Z own_EL s.vm h107 t114 := Safe.new st_114
  have c118 := (CHv.keep K114 (sfS sf_b107 sf0) c110)
  have c119 := (CHr.trans c111 (CHr.keep K114 (sfS sf_b107 sf0) c110))
  have c120 := (Nat.le_trans c112 K114.1)
  show own_Go p e below Pst (T114.setTop (mkF m 14 #[.val .null] [(.ref b107), (.ref o), (.ref b101), (.ref b101)]))
  have c122 := (c116.keep K114)
  obtain ⟨a121, T121, h121, j121, b121, k121, X121, e121, E121, hS121, hk121, hZ121, hown121, A121, C121, V121, K121, la121, lb121, cr121, lit121, sn121, st121⟩ := ldcCH X114 hx hZ hown (g_ hw 64 rfl) (own_wS Z a0 hw) rfl hS0 c120 hEL (List.mem_of_getElem? (i := 0) rfl) c118 (vs := own_l17) (z := (17 : Int32)) own_txt_17 (by decide) rfl (g := (mkF m 14 #[.val .null] [(.ref b107), (.ref o), (.ref b101), (.ref b101)])) rfl (dE 6 rfl) (n := 68) (by decide) (by decide) (by decide) (by decide)
  refine own_Go.of st121 ?_
  have c123 := cr121.1
  have c124 := (CHr.trans c119 cr121)
  have c125 := (cr121.safe c122.lt (Safe.keep K114 (sfS sf_b107 sf0) c110 (Safe.ext E107 c102 sf_b101)))
  have nl_b101_121 := sn121 _ c125
  have c126 := (cr121.safe A114.lt (Safe.keep K114 (sfS sf_b107 sf0) c110 sf_b107))
  have nl_b107_121 := sn121 _ c126
  have c127 := (cr121.safe B114.lt (Safe.keep K114 (sfS sf_b107 sf0) c110 sn_t114))
  have nl_t114_121 := sn121 _ c127
  show own_Go p e below Pst (T121.setTop (mkF m 16 #[.val .null] [(.ref a121), (.ref b107), (.ref o), (.ref b101), (.ref b101)]))
  have c128 := ((c113.keep K114 (allS gn_b107 all0)).ext E121)
  have c129 := (A114.ext E121)
  have c130 := (V114.ext E121)
  have c131 := (C114.ext E121)
  have c132 := (D114.ext E121)
  have c133 := (B114.ext E121)
  have c135 := (Nat.le_trans (Nat.le_trans c115 K114.1) E121.1)
  obtain ⟨cq134, kq134, q134a, q134b, q134c⟩ := isOf hZ121 e121 c129
  refine own_cP X121 (X121.virtualBack hx (y := Mn0) (z := Mn0) hown121 (mvT hZ121 (g_ hw 67 rfl)) (mvT hZ121 (g_ hw 68 rfl)) (notFace_of_selects (args := #[]) (mvT hZ121 (g_ hw 70 rfl))) (mvT hZ121 (g_ hw 70 rfl)) (mvT hZ121 (g_ hw 69 rfl)) (by decide) (backOf (W := 3) (rm_saL l Z a0 hw [] z b107 t114 a121 b121 kb114 k121 h121 n0 c135 c128 SC hz c129 c130 c131 c132 c133 A121 V121 C121 K121 gn_b107 gn_t114 (Ne.symm nl_b107_121.1) (Ne.symm nl_t114_121.2)) hZ121 (g_ hw 71 rfl) (g_ hw 48 rfl) (by decide) (by decide)) q134a q134c (g := (mkF m 16 #[.val .null] [(.ref a121), (.ref b107), (.ref o), (.ref b101), (.ref b101)])) rfl (by rw [hml]; rfl) (Steps.refl _) (argsL := [(.ref a121)]) (rest := [(.ref o), (.ref b101), (.ref b101)]) (lenOf own_pd21 rfl) rfl (by show 2 * 0 + _ ≤ _; exact Nat.le_of_eq rfl) (dE 7 rfl) (fun _ _ => ⟨rfl, e121, (by decide : 5 + 1 ≤ _), (by decide : 100 + 34 ≤ _)⟩)) fun v134 T134 L134 X134 hQ134 => ?_
  obtain ⟨rfl, Nq134, K134, A134, C134, D134, t134, kb134, st_134, V134, B134⟩ := hQ134
  have N134 := Fr.app N114 Nq134
  have c136 := (c122.ext E121)
  have ne_b101_t134 : b101 ≠ t134 := Nat.ne_of_lt (Nat.lt_of_lt_of_le c136.lt st_134)
  have ne_b107_t134 : b107 ≠ t134 := Nat.ne_of_lt (Nat.lt_of_lt_of_le c129.lt st_134)
  have ne_t114_t134 : t114 ≠ t134 := Nat.ne_of_lt (Nat.lt_of_lt_of_le c133.lt st_134)
  have ne_a121_t134 : a121 ≠ t134 := Nat.ne_of_lt (Nat.lt_of_lt_of_le A121.lt st_134)
  have ne_b121_t134 : b121 ≠ t134 := Nat.ne_of_lt (Nat.lt_of_lt_of_le K121.lt st_134)
  have gn_t134 : n0 ≤ t134 := Nat.le_trans c135 st_134
  have c137 := ((Keep.trans c117 K114 (allS (Or.inr sz_b107) all0)).ext E121)
  have sz_t134 : h0.size ≤ t134 := Nat.le_trans c137.1 st_134
  have sn_t134 : Safe Z own_EL T121.vm h121 t134 := Safe.new st_134
  have c138 := (CHv.keep K134 (sfS c126 sf0) c123)
  have c139 := (CHr.trans c124 (CHr.keep K134 (sfS c126 sf0) c123))
  have c140 := (Nat.le_trans hk121 K134.1)
  show own_Go p e below Pst (T134.setTop (mkF m 19 #[.val .null] [(.ref b107), (.ref o), (.ref b101), (.ref b101)]))
  refine o_aloadN X134.here hx (dE 8 rfl) rfl rfl ?_
  have c141 := (c128.keep K134 (allS gn_b107 all0))
  have c143 := (Nat.le_trans c135 K134.1)
  obtain ⟨cq142, kq142, q142a, q142b, q142c⟩ := isOf hZ121 rfl A134
  refine own_cP X134 (X134.virtualBack hx (y := Mn0) (z := Mn0) hown121 (mvT hZ121 (g_ hw 67 rfl)) (mvT hZ121 (g_ hw 68 rfl)) (notFace_of_selects (args := #[]) (mvT hZ121 (g_ hw 70 rfl))) (mvT hZ121 (g_ hw 70 rfl)) (mvT hZ121 (g_ hw 69 rfl)) (by decide) (backOf (W := 3) (rm_san l Z a0 hw [] z b107 t134 kb134 T134.heap n0 c143 c141 SC hz A134 V134 C134 D134 B134 gn_b107 gn_t134) hZ121 (g_ hw 71 rfl) (g_ hw 48 rfl) (by decide) (by decide)) q142a q142c (g := (mkF m 20 #[.val .null] [.null, (.ref b107), (.ref o), (.ref b101), (.ref b101)])) rfl (by rw [hml]; rfl) (Steps.refl _) (argsL := [.null]) (rest := [(.ref o), (.ref b101), (.ref b101)]) (lenOf own_pd21 rfl) rfl (by show 2 * 0 + _ ≤ _; exact Nat.le_of_eq rfl) (dE 9 rfl) (fun _ _ => ⟨rfl, rfl, (by decide : 6 + 0 ≤ _), (by decide : 134 + 0 ≤ _)⟩)) fun v142 T142 L142 X142 hQ142 => ?_
  obtain ⟨rfl, Nq142, K142, A142, C142, D142, V142, B142⟩ := hQ142
  have N142 := Fr.app N134 Nq142
  have c144 := (Safe.keep K134 (sfS c126 sf0) c123 c126)
  have c145 := (Safe.keep K134 (sfS c126 sf0) c123 sn_t134)
  have c146 := (CHv.keep K142 (sfS c144 (sfS c145 sf0)) c138)
  have c147 := (CHr.trans c139 (CHr.keep K142 (sfS c144 (sfS c145 sf0)) c138))
  have c148 := (Nat.le_trans c140 K142.1)
  show own_Go p e below Pst (T142.setTop (mkF m 23 #[.val .null] [(.ref b107), (.ref o), (.ref b101), (.ref b101)]))
  have c149 := (c141.keep K142 (allS gn_b107 (allS gn_t134 all0)))
  have c151 := (Nat.le_trans c143 K142.1)
  obtain ⟨cq150, kq150, q150a, q150b, q150c⟩ := isOf hZ121 rfl A142
  refine own_cP X142 (X142.virtualBack hx (y := Mn4) (z := Mn4) hown121 (mvT hZ121 (g_ hw 137 rfl)) (mvT hZ121 (g_ hw 138 rfl)) (notFace_of_selects (args := #[]) (mvT hZ121 (g_ hw 140 rfl))) (mvT hZ121 (g_ hw 140 rfl)) (mvT hZ121 (g_ hw 139 rfl)) (by decide) (backOf (W := 3) (rm_tsn l Z a0 hw [] z b107 t134 kb134  T142.heap n0 c151 c149 SC hz A142 V142 C142 D142 B142) hZ121 (g_ hw 141 rfl) (g_ hw 48 rfl) (by decide) (by decide)) q150a q150c (g := (mkF m 23 #[.val .null] [(.ref b107), (.ref o), (.ref b101), (.ref b101)])) rfl (by rw [hml]; rfl) (Steps.refl _) (argsL := []) (rest := [(.ref o), (.ref b101), (.ref b101)]) (lenOf own_pd22 rfl) rfl (by show 2 * 0 + _ ≤ _; exact Nat.le_of_eq rfl) (dE 10 rfl) (fun _ _ => ⟨rfl, rfl, (by decide : 6 + 2 ≤ _), (by decide : 134 + 25 ≤ _)⟩)) fun v150 T150 L150 X150 hQ150 => ?_
  obtain ⟨x150, rfl, Nq150, K150, sx150, A150, C150, t150, kb150, st_150, V150, B150⟩ := hQ150
  have N150 := Fr.app N142 Nq150
  have c152 := ((c136.keep K134).keep K142)
  have ne_b101_x150 : b101 ≠ x150 := Nat.ne_of_lt (Nat.lt_of_lt_of_le c152.lt sx150)
  have ne_b107_x150 : b107 ≠ x150 := Nat.ne_of_lt (Nat.lt_of_lt_of_le A142.lt sx150)
  have c153 := ((c133.keep K134 (ninS (Ne.symm ne_b107_t114) nin0)).keep K142 (ninS (Ne.symm ne_b107_t114) (ninS ne_t114_t134 nin0)))
  have ne_t114_x150 : t114 ≠ x150 := Nat.ne_of_lt (Nat.lt_of_lt_of_le c153.lt sx150)
  have c154 := ((A121.keep K134).keep K142)
  have ne_a121_x150 : a121 ≠ x150 := Nat.ne_of_lt (Nat.lt_of_lt_of_le c154.lt sx150)
  have c155 := ((K121.keep K134 (ninS (Ne.symm nl_b107_121.2) nin0)).keep K142 (ninS (Ne.symm nl_b107_121.2) (ninS ne_b121_t134 nin0)))
  have ne_b121_x150 : b121 ≠ x150 := Nat.ne_of_lt (Nat.lt_of_lt_of_le c155.lt sx150)
  have ne_t134_x150 : t134 ≠ x150 := Nat.ne_of_lt (Nat.lt_of_lt_of_le B142.lt sx150)
  have gn_x150 : n0 ≤ x150 := Nat.le_trans c151 sx150
  have c156 := (Keep.trans (Keep.trans c137 K134 (allS (Or.inr sz_b107) all0)) K142 (allS (Or.inr sz_b107) (allS (Or.inr sz_t134) all0)))
  have sz_x150 : h0.size ≤ x150 := Nat.le_trans c156.1 sx150
  have sn_x150 : Safe Z own_EL T121.vm T142.heap x150 := Safe.new sx150
  have ne_b101_t150 : b101 ≠ t150 := Nat.ne_of_lt (Nat.lt_of_lt_of_le c152.lt st_150)
  have ne_b107_t150 : b107 ≠ t150 := Nat.ne_of_lt (Nat.lt_of_lt_of_le A142.lt st_150)
  have ne_t114_t150 : t114 ≠ t150 := Nat.ne_of_lt (Nat.lt_of_lt_of_le c153.lt st_150)
  have ne_a121_t150 : a121 ≠ t150 := Nat.ne_of_lt (Nat.lt_of_lt_of_le c154.lt st_150)
  have ne_b121_t150 : b121 ≠ t150 := Nat.ne_of_lt (Nat.lt_of_lt_of_le c155.lt st_150)
  have ne_t134_t150 : t134 ≠ t150 := Nat.ne_of_lt (Nat.lt_of_lt_of_le B142.lt st_150)
  have gn_t150 : n0 ≤ t150 := Nat.le_trans c151 st_150
  have sz_t150 : h0.size ≤ t150 := Nat.le_trans c156.1 st_150
  have sn_t150 : Safe Z own_EL T121.vm T142.heap t150 := Safe.new st_150
  have c157 := (CHv.keep K150 sf0 c146)
  have c158 := (CHr.trans c147 (CHr.keep K150 sf0 c146))
  have c159 := (Nat.le_trans c148 K150.1)
  show own_Go p e below Pst (T150.setTop (mkF m 26 #[.val .null] [(.ref x150), (.ref o), (.ref b101), (.ref b101)]))
  have c160 := (c149.keep K150 all0)
  have c161 := (c152.keep K150)
  have c162 := (Unt.keep K150 nin0 (Unt.keep K142 (ninS ne_b101_b107 (ninS ne_b101_t134 nin0)) (Unt.keep K134 (ninS ne_b101_b107 nin0) (Unt.ext E121 (Unt.keep K114 (ninS ne_b101_b107 nin0) (Unt.ext E107 Un101))))))
  have c163 := ((((((f101_backtrace.ext E107).keep K114 (ninS ne_b101_b107 nin0)).ext E121).keep K134 (ninS ne_b101_b107 nin0)).keep K142 (ninS ne_b101_b107 (ninS ne_b101_t134 nin0))).keep K150 nin0)
  have c164 := ((((((f101_detailMessage.ext E107).keep K114 (ninS ne_b101_b107 nin0)).ext E121).keep K134 (ninS ne_b101_b107 nin0)).keep K142 (ninS ne_b101_b107 (ninS ne_b101_t134 nin0))).keep K150 nin0)
  have c165 := ((((((f101_reason.ext E107).keep K114 (ninS ne_b101_b107 nin0)).ext E121).keep K134 (ninS ne_b101_b107 nin0)).keep K142 (ninS ne_b101_b107 (ninS ne_b101_t134 nin0))).keep K150 nin0)
  have c166 := ((((((f101_line.ext E107).keep K114 (ninS ne_b101_b107 nin0)).ext E121).keep K134 (ninS ne_b101_b107 nin0)).keep K142 (ninS ne_b101_b107 (ninS ne_b101_t134 nin0))).keep K150 nin0)
  have c168 := (Nat.le_trans c151 K150.1)
  refine own_cP X150 (X150.specialBack hx (y := Mn20) rfl hown121 (mvT hZ121 (g_ hw 176 rfl)) (mvT hZ121 (g_ hw 177 rfl)) (mvT hZ121 (g_ hw 178 rfl)) (by decide) (backOfKL (W := 1) (rm_r2 l Z a0 hw [] b101 o x150 .null (.int 0) T150.heap n0 c168 c160 hl r2 c161 c162 gn_b101 c163 c164 c165 c166) hZ121 (g_ hw 178 rfl) (g_ hw 39 rfl) (by decide) (by decide) (Vm.MethodsKnown.alikeC hS121.1.alike hK.1) (Vm.FramesKnown.alikeC hS121.1.alike hK.2)) (g := (mkF m 26 #[.val .null] [(.ref x150), (.ref o), (.ref b101), (.ref b101)])) rfl (by rw [hml]; rfl) (Steps.refl _) (a := b101) (argsL := [(.ref o), (.ref x150)]) (rest := [(.ref b101)]) (lenOf own_pd23 rfl) rfl (by show 2 * 0 + _ ≤ _; exact Nat.le_of_eq rfl) (dE 11 rfl) (fun _ _ => ⟨rfl, rfl, (by decide : 8 + 1 ≤ _), (by decide : 159 + 2752 ≤ _)⟩)) fun v167 T167 L167 X167 hQ167 => ?_
  obtain ⟨rfl, Nq167, K167, A167, G1167, G2167, G3167⟩ := hQ167
  have N167 := Fr.app N150 Nq167
  have c169 := (Safe.keep K150 sf0 c146 (Safe.keep K142 (sfS c144 (sfS c145 sf0)) c138 (Safe.keep K134 (sfS c126 sf0) c123 c125)))
  have c170 := (CHv.keep K167 (sfS c169 sf0) c157)
  have c171 := (CHr.trans c158 (CHr.keep K167 (sfS c169 sf0) c157))
  have c172 := (Nat.le_trans c159 K167.1)
  show own_Go p e below Pst (T167.setTop (mkF m 29 #[.val .null] [(.ref b101)]))
  have c173 := (B150.keep K167 (ninS (Ne.symm ne_b101_t150) nin0))
  have c174 := (Keep.trans (Keep.trans c156 K150 all0) K167 (allS (Or.inr sz_b101) all0))
  have c175 := (A150.keep K167)
  have c176 := (C150.keep K167 (ninS (Ne.symm ne_b101_x150) nin0))
  have c177 := (V150.keep K167 (ninS (Ne.symm ne_b101_x150) nin0))
  rw [hPst]
  exact own_retW X167 hS121 c172 (v := (some (.ref b101))) (Q := Q_uun Z z o h0 n0) (fun h => by rw [Bd.returns] at h; cases h) Bd.notSynchronized (fun fs hr => retOut X167 hx Bd.returns rfl (Or.inr (Or.inr (Or.inr (Or.inr ⟨rfl, rfl, rfl⟩)))) (dE 12 rfl) hr) (by decide) (by decide) (by rw [hh0]; exact CHr.trans c171 (CHv.at X167 hZ121 hEL c170)) ⟨_, rfl, N167, c174, sz_b101, A167, G1167, G2167, _, _, _, G3167, c175, c176, c177, c173⟩
theorem own_pd24 : parseMethodDescriptor "([C)V" = some ⟨[(.array .char)], none⟩ := by decide +kernel
theorem own_pn_com_example_shard_feed_shardfeed_RefusalUnknownUserPinLaw : plainName "com/example/shard_feed/shardfeed/RefusalUnknownUserPinLaw" = true := by first | (simp [plainName, overriddenIn]; done) | decide +kernel
theorem own_ef_IIII_5 (m : MethodId) (x0 : Int32) (x1 : Int32) (x2 : Int32) (x3 : Int32) : entryFrame m #[(.int x0), (.int x1), (.int x2), (.int x3)] 5 = mkF m 0 #[.val (.int x0), .val (.int x1), .val (.int x2), .val (.int x3), .unset] [] := by first | (simp [entryFrame, mkF, argsToLocals, Value.category]; done) | rfl
def Q_nm (Z : State) (z m c1 c2 c3 : Int32) (h0 : Heap) (n0 : Nat) (v : Option Value) (h : Heap) (L : List Loc) : Prop := ∃ x : Addr, v = some (.ref x) ∧ Fr n0 L ∧ Keep h0 h [] ∧ h0.size ≤ x ∧ Exa Z h x "java/lang/String" ∧ Fld Z h x "java/lang/String" "coder" "B" (.int (0 : Int32)) ∧ ∃ (t : Addr) (kb : ClassId), Fld Z h x "java/lang/String" "value" "[B" (.ref t) ∧ Arv Z h t kb .byte m (own_bs m c1 c2 c3) (.int 0)
theorem rm_nm (l : Launch) (Z : State) (a0 : Array Value) (hw : own_H a0 Z) (ws : List Jvm.Cond) (z m c1 c2 c3 : Int32) (h0 : Heap) (n0 : Nat) (Z0 : n0 ≤ h0.size) (O : Old Z n0 h0) (SC : Sta Z Z.heap "java/lang/String" "COMPACT_STRINGS" "Z" (.int z)) (hz : ¬ z = 0) (hp1 : ¬ (nar .char c1) < 0 ∧ ¬ (255 : Int32) < (nar .char c1)) (hp2 : ¬ (nar .char c2) < 0 ∧ ¬ (255 : Int32) < (nar .char c2)) (hp3 : ¬ (nar .char c3) < 0 ∧ ¬ (255 : Int32) < (nar .char c3)) (hm : m = 0 ∨ m = 1 ∨ m = 2 ∨ m = 3) : own_MS own_EL l Mn35 method_2_code 5 (some (.object "java/lang/String")) ws ({ frames := 4, cells := 6, slots := 20, locals := 70 } : Room) Z h0 #[(.int m), (.int c1), (.int c2), (.int c3)] (fun _ _ _ _ _ => True) (Q_nm Z z m c1 c2 c3 h0 n0) := by
  refine own_startS (plainFor_of_name own_pn_com_example_shard_feed_shardfeed_RefusalUnknownUserPinLaw) fun p e s m' below meth c s₁ Bd hx hby hml hown0 X0 e0 hh0 hZ hCH0 hS0 hK Pst hPst => ?_
  have dE := own_E hby own_D1
  have hown : s.vm.findClass "com/example/shard_feed/shardfeed/RefusalUnknownUserPinLaw" = some m'.cls := hown0
  have hnm := (name_of_methodNamed Bd.named Bd.method).1
  have N0 := Fr.nil n0
  have hk0 : 0 ≤ h0.size := Nat.zero_le _
  have hEL := own_hEL Z a0 hw
  rw [own_ef_IIII_5 m' m c1 c2 c3]
  rcases hm with rfl | rfl | rfl | rfl
  · refine o_iloadN X0.here hx (dE 0 rfl) rfl ?_
    refine p_newP (aty := .char) X0 hx hZ (g_ hw 4 rfl) e0 (dE 1 rfl) rfl (by decide) (cap := 0) (by decide) (by decide) (by decide) (by decide) fun T101 h101 k101 b101 g101 X101 e101 E101 A101 => ?_
    have gn_b101 : n0 ≤ b101 := Nat.le_trans Z0 (Nat.le_of_eq g101.symm)
    have sz_b101 : h0.size ≤ b101 := Nat.le_trans (Keep.refl h0 []).1 (Nat.le_of_eq g101.symm)
    have sf_b101 := Safe.ext E101 hCH0 (Safe.new (Nat.le_of_eq g101.symm))
    have c102 := (CHv.ext E101 hCH0)
    have c103 := (CHr.trans (CHr.refl hCH0) (CHr.ext E101 hCH0))
    have c104 := (Nat.le_trans hk0 E101.1)
    have V101 : Arv Z h101 b101 k101 .char (0 : Int32) [] (.int (0 : Int32)) := Arv.new A101 (by decide)
    refine o_astore X101.here hx (dE 2 rfl) rfl rfl (l' := #[.val (.int (0 : Int32)), .val (.int c1), .val (.int c2), .val (.int c3), .val (.ref b101)]) rfl ?_
    refine o_iloadN X101.here hx (dE 3 rfl) rfl ?_
    refine o_ifYes X101.here hx (pc0 := 6) (pc' := 14) rfl (dE 4 rfl) rfl ((if0 _ _).trans (flt (by decide)).2.2.2) (by decide) (by decide) ?_
    refine o_iloadN X101.here hx (dE 5 rfl) rfl ?_
    refine o_iconst X101.here hx (dE 6 rfl) (z := (1 : Int32)) rfl ?_
    refine o_icmpYes X101.here hx (pc0 := 16) (pc' := 24) rfl (dE 7 rfl) rfl (flt (by decide)).2.2.2 (by decide) (by decide) ?_
    refine o_iloadN X101.here hx (dE 8 rfl) rfl ?_
    refine o_iconst X101.here hx (dE 9 rfl) (z := (2 : Int32)) rfl ?_
    refine o_icmpYes X101.here hx (pc0 := 26) (pc' := 34) rfl (dE 10 rfl) rfl (flt (by decide)).2.2.2 (by decide) (by decide) ?_
    have c106 := (Nat.le_trans Z0 E101.1)
    have c107 := ((Keep.refl h0 []).ext E101)
    refine p_newO X101 hx hZ hown (g_ hw 5 rfl) (g_ hw 6 rfl) (g_ hw 7 rfl) e101 (dE 11 rfl) (by decide) (by decide) fun T105 h105 b105 g105 X105 e105 E105 A105 D105 U105 => ?_
    have ne_b101_b105 : b101 ≠ b105 := Nat.ne_of_lt (Nat.lt_of_lt_of_le V101.lt (Nat.le_of_eq g105.symm))
    have gn_b105 : n0 ≤ b105 := Nat.le_trans c106 (Nat.le_of_eq g105.symm)
    have sz_b105 : h0.size ≤ b105 := Nat.le_trans c107.1 (Nat.le_of_eq g105.symm)
    have sf_b105 := Safe.ext E105 c102 (Safe.new (Nat.le_of_eq g105.symm))
    have c108 := (CHv.ext E105 c102)
    have c109 := (CHr.trans c103 (CHr.ext E105 c102))
    have c110 := (Nat.le_trans c104 E105.1)
    have f105_coder : Fld Z h105 b105 "java/lang/String" "coder" "B" (.int (0 : Int32)) := D105 (Or.inr (g_ hw 31 rfl)) (ty := .byte) (by decide)
    have f105_value : Fld Z h105 b105 "java/lang/String" "value" "[B" .null := D105 (Or.inr (g_ hw 33 rfl)) (ty := (.array .byte)) (by decide)
    refine o_dup X105.here hx (dE 12 rfl) rfl rfl ?_
    refine o_aload X105.here hx (dE 13 rfl) rfl rfl ?_
    have c111 := (V101.ext E105)
    have c113 := (Nat.le_trans c106 E105.1)
    refine own_cS X105 hS0 (by rw [e105]; exact c110) hZ hown (X105.specialBackS hx (y := Mn15) rfl hown (mvT hZ (g_ hw 8 rfl)) (mvT hZ (g_ hw 9 rfl)) (mvT hZ (g_ hw 10 rfl)) (by decide) (backOfSH (W := 1) (rm_i1z l Z a0 hw [] b105 b101 k101 [] (.int (0 : Int32)) h105 n0 c113 A105 f105_value f105_coder gn_b105 c111) hZ (g_ hw 10 rfl) (g_ hw 7 rfl) (by decide) (by decide) hEL c108) (g := (mkF m' 40 #[.val (.int (0 : Int32)), .val (.int c1), .val (.int c2), .val (.int c3), .val (.ref b101)] [(.ref b101), (.ref b105), (.ref b105)])) rfl (by rw [hml]; rfl) (Steps.refl _) (a := b105) (argsL := [(.ref b101)]) (rest := [(.ref b105)]) (lenOf own_pd24 rfl) rfl (by show 2 * 0 + _ ≤ _; exact Nat.le_of_eq rfl) (dE 14 rfl) (fun _ _ => ⟨rfl, e105, (by decide : 2 + 4 ≤ _), (by decide : 4 + 8 ≤ _)⟩)) fun v112 T112 L112 X112 hS112 hZ112 hown112 hQ112 cr112 => ?_
    obtain ⟨rfl, Nq112, K112, A112, C112, t112, kb112, V112, B112⟩ := hQ112
    have N112 := Fr.app N0 Nq112
    have c114 := cr112.1
    have c115 := (CHr.trans c109 cr112)
    have c116 := (Nat.le_trans c110 K112.1)
    show own_Go p e below Pst (T112.setTop (mkF m' 43 #[.val (.int (0 : Int32)), .val (.int c1), .val (.int c2), .val (.int c3), .val (.ref b101)] [(.ref b105)]))
    have c117 := (Keep.trans (c107.ext E105) K112 (allS (Or.inr sz_b105) all0))
    rw [hPst]
    exact own_retW X112 hS112 (Nat.le_refl _) (v := (some (.ref b105))) (Q := Q_nm Z z (0 : Int32) c1 c2 c3 h0 n0) (fun h => by rw [Bd.returns] at h; cases h) Bd.notSynchronized (fun fs hr => retOut X112 hx Bd.returns rfl (Or.inr (Or.inr (Or.inr (Or.inr ⟨rfl, rfl, rfl⟩)))) (dE 15 rfl) hr) (by decide) (by decide) (by rw [hh0]; exact CHr.trans c115 (CHv.at X112 hZ112 hEL c114)) ⟨_, rfl, N112, c117, sz_b105, A112, C112, _, _, V112, (by rw [own_bs0]; exact B112)⟩
  · refine o_iloadN X0.here hx (dE 0 rfl) rfl ?_
    refine p_newP (aty := .char) X0 hx hZ (g_ hw 4 rfl) e0 (dE 1 rfl) rfl (by decide) (cap := 1) (by decide) (by decide) (by decide) (by decide) fun T118 h118 k118 b118 g118 X118 e118 E118 A118 => ?_
    have gn_b118 : n0 ≤ b118 := Nat.le_trans Z0 (Nat.le_of_eq g118.symm)
    have sz_b118 : h0.size ≤ b118 := Nat.le_trans (Keep.refl h0 []).1 (Nat.le_of_eq g118.symm)
    have sf_b118 := Safe.ext E118 hCH0 (Safe.new (Nat.le_of_eq g118.symm))
    have c119 := (CHv.ext E118 hCH0)
    have c120 := (CHr.trans (CHr.refl hCH0) (CHr.ext E118 hCH0))
    have c121 := (Nat.le_trans hk0 E118.1)
    have V118 : Arv Z h118 b118 k118 .char (1 : Int32) [(.int (0 : Int32))] (.int (0 : Int32)) := (Arv.new A118 (by decide)).pad (pad_rep [] (.int (0 : Int32)) 1)
    refine o_astore X118.here hx (dE 2 rfl) rfl rfl (l' := #[.val (.int (1 : Int32)), .val (.int c1), .val (.int c2), .val (.int c3), .val (.ref b118)]) rfl ?_
    refine o_iloadN X118.here hx (dE 3 rfl) rfl ?_
    refine o_ifNo X118.here hx (dE 4 rfl) rfl ((if0 _ _).trans (tlt (by decide)).2.2.2) ?_
    refine o_aload X118.here hx (dE 16 rfl) rfl rfl ?_
    refine o_iconst X118.here hx (dE 17 rfl) (z := (0 : Int32)) rfl ?_
    refine o_iloadN X118.here hx (dE 18 rfl) rfl ?_
    refine p_arC X118 hx hZ e118 V118 (0 : Int32) 0 ⟨by decide, by decide⟩ rfl (Nat.le_of_ble_eq_true rfl) rfl (dE 19 rfl) fun T122 h122 X122 e122 W122 V122 => ?_
    have c123 := (CHv.wr W122 sf_b118 c119)
    have c124 := (CHr.trans c120 (CHr.wr W122 sf_b118 c119))
    have c125 := (Nat.le_trans c121 (Keep.of_wr W122).1)
    have N122 := Fr.snoc X122 N0 gn_b118
    refine o_iloadN X122.here hx (dE 5 rfl) rfl ?_
    refine o_iconst X122.here hx (dE 6 rfl) (z := (1 : Int32)) rfl ?_
    refine o_icmpYes X122.here hx (pc0 := 16) (pc' := 24) rfl (dE 7 rfl) rfl (flt (by decide)).2.2.2 (by decide) (by decide) ?_
    refine o_iloadN X122.here hx (dE 8 rfl) rfl ?_
    refine o_iconst X122.here hx (dE 9 rfl) (z := (2 : Int32)) rfl ?_
    refine o_icmpYes X122.here hx (pc0 := 26) (pc' := 34) rfl (dE 10 rfl) rfl (flt (by decide)).2.2.2 (by decide) (by decide) ?_
    have c127 := (Nat.le_trans (Nat.le_trans Z0 E118.1) (Keep.of_wr W122).1)
    have c128 := (((Keep.refl h0 []).ext E118).wr W122 (Or.inr sz_b118))
    refine p_newO X122 hx hZ hown (g_ hw 5 rfl) (g_ hw 6 rfl) (g_ hw 7 rfl) e122 (dE 11 rfl) (by decide) (by decide) fun T126 h126 b126 g126 X126 e126 E126 A126 D126 U126 => ?_
    have ne_b118_b126 : b118 ≠ b126 := Nat.ne_of_lt (Nat.lt_of_lt_of_le V122.lt (Nat.le_of_eq g126.symm))
    have gn_b126 : n0 ≤ b126 := Nat.le_trans c127 (Nat.le_of_eq g126.symm)
    have sz_b126 : h0.size ≤ b126 := Nat.le_trans c128.1 (Nat.le_of_eq g126.symm)
    have sf_b126 := Safe.ext E126 c123 (Safe.new (Nat.le_of_eq g126.symm))
    have c129 := (CHv.ext E126 c123)
    have c130 := (CHr.trans c124 (CHr.ext E126 c123))
    have c131 := (Nat.le_trans c125 E126.1)
    have f126_coder : Fld Z h126 b126 "java/lang/String" "coder" "B" (.int (0 : Int32)) := D126 (Or.inr (g_ hw 31 rfl)) (ty := .byte) (by decide)
    have f126_value : Fld Z h126 b126 "java/lang/String" "value" "[B" .null := D126 (Or.inr (g_ hw 33 rfl)) (ty := (.array .byte)) (by decide)
    refine o_dup X126.here hx (dE 12 rfl) rfl rfl ?_
    refine o_aload X126.here hx (dE 13 rfl) rfl rfl ?_
    have c132 := (Nat.le_trans c127 E126.1)
    have c133 := (V122.ext E126)
    have c134 := (((O.ext E118).wr W122 gn_b118).ext E126)
    refine own_cP X126 (X126.specialBack hx (y := Mn15) rfl hown (mvT hZ (g_ hw 8 rfl)) (mvT hZ (g_ hw 9 rfl)) (mvT hZ (g_ hw 10 rfl)) (by decide) (StrChars.Road.backV (W := 1) hZ (own_words Z a0 hw) (kI := 4) (g_ hw 6 rfl) (cs := [(nar .char c1)]) (bs := [((nar .char c1).toInt8.toInt32)]) (n := 1) gn_b126 c132 A126 f126_value f126_coder c133 (SC.ext c134.2) hz rfl rfl (by decide) (by decide) (own_fc hp1 own_fn) rfl (by decide) (by decide)) (g := (mkF m' 40 #[.val (.int (1 : Int32)), .val (.int c1), .val (.int c2), .val (.int c3), .val (.ref b118)] [(.ref b118), (.ref b126), (.ref b126)])) rfl (by rw [hml]; rfl) (Steps.refl _) (a := b126) (argsL := [(.ref b118)]) (rest := [(.ref b126)]) (lenOf own_pd24 rfl) rfl (by show 2 * 0 + _ ≤ _; exact Nat.le_of_eq rfl) (dE 14 rfl) (fun _ _ => ⟨rfl, e126, (by decide : 2 + 1 ≤ _), (by decide : 5 + 1 ≤ _)⟩)) fun v135 T135 L135 X135 hQ135 => ?_
    obtain ⟨rfl, Nq135, K135, A135, C135, t135, kb135, -, -, -, V135, B135⟩ := hQ135
    have N135 := Fr.app N122 Nq135
    have c136 := (CHv.keep K135 (sfS sf_b126 sf0) c129)
    have c137 := (CHr.trans c130 (CHr.keep K135 (sfS sf_b126 sf0) c129))
    have c138 := (Nat.le_trans c131 K135.1)
    show own_Go p e below Pst (T135.setTop (mkF m' 43 #[.val (.int (1 : Int32)), .val (.int c1), .val (.int c2), .val (.int c3), .val (.ref b118)] [(.ref b126)]))
    have c139 := (Keep.trans (c128.ext E126) K135 (allS (Or.inr sz_b126) all0))
    rw [hPst]
    exact own_retW X135 hS0 c138 (v := (some (.ref b126))) (Q := Q_nm Z z (1 : Int32) c1 c2 c3 h0 n0) (fun h => by rw [Bd.returns] at h; cases h) Bd.notSynchronized (fun fs hr => retOut X135 hx Bd.returns rfl (Or.inr (Or.inr (Or.inr (Or.inr ⟨rfl, rfl, rfl⟩)))) (dE 15 rfl) hr) (by decide) (by decide) (by rw [hh0]; exact CHr.trans c137 (CHv.at X135 hZ hEL c136)) ⟨_, rfl, N135, c139, sz_b126, A135, C135, _, _, V135, (by rw [own_bs1]; exact B135)⟩
  · refine o_iloadN X0.here hx (dE 0 rfl) rfl ?_
    refine p_newP (aty := .char) X0 hx hZ (g_ hw 4 rfl) e0 (dE 1 rfl) rfl (by decide) (cap := 2) (by decide) (by decide) (by decide) (by decide) fun T140 h140 k140 b140 g140 X140 e140 E140 A140 => ?_
    have gn_b140 : n0 ≤ b140 := Nat.le_trans Z0 (Nat.le_of_eq g140.symm)
    have sz_b140 : h0.size ≤ b140 := Nat.le_trans (Keep.refl h0 []).1 (Nat.le_of_eq g140.symm)
    have sf_b140 := Safe.ext E140 hCH0 (Safe.new (Nat.le_of_eq g140.symm))
    have c141 := (CHv.ext E140 hCH0)
    have c142 := (CHr.trans (CHr.refl hCH0) (CHr.ext E140 hCH0))
    have c143 := (Nat.le_trans hk0 E140.1)
    have V140 : Arv Z h140 b140 k140 .char (2 : Int32) [(.int (0 : Int32)), (.int (0 : Int32))] (.int (0 : Int32)) := (Arv.new A140 (by decide)).pad (pad_rep [] (.int (0 : Int32)) 2)
    refine o_astore X140.here hx (dE 2 rfl) rfl rfl (l' := #[.val (.int (2 : Int32)), .val (.int c1), .val (.int c2), .val (.int c3), .val (.ref b140)]) rfl ?_
    refine o_iloadN X140.here hx (dE 3 rfl) rfl ?_
    refine o_ifNo X140.here hx (dE 4 rfl) rfl ((if0 _ _).trans (tlt (by decide)).2.2.2) ?_
    refine o_aload X140.here hx (dE 16 rfl) rfl rfl ?_
    refine o_iconst X140.here hx (dE 17 rfl) (z := (0 : Int32)) rfl ?_
    refine o_iloadN X140.here hx (dE 18 rfl) rfl ?_
    refine p_arC X140 hx hZ e140 V140 (0 : Int32) 0 ⟨by decide, by decide⟩ rfl (Nat.le_of_ble_eq_true rfl) rfl (dE 19 rfl) fun T144 h144 X144 e144 W144 V144 => ?_
    have c145 := (CHv.wr W144 sf_b140 c141)
    have c146 := (CHr.trans c142 (CHr.wr W144 sf_b140 c141))
    have c147 := (Nat.le_trans c143 (Keep.of_wr W144).1)
    have N144 := Fr.snoc X144 N0 gn_b140
    refine o_iloadN X144.here hx (dE 5 rfl) rfl ?_
    refine o_iconst X144.here hx (dE 6 rfl) (z := (1 : Int32)) rfl ?_
    refine o_icmpNo X144.here hx (dE 7 rfl) rfl (tlt (by decide)).2.2.2 ?_
    refine o_aload X144.here hx (dE 20 rfl) rfl rfl ?_
    refine o_iconst X144.here hx (dE 21 rfl) (z := (1 : Int32)) rfl ?_
    refine o_iloadN X144.here hx (dE 22 rfl) rfl ?_
    refine p_arC X144 hx hZ e144 V144 (1 : Int32) 1 ⟨by decide, by decide⟩ rfl (Nat.le_of_ble_eq_true rfl) rfl (dE 23 rfl) fun T148 h148 X148 e148 W148 V148 => ?_
    have c149 := (Safe.wr W144 sf_b140 c141 sf_b140)
    have c150 := (CHv.wr W148 c149 c145)
    have c151 := (CHr.trans c146 (CHr.wr W148 c149 c145))
    have c152 := (Nat.le_trans c147 (Keep.of_wr W148).1)
    have N148 := Fr.snoc X148 N144 gn_b140
    refine o_iloadN X148.here hx (dE 8 rfl) rfl ?_
    refine o_iconst X148.here hx (dE 9 rfl) (z := (2 : Int32)) rfl ?_
    refine o_icmpYes X148.here hx (pc0 := 26) (pc' := 34) rfl (dE 10 rfl) rfl (flt (by decide)).2.2.2 (by decide) (by decide) ?_
    have c154 := (Nat.le_trans (Nat.le_trans (Nat.le_trans Z0 E140.1) (Keep.of_wr W144).1) (Keep.of_wr W148).1)
    have c155 := ((((Keep.refl h0 []).ext E140).wr W144 (Or.inr sz_b140)).wr W148 (Or.inr sz_b140))
    refine p_newO X148 hx hZ hown (g_ hw 5 rfl) (g_ hw 6 rfl) (g_ hw 7 rfl) e148 (dE 11 rfl) (by decide) (by decide) fun T153 h153 b153 g153 X153 e153 E153 A153 D153 U153 => ?_
    have ne_b140_b153 : b140 ≠ b153 := Nat.ne_of_lt (Nat.lt_of_lt_of_le V148.lt (Nat.le_of_eq g153.symm))
    have gn_b153 : n0 ≤ b153 := Nat.le_trans c154 (Nat.le_of_eq g153.symm)
    have sz_b153 : h0.size ≤ b153 := Nat.le_trans c155.1 (Nat.le_of_eq g153.symm)
    have sf_b153 := Safe.ext E153 c150 (Safe.new (Nat.le_of_eq g153.symm))
    have c156 := (CHv.ext E153 c150)
    have c157 := (CHr.trans c151 (CHr.ext E153 c150))
    have c158 := (Nat.le_trans c152 E153.1)
    have f153_coder : Fld Z h153 b153 "java/lang/String" "coder" "B" (.int (0 : Int32)) := D153 (Or.inr (g_ hw 31 rfl)) (ty := .byte) (by decide)
    have f153_value : Fld Z h153 b153 "java/lang/String" "value" "[B" .null := D153 (Or.inr (g_ hw 33 rfl)) (ty := (.array .byte)) (by decide)
    refine o_dup X153.here hx (dE 12 rfl) rfl rfl ?_
    refine o_aload X153.here hx (dE 13 rfl) rfl rfl ?_
    have c159 := (Nat.le_trans c154 E153.1)
    have c160 := (V148.ext E153)
    have c161 := ((((O.ext E140).wr W144 gn_b140).wr W148 gn_b140).ext E153)
    refine own_cP X153 (X153.specialBack hx (y := Mn15) rfl hown (mvT hZ (g_ hw 8 rfl)) (mvT hZ (g_ hw 9 rfl)) (mvT hZ (g_ hw 10 rfl)) (by decide) (StrChars.Road.backV (W := 1) hZ (own_words Z a0 hw) (kI := 4) (g_ hw 6 rfl) (cs := [(nar .char c1), (nar .char c2)]) (bs := [((nar .char c1).toInt8.toInt32), ((nar .char c2).toInt8.toInt32)]) (n := 2) gn_b153 c159 A153 f153_value f153_coder c160 (SC.ext c161.2) hz rfl rfl (by decide) (by decide) (own_fc hp1 (own_fc hp2 own_fn)) rfl (by decide) (by decide)) (g := (mkF m' 40 #[.val (.int (2 : Int32)), .val (.int c1), .val (.int c2), .val (.int c3), .val (.ref b140)] [(.ref b140), (.ref b153), (.ref b153)])) rfl (by rw [hml]; rfl) (Steps.refl _) (a := b153) (argsL := [(.ref b140)]) (rest := [(.ref b153)]) (lenOf own_pd24 rfl) rfl (by show 2 * 0 + _ ≤ _; exact Nat.le_of_eq rfl) (dE 14 rfl) (fun _ _ => ⟨rfl, e153, (by decide : 2 + 1 ≤ _), (by decide : 6 + 2 ≤ _)⟩)) fun v162 T162 L162 X162 hQ162 => ?_
    obtain ⟨rfl, Nq162, K162, A162, C162, t162, kb162, -, -, -, V162, B162⟩ := hQ162
    have N162 := Fr.app N148 Nq162
    have c163 := (CHv.keep K162 (sfS sf_b153 sf0) c156)
    have c164 := (CHr.trans c157 (CHr.keep K162 (sfS sf_b153 sf0) c156))
    have c165 := (Nat.le_trans c158 K162.1)
    show own_Go p e below Pst (T162.setTop (mkF m' 43 #[.val (.int (2 : Int32)), .val (.int c1), .val (.int c2), .val (.int c3), .val (.ref b140)] [(.ref b153)]))
    have c166 := (Keep.trans (c155.ext E153) K162 (allS (Or.inr sz_b153) all0))
    rw [hPst]
    exact own_retW X162 hS0 c165 (v := (some (.ref b153))) (Q := Q_nm Z z (2 : Int32) c1 c2 c3 h0 n0) (fun h => by rw [Bd.returns] at h; cases h) Bd.notSynchronized (fun fs hr => retOut X162 hx Bd.returns rfl (Or.inr (Or.inr (Or.inr (Or.inr ⟨rfl, rfl, rfl⟩)))) (dE 15 rfl) hr) (by decide) (by decide) (by rw [hh0]; exact CHr.trans c164 (CHv.at X162 hZ hEL c163)) ⟨_, rfl, N162, c166, sz_b153, A162, C162, _, _, V162, (by rw [own_bs2]; exact B162)⟩
  · refine o_iloadN X0.here hx (dE 0 rfl) rfl ?_
    refine p_newP (aty := .char) X0 hx hZ (g_ hw 4 rfl) e0 (dE 1 rfl) rfl (by decide) (cap := 3) (by decide) (by decide) (by decide) (by decide) fun T167 h167 k167 b167 g167 X167 e167 E167 A167 => ?_
    have gn_b167 : n0 ≤ b167 := Nat.le_trans Z0 (Nat.le_of_eq g167.symm)
    have sz_b167 : h0.size ≤ b167 := Nat.le_trans (Keep.refl h0 []).1 (Nat.le_of_eq g167.symm)
    have sf_b167 := Safe.ext E167 hCH0 (Safe.new (Nat.le_of_eq g167.symm))
    have c168 := (CHv.ext E167 hCH0)
    have c169 := (CHr.trans (CHr.refl hCH0) (CHr.ext E167 hCH0))
    have c170 := (Nat.le_trans hk0 E167.1)
    have V167 : Arv Z h167 b167 k167 .char (3 : Int32) [(.int (0 : Int32)), (.int (0 : Int32)), (.int (0 : Int32))] (.int (0 : Int32)) := (Arv.new A167 (by decide)).pad (pad_rep [] (.int (0 : Int32)) 3)
    refine o_astore X167.here hx (dE 2 rfl) rfl rfl (l' := #[.val (.int (3 : Int32)), .val (.int c1), .val (.int c2), .val (.int c3), .val (.ref b167)]) rfl ?_
    refine o_iloadN X167.here hx (dE 3 rfl) rfl ?_
    refine o_ifNo X167.here hx (dE 4 rfl) rfl ((if0 _ _).trans (tlt (by decide)).2.2.2) ?_
    refine o_aload X167.here hx (dE 16 rfl) rfl rfl ?_
    refine o_iconst X167.here hx (dE 17 rfl) (z := (0 : Int32)) rfl ?_
    refine o_iloadN X167.here hx (dE 18 rfl) rfl ?_
    refine p_arC X167 hx hZ e167 V167 (0 : Int32) 0 ⟨by decide, by decide⟩ rfl (Nat.le_of_ble_eq_true rfl) rfl (dE 19 rfl) fun T171 h171 X171 e171 W171 V171 => ?_
    have c172 := (CHv.wr W171 sf_b167 c168)
    have c173 := (CHr.trans c169 (CHr.wr W171 sf_b167 c168))
    have c174 := (Nat.le_trans c170 (Keep.of_wr W171).1)
    have N171 := Fr.snoc X171 N0 gn_b167
    refine o_iloadN X171.here hx (dE 5 rfl) rfl ?_
    refine o_iconst X171.here hx (dE 6 rfl) (z := (1 : Int32)) rfl ?_
    refine o_icmpNo X171.here hx (dE 7 rfl) rfl (tlt (by decide)).2.2.2 ?_
    refine o_aload X171.here hx (dE 20 rfl) rfl rfl ?_
    refine o_iconst X171.here hx (dE 21 rfl) (z := (1 : Int32)) rfl ?_
    refine o_iloadN X171.here hx (dE 22 rfl) rfl ?_
    refine p_arC X171 hx hZ e171 V171 (1 : Int32) 1 ⟨by decide, by decide⟩ rfl (Nat.le_of_ble_eq_true rfl) rfl (dE 23 rfl) fun T175 h175 X175 e175 W175 V175 => ?_
    have c176 := (Safe.wr W171 sf_b167 c168 sf_b167)
    have c177 := (CHv.wr W175 c176 c172)
    have c178 := (CHr.trans c173 (CHr.wr W175 c176 c172))
    have c179 := (Nat.le_trans c174 (Keep.of_wr W175).1)
    have N175 := Fr.snoc X175 N171 gn_b167
    refine o_iloadN X175.here hx (dE 8 rfl) rfl ?_
    refine o_iconst X175.here hx (dE 9 rfl) (z := (2 : Int32)) rfl ?_
    refine o_icmpNo X175.here hx (dE 10 rfl) rfl (tlt (by decide)).2.2.2 ?_
    refine o_aload X175.here hx (dE 24 rfl) rfl rfl ?_
    refine o_iconst X175.here hx (dE 25 rfl) (z := (2 : Int32)) rfl ?_
    refine o_iloadN X175.here hx (dE 26 rfl) rfl ?_
    refine p_arC X175 hx hZ e175 V175 (2 : Int32) 2 ⟨by decide, by decide⟩ rfl (Nat.le_of_ble_eq_true rfl) rfl (dE 27 rfl) fun T180 h180 X180 e180 W180 V180 => ?_
    have c181 := (Safe.wr W175 c176 c172 c176)
    have c182 := (CHv.wr W180 c181 c177)
    have c183 := (CHr.trans c178 (CHr.wr W180 c181 c177))
    have c184 := (Nat.le_trans c179 (Keep.of_wr W180).1)
    have N180 := Fr.snoc X180 N175 gn_b167
    have c186 := (Nat.le_trans (Nat.le_trans (Nat.le_trans (Nat.le_trans Z0 E167.1) (Keep.of_wr W171).1) (Keep.of_wr W175).1) (Keep.of_wr W180).1)
    have c187 := (((((Keep.refl h0 []).ext E167).wr W171 (Or.inr sz_b167)).wr W175 (Or.inr sz_b167)).wr W180 (Or.inr sz_b167))
    refine p_newO X180 hx hZ hown (g_ hw 5 rfl) (g_ hw 6 rfl) (g_ hw 7 rfl) e180 (dE 11 rfl) (by decide) (by decide) fun T185 h185 b185 g185 X185 e185 E185 A185 D185 U185 => ?_
    have ne_b167_b185 : b167 ≠ b185 := Nat.ne_of_lt (Nat.lt_of_lt_of_le V180.lt (Nat.le_of_eq g185.symm))
    have gn_b185 : n0 ≤ b185 := Nat.le_trans c186 (Nat.le_of_eq g185.symm)
    have sz_b185 : h0.size ≤ b185 := Nat.le_trans c187.1 (Nat.le_of_eq g185.symm)
    have sf_b185 := Safe.ext E185 c182 (Safe.new (Nat.le_of_eq g185.symm))
    have c188 := (CHv.ext E185 c182)
    have c189 := (CHr.trans c183 (CHr.ext E185 c182))
    have c190 := (Nat.le_trans c184 E185.1)
    have f185_coder : Fld Z h185 b185 "java/lang/String" "coder" "B" (.int (0 : Int32)) := D185 (Or.inr (g_ hw 31 rfl)) (ty := .byte) (by decide)
    have f185_value : Fld Z h185 b185 "java/lang/String" "value" "[B" .null := D185 (Or.inr (g_ hw 33 rfl)) (ty := (.array .byte)) (by decide)
    refine o_dup X185.here hx (dE 12 rfl) rfl rfl ?_
    refine o_aload X185.here hx (dE 13 rfl) rfl rfl ?_
    have c191 := (Nat.le_trans c186 E185.1)
    have c192 := (V180.ext E185)
    have c193 := (((((O.ext E167).wr W171 gn_b167).wr W175 gn_b167).wr W180 gn_b167).ext E185)
    refine own_cP X185 (X185.specialBack hx (y := Mn15) rfl hown (mvT hZ (g_ hw 8 rfl)) (mvT hZ (g_ hw 9 rfl)) (mvT hZ (g_ hw 10 rfl)) (by decide) (StrChars.Road.backV (W := 1) hZ (own_words Z a0 hw) (kI := 4) (g_ hw 6 rfl) (cs := [(nar .char c1), (nar .char c2), (nar .char c3)]) (bs := [((nar .char c1).toInt8.toInt32), ((nar .char c2).toInt8.toInt32), ((nar .char c3).toInt8.toInt32)]) (n := 3) gn_b185 c191 A185 f185_value f185_coder c192 (SC.ext c193.2) hz rfl rfl (by decide) (by decide) (own_fc hp1 (own_fc hp2 (own_fc hp3 own_fn))) rfl (by decide) (by decide)) (g := (mkF m' 40 #[.val (.int (3 : Int32)), .val (.int c1), .val (.int c2), .val (.int c3), .val (.ref b167)] [(.ref b167), (.ref b185), (.ref b185)])) rfl (by rw [hml]; rfl) (Steps.refl _) (a := b185) (argsL := [(.ref b167)]) (rest := [(.ref b185)]) (lenOf own_pd24 rfl) rfl (by show 2 * 0 + _ ≤ _; exact Nat.le_of_eq rfl) (dE 14 rfl) (fun _ _ => ⟨rfl, e185, (by decide : 2 + 1 ≤ _), (by decide : 7 + 3 ≤ _)⟩)) fun v194 T194 L194 X194 hQ194 => ?_
    obtain ⟨rfl, Nq194, K194, A194, C194, t194, kb194, -, -, -, V194, B194⟩ := hQ194
    have N194 := Fr.app N180 Nq194
    have c195 := (CHv.keep K194 (sfS sf_b185 sf0) c188)
    have c196 := (CHr.trans c189 (CHr.keep K194 (sfS sf_b185 sf0) c188))
    have c197 := (Nat.le_trans c190 K194.1)
    show own_Go p e below Pst (T194.setTop (mkF m' 43 #[.val (.int (3 : Int32)), .val (.int c1), .val (.int c2), .val (.int c3), .val (.ref b167)] [(.ref b185)]))
    have c198 := (Keep.trans (c187.ext E185) K194 (allS (Or.inr sz_b185) all0))
    rw [hPst]
    exact own_retW X194 hS0 c197 (v := (some (.ref b185))) (Q := Q_nm Z z (3 : Int32) c1 c2 c3 h0 n0) (fun h => by rw [Bd.returns] at h; cases h) Bd.notSynchronized (fun fs hr => retOut X194 hx Bd.returns rfl (Or.inr (Or.inr (Or.inr (Or.inr ⟨rfl, rfl, rfl⟩)))) (dE 15 rfl) hr) (by decide) (by decide) (by rw [hh0]; exact CHr.trans c196 (CHv.at X194 hZ hEL c195)) ⟨_, rfl, N194, c198, sz_b185, A194, C194, _, _, V194, (by rw [own_bs3]; exact B194)⟩
def Q_ex (Z : State) (z m c1 c2 c3 : Int32) (h0 : Heap) (n0 : Nat) (v : Option Value) (h : Heap) (L : List Loc) : Prop := ∃ x : Addr, v = some (.ref x) ∧ Fr n0 L ∧ Keep h0 h [] ∧ h0.size ≤ x ∧ Exa Z h x "java/lang/String" ∧ Fld Z h x "java/lang/String" "coder" "B" (.int (0 : Int32)) ∧ ∃ (t : Addr) (kb : ClassId), Fld Z h x "java/lang/String" "value" "[B" (.ref t) ∧ Arv Z h t kb .byte (17 + m) (own_out m c1 c2 c3) (.int 0)
theorem rm_ex (l : Launch) (Z : State) (a0 : Array Value) (hw : own_H a0 Z) (ws : List Jvm.Cond) (z m c1 c2 c3 : Int32) (h0 : Heap) (n0 : Nat) (Z0 : n0 ≤ h0.size) (O : Old Z n0 h0) (SC : Sta Z Z.heap "java/lang/String" "COMPACT_STRINGS" "Z" (.int z)) (hz : ¬ z = 0) (hp1 : ¬ (nar .char c1) < 0 ∧ ¬ (255 : Int32) < (nar .char c1)) (hp2 : ¬ (nar .char c2) < 0 ∧ ¬ (255 : Int32) < (nar .char c2)) (hp3 : ¬ (nar .char c3) < 0 ∧ ¬ (255 : Int32) < (nar .char c3)) (hm : m = 0 ∨ m = 1 ∨ m = 2 ∨ m = 3) : own_MP l Mn36 method_3_code 5 (some (.object "java/lang/String")) ws ({ frames := 4, cells := 3, slots := 70, locals := 70 } : Room) Z h0 #[(.int m), (.int c1), (.int c2), (.int c3)] (fun _ _ _ _ _ => True) (Q_ex Z z m c1 c2 c3 h0 n0) := by
  refine own_startP (plainFor_of_name own_pn_com_example_shard_feed_shardfeed_RefusalUnknownUserPinLaw) fun p e s m' below meth c s₁ Bd hx hby hml hown0 X0 e0 hh0 hZ hK Pst hPst => ?_
  have dE := own_E hby own_D8
  have hown : s.vm.findClass "com/example/shard_feed/shardfeed/RefusalUnknownUserPinLaw" = some m'.cls := hown0
  have hnm := (name_of_methodNamed Bd.named Bd.method).1
  have N0 := Fr.nil n0
  rw [own_ef_IIII_5 m' m c1 c2 c3]
  rcases hm with rfl | rfl | rfl | rfl
  · refine o_bipush X0.here hx (dE 0 rfl) (z := (17 : Int32)) rfl ?_
    refine o_iloadN X0.here hx (dE 1 rfl) rfl ?_
    refine o_iadd X0.here hx (dE 2 rfl) rfl ?_
    rw [show ((17 : Int32) + (0 : Int32)) = (17 : Int32) from by decide]
    show own_Go p e below Pst (s₁.setTop (mkF m' 4 #[.val (.int (0 : Int32)), .val (.int c1), .val (.int c2), .val (.int c3), .unset] [(.int (17 : Int32))]))
    refine p_newP (aty := .char) X0 hx hZ (g_ hw 4 rfl) e0 (dE 3 rfl) rfl (by decide) (cap := 17) (by decide) (by decide) (by decide) (by decide) fun T101 h101 k101 b101 g101 X101 e101 E101 A101 => ?_
    have gn_b101 : n0 ≤ b101 := Nat.le_trans Z0 (Nat.le_of_eq g101.symm)
    have sz_b101 : h0.size ≤ b101 := Nat.le_trans (Keep.refl h0 []).1 (Nat.le_of_eq g101.symm)
    have V101 : Arv Z h101 b101 k101 .char (17 : Int32) [(.int (0 : Int32)), (.int (0 : Int32)), (.int (0 : Int32)), (.int (0 : Int32)), (.int (0 : Int32)), (.int (0 : Int32)), (.int (0 : Int32)), (.int (0 : Int32)), (.int (0 : Int32)), (.int (0 : Int32)), (.int (0 : Int32)), (.int (0 : Int32)), (.int (0 : Int32)), (.int (0 : Int32)), (.int (0 : Int32)), (.int (0 : Int32)), (.int (0 : Int32))] (.int (0 : Int32)) := (Arv.new A101 (by decide)).pad (pad_rep [] (.int (0 : Int32)) 17)
    refine o_astore X101.here hx (dE 4 rfl) rfl rfl (l' := #[.val (.int (0 : Int32)), .val (.int c1), .val (.int c2), .val (.int c3), .val (.ref b101)]) rfl ?_
    refine o_aload X101.here hx (dE 5 rfl) rfl rfl ?_
    refine o_iconst X101.here hx (dE 6 rfl) (z := (0 : Int32)) rfl ?_
    refine o_bipush X101.here hx (dE 7 rfl) (z := (110 : Int32)) rfl ?_
    refine p_arC X101 hx hZ e101 V101 (0 : Int32) 0 ⟨by decide, by decide⟩ rfl (Nat.le_of_ble_eq_true rfl) rfl (dE 8 rfl) fun T102 h102 X102 e102 W102 V102 => ?_
    have N102 := Fr.snoc X102 N0 gn_b101
    refine o_aload X102.here hx (dE 9 rfl) rfl rfl ?_
    refine o_iconst X102.here hx (dE 10 rfl) (z := (1 : Int32)) rfl ?_
    refine o_bipush X102.here hx (dE 11 rfl) (z := (111 : Int32)) rfl ?_
    refine p_arC X102 hx hZ e102 V102 (1 : Int32) 1 ⟨by decide, by decide⟩ rfl (Nat.le_of_ble_eq_true rfl) rfl (dE 12 rfl) fun T103 h103 X103 e103 W103 V103 => ?_
    have N103 := Fr.snoc X103 N102 gn_b101
    refine o_aload X103.here hx (dE 13 rfl) rfl rfl ?_
    refine o_iconst X103.here hx (dE 14 rfl) (z := (2 : Int32)) rfl ?_
    refine o_bipush X103.here hx (dE 15 rfl) (z := (32 : Int32)) rfl ?_
    refine p_arC X103 hx hZ e103 V103 (2 : Int32) 2 ⟨by decide, by decide⟩ rfl (Nat.le_of_ble_eq_true rfl) rfl (dE 16 rfl) fun T104 h104 X104 e104 W104 V104 => ?_
    have N104 := Fr.snoc X104 N103 gn_b101
    refine o_aload X104.here hx (dE 17 rfl) rfl rfl ?_
    refine o_iconst X104.here hx (dE 18 rfl) (z := (3 : Int32)) rfl ?_
    refine o_bipush X104.here hx (dE 19 rfl) (z := (117 : Int32)) rfl ?_
    refine p_arC X104 hx hZ e104 V104 (3 : Int32) 3 ⟨by decide, by decide⟩ rfl (Nat.le_of_ble_eq_true rfl) rfl (dE 20 rfl) fun T105 h105 X105 e105 W105 V105 => ?_
    have N105 := Fr.snoc X105 N104 gn_b101
    refine o_aload X105.here hx (dE 21 rfl) rfl rfl ?_
    refine o_iconst X105.here hx (dE 22 rfl) (z := (4 : Int32)) rfl ?_
    refine o_bipush X105.here hx (dE 23 rfl) (z := (115 : Int32)) rfl ?_
    refine p_arC X105 hx hZ e105 V105 (4 : Int32) 4 ⟨by decide, by decide⟩ rfl (Nat.le_of_ble_eq_true rfl) rfl (dE 24 rfl) fun T106 h106 X106 e106 W106 V106 => ?_
    have N106 := Fr.snoc X106 N105 gn_b101
    refine o_aload X106.here hx (dE 25 rfl) rfl rfl ?_
    refine o_iconst X106.here hx (dE 26 rfl) (z := (5 : Int32)) rfl ?_
    refine o_bipush X106.here hx (dE 27 rfl) (z := (101 : Int32)) rfl ?_
    refine p_arC X106 hx hZ e106 V106 (5 : Int32) 5 ⟨by decide, by decide⟩ rfl (Nat.le_of_ble_eq_true rfl) rfl (dE 28 rfl) fun T107 h107 X107 e107 W107 V107 => ?_
    have N107 := Fr.snoc X107 N106 gn_b101
    refine o_aload X107.here hx (dE 29 rfl) rfl rfl ?_
    refine o_bipush X107.here hx (dE 30 rfl) (z := (6 : Int32)) rfl ?_
    refine o_bipush X107.here hx (dE 31 rfl) (z := (114 : Int32)) rfl ?_
    refine p_arC X107 hx hZ e107 V107 (6 : Int32) 6 ⟨by decide, by decide⟩ rfl (Nat.le_of_ble_eq_true rfl) rfl (dE 32 rfl) fun T108 h108 X108 e108 W108 V108 => ?_
    have N108 := Fr.snoc X108 N107 gn_b101
    refine o_aload X108.here hx (dE 33 rfl) rfl rfl ?_
    refine o_bipush X108.here hx (dE 34 rfl) (z := (7 : Int32)) rfl ?_
    refine o_bipush X108.here hx (dE 35 rfl) (z := (32 : Int32)) rfl ?_
    refine p_arC X108 hx hZ e108 V108 (7 : Int32) 7 ⟨by decide, by decide⟩ rfl (Nat.le_of_ble_eq_true rfl) rfl (dE 36 rfl) fun T109 h109 X109 e109 W109 V109 => ?_
    have N109 := Fr.snoc X109 N108 gn_b101
    refine o_aload X109.here hx (dE 37 rfl) rfl rfl ?_
    refine o_bipush X109.here hx (dE 38 rfl) (z := (8 : Int32)) rfl ?_
    refine o_bipush X109.here hx (dE 39 rfl) (z := (105 : Int32)) rfl ?_
    refine p_arC X109 hx hZ e109 V109 (8 : Int32) 8 ⟨by decide, by decide⟩ rfl (Nat.le_of_ble_eq_true rfl) rfl (dE 40 rfl) fun T110 h110 X110 e110 W110 V110 => ?_
    have N110 := Fr.snoc X110 N109 gn_b101
    refine o_aload X110.here hx (dE 41 rfl) rfl rfl ?_
    refine o_bipush X110.here hx (dE 42 rfl) (z := (9 : Int32)) rfl ?_
    refine o_bipush X110.here hx (dE 43 rfl) (z := (115 : Int32)) rfl ?_
    refine p_arC X110 hx hZ e110 V110 (9 : Int32) 9 ⟨by decide, by decide⟩ rfl (Nat.le_of_ble_eq_true rfl) rfl (dE 44 rfl) fun T111 h111 X111 e111 W111 V111 => ?_
    have N111 := Fr.snoc X111 N110 gn_b101
    refine o_aload X111.here hx (dE 45 rfl) rfl rfl ?_
    refine o_bipush X111.here hx (dE 46 rfl) (z := (10 : Int32)) rfl ?_
    refine o_bipush X111.here hx (dE 47 rfl) (z := (32 : Int32)) rfl ?_
    refine p_arC X111 hx hZ e111 V111 (10 : Int32) 10 ⟨by decide, by decide⟩ rfl (Nat.le_of_ble_eq_true rfl) rfl (dE 48 rfl) fun T112 h112 X112 e112 W112 V112 => ?_
    have N112 := Fr.snoc X112 N111 gn_b101
    refine o_aload X112.here hx (dE 49 rfl) rfl rfl ?_
    refine o_bipush X112.here hx (dE 50 rfl) (z := (11 : Int32)) rfl ?_
    refine o_bipush X112.here hx (dE 51 rfl) (z := (110 : Int32)) rfl ?_
    refine p_arC X112 hx hZ e112 V112 (11 : Int32) 11 ⟨by decide, by decide⟩ rfl (Nat.le_of_ble_eq_true rfl) rfl (dE 52 rfl) fun T113 h113 X113 e113 W113 V113 => ?_
    have N113 := Fr.snoc X113 N112 gn_b101
    refine o_aload X113.here hx (dE 53 rfl) rfl rfl ?_
    refine o_bipush X113.here hx (dE 54 rfl) (z := (12 : Int32)) rfl ?_
    refine o_bipush X113.here hx (dE 55 rfl) (z := (97 : Int32)) rfl ?_
    refine p_arC X113 hx hZ e113 V113 (12 : Int32) 12 ⟨by decide, by decide⟩ rfl (Nat.le_of_ble_eq_true rfl) rfl (dE 56 rfl) fun T114 h114 X114 e114 W114 V114 => ?_
    have N114 := Fr.snoc X114 N113 gn_b101
    refine o_aload X114.here hx (dE 57 rfl) rfl rfl ?_
    refine o_bipush X114.here hx (dE 58 rfl) (z := (13 : Int32)) rfl ?_
    refine o_bipush X114.here hx (dE 59 rfl) (z := (109 : Int32)) rfl ?_
    refine p_arC X114 hx hZ e114 V114 (13 : Int32) 13 ⟨by decide, by decide⟩ rfl (Nat.le_of_ble_eq_true rfl) rfl (dE 60 rfl) fun T115 h115 X115 e115 W115 V115 => ?_
    have N115 := Fr.snoc X115 N114 gn_b101
    refine o_aload X115.here hx (dE 61 rfl) rfl rfl ?_
    refine o_bipush X115.here hx (dE 62 rfl) (z := (14 : Int32)) rfl ?_
    refine o_bipush X115.here hx (dE 63 rfl) (z := (101 : Int32)) rfl ?_
    refine p_arC X115 hx hZ e115 V115 (14 : Int32) 14 ⟨by decide, by decide⟩ rfl (Nat.le_of_ble_eq_true rfl) rfl (dE 64 rfl) fun T116 h116 X116 e116 W116 V116 => ?_
    have N116 := Fr.snoc X116 N115 gn_b101
    refine o_aload X116.here hx (dE 65 rfl) rfl rfl ?_
    refine o_bipush X116.here hx (dE 66 rfl) (z := (15 : Int32)) rfl ?_
    refine o_bipush X116.here hx (dE 67 rfl) (z := (100 : Int32)) rfl ?_
    refine p_arC X116 hx hZ e116 V116 (15 : Int32) 15 ⟨by decide, by decide⟩ rfl (Nat.le_of_ble_eq_true rfl) rfl (dE 68 rfl) fun T117 h117 X117 e117 W117 V117 => ?_
    have N117 := Fr.snoc X117 N116 gn_b101
    refine o_aload X117.here hx (dE 69 rfl) rfl rfl ?_
    refine o_bipush X117.here hx (dE 70 rfl) (z := (16 : Int32)) rfl ?_
    refine o_bipush X117.here hx (dE 71 rfl) (z := (32 : Int32)) rfl ?_
    refine p_arC X117 hx hZ e117 V117 (16 : Int32) 16 ⟨by decide, by decide⟩ rfl (Nat.le_of_ble_eq_true rfl) rfl (dE 72 rfl) fun T118 h118 X118 e118 W118 V118 => ?_
    have N118 := Fr.snoc X118 N117 gn_b101
    refine o_iloadN X118.here hx (dE 73 rfl) rfl ?_
    refine o_ifYes X118.here hx (pc0 := 122) (pc' := 131) rfl (dE 74 rfl) rfl ((if0 _ _).trans (flt (by decide)).2.2.2) (by decide) (by decide) ?_
    refine o_iloadN X118.here hx (dE 75 rfl) rfl ?_
    refine o_iconst X118.here hx (dE 76 rfl) (z := (1 : Int32)) rfl ?_
    refine o_icmpYes X118.here hx (pc0 := 133) (pc' := 142) rfl (dE 77 rfl) rfl (flt (by decide)).2.2.2 (by decide) (by decide) ?_
    refine o_iloadN X118.here hx (dE 78 rfl) rfl ?_
    refine o_iconst X118.here hx (dE 79 rfl) (z := (2 : Int32)) rfl ?_
    refine o_icmpYes X118.here hx (pc0 := 144) (pc' := 153) rfl (dE 80 rfl) rfl (flt (by decide)).2.2.2 (by decide) (by decide) ?_
    have c120 := (Nat.le_trans (Nat.le_trans (Nat.le_trans (Nat.le_trans (Nat.le_trans (Nat.le_trans (Nat.le_trans (Nat.le_trans (Nat.le_trans (Nat.le_trans (Nat.le_trans (Nat.le_trans (Nat.le_trans (Nat.le_trans (Nat.le_trans (Nat.le_trans (Nat.le_trans (Nat.le_trans Z0 E101.1) (Keep.of_wr W102).1) (Keep.of_wr W103).1) (Keep.of_wr W104).1) (Keep.of_wr W105).1) (Keep.of_wr W106).1) (Keep.of_wr W107).1) (Keep.of_wr W108).1) (Keep.of_wr W109).1) (Keep.of_wr W110).1) (Keep.of_wr W111).1) (Keep.of_wr W112).1) (Keep.of_wr W113).1) (Keep.of_wr W114).1) (Keep.of_wr W115).1) (Keep.of_wr W116).1) (Keep.of_wr W117).1) (Keep.of_wr W118).1)
    have c121 := (((((((((((((((((((Keep.refl h0 []).ext E101).wr W102 (Or.inr sz_b101)).wr W103 (Or.inr sz_b101)).wr W104 (Or.inr sz_b101)).wr W105 (Or.inr sz_b101)).wr W106 (Or.inr sz_b101)).wr W107 (Or.inr sz_b101)).wr W108 (Or.inr sz_b101)).wr W109 (Or.inr sz_b101)).wr W110 (Or.inr sz_b101)).wr W111 (Or.inr sz_b101)).wr W112 (Or.inr sz_b101)).wr W113 (Or.inr sz_b101)).wr W114 (Or.inr sz_b101)).wr W115 (Or.inr sz_b101)).wr W116 (Or.inr sz_b101)).wr W117 (Or.inr sz_b101)).wr W118 (Or.inr sz_b101))
    refine p_newO X118 hx hZ hown (g_ hw 5 rfl) (g_ hw 6 rfl) (g_ hw 7 rfl) e118 (dE 81 rfl) (by decide) (by decide) fun T119 h119 b119 g119 X119 e119 E119 A119 D119 U119 => ?_
    have ne_b101_b119 : b101 ≠ b119 := Nat.ne_of_lt (Nat.lt_of_lt_of_le V118.lt (Nat.le_of_eq g119.symm))
    have gn_b119 : n0 ≤ b119 := Nat.le_trans c120 (Nat.le_of_eq g119.symm)
    have sz_b119 : h0.size ≤ b119 := Nat.le_trans c121.1 (Nat.le_of_eq g119.symm)
    have f119_coder : Fld Z h119 b119 "java/lang/String" "coder" "B" (.int (0 : Int32)) := D119 (Or.inr (g_ hw 31 rfl)) (ty := .byte) (by decide)
    have f119_value : Fld Z h119 b119 "java/lang/String" "value" "[B" .null := D119 (Or.inr (g_ hw 33 rfl)) (ty := (.array .byte)) (by decide)
    refine o_dup X119.here hx (dE 82 rfl) rfl rfl ?_
    refine o_aload X119.here hx (dE 83 rfl) rfl rfl ?_
    have c122 := (Nat.le_trans c120 E119.1)
    have c123 := (V118.ext E119)
    have c124 := (((((((((((((((((((O.ext E101).wr W102 gn_b101).wr W103 gn_b101).wr W104 gn_b101).wr W105 gn_b101).wr W106 gn_b101).wr W107 gn_b101).wr W108 gn_b101).wr W109 gn_b101).wr W110 gn_b101).wr W111 gn_b101).wr W112 gn_b101).wr W113 gn_b101).wr W114 gn_b101).wr W115 gn_b101).wr W116 gn_b101).wr W117 gn_b101).wr W118 gn_b101).ext E119)
    refine own_cP X119 (X119.specialBack hx (y := Mn15) rfl hown (mvT hZ (g_ hw 8 rfl)) (mvT hZ (g_ hw 9 rfl)) (mvT hZ (g_ hw 10 rfl)) (by decide) (StrChars.Road.backV (W := 1) hZ (own_words Z a0 hw) (kI := 4) (g_ hw 6 rfl) (cs := [(nar .char (110 : Int32)), (nar .char (111 : Int32)), (nar .char (32 : Int32)), (nar .char (117 : Int32)), (nar .char (115 : Int32)), (nar .char (101 : Int32)), (nar .char (114 : Int32)), (nar .char (32 : Int32)), (nar .char (105 : Int32)), (nar .char (115 : Int32)), (nar .char (32 : Int32)), (nar .char (110 : Int32)), (nar .char (97 : Int32)), (nar .char (109 : Int32)), (nar .char (101 : Int32)), (nar .char (100 : Int32)), (nar .char (32 : Int32))]) (bs := [(110 : Int32), (111 : Int32), (32 : Int32), (117 : Int32), (115 : Int32), (101 : Int32), (114 : Int32), (32 : Int32), (105 : Int32), (115 : Int32), (32 : Int32), (110 : Int32), (97 : Int32), (109 : Int32), (101 : Int32), (100 : Int32), (32 : Int32)]) (n := 17) gn_b119 c122 A119 f119_value f119_coder c123 (SC.ext c124.2) hz rfl rfl (by decide) (by decide) (own_fc (by decide) (own_fc (by decide) (own_fc (by decide) (own_fc (by decide) (own_fc (by decide) (own_fc (by decide) (own_fc (by decide) (own_fc (by decide) (own_fc (by decide) (own_fc (by decide) (own_fc (by decide) (own_fc (by decide) (own_fc (by decide) (own_fc (by decide) (own_fc (by decide) (own_fc (by decide) (own_fc (by decide) own_fn))))))))))))))))) rfl (by decide) (by decide)) (g := (mkF m' 159 #[.val (.int (0 : Int32)), .val (.int c1), .val (.int c2), .val (.int c3), .val (.ref b101)] [(.ref b101), (.ref b119), (.ref b119)])) rfl (by rw [hml]; rfl) (Steps.refl _) (a := b119) (argsL := [(.ref b101)]) (rest := [(.ref b119)]) (lenOf own_pd24 rfl) rfl (by show 2 * 0 + _ ≤ _; exact Nat.le_of_eq rfl) (dE 84 rfl) (fun _ _ => ⟨rfl, e119, (by decide : 2 + 1 ≤ _), (by decide : 21 + 17 ≤ _)⟩)) fun v125 T125 L125 X125 hQ125 => ?_
    obtain ⟨rfl, Nq125, K125, A125, C125, t125, kb125, -, -, -, V125, B125⟩ := hQ125
    have N125 := Fr.app N118 Nq125
    show own_Go p e below Pst (T125.setTop (mkF m' 162 #[.val (.int (0 : Int32)), .val (.int c1), .val (.int c2), .val (.int c3), .val (.ref b101)] [(.ref b119)]))
    have c126 := (Keep.trans (c121.ext E119) K125 (allS (Or.inr sz_b119) all0))
    rw [hPst]
    exact own_retP X125 (v := (some (.ref b119))) (Q := Q_ex Z z (0 : Int32) c1 c2 c3 h0 n0) (fun h => by rw [Bd.returns] at h; cases h) Bd.notSynchronized (fun fs hr => retOut X125 hx Bd.returns rfl (Or.inr (Or.inr (Or.inr (Or.inr ⟨rfl, rfl, rfl⟩)))) (dE 85 rfl) hr) (by decide) (by decide) ⟨_, rfl, N125, c126, sz_b119, A125, C125, _, _, V125, (by rw [own_out0]; exact B125)⟩
  · refine o_bipush X0.here hx (dE 0 rfl) (z := (17 : Int32)) rfl ?_
    refine o_iloadN X0.here hx (dE 1 rfl) rfl ?_
    refine o_iadd X0.here hx (dE 2 rfl) rfl ?_
    rw [show ((17 : Int32) + (1 : Int32)) = (18 : Int32) from by decide]
    show own_Go p e below Pst (s₁.setTop (mkF m' 4 #[.val (.int (1 : Int32)), .val (.int c1), .val (.int c2), .val (.int c3), .unset] [(.int (18 : Int32))]))
    refine p_newP (aty := .char) X0 hx hZ (g_ hw 4 rfl) e0 (dE 3 rfl) rfl (by decide) (cap := 18) (by decide) (by decide) (by decide) (by decide) fun T127 h127 k127 b127 g127 X127 e127 E127 A127 => ?_
    have gn_b127 : n0 ≤ b127 := Nat.le_trans Z0 (Nat.le_of_eq g127.symm)
    have sz_b127 : h0.size ≤ b127 := Nat.le_trans (Keep.refl h0 []).1 (Nat.le_of_eq g127.symm)
    have V127 : Arv Z h127 b127 k127 .char (18 : Int32) [(.int (0 : Int32)), (.int (0 : Int32)), (.int (0 : Int32)), (.int (0 : Int32)), (.int (0 : Int32)), (.int (0 : Int32)), (.int (0 : Int32)), (.int (0 : Int32)), (.int (0 : Int32)), (.int (0 : Int32)), (.int (0 : Int32)), (.int (0 : Int32)), (.int (0 : Int32)), (.int (0 : Int32)), (.int (0 : Int32)), (.int (0 : Int32)), (.int (0 : Int32)), (.int (0 : Int32))] (.int (0 : Int32)) := (Arv.new A127 (by decide)).pad (pad_rep [] (.int (0 : Int32)) 18)
    refine o_astore X127.here hx (dE 4 rfl) rfl rfl (l' := #[.val (.int (1 : Int32)), .val (.int c1), .val (.int c2), .val (.int c3), .val (.ref b127)]) rfl ?_
    refine o_aload X127.here hx (dE 5 rfl) rfl rfl ?_
    refine o_iconst X127.here hx (dE 6 rfl) (z := (0 : Int32)) rfl ?_
    refine o_bipush X127.here hx (dE 7 rfl) (z := (110 : Int32)) rfl ?_
    refine p_arC X127 hx hZ e127 V127 (0 : Int32) 0 ⟨by decide, by decide⟩ rfl (Nat.le_of_ble_eq_true rfl) rfl (dE 8 rfl) fun T128 h128 X128 e128 W128 V128 => ?_
    have N128 := Fr.snoc X128 N0 gn_b127
    refine o_aload X128.here hx (dE 9 rfl) rfl rfl ?_
    refine o_iconst X128.here hx (dE 10 rfl) (z := (1 : Int32)) rfl ?_
    refine o_bipush X128.here hx (dE 11 rfl) (z := (111 : Int32)) rfl ?_
    refine p_arC X128 hx hZ e128 V128 (1 : Int32) 1 ⟨by decide, by decide⟩ rfl (Nat.le_of_ble_eq_true rfl) rfl (dE 12 rfl) fun T129 h129 X129 e129 W129 V129 => ?_
    have N129 := Fr.snoc X129 N128 gn_b127
    refine o_aload X129.here hx (dE 13 rfl) rfl rfl ?_
    refine o_iconst X129.here hx (dE 14 rfl) (z := (2 : Int32)) rfl ?_
    refine o_bipush X129.here hx (dE 15 rfl) (z := (32 : Int32)) rfl ?_
    refine p_arC X129 hx hZ e129 V129 (2 : Int32) 2 ⟨by decide, by decide⟩ rfl (Nat.le_of_ble_eq_true rfl) rfl (dE 16 rfl) fun T130 h130 X130 e130 W130 V130 => ?_
    have N130 := Fr.snoc X130 N129 gn_b127
    refine o_aload X130.here hx (dE 17 rfl) rfl rfl ?_
    refine o_iconst X130.here hx (dE 18 rfl) (z := (3 : Int32)) rfl ?_
    refine o_bipush X130.here hx (dE 19 rfl) (z := (117 : Int32)) rfl ?_
    refine p_arC X130 hx hZ e130 V130 (3 : Int32) 3 ⟨by decide, by decide⟩ rfl (Nat.le_of_ble_eq_true rfl) rfl (dE 20 rfl) fun T131 h131 X131 e131 W131 V131 => ?_
    have N131 := Fr.snoc X131 N130 gn_b127
    refine o_aload X131.here hx (dE 21 rfl) rfl rfl ?_
    refine o_iconst X131.here hx (dE 22 rfl) (z := (4 : Int32)) rfl ?_
    refine o_bipush X131.here hx (dE 23 rfl) (z := (115 : Int32)) rfl ?_
    refine p_arC X131 hx hZ e131 V131 (4 : Int32) 4 ⟨by decide, by decide⟩ rfl (Nat.le_of_ble_eq_true rfl) rfl (dE 24 rfl) fun T132 h132 X132 e132 W132 V132 => ?_
    have N132 := Fr.snoc X132 N131 gn_b127
    refine o_aload X132.here hx (dE 25 rfl) rfl rfl ?_
    refine o_iconst X132.here hx (dE 26 rfl) (z := (5 : Int32)) rfl ?_
    refine o_bipush X132.here hx (dE 27 rfl) (z := (101 : Int32)) rfl ?_
    refine p_arC X132 hx hZ e132 V132 (5 : Int32) 5 ⟨by decide, by decide⟩ rfl (Nat.le_of_ble_eq_true rfl) rfl (dE 28 rfl) fun T133 h133 X133 e133 W133 V133 => ?_
    have N133 := Fr.snoc X133 N132 gn_b127
    refine o_aload X133.here hx (dE 29 rfl) rfl rfl ?_
    refine o_bipush X133.here hx (dE 30 rfl) (z := (6 : Int32)) rfl ?_
    refine o_bipush X133.here hx (dE 31 rfl) (z := (114 : Int32)) rfl ?_
    refine p_arC X133 hx hZ e133 V133 (6 : Int32) 6 ⟨by decide, by decide⟩ rfl (Nat.le_of_ble_eq_true rfl) rfl (dE 32 rfl) fun T134 h134 X134 e134 W134 V134 => ?_
    have N134 := Fr.snoc X134 N133 gn_b127
    refine o_aload X134.here hx (dE 33 rfl) rfl rfl ?_
    refine o_bipush X134.here hx (dE 34 rfl) (z := (7 : Int32)) rfl ?_
    refine o_bipush X134.here hx (dE 35 rfl) (z := (32 : Int32)) rfl ?_
    refine p_arC X134 hx hZ e134 V134 (7 : Int32) 7 ⟨by decide, by decide⟩ rfl (Nat.le_of_ble_eq_true rfl) rfl (dE 36 rfl) fun T135 h135 X135 e135 W135 V135 => ?_
    have N135 := Fr.snoc X135 N134 gn_b127
    refine o_aload X135.here hx (dE 37 rfl) rfl rfl ?_
    refine o_bipush X135.here hx (dE 38 rfl) (z := (8 : Int32)) rfl ?_
    refine o_bipush X135.here hx (dE 39 rfl) (z := (105 : Int32)) rfl ?_
    refine p_arC X135 hx hZ e135 V135 (8 : Int32) 8 ⟨by decide, by decide⟩ rfl (Nat.le_of_ble_eq_true rfl) rfl (dE 40 rfl) fun T136 h136 X136 e136 W136 V136 => ?_
    have N136 := Fr.snoc X136 N135 gn_b127
    refine o_aload X136.here hx (dE 41 rfl) rfl rfl ?_
    refine o_bipush X136.here hx (dE 42 rfl) (z := (9 : Int32)) rfl ?_
    refine o_bipush X136.here hx (dE 43 rfl) (z := (115 : Int32)) rfl ?_
    refine p_arC X136 hx hZ e136 V136 (9 : Int32) 9 ⟨by decide, by decide⟩ rfl (Nat.le_of_ble_eq_true rfl) rfl (dE 44 rfl) fun T137 h137 X137 e137 W137 V137 => ?_
    have N137 := Fr.snoc X137 N136 gn_b127
    refine o_aload X137.here hx (dE 45 rfl) rfl rfl ?_
    refine o_bipush X137.here hx (dE 46 rfl) (z := (10 : Int32)) rfl ?_
    refine o_bipush X137.here hx (dE 47 rfl) (z := (32 : Int32)) rfl ?_
    refine p_arC X137 hx hZ e137 V137 (10 : Int32) 10 ⟨by decide, by decide⟩ rfl (Nat.le_of_ble_eq_true rfl) rfl (dE 48 rfl) fun T138 h138 X138 e138 W138 V138 => ?_
    have N138 := Fr.snoc X138 N137 gn_b127
    refine o_aload X138.here hx (dE 49 rfl) rfl rfl ?_
    refine o_bipush X138.here hx (dE 50 rfl) (z := (11 : Int32)) rfl ?_
    refine o_bipush X138.here hx (dE 51 rfl) (z := (110 : Int32)) rfl ?_
    refine p_arC X138 hx hZ e138 V138 (11 : Int32) 11 ⟨by decide, by decide⟩ rfl (Nat.le_of_ble_eq_true rfl) rfl (dE 52 rfl) fun T139 h139 X139 e139 W139 V139 => ?_
    have N139 := Fr.snoc X139 N138 gn_b127
    refine o_aload X139.here hx (dE 53 rfl) rfl rfl ?_
    refine o_bipush X139.here hx (dE 54 rfl) (z := (12 : Int32)) rfl ?_
    refine o_bipush X139.here hx (dE 55 rfl) (z := (97 : Int32)) rfl ?_
    refine p_arC X139 hx hZ e139 V139 (12 : Int32) 12 ⟨by decide, by decide⟩ rfl (Nat.le_of_ble_eq_true rfl) rfl (dE 56 rfl) fun T140 h140 X140 e140 W140 V140 => ?_
    have N140 := Fr.snoc X140 N139 gn_b127
    refine o_aload X140.here hx (dE 57 rfl) rfl rfl ?_
    refine o_bipush X140.here hx (dE 58 rfl) (z := (13 : Int32)) rfl ?_
    refine o_bipush X140.here hx (dE 59 rfl) (z := (109 : Int32)) rfl ?_
    refine p_arC X140 hx hZ e140 V140 (13 : Int32) 13 ⟨by decide, by decide⟩ rfl (Nat.le_of_ble_eq_true rfl) rfl (dE 60 rfl) fun T141 h141 X141 e141 W141 V141 => ?_
    have N141 := Fr.snoc X141 N140 gn_b127
    refine o_aload X141.here hx (dE 61 rfl) rfl rfl ?_
    refine o_bipush X141.here hx (dE 62 rfl) (z := (14 : Int32)) rfl ?_
    refine o_bipush X141.here hx (dE 63 rfl) (z := (101 : Int32)) rfl ?_
    refine p_arC X141 hx hZ e141 V141 (14 : Int32) 14 ⟨by decide, by decide⟩ rfl (Nat.le_of_ble_eq_true rfl) rfl (dE 64 rfl) fun T142 h142 X142 e142 W142 V142 => ?_
    have N142 := Fr.snoc X142 N141 gn_b127
    refine o_aload X142.here hx (dE 65 rfl) rfl rfl ?_
    refine o_bipush X142.here hx (dE 66 rfl) (z := (15 : Int32)) rfl ?_
    refine o_bipush X142.here hx (dE 67 rfl) (z := (100 : Int32)) rfl ?_
    refine p_arC X142 hx hZ e142 V142 (15 : Int32) 15 ⟨by decide, by decide⟩ rfl (Nat.le_of_ble_eq_true rfl) rfl (dE 68 rfl) fun T143 h143 X143 e143 W143 V143 => ?_
    have N143 := Fr.snoc X143 N142 gn_b127
    refine o_aload X143.here hx (dE 69 rfl) rfl rfl ?_
    refine o_bipush X143.here hx (dE 70 rfl) (z := (16 : Int32)) rfl ?_
    refine o_bipush X143.here hx (dE 71 rfl) (z := (32 : Int32)) rfl ?_
    refine p_arC X143 hx hZ e143 V143 (16 : Int32) 16 ⟨by decide, by decide⟩ rfl (Nat.le_of_ble_eq_true rfl) rfl (dE 72 rfl) fun T144 h144 X144 e144 W144 V144 => ?_
    have N144 := Fr.snoc X144 N143 gn_b127
    refine o_iloadN X144.here hx (dE 73 rfl) rfl ?_
    refine o_ifNo X144.here hx (dE 74 rfl) rfl ((if0 _ _).trans (tlt (by decide)).2.2.2) ?_
    refine o_aload X144.here hx (dE 86 rfl) rfl rfl ?_
    refine o_bipush X144.here hx (dE 87 rfl) (z := (17 : Int32)) rfl ?_
    refine o_iloadN X144.here hx (dE 88 rfl) rfl ?_
    refine p_arC X144 hx hZ e144 V144 (17 : Int32) 17 ⟨by decide, by decide⟩ rfl (Nat.le_of_ble_eq_true rfl) rfl (dE 89 rfl) fun T145 h145 X145 e145 W145 V145 => ?_
    have N145 := Fr.snoc X145 N144 gn_b127
    refine o_iloadN X145.here hx (dE 75 rfl) rfl ?_
    refine o_iconst X145.here hx (dE 76 rfl) (z := (1 : Int32)) rfl ?_
    refine o_icmpYes X145.here hx (pc0 := 133) (pc' := 142) rfl (dE 77 rfl) rfl (flt (by decide)).2.2.2 (by decide) (by decide) ?_
    refine o_iloadN X145.here hx (dE 78 rfl) rfl ?_
    refine o_iconst X145.here hx (dE 79 rfl) (z := (2 : Int32)) rfl ?_
    refine o_icmpYes X145.here hx (pc0 := 144) (pc' := 153) rfl (dE 80 rfl) rfl (flt (by decide)).2.2.2 (by decide) (by decide) ?_
    have c147 := (Nat.le_trans (Nat.le_trans (Nat.le_trans (Nat.le_trans (Nat.le_trans (Nat.le_trans (Nat.le_trans (Nat.le_trans (Nat.le_trans (Nat.le_trans (Nat.le_trans (Nat.le_trans (Nat.le_trans (Nat.le_trans (Nat.le_trans (Nat.le_trans (Nat.le_trans (Nat.le_trans (Nat.le_trans Z0 E127.1) (Keep.of_wr W128).1) (Keep.of_wr W129).1) (Keep.of_wr W130).1) (Keep.of_wr W131).1) (Keep.of_wr W132).1) (Keep.of_wr W133).1) (Keep.of_wr W134).1) (Keep.of_wr W135).1) (Keep.of_wr W136).1) (Keep.of_wr W137).1) (Keep.of_wr W138).1) (Keep.of_wr W139).1) (Keep.of_wr W140).1) (Keep.of_wr W141).1) (Keep.of_wr W142).1) (Keep.of_wr W143).1) (Keep.of_wr W144).1) (Keep.of_wr W145).1)
    have c148 := ((((((((((((((((((((Keep.refl h0 []).ext E127).wr W128 (Or.inr sz_b127)).wr W129 (Or.inr sz_b127)).wr W130 (Or.inr sz_b127)).wr W131 (Or.inr sz_b127)).wr W132 (Or.inr sz_b127)).wr W133 (Or.inr sz_b127)).wr W134 (Or.inr sz_b127)).wr W135 (Or.inr sz_b127)).wr W136 (Or.inr sz_b127)).wr W137 (Or.inr sz_b127)).wr W138 (Or.inr sz_b127)).wr W139 (Or.inr sz_b127)).wr W140 (Or.inr sz_b127)).wr W141 (Or.inr sz_b127)).wr W142 (Or.inr sz_b127)).wr W143 (Or.inr sz_b127)).wr W144 (Or.inr sz_b127)).wr W145 (Or.inr sz_b127))
    refine p_newO X145 hx hZ hown (g_ hw 5 rfl) (g_ hw 6 rfl) (g_ hw 7 rfl) e145 (dE 81 rfl) (by decide) (by decide) fun T146 h146 b146 g146 X146 e146 E146 A146 D146 U146 => ?_
    have ne_b127_b146 : b127 ≠ b146 := Nat.ne_of_lt (Nat.lt_of_lt_of_le V145.lt (Nat.le_of_eq g146.symm))
    have gn_b146 : n0 ≤ b146 := Nat.le_trans c147 (Nat.le_of_eq g146.symm)
    have sz_b146 : h0.size ≤ b146 := Nat.le_trans c148.1 (Nat.le_of_eq g146.symm)
    have f146_coder : Fld Z h146 b146 "java/lang/String" "coder" "B" (.int (0 : Int32)) := D146 (Or.inr (g_ hw 31 rfl)) (ty := .byte) (by decide)
    have f146_value : Fld Z h146 b146 "java/lang/String" "value" "[B" .null := D146 (Or.inr (g_ hw 33 rfl)) (ty := (.array .byte)) (by decide)
    refine o_dup X146.here hx (dE 82 rfl) rfl rfl ?_
    refine o_aload X146.here hx (dE 83 rfl) rfl rfl ?_
    have c149 := (Nat.le_trans c147 E146.1)
    have c150 := (V145.ext E146)
    have c151 := ((((((((((((((((((((O.ext E127).wr W128 gn_b127).wr W129 gn_b127).wr W130 gn_b127).wr W131 gn_b127).wr W132 gn_b127).wr W133 gn_b127).wr W134 gn_b127).wr W135 gn_b127).wr W136 gn_b127).wr W137 gn_b127).wr W138 gn_b127).wr W139 gn_b127).wr W140 gn_b127).wr W141 gn_b127).wr W142 gn_b127).wr W143 gn_b127).wr W144 gn_b127).wr W145 gn_b127).ext E146)
    refine own_cP X146 (X146.specialBack hx (y := Mn15) rfl hown (mvT hZ (g_ hw 8 rfl)) (mvT hZ (g_ hw 9 rfl)) (mvT hZ (g_ hw 10 rfl)) (by decide) (StrChars.Road.backV (W := 1) hZ (own_words Z a0 hw) (kI := 4) (g_ hw 6 rfl) (cs := [(nar .char (110 : Int32)), (nar .char (111 : Int32)), (nar .char (32 : Int32)), (nar .char (117 : Int32)), (nar .char (115 : Int32)), (nar .char (101 : Int32)), (nar .char (114 : Int32)), (nar .char (32 : Int32)), (nar .char (105 : Int32)), (nar .char (115 : Int32)), (nar .char (32 : Int32)), (nar .char (110 : Int32)), (nar .char (97 : Int32)), (nar .char (109 : Int32)), (nar .char (101 : Int32)), (nar .char (100 : Int32)), (nar .char (32 : Int32)), (nar .char c1)]) (bs := [(110 : Int32), (111 : Int32), (32 : Int32), (117 : Int32), (115 : Int32), (101 : Int32), (114 : Int32), (32 : Int32), (105 : Int32), (115 : Int32), (32 : Int32), (110 : Int32), (97 : Int32), (109 : Int32), (101 : Int32), (100 : Int32), (32 : Int32), ((nar .char c1).toInt8.toInt32)]) (n := 18) gn_b146 c149 A146 f146_value f146_coder c150 (SC.ext c151.2) hz rfl rfl (by decide) (by decide) (own_fc (by decide) (own_fc (by decide) (own_fc (by decide) (own_fc (by decide) (own_fc (by decide) (own_fc (by decide) (own_fc (by decide) (own_fc (by decide) (own_fc (by decide) (own_fc (by decide) (own_fc (by decide) (own_fc (by decide) (own_fc (by decide) (own_fc (by decide) (own_fc (by decide) (own_fc (by decide) (own_fc (by decide) (own_fc hp1 own_fn)))))))))))))))))) rfl (by decide) (by decide)) (g := (mkF m' 159 #[.val (.int (1 : Int32)), .val (.int c1), .val (.int c2), .val (.int c3), .val (.ref b127)] [(.ref b127), (.ref b146), (.ref b146)])) rfl (by rw [hml]; rfl) (Steps.refl _) (a := b146) (argsL := [(.ref b127)]) (rest := [(.ref b146)]) (lenOf own_pd24 rfl) rfl (by show 2 * 0 + _ ≤ _; exact Nat.le_of_eq rfl) (dE 84 rfl) (fun _ _ => ⟨rfl, e146, (by decide : 2 + 1 ≤ _), (by decide : 22 + 18 ≤ _)⟩)) fun v152 T152 L152 X152 hQ152 => ?_
    obtain ⟨rfl, Nq152, K152, A152, C152, t152, kb152, -, -, -, V152, B152⟩ := hQ152
    have N152 := Fr.app N145 Nq152
    show own_Go p e below Pst (T152.setTop (mkF m' 162 #[.val (.int (1 : Int32)), .val (.int c1), .val (.int c2), .val (.int c3), .val (.ref b127)] [(.ref b146)]))
    have c153 := (Keep.trans (c148.ext E146) K152 (allS (Or.inr sz_b146) all0))
    rw [hPst]
    exact own_retP X152 (v := (some (.ref b146))) (Q := Q_ex Z z (1 : Int32) c1 c2 c3 h0 n0) (fun h => by rw [Bd.returns] at h; cases h) Bd.notSynchronized (fun fs hr => retOut X152 hx Bd.returns rfl (Or.inr (Or.inr (Or.inr (Or.inr ⟨rfl, rfl, rfl⟩)))) (dE 85 rfl) hr) (by decide) (by decide) ⟨_, rfl, N152, c153, sz_b146, A152, C152, _, _, V152, (by rw [own_out1]; exact B152)⟩
  · refine o_bipush X0.here hx (dE 0 rfl) (z := (17 : Int32)) rfl ?_
    refine o_iloadN X0.here hx (dE 1 rfl) rfl ?_
    refine o_iadd X0.here hx (dE 2 rfl) rfl ?_
    rw [show ((17 : Int32) + (2 : Int32)) = (19 : Int32) from by decide]
    show own_Go p e below Pst (s₁.setTop (mkF m' 4 #[.val (.int (2 : Int32)), .val (.int c1), .val (.int c2), .val (.int c3), .unset] [(.int (19 : Int32))]))
    refine p_newP (aty := .char) X0 hx hZ (g_ hw 4 rfl) e0 (dE 3 rfl) rfl (by decide) (cap := 19) (by decide) (by decide) (by decide) (by decide) fun T154 h154 k154 b154 g154 X154 e154 E154 A154 => ?_
    have gn_b154 : n0 ≤ b154 := Nat.le_trans Z0 (Nat.le_of_eq g154.symm)
    have sz_b154 : h0.size ≤ b154 := Nat.le_trans (Keep.refl h0 []).1 (Nat.le_of_eq g154.symm)
    have V154 : Arv Z h154 b154 k154 .char (19 : Int32) [(.int (0 : Int32)), (.int (0 : Int32)), (.int (0 : Int32)), (.int (0 : Int32)), (.int (0 : Int32)), (.int (0 : Int32)), (.int (0 : Int32)), (.int (0 : Int32)), (.int (0 : Int32)), (.int (0 : Int32)), (.int (0 : Int32)), (.int (0 : Int32)), (.int (0 : Int32)), (.int (0 : Int32)), (.int (0 : Int32)), (.int (0 : Int32)), (.int (0 : Int32)), (.int (0 : Int32)), (.int (0 : Int32))] (.int (0 : Int32)) := (Arv.new A154 (by decide)).pad (pad_rep [] (.int (0 : Int32)) 19)
    refine o_astore X154.here hx (dE 4 rfl) rfl rfl (l' := #[.val (.int (2 : Int32)), .val (.int c1), .val (.int c2), .val (.int c3), .val (.ref b154)]) rfl ?_
    refine o_aload X154.here hx (dE 5 rfl) rfl rfl ?_
    refine o_iconst X154.here hx (dE 6 rfl) (z := (0 : Int32)) rfl ?_
    refine o_bipush X154.here hx (dE 7 rfl) (z := (110 : Int32)) rfl ?_
    refine p_arC X154 hx hZ e154 V154 (0 : Int32) 0 ⟨by decide, by decide⟩ rfl (Nat.le_of_ble_eq_true rfl) rfl (dE 8 rfl) fun T155 h155 X155 e155 W155 V155 => ?_
    have N155 := Fr.snoc X155 N0 gn_b154
    refine o_aload X155.here hx (dE 9 rfl) rfl rfl ?_
    refine o_iconst X155.here hx (dE 10 rfl) (z := (1 : Int32)) rfl ?_
    refine o_bipush X155.here hx (dE 11 rfl) (z := (111 : Int32)) rfl ?_
    refine p_arC X155 hx hZ e155 V155 (1 : Int32) 1 ⟨by decide, by decide⟩ rfl (Nat.le_of_ble_eq_true rfl) rfl (dE 12 rfl) fun T156 h156 X156 e156 W156 V156 => ?_
    have N156 := Fr.snoc X156 N155 gn_b154
    refine o_aload X156.here hx (dE 13 rfl) rfl rfl ?_
    refine o_iconst X156.here hx (dE 14 rfl) (z := (2 : Int32)) rfl ?_
    refine o_bipush X156.here hx (dE 15 rfl) (z := (32 : Int32)) rfl ?_
    refine p_arC X156 hx hZ e156 V156 (2 : Int32) 2 ⟨by decide, by decide⟩ rfl (Nat.le_of_ble_eq_true rfl) rfl (dE 16 rfl) fun T157 h157 X157 e157 W157 V157 => ?_
    have N157 := Fr.snoc X157 N156 gn_b154
    refine o_aload X157.here hx (dE 17 rfl) rfl rfl ?_
    refine o_iconst X157.here hx (dE 18 rfl) (z := (3 : Int32)) rfl ?_
    refine o_bipush X157.here hx (dE 19 rfl) (z := (117 : Int32)) rfl ?_
    refine p_arC X157 hx hZ e157 V157 (3 : Int32) 3 ⟨by decide, by decide⟩ rfl (Nat.le_of_ble_eq_true rfl) rfl (dE 20 rfl) fun T158 h158 X158 e158 W158 V158 => ?_
    have N158 := Fr.snoc X158 N157 gn_b154
    refine o_aload X158.here hx (dE 21 rfl) rfl rfl ?_
    refine o_iconst X158.here hx (dE 22 rfl) (z := (4 : Int32)) rfl ?_
    refine o_bipush X158.here hx (dE 23 rfl) (z := (115 : Int32)) rfl ?_
    refine p_arC X158 hx hZ e158 V158 (4 : Int32) 4 ⟨by decide, by decide⟩ rfl (Nat.le_of_ble_eq_true rfl) rfl (dE 24 rfl) fun T159 h159 X159 e159 W159 V159 => ?_
    have N159 := Fr.snoc X159 N158 gn_b154
    refine o_aload X159.here hx (dE 25 rfl) rfl rfl ?_
    refine o_iconst X159.here hx (dE 26 rfl) (z := (5 : Int32)) rfl ?_
    refine o_bipush X159.here hx (dE 27 rfl) (z := (101 : Int32)) rfl ?_
    refine p_arC X159 hx hZ e159 V159 (5 : Int32) 5 ⟨by decide, by decide⟩ rfl (Nat.le_of_ble_eq_true rfl) rfl (dE 28 rfl) fun T160 h160 X160 e160 W160 V160 => ?_
    have N160 := Fr.snoc X160 N159 gn_b154
    refine o_aload X160.here hx (dE 29 rfl) rfl rfl ?_
    refine o_bipush X160.here hx (dE 30 rfl) (z := (6 : Int32)) rfl ?_
    refine o_bipush X160.here hx (dE 31 rfl) (z := (114 : Int32)) rfl ?_
    refine p_arC X160 hx hZ e160 V160 (6 : Int32) 6 ⟨by decide, by decide⟩ rfl (Nat.le_of_ble_eq_true rfl) rfl (dE 32 rfl) fun T161 h161 X161 e161 W161 V161 => ?_
    have N161 := Fr.snoc X161 N160 gn_b154
    refine o_aload X161.here hx (dE 33 rfl) rfl rfl ?_
    refine o_bipush X161.here hx (dE 34 rfl) (z := (7 : Int32)) rfl ?_
    refine o_bipush X161.here hx (dE 35 rfl) (z := (32 : Int32)) rfl ?_
    refine p_arC X161 hx hZ e161 V161 (7 : Int32) 7 ⟨by decide, by decide⟩ rfl (Nat.le_of_ble_eq_true rfl) rfl (dE 36 rfl) fun T162 h162 X162 e162 W162 V162 => ?_
    have N162 := Fr.snoc X162 N161 gn_b154
    refine o_aload X162.here hx (dE 37 rfl) rfl rfl ?_
    refine o_bipush X162.here hx (dE 38 rfl) (z := (8 : Int32)) rfl ?_
    refine o_bipush X162.here hx (dE 39 rfl) (z := (105 : Int32)) rfl ?_
    refine p_arC X162 hx hZ e162 V162 (8 : Int32) 8 ⟨by decide, by decide⟩ rfl (Nat.le_of_ble_eq_true rfl) rfl (dE 40 rfl) fun T163 h163 X163 e163 W163 V163 => ?_
    have N163 := Fr.snoc X163 N162 gn_b154
    refine o_aload X163.here hx (dE 41 rfl) rfl rfl ?_
    refine o_bipush X163.here hx (dE 42 rfl) (z := (9 : Int32)) rfl ?_
    refine o_bipush X163.here hx (dE 43 rfl) (z := (115 : Int32)) rfl ?_
    refine p_arC X163 hx hZ e163 V163 (9 : Int32) 9 ⟨by decide, by decide⟩ rfl (Nat.le_of_ble_eq_true rfl) rfl (dE 44 rfl) fun T164 h164 X164 e164 W164 V164 => ?_
    have N164 := Fr.snoc X164 N163 gn_b154
    refine o_aload X164.here hx (dE 45 rfl) rfl rfl ?_
    refine o_bipush X164.here hx (dE 46 rfl) (z := (10 : Int32)) rfl ?_
    refine o_bipush X164.here hx (dE 47 rfl) (z := (32 : Int32)) rfl ?_
    refine p_arC X164 hx hZ e164 V164 (10 : Int32) 10 ⟨by decide, by decide⟩ rfl (Nat.le_of_ble_eq_true rfl) rfl (dE 48 rfl) fun T165 h165 X165 e165 W165 V165 => ?_
    have N165 := Fr.snoc X165 N164 gn_b154
    refine o_aload X165.here hx (dE 49 rfl) rfl rfl ?_
    refine o_bipush X165.here hx (dE 50 rfl) (z := (11 : Int32)) rfl ?_
    refine o_bipush X165.here hx (dE 51 rfl) (z := (110 : Int32)) rfl ?_
    refine p_arC X165 hx hZ e165 V165 (11 : Int32) 11 ⟨by decide, by decide⟩ rfl (Nat.le_of_ble_eq_true rfl) rfl (dE 52 rfl) fun T166 h166 X166 e166 W166 V166 => ?_
    have N166 := Fr.snoc X166 N165 gn_b154
    refine o_aload X166.here hx (dE 53 rfl) rfl rfl ?_
    refine o_bipush X166.here hx (dE 54 rfl) (z := (12 : Int32)) rfl ?_
    refine o_bipush X166.here hx (dE 55 rfl) (z := (97 : Int32)) rfl ?_
    refine p_arC X166 hx hZ e166 V166 (12 : Int32) 12 ⟨by decide, by decide⟩ rfl (Nat.le_of_ble_eq_true rfl) rfl (dE 56 rfl) fun T167 h167 X167 e167 W167 V167 => ?_
    have N167 := Fr.snoc X167 N166 gn_b154
    refine o_aload X167.here hx (dE 57 rfl) rfl rfl ?_
    refine o_bipush X167.here hx (dE 58 rfl) (z := (13 : Int32)) rfl ?_
    refine o_bipush X167.here hx (dE 59 rfl) (z := (109 : Int32)) rfl ?_
    refine p_arC X167 hx hZ e167 V167 (13 : Int32) 13 ⟨by decide, by decide⟩ rfl (Nat.le_of_ble_eq_true rfl) rfl (dE 60 rfl) fun T168 h168 X168 e168 W168 V168 => ?_
    have N168 := Fr.snoc X168 N167 gn_b154
    refine o_aload X168.here hx (dE 61 rfl) rfl rfl ?_
    refine o_bipush X168.here hx (dE 62 rfl) (z := (14 : Int32)) rfl ?_
    refine o_bipush X168.here hx (dE 63 rfl) (z := (101 : Int32)) rfl ?_
    refine p_arC X168 hx hZ e168 V168 (14 : Int32) 14 ⟨by decide, by decide⟩ rfl (Nat.le_of_ble_eq_true rfl) rfl (dE 64 rfl) fun T169 h169 X169 e169 W169 V169 => ?_
    have N169 := Fr.snoc X169 N168 gn_b154
    refine o_aload X169.here hx (dE 65 rfl) rfl rfl ?_
    refine o_bipush X169.here hx (dE 66 rfl) (z := (15 : Int32)) rfl ?_
    refine o_bipush X169.here hx (dE 67 rfl) (z := (100 : Int32)) rfl ?_
    refine p_arC X169 hx hZ e169 V169 (15 : Int32) 15 ⟨by decide, by decide⟩ rfl (Nat.le_of_ble_eq_true rfl) rfl (dE 68 rfl) fun T170 h170 X170 e170 W170 V170 => ?_
    have N170 := Fr.snoc X170 N169 gn_b154
    refine o_aload X170.here hx (dE 69 rfl) rfl rfl ?_
    refine o_bipush X170.here hx (dE 70 rfl) (z := (16 : Int32)) rfl ?_
    refine o_bipush X170.here hx (dE 71 rfl) (z := (32 : Int32)) rfl ?_
    refine p_arC X170 hx hZ e170 V170 (16 : Int32) 16 ⟨by decide, by decide⟩ rfl (Nat.le_of_ble_eq_true rfl) rfl (dE 72 rfl) fun T171 h171 X171 e171 W171 V171 => ?_
    have N171 := Fr.snoc X171 N170 gn_b154
    refine o_iloadN X171.here hx (dE 73 rfl) rfl ?_
    refine o_ifNo X171.here hx (dE 74 rfl) rfl ((if0 _ _).trans (tlt (by decide)).2.2.2) ?_
    refine o_aload X171.here hx (dE 86 rfl) rfl rfl ?_
    refine o_bipush X171.here hx (dE 87 rfl) (z := (17 : Int32)) rfl ?_
    refine o_iloadN X171.here hx (dE 88 rfl) rfl ?_
    refine p_arC X171 hx hZ e171 V171 (17 : Int32) 17 ⟨by decide, by decide⟩ rfl (Nat.le_of_ble_eq_true rfl) rfl (dE 89 rfl) fun T172 h172 X172 e172 W172 V172 => ?_
    have N172 := Fr.snoc X172 N171 gn_b154
    refine o_iloadN X172.here hx (dE 75 rfl) rfl ?_
    refine o_iconst X172.here hx (dE 76 rfl) (z := (1 : Int32)) rfl ?_
    refine o_icmpNo X172.here hx (dE 77 rfl) rfl (tlt (by decide)).2.2.2 ?_
    refine o_aload X172.here hx (dE 90 rfl) rfl rfl ?_
    refine o_bipush X172.here hx (dE 91 rfl) (z := (18 : Int32)) rfl ?_
    refine o_iloadN X172.here hx (dE 92 rfl) rfl ?_
    refine p_arC X172 hx hZ e172 V172 (18 : Int32) 18 ⟨by decide, by decide⟩ rfl (Nat.le_of_ble_eq_true rfl) rfl (dE 93 rfl) fun T173 h173 X173 e173 W173 V173 => ?_
    have N173 := Fr.snoc X173 N172 gn_b154
    refine o_iloadN X173.here hx (dE 78 rfl) rfl ?_
    refine o_iconst X173.here hx (dE 79 rfl) (z := (2 : Int32)) rfl ?_
    refine o_icmpYes X173.here hx (pc0 := 144) (pc' := 153) rfl (dE 80 rfl) rfl (flt (by decide)).2.2.2 (by decide) (by decide) ?_
    have c175 := (Nat.le_trans (Nat.le_trans (Nat.le_trans (Nat.le_trans (Nat.le_trans (Nat.le_trans (Nat.le_trans (Nat.le_trans (Nat.le_trans (Nat.le_trans (Nat.le_trans (Nat.le_trans (Nat.le_trans (Nat.le_trans (Nat.le_trans (Nat.le_trans (Nat.le_trans (Nat.le_trans (Nat.le_trans (Nat.le_trans Z0 E154.1) (Keep.of_wr W155).1) (Keep.of_wr W156).1) (Keep.of_wr W157).1) (Keep.of_wr W158).1) (Keep.of_wr W159).1) (Keep.of_wr W160).1) (Keep.of_wr W161).1) (Keep.of_wr W162).1) (Keep.of_wr W163).1) (Keep.of_wr W164).1) (Keep.of_wr W165).1) (Keep.of_wr W166).1) (Keep.of_wr W167).1) (Keep.of_wr W168).1) (Keep.of_wr W169).1) (Keep.of_wr W170).1) (Keep.of_wr W171).1) (Keep.of_wr W172).1) (Keep.of_wr W173).1)
    have c176 := (((((((((((((((((((((Keep.refl h0 []).ext E154).wr W155 (Or.inr sz_b154)).wr W156 (Or.inr sz_b154)).wr W157 (Or.inr sz_b154)).wr W158 (Or.inr sz_b154)).wr W159 (Or.inr sz_b154)).wr W160 (Or.inr sz_b154)).wr W161 (Or.inr sz_b154)).wr W162 (Or.inr sz_b154)).wr W163 (Or.inr sz_b154)).wr W164 (Or.inr sz_b154)).wr W165 (Or.inr sz_b154)).wr W166 (Or.inr sz_b154)).wr W167 (Or.inr sz_b154)).wr W168 (Or.inr sz_b154)).wr W169 (Or.inr sz_b154)).wr W170 (Or.inr sz_b154)).wr W171 (Or.inr sz_b154)).wr W172 (Or.inr sz_b154)).wr W173 (Or.inr sz_b154))
    refine p_newO X173 hx hZ hown (g_ hw 5 rfl) (g_ hw 6 rfl) (g_ hw 7 rfl) e173 (dE 81 rfl) (by decide) (by decide) fun T174 h174 b174 g174 X174 e174 E174 A174 D174 U174 => ?_
    have ne_b154_b174 : b154 ≠ b174 := Nat.ne_of_lt (Nat.lt_of_lt_of_le V173.lt (Nat.le_of_eq g174.symm))
    have gn_b174 : n0 ≤ b174 := Nat.le_trans c175 (Nat.le_of_eq g174.symm)
    have sz_b174 : h0.size ≤ b174 := Nat.le_trans c176.1 (Nat.le_of_eq g174.symm)
    have f174_coder : Fld Z h174 b174 "java/lang/String" "coder" "B" (.int (0 : Int32)) := D174 (Or.inr (g_ hw 31 rfl)) (ty := .byte) (by decide)
    have f174_value : Fld Z h174 b174 "java/lang/String" "value" "[B" .null := D174 (Or.inr (g_ hw 33 rfl)) (ty := (.array .byte)) (by decide)
    refine o_dup X174.here hx (dE 82 rfl) rfl rfl ?_
    refine o_aload X174.here hx (dE 83 rfl) rfl rfl ?_
    have c177 := (Nat.le_trans c175 E174.1)
    have c178 := (V173.ext E174)
    have c179 := (((((((((((((((((((((O.ext E154).wr W155 gn_b154).wr W156 gn_b154).wr W157 gn_b154).wr W158 gn_b154).wr W159 gn_b154).wr W160 gn_b154).wr W161 gn_b154).wr W162 gn_b154).wr W163 gn_b154).wr W164 gn_b154).wr W165 gn_b154).wr W166 gn_b154).wr W167 gn_b154).wr W168 gn_b154).wr W169 gn_b154).wr W170 gn_b154).wr W171 gn_b154).wr W172 gn_b154).wr W173 gn_b154).ext E174)
    refine own_cP X174 (X174.specialBack hx (y := Mn15) rfl hown (mvT hZ (g_ hw 8 rfl)) (mvT hZ (g_ hw 9 rfl)) (mvT hZ (g_ hw 10 rfl)) (by decide) (StrChars.Road.backV (W := 1) hZ (own_words Z a0 hw) (kI := 4) (g_ hw 6 rfl) (cs := [(nar .char (110 : Int32)), (nar .char (111 : Int32)), (nar .char (32 : Int32)), (nar .char (117 : Int32)), (nar .char (115 : Int32)), (nar .char (101 : Int32)), (nar .char (114 : Int32)), (nar .char (32 : Int32)), (nar .char (105 : Int32)), (nar .char (115 : Int32)), (nar .char (32 : Int32)), (nar .char (110 : Int32)), (nar .char (97 : Int32)), (nar .char (109 : Int32)), (nar .char (101 : Int32)), (nar .char (100 : Int32)), (nar .char (32 : Int32)), (nar .char c1), (nar .char c2)]) (bs := [(110 : Int32), (111 : Int32), (32 : Int32), (117 : Int32), (115 : Int32), (101 : Int32), (114 : Int32), (32 : Int32), (105 : Int32), (115 : Int32), (32 : Int32), (110 : Int32), (97 : Int32), (109 : Int32), (101 : Int32), (100 : Int32), (32 : Int32), ((nar .char c1).toInt8.toInt32), ((nar .char c2).toInt8.toInt32)]) (n := 19) gn_b174 c177 A174 f174_value f174_coder c178 (SC.ext c179.2) hz rfl rfl (by decide) (by decide) (own_fc (by decide) (own_fc (by decide) (own_fc (by decide) (own_fc (by decide) (own_fc (by decide) (own_fc (by decide) (own_fc (by decide) (own_fc (by decide) (own_fc (by decide) (own_fc (by decide) (own_fc (by decide) (own_fc (by decide) (own_fc (by decide) (own_fc (by decide) (own_fc (by decide) (own_fc (by decide) (own_fc (by decide) (own_fc hp1 (own_fc hp2 own_fn))))))))))))))))))) rfl (by decide) (by decide)) (g := (mkF m' 159 #[.val (.int (2 : Int32)), .val (.int c1), .val (.int c2), .val (.int c3), .val (.ref b154)] [(.ref b154), (.ref b174), (.ref b174)])) rfl (by rw [hml]; rfl) (Steps.refl _) (a := b174) (argsL := [(.ref b154)]) (rest := [(.ref b174)]) (lenOf own_pd24 rfl) rfl (by show 2 * 0 + _ ≤ _; exact Nat.le_of_eq rfl) (dE 84 rfl) (fun _ _ => ⟨rfl, e174, (by decide : 2 + 1 ≤ _), (by decide : 23 + 19 ≤ _)⟩)) fun v180 T180 L180 X180 hQ180 => ?_
    obtain ⟨rfl, Nq180, K180, A180, C180, t180, kb180, -, -, -, V180, B180⟩ := hQ180
    have N180 := Fr.app N173 Nq180
    show own_Go p e below Pst (T180.setTop (mkF m' 162 #[.val (.int (2 : Int32)), .val (.int c1), .val (.int c2), .val (.int c3), .val (.ref b154)] [(.ref b174)]))
    have c181 := (Keep.trans (c176.ext E174) K180 (allS (Or.inr sz_b174) all0))
    rw [hPst]
    exact own_retP X180 (v := (some (.ref b174))) (Q := Q_ex Z z (2 : Int32) c1 c2 c3 h0 n0) (fun h => by rw [Bd.returns] at h; cases h) Bd.notSynchronized (fun fs hr => retOut X180 hx Bd.returns rfl (Or.inr (Or.inr (Or.inr (Or.inr ⟨rfl, rfl, rfl⟩)))) (dE 85 rfl) hr) (by decide) (by decide) ⟨_, rfl, N180, c181, sz_b174, A180, C180, _, _, V180, (by rw [own_out2]; exact B180)⟩
  · refine o_bipush X0.here hx (dE 0 rfl) (z := (17 : Int32)) rfl ?_
    refine o_iloadN X0.here hx (dE 1 rfl) rfl ?_
    refine o_iadd X0.here hx (dE 2 rfl) rfl ?_
    rw [show ((17 : Int32) + (3 : Int32)) = (20 : Int32) from by decide]
    show own_Go p e below Pst (s₁.setTop (mkF m' 4 #[.val (.int (3 : Int32)), .val (.int c1), .val (.int c2), .val (.int c3), .unset] [(.int (20 : Int32))]))
    refine p_newP (aty := .char) X0 hx hZ (g_ hw 4 rfl) e0 (dE 3 rfl) rfl (by decide) (cap := 20) (by decide) (by decide) (by decide) (by decide) fun T182 h182 k182 b182 g182 X182 e182 E182 A182 => ?_
    have gn_b182 : n0 ≤ b182 := Nat.le_trans Z0 (Nat.le_of_eq g182.symm)
    have sz_b182 : h0.size ≤ b182 := Nat.le_trans (Keep.refl h0 []).1 (Nat.le_of_eq g182.symm)
    have V182 : Arv Z h182 b182 k182 .char (20 : Int32) [(.int (0 : Int32)), (.int (0 : Int32)), (.int (0 : Int32)), (.int (0 : Int32)), (.int (0 : Int32)), (.int (0 : Int32)), (.int (0 : Int32)), (.int (0 : Int32)), (.int (0 : Int32)), (.int (0 : Int32)), (.int (0 : Int32)), (.int (0 : Int32)), (.int (0 : Int32)), (.int (0 : Int32)), (.int (0 : Int32)), (.int (0 : Int32)), (.int (0 : Int32)), (.int (0 : Int32)), (.int (0 : Int32)), (.int (0 : Int32))] (.int (0 : Int32)) := (Arv.new A182 (by decide)).pad (pad_rep [] (.int (0 : Int32)) 20)
    refine o_astore X182.here hx (dE 4 rfl) rfl rfl (l' := #[.val (.int (3 : Int32)), .val (.int c1), .val (.int c2), .val (.int c3), .val (.ref b182)]) rfl ?_
    refine o_aload X182.here hx (dE 5 rfl) rfl rfl ?_
    refine o_iconst X182.here hx (dE 6 rfl) (z := (0 : Int32)) rfl ?_
    refine o_bipush X182.here hx (dE 7 rfl) (z := (110 : Int32)) rfl ?_
    refine p_arC X182 hx hZ e182 V182 (0 : Int32) 0 ⟨by decide, by decide⟩ rfl (Nat.le_of_ble_eq_true rfl) rfl (dE 8 rfl) fun T183 h183 X183 e183 W183 V183 => ?_
    have N183 := Fr.snoc X183 N0 gn_b182
    refine o_aload X183.here hx (dE 9 rfl) rfl rfl ?_
    refine o_iconst X183.here hx (dE 10 rfl) (z := (1 : Int32)) rfl ?_
    refine o_bipush X183.here hx (dE 11 rfl) (z := (111 : Int32)) rfl ?_
    refine p_arC X183 hx hZ e183 V183 (1 : Int32) 1 ⟨by decide, by decide⟩ rfl (Nat.le_of_ble_eq_true rfl) rfl (dE 12 rfl) fun T184 h184 X184 e184 W184 V184 => ?_
    have N184 := Fr.snoc X184 N183 gn_b182
    refine o_aload X184.here hx (dE 13 rfl) rfl rfl ?_
    refine o_iconst X184.here hx (dE 14 rfl) (z := (2 : Int32)) rfl ?_
    refine o_bipush X184.here hx (dE 15 rfl) (z := (32 : Int32)) rfl ?_
    refine p_arC X184 hx hZ e184 V184 (2 : Int32) 2 ⟨by decide, by decide⟩ rfl (Nat.le_of_ble_eq_true rfl) rfl (dE 16 rfl) fun T185 h185 X185 e185 W185 V185 => ?_
    have N185 := Fr.snoc X185 N184 gn_b182
    refine o_aload X185.here hx (dE 17 rfl) rfl rfl ?_
    refine o_iconst X185.here hx (dE 18 rfl) (z := (3 : Int32)) rfl ?_
    refine o_bipush X185.here hx (dE 19 rfl) (z := (117 : Int32)) rfl ?_
    refine p_arC X185 hx hZ e185 V185 (3 : Int32) 3 ⟨by decide, by decide⟩ rfl (Nat.le_of_ble_eq_true rfl) rfl (dE 20 rfl) fun T186 h186 X186 e186 W186 V186 => ?_
    have N186 := Fr.snoc X186 N185 gn_b182
    refine o_aload X186.here hx (dE 21 rfl) rfl rfl ?_
    refine o_iconst X186.here hx (dE 22 rfl) (z := (4 : Int32)) rfl ?_
    refine o_bipush X186.here hx (dE 23 rfl) (z := (115 : Int32)) rfl ?_
    refine p_arC X186 hx hZ e186 V186 (4 : Int32) 4 ⟨by decide, by decide⟩ rfl (Nat.le_of_ble_eq_true rfl) rfl (dE 24 rfl) fun T187 h187 X187 e187 W187 V187 => ?_
    have N187 := Fr.snoc X187 N186 gn_b182
    refine o_aload X187.here hx (dE 25 rfl) rfl rfl ?_
    refine o_iconst X187.here hx (dE 26 rfl) (z := (5 : Int32)) rfl ?_
    refine o_bipush X187.here hx (dE 27 rfl) (z := (101 : Int32)) rfl ?_
    refine p_arC X187 hx hZ e187 V187 (5 : Int32) 5 ⟨by decide, by decide⟩ rfl (Nat.le_of_ble_eq_true rfl) rfl (dE 28 rfl) fun T188 h188 X188 e188 W188 V188 => ?_
    have N188 := Fr.snoc X188 N187 gn_b182
    refine o_aload X188.here hx (dE 29 rfl) rfl rfl ?_
    refine o_bipush X188.here hx (dE 30 rfl) (z := (6 : Int32)) rfl ?_
    refine o_bipush X188.here hx (dE 31 rfl) (z := (114 : Int32)) rfl ?_
    refine p_arC X188 hx hZ e188 V188 (6 : Int32) 6 ⟨by decide, by decide⟩ rfl (Nat.le_of_ble_eq_true rfl) rfl (dE 32 rfl) fun T189 h189 X189 e189 W189 V189 => ?_
    have N189 := Fr.snoc X189 N188 gn_b182
    refine o_aload X189.here hx (dE 33 rfl) rfl rfl ?_
    refine o_bipush X189.here hx (dE 34 rfl) (z := (7 : Int32)) rfl ?_
    refine o_bipush X189.here hx (dE 35 rfl) (z := (32 : Int32)) rfl ?_
    refine p_arC X189 hx hZ e189 V189 (7 : Int32) 7 ⟨by decide, by decide⟩ rfl (Nat.le_of_ble_eq_true rfl) rfl (dE 36 rfl) fun T190 h190 X190 e190 W190 V190 => ?_
    have N190 := Fr.snoc X190 N189 gn_b182
    refine o_aload X190.here hx (dE 37 rfl) rfl rfl ?_
    refine o_bipush X190.here hx (dE 38 rfl) (z := (8 : Int32)) rfl ?_
    refine o_bipush X190.here hx (dE 39 rfl) (z := (105 : Int32)) rfl ?_
    refine p_arC X190 hx hZ e190 V190 (8 : Int32) 8 ⟨by decide, by decide⟩ rfl (Nat.le_of_ble_eq_true rfl) rfl (dE 40 rfl) fun T191 h191 X191 e191 W191 V191 => ?_
    have N191 := Fr.snoc X191 N190 gn_b182
    refine o_aload X191.here hx (dE 41 rfl) rfl rfl ?_
    refine o_bipush X191.here hx (dE 42 rfl) (z := (9 : Int32)) rfl ?_
    refine o_bipush X191.here hx (dE 43 rfl) (z := (115 : Int32)) rfl ?_
    refine p_arC X191 hx hZ e191 V191 (9 : Int32) 9 ⟨by decide, by decide⟩ rfl (Nat.le_of_ble_eq_true rfl) rfl (dE 44 rfl) fun T192 h192 X192 e192 W192 V192 => ?_
    have N192 := Fr.snoc X192 N191 gn_b182
    refine o_aload X192.here hx (dE 45 rfl) rfl rfl ?_
    refine o_bipush X192.here hx (dE 46 rfl) (z := (10 : Int32)) rfl ?_
    refine o_bipush X192.here hx (dE 47 rfl) (z := (32 : Int32)) rfl ?_
    refine p_arC X192 hx hZ e192 V192 (10 : Int32) 10 ⟨by decide, by decide⟩ rfl (Nat.le_of_ble_eq_true rfl) rfl (dE 48 rfl) fun T193 h193 X193 e193 W193 V193 => ?_
    have N193 := Fr.snoc X193 N192 gn_b182
    refine o_aload X193.here hx (dE 49 rfl) rfl rfl ?_
    refine o_bipush X193.here hx (dE 50 rfl) (z := (11 : Int32)) rfl ?_
    refine o_bipush X193.here hx (dE 51 rfl) (z := (110 : Int32)) rfl ?_
    refine p_arC X193 hx hZ e193 V193 (11 : Int32) 11 ⟨by decide, by decide⟩ rfl (Nat.le_of_ble_eq_true rfl) rfl (dE 52 rfl) fun T194 h194 X194 e194 W194 V194 => ?_
    have N194 := Fr.snoc X194 N193 gn_b182
    refine o_aload X194.here hx (dE 53 rfl) rfl rfl ?_
    refine o_bipush X194.here hx (dE 54 rfl) (z := (12 : Int32)) rfl ?_
    refine o_bipush X194.here hx (dE 55 rfl) (z := (97 : Int32)) rfl ?_
    refine p_arC X194 hx hZ e194 V194 (12 : Int32) 12 ⟨by decide, by decide⟩ rfl (Nat.le_of_ble_eq_true rfl) rfl (dE 56 rfl) fun T195 h195 X195 e195 W195 V195 => ?_
    have N195 := Fr.snoc X195 N194 gn_b182
    refine o_aload X195.here hx (dE 57 rfl) rfl rfl ?_
    refine o_bipush X195.here hx (dE 58 rfl) (z := (13 : Int32)) rfl ?_
    refine o_bipush X195.here hx (dE 59 rfl) (z := (109 : Int32)) rfl ?_
    refine p_arC X195 hx hZ e195 V195 (13 : Int32) 13 ⟨by decide, by decide⟩ rfl (Nat.le_of_ble_eq_true rfl) rfl (dE 60 rfl) fun T196 h196 X196 e196 W196 V196 => ?_
    have N196 := Fr.snoc X196 N195 gn_b182
    refine o_aload X196.here hx (dE 61 rfl) rfl rfl ?_
    refine o_bipush X196.here hx (dE 62 rfl) (z := (14 : Int32)) rfl ?_
    refine o_bipush X196.here hx (dE 63 rfl) (z := (101 : Int32)) rfl ?_
    refine p_arC X196 hx hZ e196 V196 (14 : Int32) 14 ⟨by decide, by decide⟩ rfl (Nat.le_of_ble_eq_true rfl) rfl (dE 64 rfl) fun T197 h197 X197 e197 W197 V197 => ?_
    have N197 := Fr.snoc X197 N196 gn_b182
    refine o_aload X197.here hx (dE 65 rfl) rfl rfl ?_
    refine o_bipush X197.here hx (dE 66 rfl) (z := (15 : Int32)) rfl ?_
    refine o_bipush X197.here hx (dE 67 rfl) (z := (100 : Int32)) rfl ?_
    refine p_arC X197 hx hZ e197 V197 (15 : Int32) 15 ⟨by decide, by decide⟩ rfl (Nat.le_of_ble_eq_true rfl) rfl (dE 68 rfl) fun T198 h198 X198 e198 W198 V198 => ?_
    have N198 := Fr.snoc X198 N197 gn_b182
    refine o_aload X198.here hx (dE 69 rfl) rfl rfl ?_
    refine o_bipush X198.here hx (dE 70 rfl) (z := (16 : Int32)) rfl ?_
    refine o_bipush X198.here hx (dE 71 rfl) (z := (32 : Int32)) rfl ?_
    refine p_arC X198 hx hZ e198 V198 (16 : Int32) 16 ⟨by decide, by decide⟩ rfl (Nat.le_of_ble_eq_true rfl) rfl (dE 72 rfl) fun T199 h199 X199 e199 W199 V199 => ?_
    have N199 := Fr.snoc X199 N198 gn_b182
    refine o_iloadN X199.here hx (dE 73 rfl) rfl ?_
    refine o_ifNo X199.here hx (dE 74 rfl) rfl ((if0 _ _).trans (tlt (by decide)).2.2.2) ?_
    refine o_aload X199.here hx (dE 86 rfl) rfl rfl ?_
    refine o_bipush X199.here hx (dE 87 rfl) (z := (17 : Int32)) rfl ?_
    refine o_iloadN X199.here hx (dE 88 rfl) rfl ?_
    refine p_arC X199 hx hZ e199 V199 (17 : Int32) 17 ⟨by decide, by decide⟩ rfl (Nat.le_of_ble_eq_true rfl) rfl (dE 89 rfl) fun T200 h200 X200 e200 W200 V200 => ?_
    have N200 := Fr.snoc X200 N199 gn_b182
    refine o_iloadN X200.here hx (dE 75 rfl) rfl ?_
    refine o_iconst X200.here hx (dE 76 rfl) (z := (1 : Int32)) rfl ?_
    refine o_icmpNo X200.here hx (dE 77 rfl) rfl (tlt (by decide)).2.2.2 ?_
    refine o_aload X200.here hx (dE 90 rfl) rfl rfl ?_
    refine o_bipush X200.here hx (dE 91 rfl) (z := (18 : Int32)) rfl ?_
    refine o_iloadN X200.here hx (dE 92 rfl) rfl ?_
    refine p_arC X200 hx hZ e200 V200 (18 : Int32) 18 ⟨by decide, by decide⟩ rfl (Nat.le_of_ble_eq_true rfl) rfl (dE 93 rfl) fun T201 h201 X201 e201 W201 V201 => ?_
    have N201 := Fr.snoc X201 N200 gn_b182
    refine o_iloadN X201.here hx (dE 78 rfl) rfl ?_
    refine o_iconst X201.here hx (dE 79 rfl) (z := (2 : Int32)) rfl ?_
    refine o_icmpNo X201.here hx (dE 80 rfl) rfl (tlt (by decide)).2.2.2 ?_
    refine o_aload X201.here hx (dE 94 rfl) rfl rfl ?_
    refine o_bipush X201.here hx (dE 95 rfl) (z := (19 : Int32)) rfl ?_
    refine o_iloadN X201.here hx (dE 96 rfl) rfl ?_
    refine p_arC X201 hx hZ e201 V201 (19 : Int32) 19 ⟨by decide, by decide⟩ rfl (Nat.le_of_ble_eq_true rfl) rfl (dE 97 rfl) fun T202 h202 X202 e202 W202 V202 => ?_
    have N202 := Fr.snoc X202 N201 gn_b182
    have c204 := (Nat.le_trans (Nat.le_trans (Nat.le_trans (Nat.le_trans (Nat.le_trans (Nat.le_trans (Nat.le_trans (Nat.le_trans (Nat.le_trans (Nat.le_trans (Nat.le_trans (Nat.le_trans (Nat.le_trans (Nat.le_trans (Nat.le_trans (Nat.le_trans (Nat.le_trans (Nat.le_trans (Nat.le_trans (Nat.le_trans (Nat.le_trans Z0 E182.1) (Keep.of_wr W183).1) (Keep.of_wr W184).1) (Keep.of_wr W185).1) (Keep.of_wr W186).1) (Keep.of_wr W187).1) (Keep.of_wr W188).1) (Keep.of_wr W189).1) (Keep.of_wr W190).1) (Keep.of_wr W191).1) (Keep.of_wr W192).1) (Keep.of_wr W193).1) (Keep.of_wr W194).1) (Keep.of_wr W195).1) (Keep.of_wr W196).1) (Keep.of_wr W197).1) (Keep.of_wr W198).1) (Keep.of_wr W199).1) (Keep.of_wr W200).1) (Keep.of_wr W201).1) (Keep.of_wr W202).1)
    have c205 := ((((((((((((((((((((((Keep.refl h0 []).ext E182).wr W183 (Or.inr sz_b182)).wr W184 (Or.inr sz_b182)).wr W185 (Or.inr sz_b182)).wr W186 (Or.inr sz_b182)).wr W187 (Or.inr sz_b182)).wr W188 (Or.inr sz_b182)).wr W189 (Or.inr sz_b182)).wr W190 (Or.inr sz_b182)).wr W191 (Or.inr sz_b182)).wr W192 (Or.inr sz_b182)).wr W193 (Or.inr sz_b182)).wr W194 (Or.inr sz_b182)).wr W195 (Or.inr sz_b182)).wr W196 (Or.inr sz_b182)).wr W197 (Or.inr sz_b182)).wr W198 (Or.inr sz_b182)).wr W199 (Or.inr sz_b182)).wr W200 (Or.inr sz_b182)).wr W201 (Or.inr sz_b182)).wr W202 (Or.inr sz_b182))
    refine p_newO X202 hx hZ hown (g_ hw 5 rfl) (g_ hw 6 rfl) (g_ hw 7 rfl) e202 (dE 81 rfl) (by decide) (by decide) fun T203 h203 b203 g203 X203 e203 E203 A203 D203 U203 => ?_
    have ne_b182_b203 : b182 ≠ b203 := Nat.ne_of_lt (Nat.lt_of_lt_of_le V202.lt (Nat.le_of_eq g203.symm))
    have gn_b203 : n0 ≤ b203 := Nat.le_trans c204 (Nat.le_of_eq g203.symm)
    have sz_b203 : h0.size ≤ b203 := Nat.le_trans c205.1 (Nat.le_of_eq g203.symm)
    have f203_coder : Fld Z h203 b203 "java/lang/String" "coder" "B" (.int (0 : Int32)) := D203 (Or.inr (g_ hw 31 rfl)) (ty := .byte) (by decide)
    have f203_value : Fld Z h203 b203 "java/lang/String" "value" "[B" .null := D203 (Or.inr (g_ hw 33 rfl)) (ty := (.array .byte)) (by decide)
    refine o_dup X203.here hx (dE 82 rfl) rfl rfl ?_
    refine o_aload X203.here hx (dE 83 rfl) rfl rfl ?_
    have c206 := (Nat.le_trans c204 E203.1)
    have c207 := (V202.ext E203)
    have c208 := ((((((((((((((((((((((O.ext E182).wr W183 gn_b182).wr W184 gn_b182).wr W185 gn_b182).wr W186 gn_b182).wr W187 gn_b182).wr W188 gn_b182).wr W189 gn_b182).wr W190 gn_b182).wr W191 gn_b182).wr W192 gn_b182).wr W193 gn_b182).wr W194 gn_b182).wr W195 gn_b182).wr W196 gn_b182).wr W197 gn_b182).wr W198 gn_b182).wr W199 gn_b182).wr W200 gn_b182).wr W201 gn_b182).wr W202 gn_b182).ext E203)
    refine own_cP X203 (X203.specialBack hx (y := Mn15) rfl hown (mvT hZ (g_ hw 8 rfl)) (mvT hZ (g_ hw 9 rfl)) (mvT hZ (g_ hw 10 rfl)) (by decide) (StrChars.Road.backV (W := 1) hZ (own_words Z a0 hw) (kI := 4) (g_ hw 6 rfl) (cs := [(nar .char (110 : Int32)), (nar .char (111 : Int32)), (nar .char (32 : Int32)), (nar .char (117 : Int32)), (nar .char (115 : Int32)), (nar .char (101 : Int32)), (nar .char (114 : Int32)), (nar .char (32 : Int32)), (nar .char (105 : Int32)), (nar .char (115 : Int32)), (nar .char (32 : Int32)), (nar .char (110 : Int32)), (nar .char (97 : Int32)), (nar .char (109 : Int32)), (nar .char (101 : Int32)), (nar .char (100 : Int32)), (nar .char (32 : Int32)), (nar .char c1), (nar .char c2), (nar .char c3)]) (bs := [(110 : Int32), (111 : Int32), (32 : Int32), (117 : Int32), (115 : Int32), (101 : Int32), (114 : Int32), (32 : Int32), (105 : Int32), (115 : Int32), (32 : Int32), (110 : Int32), (97 : Int32), (109 : Int32), (101 : Int32), (100 : Int32), (32 : Int32), ((nar .char c1).toInt8.toInt32), ((nar .char c2).toInt8.toInt32), ((nar .char c3).toInt8.toInt32)]) (n := 20) gn_b203 c206 A203 f203_value f203_coder c207 (SC.ext c208.2) hz rfl rfl (by decide) (by decide) (own_fc (by decide) (own_fc (by decide) (own_fc (by decide) (own_fc (by decide) (own_fc (by decide) (own_fc (by decide) (own_fc (by decide) (own_fc (by decide) (own_fc (by decide) (own_fc (by decide) (own_fc (by decide) (own_fc (by decide) (own_fc (by decide) (own_fc (by decide) (own_fc (by decide) (own_fc (by decide) (own_fc (by decide) (own_fc hp1 (own_fc hp2 (own_fc hp3 own_fn)))))))))))))))))))) rfl (by decide) (by decide)) (g := (mkF m' 159 #[.val (.int (3 : Int32)), .val (.int c1), .val (.int c2), .val (.int c3), .val (.ref b182)] [(.ref b182), (.ref b203), (.ref b203)])) rfl (by rw [hml]; rfl) (Steps.refl _) (a := b203) (argsL := [(.ref b182)]) (rest := [(.ref b203)]) (lenOf own_pd24 rfl) rfl (by show 2 * 0 + _ ≤ _; exact Nat.le_of_eq rfl) (dE 84 rfl) (fun _ _ => ⟨rfl, e203, (by decide : 2 + 1 ≤ _), (by decide : 24 + 20 ≤ _)⟩)) fun v209 T209 L209 X209 hQ209 => ?_
    obtain ⟨rfl, Nq209, K209, A209, C209, t209, kb209, -, -, -, V209, B209⟩ := hQ209
    have N209 := Fr.app N202 Nq209
    show own_Go p e below Pst (T209.setTop (mkF m' 162 #[.val (.int (3 : Int32)), .val (.int c1), .val (.int c2), .val (.int c3), .val (.ref b182)] [(.ref b203)]))
    have c210 := (Keep.trans (c205.ext E203) K209 (allS (Or.inr sz_b203) all0))
    rw [hPst]
    exact own_retP X209 (v := (some (.ref b203))) (Q := Q_ex Z z (3 : Int32) c1 c2 c3 h0 n0) (fun h => by rw [Bd.returns] at h; cases h) Bd.notSynchronized (fun fs hr => retOut X209 hx Bd.returns rfl (Or.inr (Or.inr (Or.inr (Or.inr ⟨rfl, rfl, rfl⟩)))) (dE 85 rfl) hr) (by decide) (by decide) ⟨_, rfl, N209, c210, sz_b203, A209, C209, _, _, V209, (by rw [own_out3]; exact B209)⟩
theorem own_cod0 (c1 c2 c3 : Int32)  : StrChars.Road.CodA [110, 111, 32, 117, 115, 101, 114, 32, 105, 115, 32, 110, 97, 109, 101, 100, 32] 0 (17 : Int32) own_l17 := StrChars.Road.codOf (cs := [110, 111, 32, 117, 115, 101, 114, 32, 105, 115, 32, 110, 97, 109, 101, 100, 32]) (n := 17) rfl (own_fc (by decide) (own_fc (by decide) (own_fc (by decide) (own_fc (by decide) (own_fc (by decide) (own_fc (by decide) (own_fc (by decide) (own_fc (by decide) (own_fc (by decide) (own_fc (by decide) (own_fc (by decide) (own_fc (by decide) (own_fc (by decide) (own_fc (by decide) (own_fc (by decide) (own_fc (by decide) (own_fc (by decide) own_fn)))))))))))))))))
theorem own_u0 (c1 c2 c3 : Int32)  : ∀ c ∈ ([110, 111, 32, 117, 115, 101, 114, 32, 105, 115, 32, 110, 97, 109, 101, 100, 32] : List Int32), ¬ c < 0 ∧ ¬ (65535 : Int32) < c := (own_fc (by decide) (own_fc (by decide) (own_fc (by decide) (own_fc (by decide) (own_fc (by decide) (own_fc (by decide) (own_fc (by decide) (own_fc (by decide) (own_fc (by decide) (own_fc (by decide) (own_fc (by decide) (own_fc (by decide) (own_fc (by decide) (own_fc (by decide) (own_fc (by decide) (own_fc (by decide) (own_fc (by decide) own_fn)))))))))))))))))
theorem own_cod1 (c1 c2 c3 : Int32) (hp1 : ¬ (nar .char c1) < 0 ∧ ¬ (255 : Int32) < (nar .char c1)) : StrChars.Road.CodA [110, 111, 32, 117, 115, 101, 114, 32, 105, 115, 32, 110, 97, 109, 101, 100, 32, (nar .char c1)] 0 (18 : Int32) (own_o1 ((nar .char c1).toInt8.toInt32)) := StrChars.Road.codOf (cs := [110, 111, 32, 117, 115, 101, 114, 32, 105, 115, 32, 110, 97, 109, 101, 100, 32, (nar .char c1)]) (n := 18) rfl (own_fc (by decide) (own_fc (by decide) (own_fc (by decide) (own_fc (by decide) (own_fc (by decide) (own_fc (by decide) (own_fc (by decide) (own_fc (by decide) (own_fc (by decide) (own_fc (by decide) (own_fc (by decide) (own_fc (by decide) (own_fc (by decide) (own_fc (by decide) (own_fc (by decide) (own_fc (by decide) (own_fc (by decide) (own_fc hp1.2 own_fn))))))))))))))))))
theorem own_u1 (c1 c2 c3 : Int32) (hp1 : ¬ (nar .char c1) < 0 ∧ ¬ (255 : Int32) < (nar .char c1)) : ∀ c ∈ ([110, 111, 32, 117, 115, 101, 114, 32, 105, 115, 32, 110, 97, 109, 101, 100, 32, (nar .char c1)] : List Int32), ¬ c < 0 ∧ ¬ (65535 : Int32) < c := (own_fc (by decide) (own_fc (by decide) (own_fc (by decide) (own_fc (by decide) (own_fc (by decide) (own_fc (by decide) (own_fc (by decide) (own_fc (by decide) (own_fc (by decide) (own_fc (by decide) (own_fc (by decide) (own_fc (by decide) (own_fc (by decide) (own_fc (by decide) (own_fc (by decide) (own_fc (by decide) (own_fc (by decide) (own_fc (own_up hp1) own_fn))))))))))))))))))
theorem own_cod2 (c1 c2 c3 : Int32) (hp1 : ¬ (nar .char c1) < 0 ∧ ¬ (255 : Int32) < (nar .char c1)) (hp2 : ¬ (nar .char c2) < 0 ∧ ¬ (255 : Int32) < (nar .char c2)) : StrChars.Road.CodA [110, 111, 32, 117, 115, 101, 114, 32, 105, 115, 32, 110, 97, 109, 101, 100, 32, (nar .char c1), (nar .char c2)] 0 (19 : Int32) (own_o2 ((nar .char c1).toInt8.toInt32) ((nar .char c2).toInt8.toInt32)) := StrChars.Road.codOf (cs := [110, 111, 32, 117, 115, 101, 114, 32, 105, 115, 32, 110, 97, 109, 101, 100, 32, (nar .char c1), (nar .char c2)]) (n := 19) rfl (own_fc (by decide) (own_fc (by decide) (own_fc (by decide) (own_fc (by decide) (own_fc (by decide) (own_fc (by decide) (own_fc (by decide) (own_fc (by decide) (own_fc (by decide) (own_fc (by decide) (own_fc (by decide) (own_fc (by decide) (own_fc (by decide) (own_fc (by decide) (own_fc (by decide) (own_fc (by decide) (own_fc (by decide) (own_fc hp1.2 (own_fc hp2.2 own_fn)))))))))))))))))))
theorem own_u2 (c1 c2 c3 : Int32) (hp1 : ¬ (nar .char c1) < 0 ∧ ¬ (255 : Int32) < (nar .char c1)) (hp2 : ¬ (nar .char c2) < 0 ∧ ¬ (255 : Int32) < (nar .char c2)) : ∀ c ∈ ([110, 111, 32, 117, 115, 101, 114, 32, 105, 115, 32, 110, 97, 109, 101, 100, 32, (nar .char c1), (nar .char c2)] : List Int32), ¬ c < 0 ∧ ¬ (65535 : Int32) < c := (own_fc (by decide) (own_fc (by decide) (own_fc (by decide) (own_fc (by decide) (own_fc (by decide) (own_fc (by decide) (own_fc (by decide) (own_fc (by decide) (own_fc (by decide) (own_fc (by decide) (own_fc (by decide) (own_fc (by decide) (own_fc (by decide) (own_fc (by decide) (own_fc (by decide) (own_fc (by decide) (own_fc (by decide) (own_fc (own_up hp1) (own_fc (own_up hp2) own_fn)))))))))))))))))))
theorem own_cod3 (c1 c2 c3 : Int32) (hp1 : ¬ (nar .char c1) < 0 ∧ ¬ (255 : Int32) < (nar .char c1)) (hp2 : ¬ (nar .char c2) < 0 ∧ ¬ (255 : Int32) < (nar .char c2)) (hp3 : ¬ (nar .char c3) < 0 ∧ ¬ (255 : Int32) < (nar .char c3)) : StrChars.Road.CodA [110, 111, 32, 117, 115, 101, 114, 32, 105, 115, 32, 110, 97, 109, 101, 100, 32, (nar .char c1), (nar .char c2), (nar .char c3)] 0 (20 : Int32) (own_o3 ((nar .char c1).toInt8.toInt32) ((nar .char c2).toInt8.toInt32) ((nar .char c3).toInt8.toInt32)) := StrChars.Road.codOf (cs := [110, 111, 32, 117, 115, 101, 114, 32, 105, 115, 32, 110, 97, 109, 101, 100, 32, (nar .char c1), (nar .char c2), (nar .char c3)]) (n := 20) rfl (own_fc (by decide) (own_fc (by decide) (own_fc (by decide) (own_fc (by decide) (own_fc (by decide) (own_fc (by decide) (own_fc (by decide) (own_fc (by decide) (own_fc (by decide) (own_fc (by decide) (own_fc (by decide) (own_fc (by decide) (own_fc (by decide) (own_fc (by decide) (own_fc (by decide) (own_fc (by decide) (own_fc (by decide) (own_fc hp1.2 (own_fc hp2.2 (own_fc hp3.2 own_fn))))))))))))))))))))
theorem own_u3 (c1 c2 c3 : Int32) (hp1 : ¬ (nar .char c1) < 0 ∧ ¬ (255 : Int32) < (nar .char c1)) (hp2 : ¬ (nar .char c2) < 0 ∧ ¬ (255 : Int32) < (nar .char c2)) (hp3 : ¬ (nar .char c3) < 0 ∧ ¬ (255 : Int32) < (nar .char c3)) : ∀ c ∈ ([110, 111, 32, 117, 115, 101, 114, 32, 105, 115, 32, 110, 97, 109, 101, 100, 32, (nar .char c1), (nar .char c2), (nar .char c3)] : List Int32), ¬ c < 0 ∧ ¬ (65535 : Int32) < c := (own_fc (by decide) (own_fc (by decide) (own_fc (by decide) (own_fc (by decide) (own_fc (by decide) (own_fc (by decide) (own_fc (by decide) (own_fc (by decide) (own_fc (by decide) (own_fc (by decide) (own_fc (by decide) (own_fc (by decide) (own_fc (by decide) (own_fc (by decide) (own_fc (by decide) (own_fc (by decide) (own_fc (by decide) (own_fc (own_up hp1) (own_fc (own_up hp2) (own_fc (own_up hp3) own_fn))))))))))))))))))))
theorem own_cod (m c1 c2 c3 : Int32) (hm : m = 0 ∨ m = 1 ∨ m = 2 ∨ m = 3) (hp1 : ¬ (nar .char c1) < 0 ∧ ¬ (255 : Int32) < (nar .char c1)) (hp2 : ¬ (nar .char c2) < 0 ∧ ¬ (255 : Int32) < (nar .char c2)) (hp3 : ¬ (nar .char c3) < 0 ∧ ¬ (255 : Int32) < (nar .char c3)) : StrChars.Road.CodA (own_cs m c1 c2 c3) 0 (17 + m) (own_out m c1 c2 c3) := by
  rcases hm with rfl | rfl | rfl | rfl
  · rw [own_cs0, own_out0]; exact own_cod0 c1 c2 c3 
  · rw [own_cs1, own_out1]; exact own_cod1 c1 c2 c3 hp1
  · rw [own_cs2, own_out2]; exact own_cod2 c1 c2 c3 hp1 hp2
  · rw [own_cs3, own_out3]; exact own_cod3 c1 c2 c3 hp1 hp2 hp3
theorem own_u (m c1 c2 c3 : Int32) (hm : m = 0 ∨ m = 1 ∨ m = 2 ∨ m = 3) (hp1 : ¬ (nar .char c1) < 0 ∧ ¬ (255 : Int32) < (nar .char c1)) (hp2 : ¬ (nar .char c2) < 0 ∧ ¬ (255 : Int32) < (nar .char c2)) (hp3 : ¬ (nar .char c3) < 0 ∧ ¬ (255 : Int32) < (nar .char c3)) : ∀ c ∈ own_cs m c1 c2 c3, ¬ c < 0 ∧ ¬ (65535 : Int32) < c := by
  rcases hm with rfl | rfl | rfl | rfl
  · rw [own_cs0]; exact own_u0 c1 c2 c3 
  · rw [own_cs1]; exact own_u1 c1 c2 c3 hp1
  · rw [own_cs2]; exact own_u2 c1 c2 c3 hp1 hp2
  · rw [own_cs3]; exact own_u3 c1 c2 c3 hp1 hp2 hp3
theorem own_ul (m c1 c2 c3 : Int32) (hm : m = 0 ∨ m = 1 ∨ m = 2 ∨ m = 3) : (own_cs m c1 c2 c3).length ≤ 4000 := by
  rcases hm with rfl | rfl | rfl | rfl
  · rw [own_cs0]; exact Nat.le_of_ble_eq_true rfl
  · rw [own_cs1]; exact Nat.le_of_ble_eq_true rfl
  · rw [own_cs2]; exact Nat.le_of_ble_eq_true rfl
  · rw [own_cs3]; exact Nat.le_of_ble_eq_true rfl
theorem own_codn : StrChars.Road.CodA [110, 111, 32, 117, 115, 101, 114, 32, 105, 115, 32, 110, 97, 109, 101, 100, 32, 110, 117, 108, 108] 0 (21 : Int32) own_l21 := StrChars.Road.codOf (cs := [110, 111, 32, 117, 115, 101, 114, 32, 105, 115, 32, 110, 97, 109, 101, 100, 32, 110, 117, 108, 108]) (n := 21) rfl (own_fc (by decide) (own_fc (by decide) (own_fc (by decide) (own_fc (by decide) (own_fc (by decide) (own_fc (by decide) (own_fc (by decide) (own_fc (by decide) (own_fc (by decide) (own_fc (by decide) (own_fc (by decide) (own_fc (by decide) (own_fc (by decide) (own_fc (by decide) (own_fc (by decide) (own_fc (by decide) (own_fc (by decide) (own_fc (by decide) (own_fc (by decide) (own_fc (by decide) (own_fc (by decide) own_fn)))))))))))))))))))))
theorem own_un : ∀ c ∈ ([110, 111, 32, 117, 115, 101, 114, 32, 105, 115, 32, 110, 97, 109, 101, 100, 32, 110, 117, 108, 108] : List Int32), ¬ c < 0 ∧ ¬ (65535 : Int32) < c := (own_fc (by decide) (own_fc (by decide) (own_fc (by decide) (own_fc (by decide) (own_fc (by decide) (own_fc (by decide) (own_fc (by decide) (own_fc (by decide) (own_fc (by decide) (own_fc (by decide) (own_fc (by decide) (own_fc (by decide) (own_fc (by decide) (own_fc (by decide) (own_fc (by decide) (own_fc (by decide) (own_fc (by decide) (own_fc (by decide) (own_fc (by decide) (own_fc (by decide) (own_fc (by decide) own_fn)))))))))))))))))))))
def Q_rs (Z : State) (a1 : Addr) (u : Addr) (h0 : Heap) (n0 : Nat) (v : Option Value) (h : Heap) (L : List Loc) : Prop := v = some (.ref u) ∧ Fr n0 L ∧ h = h0
theorem rm_rs (l : Launch) (Z : State) (a0 : Array Value) (hw : own_H a0 Z) (ws : List Jvm.Cond) (a1 : Addr) (u : Addr) (h0 : Heap) (n0 : Nat) (Z0 : n0 ≤ h0.size) (F1 : Fld Z h0 a1 "com/example/shard_feed/shardfeed/Refusal" "reason" "Lcom/example/shard_feed/shardfeed/Refusal$Reason;" (.ref u)) : own_MP l Mn22 prog_9_method_6_code 1 (some (.object "com/example/shard_feed/shardfeed/Refusal$Reason")) ws ({ frames := 0, cells := 0, slots := 0, locals := 0 } : Room) Z h0 #[(.ref a1)] (fun _ _ _ _ _ => True) (Q_rs Z a1 u h0 n0) := by
  refine own_startP (plainFor_of_name own_pn_com_example_shard_feed_shardfeed_Refusal) fun p e s m below meth c s₁ Bd hx hby hml hown0 X0 e0 hh0 hZ hK Pst hPst => ?_
  have dE := own_E hby own_D42
  have hown : s.vm.findClass "com/example/shard_feed/shardfeed/Refusal" = some m.cls := hown0
  have hnm := (name_of_methodNamed Bd.named Bd.method).1
  have N0 := Fr.nil n0
  rw [own_ef_R_1 m a1]
  refine o_aloadN X0.here hx (dE 0 rfl) rfl rfl ?_
  refine p_getF X0 hx hZ hown (host := "") (Or.inl (g_ hw 236 rfl)) Via.refl e0 F1 rfl (dE 1 rfl) fun T101 X101 e101 => ?_
  rw [hPst]
  exact own_retP X101 (v := (some (.ref u))) (Q := Q_rs Z a1 u h0 n0) (fun h => by rw [Bd.returns] at h; cases h) Bd.notSynchronized (fun fs hr => retOut X101 hx Bd.returns rfl (Or.inr (Or.inr (Or.inr (Or.inr ⟨rfl, rfl, rfl⟩)))) (dE 2 rfl) hr) (by decide) (by decide) (by rw [e101]; exact ⟨rfl, N0, rfl⟩)
def Q_ln (Z : State) (a1 : Addr) (u : Int32) (h0 : Heap) (n0 : Nat) (v : Option Value) (h : Heap) (L : List Loc) : Prop := v = some (.int u) ∧ Fr n0 L ∧ h = h0
theorem rm_ln (l : Launch) (Z : State) (a0 : Array Value) (hw : own_H a0 Z) (ws : List Jvm.Cond) (a1 : Addr) (u : Int32) (h0 : Heap) (n0 : Nat) (Z0 : n0 ≤ h0.size) (F1 : Fld Z h0 a1 "com/example/shard_feed/shardfeed/Refusal" "line" "I" (.int u)) : own_MP l Mn23 prog_9_method_7_code 1 (some .int) ws ({ frames := 0, cells := 0, slots := 0, locals := 0 } : Room) Z h0 #[(.ref a1)] (fun _ _ _ _ _ => True) (Q_ln Z a1 u h0 n0) := by
  refine own_startP (plainFor_of_name own_pn_com_example_shard_feed_shardfeed_Refusal) fun p e s m below meth c s₁ Bd hx hby hml hown0 X0 e0 hh0 hZ hK Pst hPst => ?_
  have dE := own_E hby own_D43
  have hown : s.vm.findClass "com/example/shard_feed/shardfeed/Refusal" = some m.cls := hown0
  have hnm := (name_of_methodNamed Bd.named Bd.method).1
  have N0 := Fr.nil n0
  rw [own_ef_R_1 m a1]
  refine o_aloadN X0.here hx (dE 0 rfl) rfl rfl ?_
  refine p_getF X0 hx hZ hown (host := "") (Or.inl (g_ hw 238 rfl)) Via.refl e0 F1 rfl (dE 1 rfl) fun T101 X101 e101 => ?_
  rw [hPst]
  exact own_retP X101 (v := (some (.int u))) (Q := Q_ln Z a1 u h0 n0) (fun h => by rw [Bd.returns] at h; cases h) Bd.notSynchronized (fun fs hr => own_retI X101 hx Bd.returns (dE 2 rfl) hr) (by decide) (by decide) (by rw [e101]; exact ⟨rfl, N0, rfl⟩)
theorem own_pn_java_lang_Throwable : plainName "java/lang/Throwable" = true := by first | (simp [plainName, overriddenIn]; done) | decide +kernel
def Q_gm (Z : State) (a1 : Addr) (u : Addr) (h0 : Heap) (n0 : Nat) (v : Option Value) (h : Heap) (L : List Loc) : Prop := v = some (.ref u) ∧ Fr n0 L ∧ h = h0
theorem rm_gm (l : Launch) (Z : State) (a0 : Array Value) (hw : own_H a0 Z) (ws : List Jvm.Cond) (a1 : Addr) (u : Addr) (h0 : Heap) (n0 : Nat) (Z0 : n0 ≤ h0.size) (F1 : Fld Z h0 a1 "java/lang/Throwable" "detailMessage" "Ljava/lang/String;" (.ref u)) : own_MP l Mn28 jdk_78_method_6_code 1 (some (.object "java/lang/String")) ws ({ frames := 0, cells := 0, slots := 0, locals := 0 } : Room) Z h0 #[(.ref a1)] (fun _ _ _ _ _ => True) (Q_gm Z a1 u h0 n0) := by
  refine own_startP (plainFor_of_name own_pn_java_lang_Throwable) fun p e s m below meth c s₁ Bd hx hby hml hown0 X0 e0 hh0 hZ hK Pst hPst => ?_
  have dE := own_E hby own_D44
  have hown : s.vm.findClass "java/lang/Throwable" = some m.cls := hown0
  have hnm := (name_of_methodNamed Bd.named Bd.method).1
  have N0 := Fr.nil n0
  rw [own_ef_R_1 m a1]
  refine o_aloadN X0.here hx (dE 0 rfl) rfl rfl ?_
  refine p_getF X0 hx hZ hown (host := "") (Or.inl (g_ hw 235 rfl)) Via.refl e0 F1 rfl (dE 1 rfl) fun T101 X101 e101 => ?_
  rw [hPst]
  exact own_retP X101 (v := (some (.ref u))) (Q := Q_gm Z a1 u h0 n0) (fun h => by rw [Bd.returns] at h; cases h) Bd.notSynchronized (fun fs hr => retOut X101 hx Bd.returns rfl (Or.inr (Or.inr (Or.inr (Or.inr ⟨rfl, rfl, rfl⟩)))) (dE 2 rfl) hr) (by decide) (by decide) (by rw [e101]; exact ⟨rfl, N0, rfl⟩)
theorem own_pd25 : parseMethodDescriptor "(Ljava/lang/String;)Lcom/example/shard_feed/shardfeed/Refusal;" = some ⟨[(.object "java/lang/String")], some (.object "com/example/shard_feed/shardfeed/Refusal")⟩ := by decide +kernel
theorem own_pd26 : parseMethodDescriptor "()Lcom/example/shard_feed/shardfeed/Refusal$Reason;" = some ⟨[], some (.object "com/example/shard_feed/shardfeed/Refusal$Reason")⟩ := by decide +kernel
theorem own_pd27 : parseMethodDescriptor "(Ljava/lang/Object;)Z" = some ⟨[(.object "java/lang/Object")], some .boolean⟩ := by decide +kernel
theorem own_pd28 : parseMethodDescriptor "(ICCC)Ljava/lang/String;" = some ⟨[.int, .char, .char, .char], some (.object "java/lang/String")⟩ := by decide +kernel
theorem own_ef_IIII_maxLocals (m : MethodId) (x0 : Int32) (x1 : Int32) (x2 : Int32) (x3 : Int32) : entryFrame m #[(.int x0), (.int x1), (.int x2), (.int x3)] maxLocals = mkF m 0 #[.val (.int x0), .val (.int x1), .val (.int x2), .val (.int x3), .unset, .unset, .unset, .unset, .unset, .unset, .unset, .unset] [] := by first | (simp [entryFrame, mkF, argsToLocals, Value.category, maxLocals]; done) | rfl
def Q0 (Z : State) (z p1 p2 p3 p4 : Int32) (o : Addr) (h0 : Heap) (n0 : Nat) (v : Option Value) (h : Heap) (L : List Loc) : Prop := v = some (.int 1) ∧ Fr n0 L
theorem rm0 (l : Launch) (Z : State) (a0 : Array Value) (hw : own_H a0 Z) (ws : List Jvm.Cond) (z p1 p2 p3 p4 : Int32) (o : Addr) (h0 : Heap) (n0 : Nat) (Z0 : n0 ≤ h0.size) (O : Old Z n0 h0) (SC : Sta Z Z.heap "java/lang/String" "COMPACT_STRINGS" "Z" (.int z)) (hz : ¬ z = 0) (hl : l.stackTraces = true) (r2 : ∀ d ∈ twoRefs, d.before a0 Z = true) (SR : Sta Z Z.heap "com/example/shard_feed/shardfeed/Refusal$Reason" "UNKNOWN_USER" "Lcom/example/shard_feed/shardfeed/Refusal$Reason;" (.ref o)) :
    MetFree l x (head1 (Jvm.Cond.code x code maxLocals ret :: ws) room_1) (fun a U => a = #[(.int p1), (.int p2), (.int p3), (.int p4)] ∧ Z.Warmed39 U.vm ∧ U.heap = h0 ∧ CHv Z own_EL U.vm h0) (fun _ _ bl s _ => s.vm.MethodsKnown ∧ s.vm.FramesKnown bl) (fun _ U oc U' => ∃ v L, oc = .returned v ∧ Q0 Z z p1 p2 p3 p4 o h0 n0 v U'.heap L ∧ CHr Z own_EL U.vm U.heap U'.vm U'.heap ∧ ReturnedEndW U oc U' L 40 8960) := by
  refine MetFree.of_bodySF (plainFor_of_name own_pn_com_example_shard_feed_shardfeed_RefusalUnknownUserPinLaw) hisR ?_
  intro p e s m args below meth c s₁ Bd hml0 hP hK
  obtain ⟨rfl, hZ, hh0, hCH0⟩ := hP
  have hx := Bd.exec
  have hby := Bd.bytes
  have hml : c.maxLocals = 12 := hml0
  have hown : s.vm.findClass "com/example/shard_feed/shardfeed/RefusalUnknownUserPinLaw" = some m.cls := findClass_of_methodNamed Bd.named
  have hnm := (name_of_methodNamed Bd.named Bd.method).1
  have X0 : Stand p l e room_1 (s.setVm s.vm) m #[(.int p1), (.int p2), (.int p3), (.int p4)] below meth c s₁ [] 0 0 := Stand.of_body Bd
  have e0 : s₁.heap = h0 := by rw [← hh0, Bd.state]; rfl
  have N0 := Fr.nil n0
  have hS0 : s.Since s.vm 0 := (State.WarmedH.refl s).since 0
  have hk0 : 0 ≤ h0.size := Nat.zero_le _
  have hEL := own_hEL Z a0 hw
  obtain ⟨Pst, hPst⟩ : ∃ P : Outcome → State → Prop, P = (fun oc U' => ∃ v L, oc = .returned v ∧ Q0 Z z p1 p2 p3 p4 o h0 n0 v U'.heap L ∧ CHr Z own_EL s.vm s.heap U'.vm U'.heap ∧ ReturnedEndW s oc U' L 40 8960) := ⟨_, rfl⟩
  suffices hgo : own_Go p e below Pst (s₁.setTop (entryFrame m #[(.int p1), (.int p2), (.int p3), (.int p4)] maxLocals)) by rw [hPst] at hgo; exact hgo
  rw [own_ef_IIII_maxLocals m p1 p2 p3 p4]
  refine o_iloadN X0.here hx (hb hby at_0) rfl ?_
  refine o_iconst X0.here hx (hb hby at_1) (z := (3 : Int32)) rfl ?_
  refine o_iand X0.here hx (hb hby at_2) rfl ?_
  refine o_istore X0.here hx (hb hby at_3) rfl (l' := #[.val (.int p1), .val (.int p2), .val (.int p3), .val (.int p4), .val (.int (p4 &&& (3 : Int32))), .unset, .unset, .unset, .unset, .unset, .unset, .unset]) rfl ?_
  refine o_iloadN X0.here hx (hb hby at_5) rfl ?_
  refine o_sipush X0.here hx (hb hby at_6) (z := (255 : Int32)) rfl ?_
  refine o_iand X0.here hx (hb hby at_9) rfl ?_
  refine o_i2c X0.here hx (hb hby at_10) rfl ?_
  refine o_istore X0.here hx (hb hby at_11) rfl (l' := #[.val (.int p1), .val (.int p2), .val (.int p3), .val (.int p4), .val (.int (p4 &&& (3 : Int32))), .val (.int ((p1 &&& (255 : Int32)).toUInt32.toUInt16.toUInt32.toInt32)), .unset, .unset, .unset, .unset, .unset, .unset]) rfl ?_
  refine o_iloadN X0.here hx (hb hby at_13) rfl ?_
  refine o_sipush X0.here hx (hb hby at_14) (z := (255 : Int32)) rfl ?_
  refine o_iand X0.here hx (hb hby at_17) rfl ?_
  refine o_i2c X0.here hx (hb hby at_18) rfl ?_
  refine o_istore X0.here hx (hb hby at_19) rfl (l' := #[.val (.int p1), .val (.int p2), .val (.int p3), .val (.int p4), .val (.int (p4 &&& (3 : Int32))), .val (.int ((p1 &&& (255 : Int32)).toUInt32.toUInt16.toUInt32.toInt32)), .val (.int ((p2 &&& (255 : Int32)).toUInt32.toUInt16.toUInt32.toInt32)), .unset, .unset, .unset, .unset, .unset]) rfl ?_
  refine o_iloadN X0.here hx (hb hby at_21) rfl ?_
  refine o_sipush X0.here hx (hb hby at_22) (z := (255 : Int32)) rfl ?_
  refine o_iand X0.here hx (hb hby at_25) rfl ?_
  refine o_i2c X0.here hx (hb hby at_26) rfl ?_
  refine o_istore X0.here hx (hb hby at_27) rfl (l' := #[.val (.int p1), .val (.int p2), .val (.int p3), .val (.int p4), .val (.int (p4 &&& (3 : Int32))), .val (.int ((p1 &&& (255 : Int32)).toUInt32.toUInt16.toUInt32.toInt32)), .val (.int ((p2 &&& (255 : Int32)).toUInt32.toUInt16.toUInt32.toInt32)), .val (.int ((p3 &&& (255 : Int32)).toUInt32.toUInt16.toUInt32.toInt32)), .unset, .unset, .unset, .unset]) rfl ?_
  refine o_iloadN X0.here hx (hb hby at_29) rfl ?_
  refine o_iconst X0.here hx (hb hby at_30) (z := (2 : Int32)) rfl ?_
  refine o_iushr X0.here hx (hb hby at_31) rfl ?_
  refine o_iconst X0.here hx (hb hby at_32) (z := (3 : Int32)) rfl ?_
  refine o_iand X0.here hx (hb hby at_33) rfl ?_
  refine o_iconst X0.here hx (hb hby at_34) (z := (3 : Int32)) rfl ?_
  by_cases hnull : (((p4.toUInt32 >>> ((2 : Int32) &&& 31).toUInt32).toInt32) &&& (3 : Int32)) = (3 : Int32)
  · refine o_icmpNo X0.here hx (hb hby at_35) rfl (teq hnull).2 ?_
    refine o_iconst X0.here hx (hb hby at_38) (z := (1 : Int32)) rfl ?_
    refine o_goto X0.here hx (pc0 := 39) (pc' := 43) rfl (hb hby at_39) (by decide) (by decide) ?_
    refine o_istore X0.here hx (hb hby at_43) rfl (l' := #[.val (.int p1), .val (.int p2), .val (.int p3), .val (.int p4), .val (.int (p4 &&& (3 : Int32))), .val (.int ((p1 &&& (255 : Int32)).toUInt32.toUInt16.toUInt32.toInt32)), .val (.int ((p2 &&& (255 : Int32)).toUInt32.toUInt16.toUInt32.toInt32)), .val (.int ((p3 &&& (255 : Int32)).toUInt32.toUInt16.toUInt32.toInt32)), .val (.int (1 : Int32)), .unset, .unset, .unset]) rfl ?_
    refine o_iload X0.here hx (hb hby at_45) rfl ?_
    refine o_ifNo X0.here hx (hb hby at_47) rfl ((if0 _ _).trans (feq (by decide)).1) ?_
    refine o_aconstNull X0.here hx (hb hby at_50) ?_
    refine o_astore X0.here hx (hb hby at_51) rfl rfl (l' := #[.val (.int p1), .val (.int p2), .val (.int p3), .val (.int p4), .val (.int (p4 &&& (3 : Int32))), .val (.int ((p1 &&& (255 : Int32)).toUInt32.toUInt16.toUInt32.toInt32)), .val (.int ((p2 &&& (255 : Int32)).toUInt32.toUInt16.toUInt32.toInt32)), .val (.int ((p3 &&& (255 : Int32)).toUInt32.toUInt16.toUInt32.toInt32)), .val (.int (1 : Int32)), .val .null, .unset, .unset]) rfl ?_
    obtain ⟨a101, T101, h101, j101, b101, k101, X101, e101, E101, hS101, hk101, hZ101, hown101, A101, C101, V101, K101, la101, lb101, cr101, lit101, sn101, st101⟩ := ldcCH X0 hx hZ hown (g_ hw 268 rfl) (own_wS Z a0 hw) e0 hS0 hk0 hEL (List.mem_of_getElem? (i := 1) rfl) hCH0 (vs := own_l21) (z := (21 : Int32)) own_txt_21 (by decide) rfl (g := (mkF m 53 #[.val (.int p1), .val (.int p2), .val (.int p3), .val (.int p4), .val (.int (p4 &&& (3 : Int32))), .val (.int ((p1 &&& (255 : Int32)).toUInt32.toUInt16.toUInt32.toInt32)), .val (.int ((p2 &&& (255 : Int32)).toUInt32.toUInt16.toUInt32.toInt32)), .val (.int ((p3 &&& (255 : Int32)).toUInt32.toUInt16.toUInt32.toInt32)), .val (.int (1 : Int32)), .val .null, .unset, .unset] [])) rfl (hb hby at_53) (n := 84) (by decide) (by decide) (by decide) (by decide)
    refine own_Go.of st101 ?_
    have c102 := cr101.1
    have c103 := (CHr.trans (CHr.refl hCH0) cr101)
    show own_Go p e below Pst (T101.setTop (mkF m 55 #[.val (.int p1), .val (.int p2), .val (.int p3), .val (.int p4), .val (.int (p4 &&& (3 : Int32))), .val (.int ((p1 &&& (255 : Int32)).toUInt32.toUInt16.toUInt32.toInt32)), .val (.int ((p2 &&& (255 : Int32)).toUInt32.toUInt16.toUInt32.toInt32)), .val (.int ((p3 &&& (255 : Int32)).toUInt32.toUInt16.toUInt32.toInt32)), .val (.int (1 : Int32)), .val .null, .unset, .unset] [(.ref a101)]))
    refine o_astore X101.here hx (hb hby at_55) rfl rfl (l' := #[.val (.int p1), .val (.int p2), .val (.int p3), .val (.int p4), .val (.int (p4 &&& (3 : Int32))), .val (.int ((p1 &&& (255 : Int32)).toUInt32.toUInt16.toUInt32.toInt32)), .val (.int ((p2 &&& (255 : Int32)).toUInt32.toUInt16.toUInt32.toInt32)), .val (.int ((p3 &&& (255 : Int32)).toUInt32.toUInt16.toUInt32.toInt32)), .val (.int (1 : Int32)), .val .null, .val (.ref a101), .unset]) rfl ?_
    refine o_goto X101.here hx (pc0 := 57) (pc' := 86) rfl (hb hby at_57) (by decide) (by decide) ?_
    refine o_aload X101.here hx (hb hby at_86) rfl rfl ?_
    have c104 := (O.ext E101)
    have c106 := (Nat.le_trans Z0 E101.1)
    refine own_cS X101 hS101 (by rw [e101]; exact hk101) hZ101 hown101 (callSS X101 hx (y := Mn24) hown101 (mvT hZ101 (g_ hw 37 rfl)) (mvT hZ101 (g_ hw 38 rfl)) (mvT hZ101 (g_ hw 39 rfl)) (mvT hZ101 (g_ hw 40 rfl)) (by decide) (backOfSKH (W := 0) (rm_uun l Z a0 hw [] z o h101 n0 c106 c104 SC hz hl r2 SR) hZ101 (g_ hw 40 rfl) (g_ hw 39 rfl) (by decide) (by decide) hEL c102 (Vm.MethodsKnown.alikeC hS101.1.alike hK.1) (Vm.FramesKnown.alikeC hS101.1.alike hK.2)) (g := (mkF m 88 #[.val (.int p1), .val (.int p2), .val (.int p3), .val (.int p4), .val (.int (p4 &&& (3 : Int32))), .val (.int ((p1 &&& (255 : Int32)).toUInt32.toUInt16.toUInt32.toInt32)), .val (.int ((p2 &&& (255 : Int32)).toUInt32.toUInt16.toUInt32.toInt32)), .val (.int ((p3 &&& (255 : Int32)).toUInt32.toUInt16.toUInt32.toInt32)), .val (.int (1 : Int32)), .val .null, .val (.ref a101), .unset] [.null])) rfl (by rw [hml]; rfl) (argsL := [.null]) (rest := []) (lenOf own_pd25 rfl) rfl (by show 2 * 0 + _ ≤ _; exact Nat.le_of_eq rfl) (hb hby at_88) (fun _ _ => ⟨rfl, e101, (by decide : 2 + 9 ≤ _), (by decide : 88 + 2990 ≤ _)⟩)) fun v105 T105 L105 X105 hS105 hZ105 hown105 hQ105 cr105 => ?_
    obtain ⟨x105, rfl, Nq105, K105, sx105, A105, G1105, G2105, m105, t105, kb105, G3105, MA105, MC105, MV105, MB105⟩ := hQ105
    have N105 := Fr.app N0 Nq105
    have ne_a101_x105 : a101 ≠ x105 := Nat.ne_of_lt (Nat.lt_of_lt_of_le A101.lt sx105)
    have ne_b101_x105 : b101 ≠ x105 := Nat.ne_of_lt (Nat.lt_of_lt_of_le K101.lt sx105)
    have gn_x105 : n0 ≤ x105 := Nat.le_trans c106 sx105
    have c107 := ((Keep.refl h0 []).ext E101)
    have sz_x105 : h0.size ≤ x105 := Nat.le_trans c107.1 sx105
    have c108 := cr105.1
    have c109 := (CHr.trans c103 cr105)
    have c110 := (Nat.le_trans hk101 K105.1)
    show own_Go p e below Pst (T105.setTop (mkF m 91 #[.val (.int p1), .val (.int p2), .val (.int p3), .val (.int p4), .val (.int (p4 &&& (3 : Int32))), .val (.int ((p1 &&& (255 : Int32)).toUInt32.toUInt16.toUInt32.toInt32)), .val (.int ((p2 &&& (255 : Int32)).toUInt32.toUInt16.toUInt32.toInt32)), .val (.int ((p3 &&& (255 : Int32)).toUInt32.toUInt16.toUInt32.toInt32)), .val (.int (1 : Int32)), .val .null, .val (.ref a101), .unset] [(.ref x105)]))
    have MBx105 : Arv Z T105.heap t105 kb105 .byte (21 : Int32) own_l21 (.int 0) := MB105
    refine o_astore X105.here hx (hb hby at_91) rfl rfl (l' := #[.val (.int p1), .val (.int p2), .val (.int p3), .val (.int p4), .val (.int (p4 &&& (3 : Int32))), .val (.int ((p1 &&& (255 : Int32)).toUInt32.toUInt16.toUInt32.toInt32)), .val (.int ((p2 &&& (255 : Int32)).toUInt32.toUInt16.toUInt32.toInt32)), .val (.int ((p3 &&& (255 : Int32)).toUInt32.toUInt16.toUInt32.toInt32)), .val (.int (1 : Int32)), .val .null, .val (.ref a101), .val (.ref x105)]) rfl ?_
    refine o_aload X105.here hx (hb hby at_93) rfl rfl ?_
    have c112 := (Nat.le_trans c106 K105.1)
    obtain ⟨cq111, kq111, q111a, q111b, q111c⟩ := isOf hZ105 rfl A105
    refine own_cP X105 (X105.virtualBack hx (y := Mn22) (z := Mn22) hown105 (mvT hZ105 (g_ hw 240 rfl)) (mvT hZ105 (g_ hw 241 rfl)) (notFace_of_selects (args := #[]) (mvT hZ105 (g_ hw 243 rfl))) (mvT hZ105 (g_ hw 243 rfl)) (mvT hZ105 (g_ hw 242 rfl)) (by decide) (backOf (W := 0) (rm_rs l Z a0 hw [] x105 o T105.heap n0 c112 G1105) hZ105 (g_ hw 244 rfl) (g_ hw 39 rfl) (by decide) (by decide)) q111a q111c (g := (mkF m 95 #[.val (.int p1), .val (.int p2), .val (.int p3), .val (.int p4), .val (.int (p4 &&& (3 : Int32))), .val (.int ((p1 &&& (255 : Int32)).toUInt32.toUInt16.toUInt32.toInt32)), .val (.int ((p2 &&& (255 : Int32)).toUInt32.toUInt16.toUInt32.toInt32)), .val (.int ((p3 &&& (255 : Int32)).toUInt32.toUInt16.toUInt32.toInt32)), .val (.int (1 : Int32)), .val .null, .val (.ref a101), .val (.ref x105)] [(.ref x105)])) rfl (by rw [hml]; rfl) (Steps.refl _) (argsL := []) (rest := []) (lenOf own_pd26 rfl) rfl (by show 2 * 0 + _ ≤ _; exact Nat.le_of_eq rfl) (hb hby at_95) (fun _ _ => ⟨rfl, rfl, (by decide : 11 + 0 ≤ _), (by decide : 3078 + 0 ≤ _)⟩)) fun v111 T111 L111 X111 hQ111 => ?_
    obtain ⟨rfl, Nq111, e111⟩ := hQ111
    have N111 := Fr.app N105 Nq111
    show own_Go p e below Pst (T111.setTop (mkF m 98 #[.val (.int p1), .val (.int p2), .val (.int p3), .val (.int p4), .val (.int (p4 &&& (3 : Int32))), .val (.int ((p1 &&& (255 : Int32)).toUInt32.toUInt16.toUInt32.toInt32)), .val (.int ((p2 &&& (255 : Int32)).toUInt32.toUInt16.toUInt32.toInt32)), .val (.int ((p3 &&& (255 : Int32)).toUInt32.toUInt16.toUInt32.toInt32)), .val (.int (1 : Int32)), .val .null, .val (.ref a101), .val (.ref x105)] [(.ref o)]))
    have c113 := (c104.keep K105 all0)
    refine p_getS2 X111 hx hZ105 hown105 (host := "") (Or.inl (g_ hw 245 rfl)) Via.refl e111 (SR.ext c113.2) (hb hby at_98) fun T114 X114 e114 => ?_
    refine own_Go.of (S' := T114.setTop (mkF m 104 #[.val (.int p1), .val (.int p2), .val (.int p3), .val (.int p4), .val (.int (p4 &&& (3 : Int32))), .val (.int ((p1 &&& (255 : Int32)).toUInt32.toUInt16.toUInt32.toInt32)), .val (.int ((p2 &&& (255 : Int32)).toUInt32.toUInt16.toUInt32.toInt32)), .val (.int ((p3 &&& (255 : Int32)).toUInt32.toUInt16.toUInt32.toInt32)), .val (.int (1 : Int32)), .val .null, .val (.ref a101), .val (.ref x105)] [])) (fun tgt kst => Jvm.RoadKit.acmp (g := (mkF m 101 #[.val (.int p1), .val (.int p2), .val (.int p3), .val (.int p4), .val (.int (p4 &&& (3 : Int32))), .val (.int ((p1 &&& (255 : Int32)).toUInt32.toUInt16.toUInt32.toInt32)), .val (.int ((p2 &&& (255 : Int32)).toUInt32.toUInt16.toUInt32.toInt32)), .val (.int ((p3 &&& (255 : Int32)).toUInt32.toUInt16.toUInt32.toInt32)), .val (.int (1 : Int32)), .val .null, .val (.ref a101), .val (.ref x105)] [(.ref o), (.ref o)])) X114 hx rfl rfl rfl (pc0 := 101) (pc' := 104) (same := true) rfl (hb hby at_101) rfl (decide_eq_true rfl) (by decide) (by decide) kst) ?_
    refine o_aload X114.here hx (hb hby at_104) rfl rfl ?_
    obtain ⟨cq115, kq115, q115a, q115b, q115c⟩ := isOf hZ105 e114 A105
    refine own_cP X114 (X114.virtualBack hx (y := Mn23) (z := Mn23) hown105 (mvT hZ105 (g_ hw 246 rfl)) (mvT hZ105 (g_ hw 247 rfl)) (notFace_of_selects (args := #[]) (mvT hZ105 (g_ hw 249 rfl))) (mvT hZ105 (g_ hw 249 rfl)) (mvT hZ105 (g_ hw 248 rfl)) (by decide) (backOf (W := 0) (rm_ln l Z a0 hw [] x105 (0 : Int32) T105.heap n0 c112 G2105) hZ105 (g_ hw 250 rfl) (g_ hw 39 rfl) (by decide) (by decide)) q115a q115c (g := (mkF m 106 #[.val (.int p1), .val (.int p2), .val (.int p3), .val (.int p4), .val (.int (p4 &&& (3 : Int32))), .val (.int ((p1 &&& (255 : Int32)).toUInt32.toUInt16.toUInt32.toInt32)), .val (.int ((p2 &&& (255 : Int32)).toUInt32.toUInt16.toUInt32.toInt32)), .val (.int ((p3 &&& (255 : Int32)).toUInt32.toUInt16.toUInt32.toInt32)), .val (.int (1 : Int32)), .val .null, .val (.ref a101), .val (.ref x105)] [(.ref x105)])) rfl (by rw [hml]; rfl) (Steps.refl _) (argsL := []) (rest := []) (lenOf own_pd9 rfl) rfl (by show 2 * 0 + _ ≤ _; exact Nat.le_of_eq rfl) (hb hby at_106) (fun _ _ => ⟨rfl, e114, (by decide : 11 + 0 ≤ _), (by decide : 3078 + 0 ≤ _)⟩)) fun v115 T115 L115 X115 hQ115 => ?_
    obtain ⟨rfl, Nq115, e115⟩ := hQ115
    have N115 := Fr.app N111 Nq115
    show own_Go p e below Pst (T115.setTop (mkF m 109 #[.val (.int p1), .val (.int p2), .val (.int p3), .val (.int p4), .val (.int (p4 &&& (3 : Int32))), .val (.int ((p1 &&& (255 : Int32)).toUInt32.toUInt16.toUInt32.toInt32)), .val (.int ((p2 &&& (255 : Int32)).toUInt32.toUInt16.toUInt32.toInt32)), .val (.int ((p3 &&& (255 : Int32)).toUInt32.toUInt16.toUInt32.toInt32)), .val (.int (1 : Int32)), .val .null, .val (.ref a101), .val (.ref x105)] [(.int (0 : Int32))]))
    refine o_ifNo X115.here hx (hb hby at_109) rfl ((if0 _ _).trans (teq rfl).2) ?_
    refine o_aload X115.here hx (hb hby at_112) rfl rfl ?_
    refine o_aload X115.here hx (hb hby at_114) rfl rfl ?_
    obtain ⟨cq116, kq116, q116a, q116b, q116c⟩ := isOf hZ105 e115 A105
    refine own_cP X115 (X115.virtualBackUp hx (x := Mn37) (y := Mn28) (owner := "java/lang/Throwable") hown105 (mvT hZ105 (g_ hw 251 rfl)) (mvT hZ105 (g_ hw 252 rfl)) (mvT hZ105 (g_ hw 253 rfl)) (by decide) (mvT hZ105 (g_ hw 255 rfl)) (mvT hZ105 (g_ hw 254 rfl)) (backOf (W := 1) (rm_gm l Z a0 hw [] x105 m105 T105.heap n0 c112 G3105) hZ105 (g_ hw 256 rfl) (g_ hw 197 rfl) (by decide) (by decide)) q116a q116c (g := (mkF m 116 #[.val (.int p1), .val (.int p2), .val (.int p3), .val (.int p4), .val (.int (p4 &&& (3 : Int32))), .val (.int ((p1 &&& (255 : Int32)).toUInt32.toUInt16.toUInt32.toInt32)), .val (.int ((p2 &&& (255 : Int32)).toUInt32.toUInt16.toUInt32.toInt32)), .val (.int ((p3 &&& (255 : Int32)).toUInt32.toUInt16.toUInt32.toInt32)), .val (.int (1 : Int32)), .val .null, .val (.ref a101), .val (.ref x105)] [(.ref x105), (.ref a101)])) rfl (by rw [hml]; rfl) (Steps.refl _) (argsL := []) (rest := [(.ref a101)]) (lenOf own_pd22 rfl) rfl (by show 2 * 0 + _ ≤ _; exact Nat.le_of_eq rfl) (hb hby at_116) (fun _ _ => ⟨rfl, e115, (by decide : 11 + 0 ≤ _), (by decide : 3078 + 0 ≤ _)⟩)) fun v116 T116 L116 X116 hQ116 => ?_
    obtain ⟨rfl, Nq116, e116⟩ := hQ116
    have N116 := Fr.app N115 Nq116
    show own_Go p e below Pst (T116.setTop (mkF m 119 #[.val (.int p1), .val (.int p2), .val (.int p3), .val (.int p4), .val (.int (p4 &&& (3 : Int32))), .val (.int ((p1 &&& (255 : Int32)).toUInt32.toUInt16.toUInt32.toInt32)), .val (.int ((p2 &&& (255 : Int32)).toUInt32.toUInt16.toUInt32.toInt32)), .val (.int ((p3 &&& (255 : Int32)).toUInt32.toUInt16.toUInt32.toInt32)), .val (.int (1 : Int32)), .val .null, .val (.ref a101), .val (.ref x105)] [(.ref m105), (.ref a101)]))
    have c117 := (A101.keep K105)
    have c118 := (V101.keep K105 nin0)
    have c119 := (C101.keep K105 nin0)
    have c120 := (K101.keep K105 nin0)
    obtain ⟨cq121, kq121, q121a, q121b, q121c⟩ := isOf hZ105 e116 c117
    refine own_cP X116 (X116.virtualBack hx (y := Mn21) (z := Mn21) hown105 (mvT hZ105 (g_ hw 257 rfl)) (mvT hZ105 (g_ hw 258 rfl)) (notFace_of_selects (args := #[]) (mvT hZ105 (g_ hw 260 rfl))) (mvT hZ105 (g_ hw 260 rfl)) (mvT hZ105 (g_ hw 259 rfl)) (by decide) (own_eqB (W := 0) (n0 := n0) hZ105 (own_wordsEq Z a0 hw) (kI := 4) (g_ hw 6 rfl) c117 c118 c119 c120 own_codn own_un (by decide) MA105 MV105 MC105 MBx105 own_codn (SC.ext c113.2) hz (by decide) (by decide)) q121a q121c (g := (mkF m 119 #[.val (.int p1), .val (.int p2), .val (.int p3), .val (.int p4), .val (.int (p4 &&& (3 : Int32))), .val (.int ((p1 &&& (255 : Int32)).toUInt32.toUInt16.toUInt32.toInt32)), .val (.int ((p2 &&& (255 : Int32)).toUInt32.toUInt16.toUInt32.toInt32)), .val (.int ((p3 &&& (255 : Int32)).toUInt32.toUInt16.toUInt32.toInt32)), .val (.int (1 : Int32)), .val .null, .val (.ref a101), .val (.ref x105)] [(.ref m105), (.ref a101)])) rfl (by rw [hml]; rfl) (Steps.refl _) (argsL := [(.ref m105)]) (rest := []) (lenOf own_pd27 rfl) rfl (by show 2 * 0 + _ ≤ _; exact Nat.le_of_eq rfl) (hb hby at_119) (fun _ _ => ⟨rfl, e116, (by decide : 11 + 0 ≤ _), (by decide : 3078 + 0 ≤ _)⟩)) fun v121 T121 L121 X121 hQ121 => ?_
    obtain ⟨rfl, Nq121, e121⟩ := hQ121
    have N121 := Fr.app N116 Nq121
    show own_Go p e below Pst (T121.setTop (mkF m 122 #[.val (.int p1), .val (.int p2), .val (.int p3), .val (.int p4), .val (.int (p4 &&& (3 : Int32))), .val (.int ((p1 &&& (255 : Int32)).toUInt32.toUInt16.toUInt32.toInt32)), .val (.int ((p2 &&& (255 : Int32)).toUInt32.toUInt16.toUInt32.toInt32)), .val (.int ((p3 &&& (255 : Int32)).toUInt32.toUInt16.toUInt32.toInt32)), .val (.int (1 : Int32)), .val .null, .val (.ref a101), .val (.ref x105)] [(.int (1 : Int32))]))
    refine o_ifNo X121.here hx (hb hby at_122) rfl ((if0 _ _).trans (feq (by decide)).1) ?_
    refine o_iconst X121.here hx (hb hby at_125) (z := (1 : Int32)) rfl ?_
    refine o_goto X121.here hx (pc0 := 126) (pc' := 130) rfl (hb hby at_126) (by decide) (by decide) ?_
    rw [hPst]
    exact own_retW X121 hS105 (by rw [e121]; exact (Nat.le_refl _)) (v := (some (.int (nar .boolean (1 : Int32))))) (Q := Q0 Z z p1 p2 p3 p4 o h0 n0) (fun h => by rw [Bd.returns] at h; cases h) Bd.notSynchronized (fun fs hr => retN X121 hx (t := .boolean) Bd.returns (by simp) (hb hby at_130) hr) (by decide) (by decide) (by rw [hh0, e121]; exact CHr.trans c109 (CHv.at X121 hZ105 hEL c108)) (by rw [e121]; exact ⟨rfl, N121⟩)
  · refine o_icmpYes X0.here hx (pc0 := 35) (pc' := 42) rfl (hb hby at_35) rfl (feq hnull).2 (by decide) (by decide) ?_
    refine o_iconst X0.here hx (hb hby at_42) (z := (0 : Int32)) rfl ?_
    refine o_istore X0.here hx (hb hby at_43) rfl (l' := #[.val (.int p1), .val (.int p2), .val (.int p3), .val (.int p4), .val (.int (p4 &&& (3 : Int32))), .val (.int ((p1 &&& (255 : Int32)).toUInt32.toUInt16.toUInt32.toInt32)), .val (.int ((p2 &&& (255 : Int32)).toUInt32.toUInt16.toUInt32.toInt32)), .val (.int ((p3 &&& (255 : Int32)).toUInt32.toUInt16.toUInt32.toInt32)), .val (.int (0 : Int32)), .unset, .unset, .unset]) rfl ?_
    refine o_iload X0.here hx (hb hby at_45) rfl ?_
    refine o_ifYes X0.here hx (pc0 := 47) (pc' := 60) rfl (hb hby at_47) rfl ((if0 _ _).trans (teq rfl).1) (by decide) (by decide) ?_
    obtain ⟨c1, hc1⟩ : ∃ c, c = ((p1 &&& (255 : Int32)).toUInt32.toUInt16.toUInt32.toInt32) := ⟨_, rfl⟩
    have q1 : ¬ (nar .char c1) < 0 ∧ ¬ (255 : Int32) < (nar .char c1) := by rw [hc1]; exact own_and255 p1
    rw [← hc1]
    show own_Go p e below Pst (s₁.setTop (mkF m 60 #[.val (.int p1), .val (.int p2), .val (.int p3), .val (.int p4), .val (.int (p4 &&& (3 : Int32))), .val (.int c1), .val (.int ((p2 &&& (255 : Int32)).toUInt32.toUInt16.toUInt32.toInt32)), .val (.int ((p3 &&& (255 : Int32)).toUInt32.toUInt16.toUInt32.toInt32)), .val (.int (0 : Int32)), .unset, .unset, .unset] []))
    obtain ⟨c2, hc2⟩ : ∃ c, c = ((p2 &&& (255 : Int32)).toUInt32.toUInt16.toUInt32.toInt32) := ⟨_, rfl⟩
    have q2 : ¬ (nar .char c2) < 0 ∧ ¬ (255 : Int32) < (nar .char c2) := by rw [hc2]; exact own_and255 p2
    rw [← hc2]
    show own_Go p e below Pst (s₁.setTop (mkF m 60 #[.val (.int p1), .val (.int p2), .val (.int p3), .val (.int p4), .val (.int (p4 &&& (3 : Int32))), .val (.int c1), .val (.int c2), .val (.int ((p3 &&& (255 : Int32)).toUInt32.toUInt16.toUInt32.toInt32)), .val (.int (0 : Int32)), .unset, .unset, .unset] []))
    obtain ⟨c3, hc3⟩ : ∃ c, c = ((p3 &&& (255 : Int32)).toUInt32.toUInt16.toUInt32.toInt32) := ⟨_, rfl⟩
    have q3 : ¬ (nar .char c3) < 0 ∧ ¬ (255 : Int32) < (nar .char c3) := by rw [hc3]; exact own_and255 p3
    rw [← hc3]
    show own_Go p e below Pst (s₁.setTop (mkF m 60 #[.val (.int p1), .val (.int p2), .val (.int p3), .val (.int p4), .val (.int (p4 &&& (3 : Int32))), .val (.int c1), .val (.int c2), .val (.int c3), .val (.int (0 : Int32)), .unset, .unset, .unset] []))
    obtain ⟨m4, hm4⟩ : ∃ c, c = (p4 &&& (3 : Int32)) := ⟨_, rfl⟩
    have hm : m4 = 0 ∨ m4 = 1 ∨ m4 = 2 ∨ m4 = 3 := by rw [hm4]; exact own_and3 p4
    rw [← hm4]
    show own_Go p e below Pst (s₁.setTop (mkF m 60 #[.val (.int p1), .val (.int p2), .val (.int p3), .val (.int p4), .val (.int m4), .val (.int c1), .val (.int c2), .val (.int c3), .val (.int (0 : Int32)), .unset, .unset, .unset] []))
    refine o_iload X0.here hx (hb hby at_60) rfl ?_
    refine o_iload X0.here hx (hb hby at_62) rfl ?_
    refine o_iload X0.here hx (hb hby at_64) rfl ?_
    refine o_iload X0.here hx (hb hby at_66) rfl ?_
    refine own_cS X0 hS0 (by rw [e0]; exact hk0) hZ hown (callSS X0 hx (y := Mn35) hown (mvT hZ (g_ hw 0 rfl)) (mvT hZ (g_ hw 1 rfl)) (mvT hZ (g_ hw 2 rfl)) (mvT hZ (g_ hw 3 rfl)) (by decide) (backOfSH (W := 0) (rm_nm l Z a0 hw [] z m4 c1 c2 c3 h0 n0 Z0 O SC hz q1 q2 q3 hm) hZ (g_ hw 3 rfl) (g_ hw 2 rfl) (by decide) (by decide) hEL hCH0) (g := (mkF m 68 #[.val (.int p1), .val (.int p2), .val (.int p3), .val (.int p4), .val (.int m4), .val (.int c1), .val (.int c2), .val (.int c3), .val (.int (0 : Int32)), .unset, .unset, .unset] [(.int c3), (.int c2), (.int c1), (.int m4)])) rfl (by rw [hml]; rfl) (argsL := [(.int m4), (.int c1), (.int c2), (.int c3)]) (rest := []) (lenOf own_pd28 rfl) rfl (by show 2 * 0 + _ ≤ _; exact Nat.le_of_eq rfl) (hb hby at_68) (fun _ _ => ⟨rfl, e0, (by decide : 0 + 6 ≤ _), (by decide : 0 + 20 ≤ _)⟩)) fun v122 T122 L122 X122 hS122 hZ122 hown122 hQ122 cr122 => ?_
    obtain ⟨x122, rfl, Nq122, K122, sx122, A122, C122, t122, kb122, V122, B122⟩ := hQ122
    have N122 := Fr.app N0 Nq122
    have gn_x122 : n0 ≤ x122 := Nat.le_trans Z0 sx122
    have sz_x122 : h0.size ≤ x122 := Nat.le_trans (Keep.refl h0 []).1 sx122
    have c123 := cr122.1
    have c124 := (CHr.trans (CHr.refl hCH0) cr122)
    have c125 := (Nat.le_trans hk0 K122.1)
    show own_Go p e below Pst (T122.setTop (mkF m 71 #[.val (.int p1), .val (.int p2), .val (.int p3), .val (.int p4), .val (.int m4), .val (.int c1), .val (.int c2), .val (.int c3), .val (.int (0 : Int32)), .unset, .unset, .unset] [(.ref x122)]))
    refine o_astore X122.here hx (hb hby at_71) rfl rfl (l' := #[.val (.int p1), .val (.int p2), .val (.int p3), .val (.int p4), .val (.int m4), .val (.int c1), .val (.int c2), .val (.int c3), .val (.int (0 : Int32)), .val (.ref x122), .unset, .unset]) rfl ?_
    refine o_iload X122.here hx (hb hby at_73) rfl ?_
    refine o_iload X122.here hx (hb hby at_75) rfl ?_
    refine o_iload X122.here hx (hb hby at_77) rfl ?_
    refine o_iload X122.here hx (hb hby at_79) rfl ?_
    have c126 := (O.keep K122 all0)
    have c128 := (Nat.le_trans Z0 K122.1)
    refine own_cF X122 (Jvm.LawKit.callS X122 hx (y := Mn36) hown122 (mvT hZ122 (g_ hw 34 rfl)) (mvT hZ122 (g_ hw 35 rfl)) (mvT hZ122 (g_ hw 2 rfl)) (mvT hZ122 (g_ hw 36 rfl)) (by decide) (backOf (W := 0) (rm_ex l Z a0 hw [] z m4 c1 c2 c3 T122.heap n0 c128 c126 SC hz q1 q2 q3 hm) hZ122 (g_ hw 36 rfl) (g_ hw 2 rfl) (by decide) (by decide)) (g := (mkF m 81 #[.val (.int p1), .val (.int p2), .val (.int p3), .val (.int p4), .val (.int m4), .val (.int c1), .val (.int c2), .val (.int c3), .val (.int (0 : Int32)), .val (.ref x122), .unset, .unset] [(.int c3), (.int c2), (.int c1), (.int m4)])) rfl (by rw [hml]; rfl) (argsL := [(.int m4), (.int c1), (.int c2), (.int c3)]) (rest := []) (lenOf own_pd28 rfl) rfl (by show 2 * 0 + _ ≤ _; exact Nat.le_of_eq rfl) (hb hby at_81) (fun _ _ => ⟨rfl, rfl, (by decide : 6 + 3 ≤ _), (by decide : 20 + 70 ≤ _)⟩)) fun v127 T127 L127 X127 hQ127 => ?_
    obtain ⟨x127, rfl, Nq127, K127, sx127, A127, C127, t127, kb127, V127, B127⟩ := hQ127
    have N127 := Fr.app N122 Nq127
    have ne_x122_x127 : x122 ≠ x127 := Nat.ne_of_lt (Nat.lt_of_lt_of_le A122.lt sx127)
    have gn_x127 : n0 ≤ x127 := Nat.le_trans c128 sx127
    have c129 := (Keep.trans (Keep.refl h0 []) K122 all0)
    have sz_x127 : h0.size ≤ x127 := Nat.le_trans c129.1 sx127
    have sn_x127 : Safe Z own_EL T122.vm T122.heap x127 := Safe.new sx127
    have c130 := (CHv.keep K127 sf0 c123)
    have c131 := (CHr.trans c124 (CHr.keep K127 sf0 c123))
    have c132 := (Nat.le_trans (Nat.le_refl _) K127.1)
    show own_Go p e below Pst (T127.setTop (mkF m 84 #[.val (.int p1), .val (.int p2), .val (.int p3), .val (.int p4), .val (.int m4), .val (.int c1), .val (.int c2), .val (.int c3), .val (.int (0 : Int32)), .val (.ref x122), .unset, .unset] [(.ref x127)]))
    refine o_astore X127.here hx (hb hby at_84) rfl rfl (l' := #[.val (.int p1), .val (.int p2), .val (.int p3), .val (.int p4), .val (.int m4), .val (.int c1), .val (.int c2), .val (.int c3), .val (.int (0 : Int32)), .val (.ref x122), .val (.ref x127), .unset]) rfl ?_
    refine o_aload X127.here hx (hb hby at_86) rfl rfl ?_
    have c133 := (c126.keep K127 all0)
    have c134 := (A122.keep K127)
    have c135 := (V122.keep K127 nin0)
    have c136 := (C122.keep K127 nin0)
    have c137 := (B122.keep K127 nin0)
    have c139 := (Nat.le_trans c128 K127.1)
    refine own_cS X127 hS122 c132 hZ122 hown122 (callSS X127 hx (y := Mn24) hown122 (mvT hZ122 (g_ hw 37 rfl)) (mvT hZ122 (g_ hw 38 rfl)) (mvT hZ122 (g_ hw 39 rfl)) (mvT hZ122 (g_ hw 40 rfl)) (by decide) (backOfSKH (W := 0) (rm_uus l Z a0 hw [] z m4 c1 c2 c3 o x122 t122 kb122 T127.heap n0 c139 c133 SC hz hl r2 SR c134 c135 c136 c137 hm) hZ122 (g_ hw 40 rfl) (g_ hw 39 rfl) (by decide) (by decide) hEL c130 (Vm.MethodsKnown.alikeC hS122.1.alike hK.1) (Vm.FramesKnown.alikeC hS122.1.alike hK.2)) (g := (mkF m 88 #[.val (.int p1), .val (.int p2), .val (.int p3), .val (.int p4), .val (.int m4), .val (.int c1), .val (.int c2), .val (.int c3), .val (.int (0 : Int32)), .val (.ref x122), .val (.ref x127), .unset] [(.ref x122)])) rfl (by rw [hml]; rfl) (argsL := [(.ref x122)]) (rest := []) (lenOf own_pd25 rfl) rfl (by show 2 * 0 + _ ≤ _; exact Nat.le_of_eq rfl) (hb hby at_88) (fun _ _ => ⟨rfl, rfl, (by decide : 9 + 9 ≤ _), (by decide : 90 + 2990 ≤ _)⟩)) fun v138 T138 L138 X138 hS138 hZ138 hown138 hQ138 cr138 => ?_
    obtain ⟨x138, rfl, Nq138, K138, sx138, A138, G1138, G2138, m138, t138, kb138, G3138, MA138, MC138, MV138, MB138⟩ := hQ138
    have N138 := Fr.app N127 Nq138
    have ne_x122_x138 : x122 ≠ x138 := Nat.ne_of_lt (Nat.lt_of_lt_of_le c134.lt sx138)
    have ne_x127_x138 : x127 ≠ x138 := Nat.ne_of_lt (Nat.lt_of_lt_of_le A127.lt sx138)
    have gn_x138 : n0 ≤ x138 := Nat.le_trans c139 sx138
    have c140 := (Keep.trans c129 K127 all0)
    have sz_x138 : h0.size ≤ x138 := Nat.le_trans c140.1 sx138
    have c141 := cr138.1
    have c142 := (CHr.trans c131 cr138)
    have c143 := (Nat.le_trans c132 K138.1)
    show own_Go p e below Pst (T138.setTop (mkF m 91 #[.val (.int p1), .val (.int p2), .val (.int p3), .val (.int p4), .val (.int m4), .val (.int c1), .val (.int c2), .val (.int c3), .val (.int (0 : Int32)), .val (.ref x122), .val (.ref x127), .unset] [(.ref x138)]))
    have MBx138 : Arv Z T138.heap t138 kb138 .byte (17 + m4) (own_out m4 c1 c2 c3) (.int 0) := MB138
    refine o_astore X138.here hx (hb hby at_91) rfl rfl (l' := #[.val (.int p1), .val (.int p2), .val (.int p3), .val (.int p4), .val (.int m4), .val (.int c1), .val (.int c2), .val (.int c3), .val (.int (0 : Int32)), .val (.ref x122), .val (.ref x127), .val (.ref x138)]) rfl ?_
    refine o_aload X138.here hx (hb hby at_93) rfl rfl ?_
    have c145 := (Nat.le_trans c139 K138.1)
    obtain ⟨cq144, kq144, q144a, q144b, q144c⟩ := isOf hZ138 rfl A138
    refine own_cP X138 (X138.virtualBack hx (y := Mn22) (z := Mn22) hown138 (mvT hZ138 (g_ hw 240 rfl)) (mvT hZ138 (g_ hw 241 rfl)) (notFace_of_selects (args := #[]) (mvT hZ138 (g_ hw 243 rfl))) (mvT hZ138 (g_ hw 243 rfl)) (mvT hZ138 (g_ hw 242 rfl)) (by decide) (backOf (W := 0) (rm_rs l Z a0 hw [] x138 o T138.heap n0 c145 G1138) hZ138 (g_ hw 244 rfl) (g_ hw 39 rfl) (by decide) (by decide)) q144a q144c (g := (mkF m 95 #[.val (.int p1), .val (.int p2), .val (.int p3), .val (.int p4), .val (.int m4), .val (.int c1), .val (.int c2), .val (.int c3), .val (.int (0 : Int32)), .val (.ref x122), .val (.ref x127), .val (.ref x138)] [(.ref x138)])) rfl (by rw [hml]; rfl) (Steps.refl _) (argsL := []) (rest := []) (lenOf own_pd26 rfl) rfl (by show 2 * 0 + _ ≤ _; exact Nat.le_of_eq rfl) (hb hby at_95) (fun _ _ => ⟨rfl, rfl, (by decide : 18 + 0 ≤ _), (by decide : 3080 + 0 ≤ _)⟩)) fun v144 T144 L144 X144 hQ144 => ?_
    obtain ⟨rfl, Nq144, e144⟩ := hQ144
    have N144 := Fr.app N138 Nq144
    show own_Go p e below Pst (T144.setTop (mkF m 98 #[.val (.int p1), .val (.int p2), .val (.int p3), .val (.int p4), .val (.int m4), .val (.int c1), .val (.int c2), .val (.int c3), .val (.int (0 : Int32)), .val (.ref x122), .val (.ref x127), .val (.ref x138)] [(.ref o)]))
    have c146 := (c133.keep K138 all0)
    refine p_getS2 X144 hx hZ138 hown138 (host := "") (Or.inl (g_ hw 245 rfl)) Via.refl e144 (SR.ext c146.2) (hb hby at_98) fun T147 X147 e147 => ?_
    refine own_Go.of (S' := T147.setTop (mkF m 104 #[.val (.int p1), .val (.int p2), .val (.int p3), .val (.int p4), .val (.int m4), .val (.int c1), .val (.int c2), .val (.int c3), .val (.int (0 : Int32)), .val (.ref x122), .val (.ref x127), .val (.ref x138)] [])) (fun tgt kst => Jvm.RoadKit.acmp (g := (mkF m 101 #[.val (.int p1), .val (.int p2), .val (.int p3), .val (.int p4), .val (.int m4), .val (.int c1), .val (.int c2), .val (.int c3), .val (.int (0 : Int32)), .val (.ref x122), .val (.ref x127), .val (.ref x138)] [(.ref o), (.ref o)])) X147 hx rfl rfl rfl (pc0 := 101) (pc' := 104) (same := true) rfl (hb hby at_101) rfl (decide_eq_true rfl) (by decide) (by decide) kst) ?_
    refine o_aload X147.here hx (hb hby at_104) rfl rfl ?_
    obtain ⟨cq148, kq148, q148a, q148b, q148c⟩ := isOf hZ138 e147 A138
    refine own_cP X147 (X147.virtualBack hx (y := Mn23) (z := Mn23) hown138 (mvT hZ138 (g_ hw 246 rfl)) (mvT hZ138 (g_ hw 247 rfl)) (notFace_of_selects (args := #[]) (mvT hZ138 (g_ hw 249 rfl))) (mvT hZ138 (g_ hw 249 rfl)) (mvT hZ138 (g_ hw 248 rfl)) (by decide) (backOf (W := 0) (rm_ln l Z a0 hw [] x138 (0 : Int32) T138.heap n0 c145 G2138) hZ138 (g_ hw 250 rfl) (g_ hw 39 rfl) (by decide) (by decide)) q148a q148c (g := (mkF m 106 #[.val (.int p1), .val (.int p2), .val (.int p3), .val (.int p4), .val (.int m4), .val (.int c1), .val (.int c2), .val (.int c3), .val (.int (0 : Int32)), .val (.ref x122), .val (.ref x127), .val (.ref x138)] [(.ref x138)])) rfl (by rw [hml]; rfl) (Steps.refl _) (argsL := []) (rest := []) (lenOf own_pd9 rfl) rfl (by show 2 * 0 + _ ≤ _; exact Nat.le_of_eq rfl) (hb hby at_106) (fun _ _ => ⟨rfl, e147, (by decide : 18 + 0 ≤ _), (by decide : 3080 + 0 ≤ _)⟩)) fun v148 T148 L148 X148 hQ148 => ?_
    obtain ⟨rfl, Nq148, e148⟩ := hQ148
    have N148 := Fr.app N144 Nq148
    show own_Go p e below Pst (T148.setTop (mkF m 109 #[.val (.int p1), .val (.int p2), .val (.int p3), .val (.int p4), .val (.int m4), .val (.int c1), .val (.int c2), .val (.int c3), .val (.int (0 : Int32)), .val (.ref x122), .val (.ref x127), .val (.ref x138)] [(.int (0 : Int32))]))
    refine o_ifNo X148.here hx (hb hby at_109) rfl ((if0 _ _).trans (teq rfl).2) ?_
    refine o_aload X148.here hx (hb hby at_112) rfl rfl ?_
    refine o_aload X148.here hx (hb hby at_114) rfl rfl ?_
    obtain ⟨cq149, kq149, q149a, q149b, q149c⟩ := isOf hZ138 e148 A138
    refine own_cP X148 (X148.virtualBackUp hx (x := Mn37) (y := Mn28) (owner := "java/lang/Throwable") hown138 (mvT hZ138 (g_ hw 251 rfl)) (mvT hZ138 (g_ hw 252 rfl)) (mvT hZ138 (g_ hw 253 rfl)) (by decide) (mvT hZ138 (g_ hw 255 rfl)) (mvT hZ138 (g_ hw 254 rfl)) (backOf (W := 1) (rm_gm l Z a0 hw [] x138 m138 T138.heap n0 c145 G3138) hZ138 (g_ hw 256 rfl) (g_ hw 197 rfl) (by decide) (by decide)) q149a q149c (g := (mkF m 116 #[.val (.int p1), .val (.int p2), .val (.int p3), .val (.int p4), .val (.int m4), .val (.int c1), .val (.int c2), .val (.int c3), .val (.int (0 : Int32)), .val (.ref x122), .val (.ref x127), .val (.ref x138)] [(.ref x138), (.ref x127)])) rfl (by rw [hml]; rfl) (Steps.refl _) (argsL := []) (rest := [(.ref x127)]) (lenOf own_pd22 rfl) rfl (by show 2 * 0 + _ ≤ _; exact Nat.le_of_eq rfl) (hb hby at_116) (fun _ _ => ⟨rfl, e148, (by decide : 18 + 0 ≤ _), (by decide : 3080 + 0 ≤ _)⟩)) fun v149 T149 L149 X149 hQ149 => ?_
    obtain ⟨rfl, Nq149, e149⟩ := hQ149
    have N149 := Fr.app N148 Nq149
    show own_Go p e below Pst (T149.setTop (mkF m 119 #[.val (.int p1), .val (.int p2), .val (.int p3), .val (.int p4), .val (.int m4), .val (.int c1), .val (.int c2), .val (.int c3), .val (.int (0 : Int32)), .val (.ref x122), .val (.ref x127), .val (.ref x138)] [(.ref m138), (.ref x127)]))
    have c150 := (A127.keep K138)
    have c151 := (V127.keep K138 nin0)
    have c152 := (C127.keep K138 nin0)
    have c153 := (B127.keep K138 nin0)
    obtain ⟨cq154, kq154, q154a, q154b, q154c⟩ := isOf hZ138 e149 c150
    refine own_cP X149 (X149.virtualBack hx (y := Mn21) (z := Mn21) hown138 (mvT hZ138 (g_ hw 257 rfl)) (mvT hZ138 (g_ hw 258 rfl)) (notFace_of_selects (args := #[]) (mvT hZ138 (g_ hw 260 rfl))) (mvT hZ138 (g_ hw 260 rfl)) (mvT hZ138 (g_ hw 259 rfl)) (by decide) (own_eqB (W := 0) (n0 := n0) hZ138 (own_wordsEq Z a0 hw) (kI := 4) (g_ hw 6 rfl) c150 c151 c152 c153 (own_cod m4 c1 c2 c3 hm q1 q2 q3) (own_u m4 c1 c2 c3 hm q1 q2 q3) (own_ul m4 c1 c2 c3 hm) MA138 MV138 MC138 MBx138 (own_cod m4 c1 c2 c3 hm q1 q2 q3) (SC.ext c146.2) hz (by decide) (by decide)) q154a q154c (g := (mkF m 119 #[.val (.int p1), .val (.int p2), .val (.int p3), .val (.int p4), .val (.int m4), .val (.int c1), .val (.int c2), .val (.int c3), .val (.int (0 : Int32)), .val (.ref x122), .val (.ref x127), .val (.ref x138)] [(.ref m138), (.ref x127)])) rfl (by rw [hml]; rfl) (Steps.refl _) (argsL := [(.ref m138)]) (rest := []) (lenOf own_pd27 rfl) rfl (by show 2 * 0 + _ ≤ _; exact Nat.le_of_eq rfl) (hb hby at_119) (fun _ _ => ⟨rfl, e149, (by decide : 18 + 0 ≤ _), (by decide : 3080 + 0 ≤ _)⟩)) fun v154 T154 L154 X154 hQ154 => ?_
    obtain ⟨rfl, Nq154, e154⟩ := hQ154
    have N154 := Fr.app N149 Nq154
    show own_Go p e below Pst (T154.setTop (mkF m 122 #[.val (.int p1), .val (.int p2), .val (.int p3), .val (.int p4), .val (.int m4), .val (.int c1), .val (.int c2), .val (.int c3), .val (.int (0 : Int32)), .val (.ref x122), .val (.ref x127), .val (.ref x138)] [(.int (1 : Int32))]))
    refine o_ifNo X154.here hx (hb hby at_122) rfl ((if0 _ _).trans (feq (by decide)).1) ?_
    refine o_iconst X154.here hx (hb hby at_125) (z := (1 : Int32)) rfl ?_
    refine o_goto X154.here hx (pc0 := 126) (pc' := 130) rfl (hb hby at_126) (by decide) (by decide) ?_
    rw [hPst]
    exact own_retW X154 hS138 (by rw [e154]; exact (Nat.le_refl _)) (v := (some (.int (nar .boolean (1 : Int32))))) (Q := Q0 Z z p1 p2 p3 p4 o h0 n0) (fun h => by rw [Bd.returns] at h; cases h) Bd.notSynchronized (fun fs hr => retN X154 hx (t := .boolean) Bd.returns (by simp) (hb hby at_130) hr) (by decide) (by decide) (by rw [hh0, e154]; exact CHr.trans c142 (CHv.at X154 hZ138 hEL c141)) (by rw [e154]; exact ⟨rfl, N154⟩)
theorem comes_1 {Post : Tables → Env → Array Value → State → Outcome → State → Prop} (hpost : ∀ tb e args s v u, (limb_1_1.after args s (.returned v) u = true ∧ limb_1_2.after args s (.returned v) u = true ∧ True) → ReturnedEndW s (.returned v) u (Jvm.fieldLocs frame_1_writes args s ++ Jvm.arrayLocs frame_1_arrays args s ++ Jvm.staticLocs frame_1_statics s) 40 8960 → Post tb e args s (.returned v) u) :
    ArmFor flags0 classFile x code maxLocals ret World_1 tables_1 room_1 Calls_1 rest_1 Pre_1 Post := by
  intro l hfl _ _ p e ha hc hk s m args below hf hA hF happ hP
  obtain ⟨hcalls, hrest, hpre⟩ := hP
  obtain ⟨-, -, -, hnamed, -, -, -, hat⟩ := (Spec.applies_iff hf).mp happ
  obtain ⟨hg, hn⟩ := and_e (Cond.before_iff.mp (show (Jvm.Cond.and given_1 narrow_1).before args s = true from hpre))
  obtain ⟨h1, h2⟩ := and_e hg
  obtain ⟨h3, h4⟩ := and_e h2
  obtain ⟨h5, h6⟩ := and_e h4
  obtain ⟨h7, h8⟩ := and_e h6
  obtain ⟨w0, w1, w2, w3, rfl⟩ : ∃ w0 w1 w2 w3 : Value, args = #[w0, w1, w2, w3] := by
    have hs : args.size = 4 := by simpa [Cond.value, given_1] using h1
    obtain ⟨L⟩ := args
    match L, hs with
    | [w0, w1, w2, w3], _ => exact ⟨w0, w1, w2, w3, rfl⟩
  have hw := fun d (hd : d ∈ tables_1) => atoms_spec (ws := Jvm.Cond.code x code maxLocals ret :: tables_1) hat d (List.mem_cons_of_mem _ hd)
  obtain ⟨hsets, hown0⟩ := atoms_of _ (rest_1_c_eq ▸ (show rest_1_c.before _ s = true from hrest))
  obtain ⟨i0, ei0⟩ := is_v h3
  obtain rfl : w0 = (.int i0) := Option.some.inj ei0
  obtain ⟨i1, ei1⟩ := is_v h5
  obtain rfl : w1 = (.int i1) := Option.some.inj ei1
  obtain ⟨i2, ei2⟩ := is_v h7
  obtain rfl : w2 = (.int i2) := Option.some.inj ei2
  obtain ⟨i3, ei3⟩ := is_v h8
  obtain rfl : w3 = (.int i3) := Option.some.inj ei3
  obtain ⟨z, ez⟩ := is_v (Cond.before_iff.mp (hsets _ (List.mem_of_getElem? (i := 1) rfl)))
  have SC : Sta s s.heap "java/lang/String" "COMPACT_STRINGS" "Z" (.int z) := Sta.start (args := #[(.int i0), (.int i1), (.int i2), (.int i3)]) ez (Or.inl (hsets _ (List.mem_of_getElem? (i := 0) rfl)))
  have hz : ¬ z = 0 := by
    have q := not_v (Cond.before_iff.mp (hsets _ (List.mem_of_getElem? (i := 2) rfl)))
    intro e0; subst e0
    have r := eq_i (o := none) (idx := []) (s := s) ez (Term.int_eval (0)) rfl
    rw [r] at q; cases q
  obtain ⟨oe, eo⟩ := exa_v hn
  have SR : Sta s s.heap "com/example/shard_feed/shardfeed/Refusal$Reason" "UNKNOWN_USER" "Lcom/example/shard_feed/shardfeed/Refusal$Reason;" (.ref oe) := Sta.start (args := #[(.int i0), (.int i1), (.int i2), (.int i3)]) eo (Or.inr ⟨(g_ hw 44 rfl), (g_ hw 45 rfl)⟩)
  have hcw : Jvm.Lit.compactW.before #[(.int i0), (.int i1), (.int i2), (.int i3)] s = true := hsets _ (List.mem_of_getElem? (i := 2) rfl)
  have CH : CHv s own_EL s.vm s.heap := CHv.start (own_hEL s _ hw) (fun p hp => hcalls.2.2.1 p hp) hcw (own_wS s _ hw _ (by simp [Bundle.stringAtoms])) (own_wS s _ hw _ (by simp [Bundle.stringAtoms, Bundle.sN]))
  have r2 : ∀ d ∈ twoRefs, d.before #[(.int i0), (.int i1), (.int i2), (.int i3)] s = true := fun d hd => hsets d ((by decide +kernel : ∀ d ∈ twoRefs, d ∈ jdkStatics_1) d hd)
  have hst : l.stackTraces = true := by unfold Launch.stackTraces; rw [hfl]; decide +kernel
  have hMK := own_methodsKnown (s := s) hcalls.2.1
  have hFK : s.vm.FramesKnown below := own_framesKnown (s := s) hcalls.1 (fun f hh => by rw [hf]; exact List.mem_cons_of_mem _ hh)
  obtain ⟨n, o, h1, h2, h3, _, L, rfl, ⟨rfl, N⟩, -, hq⟩ := rm0 l s _ hw tables_1 z i0 i1 i2 i3 oe s.heap s.heap.size (Nat.le_refl _) (Old.start s) SC hz hst r2 SR p e ha hc hk s m _ below hf ((Spec.applies_iff_loose hf).mp happ).1 ⟨rfl, State.Warmed39.refl s, rfl, CH⟩ ⟨hMK, hFK⟩
  refine ⟨n, _, h1, h2, h3, hpost _ _ _ _ _ _ ⟨Cond.after_iff.mpr rfl, Cond.after_iff.mpr (eq_i res_at (Term.int_eval (1)) rfl), trivial⟩ ⟨hq.1, hq.2.1, hq.2.2.1, (hq.2.2.2.sift fun y hy => Or.inr (N y hy)).mono (by decide) (by decide)⟩⟩
theorem main_1_1 : Claimed_1_1 := comes_1 fun _ _ _ _ _ _ h hF => ⟨h.1, hF⟩
theorem main_1_2 : Claimed_1_2 := comes_1 fun _ _ _ _ _ _ h hF => ⟨h.2.1, hF⟩
end Jvm.Pilot.@@N@@
namespace Jvm.Pilot.@@N@@
open Jvm Jvm.ClassFile Sem Op Lib Jvm.Free Jvm.Stand Jvm.Pilot.@@N@@.Jvm.D
/-! MADE BY PROGRAM (witnessworld.py) out of the Statement's table words and the real class files: 44 classes; the members and pool entries that the words name. The judged class is class 1, her method 3. -/
namespace start1
open Jvm.ClassFile
def u (s : String) : CpInfo := .utf8 (stringToUtf16 s)
/-- a pool by its gaps: so many unusable entries, then the entry; so many at the end -/
def gap : Nat → List CpInfo → List CpInfo
  | 0, r => r
  | n + 1, r => .unusable :: gap n r
def poolList (es : List (Nat × CpInfo)) (last : Nat) : List CpInfo := es.foldr (fun e r => gap e.1 (e.2 :: r)) (gap last [])
def pool (es : List (Nat × CpInfo)) (last : Nat) : Array CpInfo := ⟨poolList es last⟩
def fileOf (pool : Array CpInfo) (this : Nat) (attrs : Array Attribute := #[]) (ms : Array MethodInfo := #[]) (fl : Nat := 33) (sup : Nat := 0) (ifs : Array Nat := #[]) (fds : Array FieldInfo := #[]) : ClassFile where
  minorVersion := 0
  majorVersion := 65
  constantPool := pool
  accessFlags := fl
  thisClass := this
  superClass := sup
  interfaces := ifs
  fields := fds
  methods := ms
  attributes := attrs
def plain (name : String) (sup : Option ClassId) : Class where
  name := name
  kind := .ordinary
  loader := none
  accessFlags := 33
  super := sup
  interfaces := #[]
  cf := none
  fields := #[]
  methods := #[]
  instanceTypes := #[]
  staticTypes := #[]
  resolved := #[]
  callSites := []
  init := .initialized
  statics := none
  mirror := none

def pool0 : Array CpInfo := pool [(5, u "<init>"), (0, u "()V"), (1, .class_ 10), (1, u "java/lang/Object")] 113

def k0c0 : Code := { maxStack := 0, maxLocals := 1, code := object_method_1_code, exceptionTable := #[], attributes := #[] }
def k0m0 : Method := { name := "<init>", desc := "()V", sig := { parameters := [], returnType := none }, accessFlags := 1, code := some k0c0 }
/-- java/lang/Object -/
def k0 : Class := { plain "java/lang/Object" none with
  accessFlags := 33
  interfaces := #[]
  cf := some (fileOf pool0 8 #[] #[{ accessFlags := 1, nameIndex := 5, descriptorIndex := 6, attributes := #[] }] 33 0 #[] #[])
  fields := #[]
  methods := #[k0m0]
  instanceTypes := #[]
  staticTypes := #[]
  resolved := Array.replicate 124 none
  statics := none }

def pool1 : Array CpInfo := pool [(2, .class_ 4), (1, u "java/lang/Object"), (0, u "<init>"), (0, u "()V"), (0, .class_ 8), (0, u "java/lang/String"), (0, .methodref 7 10), (0, .nameAndType 5 11), (0, u "([C)V"), (0, .string 13), (0, u "no user is named null"), (0, .methodref 15 16), (0, .class_ 17), (0, .nameAndType 18 19), (0, u "com/example/shard_feed/shardfeed/RefusalUnknownUserPinLaw"), (0, u "nameOf"), (0, u "(ICCC)Ljava/lang/String;"), (0, .methodref 15 21), (0, .nameAndType 22 19), (0, u "expected"), (0, .methodref 24 25), (0, .class_ 26), (0, .nameAndType 27 28), (0, u "com/example/shard_feed/shardfeed/Refusal"), (0, u "unknownUser"), (0, u "(Ljava/lang/String;)Lcom/example/shard_feed/shardfeed/Refusal;"), (0, .methodref 24 30), (0, .nameAndType 31 32), (0, u "reason"), (0, u "()Lcom/example/shard_feed/shardfeed/Refusal$Reason;"), (0, .fieldref 34 35), (0, .class_ 36), (0, .nameAndType 37 38), (0, u "com/example/shard_feed/shardfeed/Refusal$Reason"), (0, u "UNKNOWN_USER"), (0, u "Lcom/example/shard_feed/shardfeed/Refusal$Reason;"), (0, .methodref 24 40), (0, .nameAndType 41 42), (0, u "line"), (0, u "()I"), (0, .methodref 24 44), (0, .nameAndType 45 46), (0, u "getMessage"), (0, u "()Ljava/lang/String;"), (0, .methodref 7 48), (0, .nameAndType 49 50), (0, u "equals"), (0, u "(Ljava/lang/Object;)Z"), (5, u "law"), (0, u "(IIII)Z")] 4

def k1m0 : Method := { name := "<init>", desc := "()V", sig := { parameters := [], returnType := none }, accessFlags := 2, code := none }
def k1c1 : Code := { maxStack := 3, maxLocals := 5, code := method_2_code, exceptionTable := #[], attributes := #[] }
def k1m1 : Method := { name := "nameOf", desc := "(ICCC)Ljava/lang/String;", sig := { parameters := [.int, .char, .char, .char], returnType := some (.object "java/lang/String") }, accessFlags := 10, code := some k1c1 }
def k1c2 : Code := { maxStack := 3, maxLocals := 5, code := method_3_code, exceptionTable := #[], attributes := #[] }
def k1m2 : Method := { name := "expected", desc := "(ICCC)Ljava/lang/String;", sig := { parameters := [.int, .char, .char, .char], returnType := some (.object "java/lang/String") }, accessFlags := 10, code := some k1c2 }
def k1c3 : Code := { maxStack := 4, maxLocals := 12, code := code, exceptionTable := #[], attributes := #[] }
def k1m3 : Method := { name := "law", desc := "(IIII)Z", sig := { parameters := [.int, .int, .int, .int], returnType := some .boolean }, accessFlags := 9, code := some k1c3 }
/-- com/example/shard_feed/shardfeed/RefusalUnknownUserPinLaw -/
def k1 : Class := { plain "com/example/shard_feed/shardfeed/RefusalUnknownUserPinLaw" (some 0) with
  accessFlags := 49
  interfaces := #[]
  cf := some (fileOf pool1 15 #[] #[{ accessFlags := 2, nameIndex := 5, descriptorIndex := 6, attributes := #[] }, { accessFlags := 10, nameIndex := 18, descriptorIndex := 19, attributes := #[] }, { accessFlags := 10, nameIndex := 22, descriptorIndex := 19, attributes := #[] }, { accessFlags := 9, nameIndex := 56, descriptorIndex := 57, attributes := #[] }] 49 2 #[] #[])
  fields := #[]
  methods := #[k1m0, k1m1, k1m2, k1m3]
  instanceTypes := #[]
  staticTypes := #[]
  resolved := Array.replicate 62 none
  statics := none }

def pool2 : Array CpInfo := pool [(1, .class_ 2), (0, u "java/io/Serializable"), (0, .class_ 4), (0, u "java/lang/Object")] 2

/-- java/io/Serializable -/
def k2 : Class := { plain "java/io/Serializable" (some 0) with
  accessFlags := 1537
  interfaces := #[]
  cf := some (fileOf pool2 1 #[] #[] 1537 3 #[] #[])
  fields := #[]
  methods := #[]
  instanceTypes := #[]
  staticTypes := #[]
  resolved := Array.replicate 7 none
  statics := none }

def pool3 : Array CpInfo := pool [(1, .class_ 2), (0, u "java/lang/Comparable"), (0, .class_ 4), (0, u "java/lang/Object")] 7

/-- java/lang/Comparable -/
def k3 : Class := { plain "java/lang/Comparable" (some 0) with
  accessFlags := 1537
  interfaces := #[]
  cf := some (fileOf pool3 1 #[] #[] 1537 3 #[] #[])
  fields := #[]
  methods := #[]
  instanceTypes := #[]
  staticTypes := #[]
  resolved := Array.replicate 12 none
  statics := none }

def pool4 : Array CpInfo := pool [(2, .class_ 4), (1, u "java/lang/CharSequence"), (42, .class_ 48), (0, u "java/lang/CharSequence$1CodePointIterator"), (10, .class_ 60), (0, u "java/lang/CharSequence$1CharIterator"), (5, .class_ 67), (0, u "java/lang/Object")] 63

/-- java/lang/CharSequence -/
def k4 : Class := { plain "java/lang/CharSequence" (some 0) with
  accessFlags := 1537
  interfaces := #[]
  cf := some (fileOf pool4 2 #[.nestMembers #[47, 59]] #[] 1537 66 #[] #[])
  fields := #[]
  methods := #[]
  instanceTypes := #[]
  staticTypes := #[]
  resolved := Array.replicate 131 none
  statics := none }

def pool5 : Array CpInfo := pool [(1, .class_ 2), (0, u "java/lang/constant/Constable"), (0, .class_ 4), (0, u "java/lang/Object")] 6

/-- java/lang/constant/Constable -/
def k5 : Class := { plain "java/lang/constant/Constable" (some 0) with
  accessFlags := 1537
  interfaces := #[]
  cf := some (fileOf pool5 1 #[] #[] 1537 3 #[] #[])
  fields := #[]
  methods := #[]
  instanceTypes := #[]
  staticTypes := #[]
  resolved := Array.replicate 11 none
  statics := none }

def pool6 : Array CpInfo := pool [(1, .class_ 2), (0, u "java/lang/constant/ConstantDesc"), (0, .class_ 4), (0, u "java/lang/Object")] 32

/-- java/lang/constant/ConstantDesc -/
def k6 : Class := { plain "java/lang/constant/ConstantDesc" (some 0) with
  accessFlags := 1537
  interfaces := #[]
  cf := some (fileOf pool6 1 #[] #[] 1537 3 #[] #[])
  fields := #[]
  methods := #[]
  instanceTypes := #[]
  staticTypes := #[]
  resolved := Array.replicate 37 none
  statics := none }

def pool7 : Array CpInfo := pool [(1, .methodref 2 3), (0, .class_ 4), (0, .nameAndType 5 6), (0, u "java/lang/Object"), (0, u "<init>"), (0, u "()V"), (0, .string 8), (0, u ""), (0, .fieldref 10 11), (0, .class_ 12), (0, .nameAndType 13 14), (0, u "java/lang/String"), (0, u "value"), (0, u "[B"), (0, .fieldref 10 16), (0, .nameAndType 17 18), (0, u "coder"), (0, u "B"), (2, u "hash"), (0, u "I"), (2, u "hashIsZero"), (0, u "Z"), (0, .methodref 10 28), (0, .nameAndType 5 29), (0, u "([CIILjava/lang/Void;)V"), (8, .fieldref 10 39), (0, .nameAndType 40 26), (0, u "COMPACT_STRINGS"), (1, .class_ 44), (1, u "java/lang/StringUTF16"), (0, u "compress"), (1, .methodref 42 48), (0, .nameAndType 49 50), (0, u "coderFromArrayLen"), (0, u "([BI)B"), (3, .methodref 55 56), (0, .class_ 57), (0, .nameAndType 58 59), (0, u "java/util/Arrays"), (0, u "copyOfRange"), (0, u "([BII)[B"), (47, .class_ 109), (1, u "java/lang/StringLatin1"), (32, u "()Z"), (34, .methodref 42 178), (0, .nameAndType 45 179), (0, u "([CII)[B"), (13, .class_ 195), (1, u "java/lang/System"), (16, .methodref 193 213), (0, .nameAndType 214 215), (0, u "arraycopy"), (0, u "(Ljava/lang/Object;ILjava/lang/Object;II)V"), (118, u "()I"), (0, .methodref 10 336), (0, .nameAndType 17 337), (0, u "()B"), (2, u "()[B"), (148, .methodref 10 490), (0, .nameAndType 5 491), (0, u "(Ljava/lang/AbstractStringBuilder;Ljava/lang/Void;)V"), (1, .nameAndType 494 142), (0, u "isLatin1"), (11, .nameAndType 507 334), (0, u "length"), (24, u "getBytes"), (8, .methodref 107 542), (0, .nameAndType 543 544), (0, u "equals"), (0, u "([B[B)Z"), (4, .methodref 550 506), (0, .class_ 551), (0, u "java/lang/AbstractStringBuilder"), (0, .methodref 550 553), (0, .nameAndType 554 340), (0, u "getValue"), (18, u "(Ljava/lang/Object;)Z"), (1, .class_ 576), (0, u "java/lang/CharSequence"), (22, u "CASE_INSENSITIVE_ORDER"), (0, u "Ljava/util/Comparator;"), (220, u "([BIB)V"), (188, u "([C)V"), (36, .methodref 550 493), (53, u "serialPersistentFields"), (0, u "[Ljava/io/ObjectStreamField;"), (0, .class_ 1104), (0, u "java/lang/String$CaseInsensitiveComparator"), (1, .class_ 1107), (0, u "java/io/Serializable"), (0, .class_ 1109), (0, u "java/lang/Comparable"), (0, .class_ 1111), (0, u "java/lang/constant/Constable"), (0, .class_ 1113), (0, u "java/lang/constant/ConstantDesc"), (2, u "serialVersionUID"), (0, u "J"), (3, u "REPL"), (0, u "C"), (2, u "LATIN1"), (1, u "UTF16"), (105, u "(Ljava/lang/StringBuilder;)V")] 217

def k7m0 : Method := { name := "<init>", desc := "()V", sig := { parameters := [], returnType := none }, accessFlags := 1, code := none }
def k7c1 : Code := { maxStack := 5, maxLocals := 2, code := jdk_42_method_3_code, exceptionTable := #[], attributes := #[] }
def k7m1 : Method := { name := "<init>", desc := "([C)V", sig := { parameters := [(.array .char)], returnType := none }, accessFlags := 1, code := some k7c1 }
def k7c2 : Code := { maxStack := 3, maxLocals := 2, code := jdk_42_method_53_code, exceptionTable := #[], attributes := #[] }
def k7m2 : Method := { name := "<init>", desc := "(Ljava/lang/StringBuilder;)V", sig := { parameters := [(.object "java/lang/StringBuilder")], returnType := none }, accessFlags := 1, code := some k7c2 }
def k7c3 : Code := { maxStack := 2, maxLocals := 1, code := jdk_42_method_54_code, exceptionTable := #[], attributes := #[] }
def k7m3 : Method := { name := "length", desc := "()I", sig := { parameters := [], returnType := some .int }, accessFlags := 1, code := some k7c3 }
def k7c4 : Code := { maxStack := 2, maxLocals := 3, code := jdk_42_method_66_code, exceptionTable := #[], attributes := #[] }
def k7m4 : Method := { name := "equals", desc := "(Ljava/lang/Object;)Z", sig := { parameters := [(.object "java/lang/Object")], returnType := some .boolean }, accessFlags := 1, code := some k7c4 }
def k7c5 : Code := { maxStack := 5, maxLocals := 4, code := jdk_42_method_147_code, exceptionTable := #[], attributes := #[] }
def k7m5 : Method := { name := "getBytes", desc := "([BIB)V", sig := { parameters := [(.array .byte), .int, .byte], returnType := none }, accessFlags := 0, code := some k7c5 }
def k7c6 : Code := { maxStack := 4, maxLocals := 6, code := jdk_42_method_149_code, exceptionTable := #[], attributes := #[] }
def k7m6 : Method := { name := "<init>", desc := "([CIILjava/lang/Void;)V", sig := { parameters := [(.array .char), .int, .int, (.object "java/lang/Void")], returnType := none }, accessFlags := 2, code := some k7c6 }
def k7c7 : Code := { maxStack := 5, maxLocals := 5, code := jdk_42_method_150_code, exceptionTable := #[], attributes := #[] }
def k7m7 : Method := { name := "<init>", desc := "(Ljava/lang/AbstractStringBuilder;Ljava/lang/Void;)V", sig := { parameters := [(.object "java/lang/AbstractStringBuilder"), (.object "java/lang/Void")], returnType := none }, accessFlags := 0, code := some k7c7 }
def k7c8 : Code := { maxStack := 1, maxLocals := 1, code := jdk_42_method_152_code, exceptionTable := #[], attributes := #[] }
def k7m8 : Method := { name := "coder", desc := "()B", sig := { parameters := [], returnType := some .byte }, accessFlags := 0, code := some k7c8 }
/-- java/lang/String -/
def k7 : Class := { plain "java/lang/String" (some 0) with
  accessFlags := 49
  interfaces := #[2, 3, 4, 5, 6]
  cf := some (fileOf pool7 10 #[.nestMembers #[1103]] #[{ accessFlags := 1, nameIndex := 5, descriptorIndex := 6, attributes := #[] }, { accessFlags := 1, nameIndex := 5, descriptorIndex := 1010, attributes := #[] }, { accessFlags := 1, nameIndex := 5, descriptorIndex := 1233, attributes := #[] }, { accessFlags := 1, nameIndex := 507, descriptorIndex := 334, attributes := #[] }, { accessFlags := 1, nameIndex := 543, descriptorIndex := 573, attributes := #[] }, { accessFlags := 0, nameIndex := 532, descriptorIndex := 821, attributes := #[] }, { accessFlags := 2, nameIndex := 5, descriptorIndex := 29, attributes := #[] }, { accessFlags := 0, nameIndex := 5, descriptorIndex := 491, attributes := #[] }, { accessFlags := 0, nameIndex := 17, descriptorIndex := 337, attributes := #[] }] 49 2 #[1106, 1108, 575, 1110, 1112] #[{ accessFlags := 18, nameIndex := 13, descriptorIndex := 14, attributes := #[] }, { accessFlags := 18, nameIndex := 17, descriptorIndex := 18, attributes := #[] }, { accessFlags := 2, nameIndex := 21, descriptorIndex := 22, attributes := #[] }, { accessFlags := 2, nameIndex := 25, descriptorIndex := 26, attributes := #[] }, { accessFlags := 26, nameIndex := 1116, descriptorIndex := 1117, attributes := #[] }, { accessFlags := 24, nameIndex := 40, descriptorIndex := 26, attributes := #[] }, { accessFlags := 26, nameIndex := 1101, descriptorIndex := 1102, attributes := #[] }, { accessFlags := 26, nameIndex := 1121, descriptorIndex := 1122, attributes := #[] }, { accessFlags := 25, nameIndex := 599, descriptorIndex := 600, attributes := #[] }, { accessFlags := 24, nameIndex := 1125, descriptorIndex := 18, attributes := #[] }, { accessFlags := 24, nameIndex := 1127, descriptorIndex := 18, attributes := #[] }])
  fields := #[{ name := "value", type := (.array .byte), accessFlags := 18, slot := 0, constantValue := 0 }, { name := "coder", type := .byte, accessFlags := 18, slot := 1, constantValue := 0 }, { name := "hash", type := .int, accessFlags := 2, slot := 2, constantValue := 0 }, { name := "hashIsZero", type := .boolean, accessFlags := 2, slot := 3, constantValue := 0 }, { name := "serialVersionUID", type := .long, accessFlags := 26, slot := 0, constantValue := 0 }, { name := "COMPACT_STRINGS", type := .boolean, accessFlags := 24, slot := 1, constantValue := 0 }, { name := "serialPersistentFields", type := (.array (.object "java/io/ObjectStreamField")), accessFlags := 26, slot := 2, constantValue := 0 }, { name := "REPL", type := .char, accessFlags := 26, slot := 3, constantValue := 0 }, { name := "CASE_INSENSITIVE_ORDER", type := (.object "java/util/Comparator"), accessFlags := 25, slot := 4, constantValue := 0 }, { name := "LATIN1", type := .byte, accessFlags := 24, slot := 5, constantValue := 0 }, { name := "UTF16", type := .byte, accessFlags := 24, slot := 6, constantValue := 0 }]
  methods := #[k7m0, k7m1, k7m2, k7m3, k7m4, k7m5, k7m6, k7m7, k7m8]
  instanceTypes := #[(.array .byte), .byte, .int, .boolean]
  staticTypes := #[.long, .boolean, (.array (.object "java/io/ObjectStreamField")), .char, (.object "java/util/Comparator"), .byte, .byte]
  resolved := Array.replicate 1451 none
  statics := some 0 }

def pool8 : Array CpInfo := pool [(6, .class_ 8), (1, u "java/lang/Object"), (0, u "<init>"), (0, u "()V"), (1, .class_ 14), (1, u "java/lang/StringUTF16"), (31, u "$assertionsDisabled"), (0, u "Z"), (13, u "HI_BYTE_SHIFT"), (0, u "I"), (2, u "LO_BYTE_SHIFT"), (49, .methodref 12 116), (0, .nameAndType 117 118), (0, u "compress"), (0, u "([CI[BII)I"), (3, u "([CII)[B"), (138, u "coderFromArrayLen"), (0, u "([BI)B"), (106, .class_ 371), (1, u "java/lang/StringUTF16$LinesSpliterator"), (58, u "MAX_LENGTH"), (196, .class_ 628), (0, u "java/lang/StringUTF16$CodePointsSpliterator"), (0, .class_ 630), (0, u "java/lang/StringUTF16$CharsSpliterator")] 4

def k8m0 : Method := { name := "<init>", desc := "()V", sig := { parameters := [], returnType := none }, accessFlags := 0, code := none }
def k8c1 : Code := { maxStack := 2, maxLocals := 2, code := jdk_52_method_15_code, exceptionTable := #[], attributes := #[] }
def k8m1 : Method := { name := "coderFromArrayLen", desc := "([BI)B", sig := { parameters := [(.array .byte), .int], returnType := some .byte }, accessFlags := 8, code := some k8c1 }
def k8c2 : Code := { maxStack := 5, maxLocals := 6, code := jdk_52_method_16_code, exceptionTable := #[], attributes := #[] }
def k8m2 : Method := { name := "compress", desc := "([CII)[B", sig := { parameters := [(.array .char), .int, .int], returnType := some (.array .byte) }, accessFlags := 9, code := some k8c2 }
def k8c3 : Code := { maxStack := 3, maxLocals := 7, code := jdk_52_method_21_code, exceptionTable := #[], attributes := #[] }
def k8m3 : Method := { name := "compress", desc := "([CI[BII)I", sig := { parameters := [(.array .char), .int, (.array .byte), .int, .int], returnType := some .int }, accessFlags := 9, code := some k8c3 }
/-- java/lang/StringUTF16 -/
def k8 : Class := { plain "java/lang/StringUTF16" (some 0) with
  accessFlags := 48
  interfaces := #[]
  cf := some (fileOf pool8 12 #[.nestMembers #[627, 629, 369]] #[{ accessFlags := 0, nameIndex := 9, descriptorIndex := 10, attributes := #[] }, { accessFlags := 8, nameIndex := 261, descriptorIndex := 262, attributes := #[] }, { accessFlags := 9, nameIndex := 117, descriptorIndex := 122, attributes := #[] }, { accessFlags := 9, nameIndex := 117, descriptorIndex := 118, attributes := #[] }] 48 6 #[] #[{ accessFlags := 26, nameIndex := 61, descriptorIndex := 62, attributes := #[] }, { accessFlags := 26, nameIndex := 65, descriptorIndex := 62, attributes := #[] }, { accessFlags := 24, nameIndex := 430, descriptorIndex := 62, attributes := #[] }, { accessFlags := 4120, nameIndex := 46, descriptorIndex := 47, attributes := #[] }])
  fields := #[{ name := "HI_BYTE_SHIFT", type := .int, accessFlags := 26, slot := 0, constantValue := 0 }, { name := "LO_BYTE_SHIFT", type := .int, accessFlags := 26, slot := 1, constantValue := 0 }, { name := "MAX_LENGTH", type := .int, accessFlags := 24, slot := 2, constantValue := 0 }, { name := "$assertionsDisabled", type := .boolean, accessFlags := 4120, slot := 3, constantValue := 0 }]
  methods := #[k8m0, k8m1, k8m2, k8m3]
  instanceTypes := #[]
  staticTypes := #[.int, .int, .int, .boolean]
  resolved := Array.replicate 635 none
  statics := none }

def pool9 : Array CpInfo := pool [(1, .methodref 2 3), (0, .class_ 4), (0, .nameAndType 5 6), (0, u "java/lang/Object"), (0, u "<init>"), (0, u "()V"), (0, .fieldref 8 9), (0, .class_ 10), (0, .nameAndType 11 12), (0, u "java/lang/Throwable"), (0, u "cause"), (0, u "Ljava/lang/Throwable;"), (0, .fieldref 8 14), (0, .nameAndType 15 16), (0, u "UNASSIGNED_STACK"), (0, u "[Ljava/lang/StackTraceElement;"), (0, .fieldref 8 18), (0, .nameAndType 19 16), (0, u "stackTrace"), (0, .fieldref 8 21), (0, .nameAndType 22 23), (0, u "SUPPRESSED_SENTINEL"), (0, u "Ljava/util/List;"), (0, .fieldref 8 25), (0, .nameAndType 26 23), (0, u "suppressedExceptions"), (0, .methodref 8 28), (0, .nameAndType 29 30), (0, u "fillInStackTrace"), (0, u "()Ljava/lang/Throwable;"), (0, .fieldref 8 32), (0, .nameAndType 33 34), (0, u "detailMessage"), (0, u "Ljava/lang/String;"), (3, u "()Ljava/lang/String;"), (2, u "getMessage"), (51, .class_ 94), (0, u "java/lang/Throwable$WrappedPrintStream"), (6, .class_ 103), (1, u "java/lang/Throwable$PrintStreamOrWriter"), (61, u "$assertionsDisabled"), (0, u "Z"), (26, .class_ 194), (0, u "java/lang/Throwable$WrappedPrintWriter"), (3, .fieldref 8 199), (0, .nameAndType 200 201), (0, u "backtrace"), (0, u "Ljava/lang/Object;"), (0, .methodref 8 203), (0, .nameAndType 29 204), (0, u "(I)Ljava/lang/Throwable;"), (6, u "depth"), (0, u "I"), (10, u "(Ljava/lang/String;)V"), (45, .class_ 271), (1, u "java/lang/Throwable$SentinelHolder"), (32, u "EMPTY_THROWABLE_ARRAY"), (0, u "[Ljava/lang/Throwable;"), (12, .class_ 319), (0, u "java/io/Serializable"), (0, u "serialVersionUID"), (0, u "J"), (5, u "NULL_CAUSE_MESSAGE"), (0, u "SELF_SUPPRESSION_MESSAGE"), (0, u "CAUSE_CAPTION"), (0, u "SUPPRESSED_CAPTION")] 73

def k9c0 : Code := { maxStack := 2, maxLocals := 1, code := jdk_78_method_1_code, exceptionTable := #[], attributes := #[] }
def k9m0 : Method := { name := "<init>", desc := "()V", sig := { parameters := [], returnType := none }, accessFlags := 1, code := some k9c0 }
def k9c1 : Code := { maxStack := 2, maxLocals := 2, code := jdk_78_method_2_code, exceptionTable := #[], attributes := #[] }
def k9m1 : Method := { name := "<init>", desc := "(Ljava/lang/String;)V", sig := { parameters := [(.object "java/lang/String")], returnType := none }, accessFlags := 1, code := some k9c1 }
def k9c2 : Code := { maxStack := 1, maxLocals := 1, code := jdk_78_method_6_code, exceptionTable := #[], attributes := #[] }
def k9m2 : Method := { name := "getMessage", desc := "()Ljava/lang/String;", sig := { parameters := [], returnType := some (.object "java/lang/String") }, accessFlags := 1, code := some k9c2 }
def k9c3 : Code := { maxStack := 2, maxLocals := 1, code := ⟨#[0x2a, 0xb4, 0x00, 0x11, 0xc7, 0x00, 0x0a, 0x2a, 0xb4, 0x00, 0xc6, 0xc6, 0x00, 0x10, 0x2a, 0x03, 0xb6, 0x00, 0xca, 0x57, 0x2a, 0xb2, 0x00, 0x0d, 0xb5, 0x00, 0x11, 0x2a, 0xb0]⟩, exceptionTable := #[], attributes := #[] }
def k9m3 : Method := { name := "fillInStackTrace", desc := "()Ljava/lang/Throwable;", sig := { parameters := [], returnType := some (.object "java/lang/Throwable") }, accessFlags := 33, code := some k9c3 }
def k9m4 : Method := { name := "fillInStackTrace", desc := "(I)Ljava/lang/Throwable;", sig := { parameters := [.int], returnType := some (.object "java/lang/Throwable") }, accessFlags := 258, code := none }
/-- java/lang/Throwable -/
def k9 : Class := { plain "java/lang/Throwable" (some 0) with
  accessFlags := 33
  interfaces := #[2]
  cf := some (fileOf pool9 8 #[.nestMembers #[193, 93, 101, 269]] #[{ accessFlags := 1, nameIndex := 5, descriptorIndex := 6, attributes := #[] }, { accessFlags := 1, nameIndex := 5, descriptorIndex := 223, attributes := #[] }, { accessFlags := 1, nameIndex := 41, descriptorIndex := 38, attributes := #[] }, { accessFlags := 33, nameIndex := 29, descriptorIndex := 30, attributes := #[] }, { accessFlags := 258, nameIndex := 29, descriptorIndex := 204, attributes := #[] }] 33 2 #[318] #[{ accessFlags := 26, nameIndex := 320, descriptorIndex := 321, attributes := #[] }, { accessFlags := 130, nameIndex := 200, descriptorIndex := 201, attributes := #[] }, { accessFlags := 2, nameIndex := 33, descriptorIndex := 34, attributes := #[] }, { accessFlags := 26, nameIndex := 15, descriptorIndex := 16, attributes := #[] }, { accessFlags := 2, nameIndex := 11, descriptorIndex := 12, attributes := #[] }, { accessFlags := 2, nameIndex := 19, descriptorIndex := 16, attributes := #[] }, { accessFlags := 130, nameIndex := 211, descriptorIndex := 212, attributes := #[] }, { accessFlags := 26, nameIndex := 22, descriptorIndex := 23, attributes := #[] }, { accessFlags := 2, nameIndex := 26, descriptorIndex := 23, attributes := #[] }, { accessFlags := 26, nameIndex := 327, descriptorIndex := 34, attributes := #[] }, { accessFlags := 26, nameIndex := 328, descriptorIndex := 34, attributes := #[] }, { accessFlags := 26, nameIndex := 329, descriptorIndex := 34, attributes := #[] }, { accessFlags := 26, nameIndex := 330, descriptorIndex := 34, attributes := #[] }, { accessFlags := 26, nameIndex := 304, descriptorIndex := 305, attributes := #[] }, { accessFlags := 4120, nameIndex := 165, descriptorIndex := 166, attributes := #[] }])
  fields := #[{ name := "serialVersionUID", type := .long, accessFlags := 26, slot := 0, constantValue := 0 }, { name := "backtrace", type := (.object "java/lang/Object"), accessFlags := 130, slot := 0, constantValue := 0 }, { name := "detailMessage", type := (.object "java/lang/String"), accessFlags := 2, slot := 1, constantValue := 0 }, { name := "UNASSIGNED_STACK", type := (.array (.object "java/lang/StackTraceElement")), accessFlags := 26, slot := 1, constantValue := 0 }, { name := "cause", type := (.object "java/lang/Throwable"), accessFlags := 2, slot := 2, constantValue := 0 }, { name := "stackTrace", type := (.array (.object "java/lang/StackTraceElement")), accessFlags := 2, slot := 3, constantValue := 0 }, { name := "depth", type := .int, accessFlags := 130, slot := 4, constantValue := 0 }, { name := "SUPPRESSED_SENTINEL", type := (.object "java/util/List"), accessFlags := 26, slot := 2, constantValue := 0 }, { name := "suppressedExceptions", type := (.object "java/util/List"), accessFlags := 2, slot := 5, constantValue := 0 }, { name := "NULL_CAUSE_MESSAGE", type := (.object "java/lang/String"), accessFlags := 26, slot := 3, constantValue := 0 }, { name := "SELF_SUPPRESSION_MESSAGE", type := (.object "java/lang/String"), accessFlags := 26, slot := 4, constantValue := 0 }, { name := "CAUSE_CAPTION", type := (.object "java/lang/String"), accessFlags := 26, slot := 5, constantValue := 0 }, { name := "SUPPRESSED_CAPTION", type := (.object "java/lang/String"), accessFlags := 26, slot := 6, constantValue := 0 }, { name := "EMPTY_THROWABLE_ARRAY", type := (.array (.object "java/lang/Throwable")), accessFlags := 26, slot := 7, constantValue := 0 }, { name := "$assertionsDisabled", type := .boolean, accessFlags := 4120, slot := 8, constantValue := 0 }]
  methods := #[k9m0, k9m1, k9m2, k9m3, k9m4]
  instanceTypes := #[(.object "java/lang/Object"), (.object "java/lang/String"), (.object "java/lang/Throwable"), (.array (.object "java/lang/StackTraceElement")), .int, (.object "java/util/List")]
  staticTypes := #[.long, (.array (.object "java/lang/StackTraceElement")), (.object "java/util/List"), (.object "java/lang/String"), (.object "java/lang/String"), (.object "java/lang/String"), (.object "java/lang/String"), (.array (.object "java/lang/Throwable")), .boolean]
  resolved := Array.replicate 404 none
  statics := some 1 }

def pool10 : Array CpInfo := pool [(2, .class_ 4), (1, u "java/lang/Throwable"), (0, u "<init>"), (0, u "()V"), (0, .methodref 2 8), (0, .nameAndType 5 9), (0, u "(Ljava/lang/String;)V"), (9, .class_ 20), (0, u "java/lang/Exception"), (0, u "serialVersionUID"), (0, u "J")] 17

def k10m0 : Method := { name := "<init>", desc := "()V", sig := { parameters := [], returnType := none }, accessFlags := 1, code := none }
def k10c1 : Code := { maxStack := 2, maxLocals := 2, code := jdk_59_method_2_code, exceptionTable := #[], attributes := #[] }
def k10m1 : Method := { name := "<init>", desc := "(Ljava/lang/String;)V", sig := { parameters := [(.object "java/lang/String")], returnType := none }, accessFlags := 1, code := some k10c1 }
/-- java/lang/Exception -/
def k10 : Class := { plain "java/lang/Exception" (some 9) with
  accessFlags := 33
  interfaces := #[]
  cf := some (fileOf pool10 19 #[] #[{ accessFlags := 1, nameIndex := 5, descriptorIndex := 6, attributes := #[] }, { accessFlags := 1, nameIndex := 5, descriptorIndex := 9, attributes := #[] }] 33 2 #[] #[{ accessFlags := 24, nameIndex := 21, descriptorIndex := 22, attributes := #[] }])
  fields := #[{ name := "serialVersionUID", type := .long, accessFlags := 24, slot := 0, constantValue := 0 }]
  methods := #[k10m0, k10m1]
  instanceTypes := #[(.object "java/lang/Object"), (.object "java/lang/String"), (.object "java/lang/Throwable"), (.array (.object "java/lang/StackTraceElement")), .int, (.object "java/util/List")]
  staticTypes := #[.long]
  resolved := Array.replicate 40 none
  statics := none }

def pool11 : Array CpInfo := pool [(2, .class_ 4), (1, u "java/lang/Exception"), (0, u "<init>"), (0, u "()V"), (0, .methodref 2 8), (0, .nameAndType 5 9), (0, u "(Ljava/lang/String;)V"), (9, .class_ 20), (0, u "java/lang/RuntimeException"), (0, u "serialVersionUID"), (0, u "J")] 17

def k11m0 : Method := { name := "<init>", desc := "()V", sig := { parameters := [], returnType := none }, accessFlags := 1, code := none }
def k11c1 : Code := { maxStack := 2, maxLocals := 2, code := jdk_58_method_2_code, exceptionTable := #[], attributes := #[] }
def k11m1 : Method := { name := "<init>", desc := "(Ljava/lang/String;)V", sig := { parameters := [(.object "java/lang/String")], returnType := none }, accessFlags := 1, code := some k11c1 }
/-- java/lang/RuntimeException -/
def k11 : Class := { plain "java/lang/RuntimeException" (some 10) with
  accessFlags := 33
  interfaces := #[]
  cf := some (fileOf pool11 19 #[] #[{ accessFlags := 1, nameIndex := 5, descriptorIndex := 6, attributes := #[] }, { accessFlags := 1, nameIndex := 5, descriptorIndex := 9, attributes := #[] }] 33 2 #[] #[{ accessFlags := 24, nameIndex := 21, descriptorIndex := 22, attributes := #[] }])
  fields := #[{ name := "serialVersionUID", type := .long, accessFlags := 24, slot := 0, constantValue := 0 }]
  methods := #[k11m0, k11m1]
  instanceTypes := #[(.object "java/lang/Object"), (.object "java/lang/String"), (.object "java/lang/Throwable"), (.array (.object "java/lang/StackTraceElement")), .int, (.object "java/util/List")]
  staticTypes := #[.long]
  resolved := Array.replicate 40 none
  statics := none }

def pool12 : Array CpInfo := pool [(1, .methodref 2 3), (0, .class_ 4), (0, .nameAndType 5 6), (0, u "com/example/shard_feed/shardfeed/Refusal"), (0, u "<init>"), (0, u "(Lcom/example/shard_feed/shardfeed/Refusal$Reason;Ljava/lang/String;I)V"), (0, .methodref 8 9), (0, .class_ 10), (0, .nameAndType 5 11), (0, u "java/lang/RuntimeException"), (0, u "(Ljava/lang/String;)V"), (0, .fieldref 2 13), (0, .nameAndType 14 15), (0, u "reason"), (0, u "Lcom/example/shard_feed/shardfeed/Refusal$Reason;"), (0, .fieldref 2 17), (0, .nameAndType 18 19), (0, u "line"), (0, u "I"), (0, .fieldref 21 22), (0, .class_ 23), (0, .nameAndType 24 15), (0, u "com/example/shard_feed/shardfeed/Refusal$Reason"), (0, u "UNKNOWN_USER"), (0, .class_ 26), (0, u "java/lang/StringBuilder"), (0, .methodref 25 28), (0, .nameAndType 5 29), (0, u "()V"), (0, .string 31), (0, u "no user is named "), (0, .methodref 25 33), (0, .nameAndType 34 35), (0, u "append"), (0, u "(Ljava/lang/String;)Ljava/lang/StringBuilder;"), (0, .methodref 25 37), (0, .nameAndType 38 39), (0, u "toString"), (0, u "()Ljava/lang/String;"), (0, .methodref 2 41), (0, .nameAndType 5 42), (0, u "(Lcom/example/shard_feed/shardfeed/Refusal$Reason;Ljava/lang/String;)V"), (16, u "serialVersionUID"), (0, u "J"), (5, u "unknownUser"), (0, u "(Ljava/lang/String;)Lcom/example/shard_feed/shardfeed/Refusal;"), (4, u "()Lcom/example/shard_feed/shardfeed/Refusal$Reason;"), (0, u "()I")] 5

def k12c0 : Code := { maxStack := 4, maxLocals := 3, code := prog_9_method_1_code, exceptionTable := #[], attributes := #[] }
def k12m0 : Method := { name := "<init>", desc := "(Lcom/example/shard_feed/shardfeed/Refusal$Reason;Ljava/lang/String;)V", sig := { parameters := [(.object "com/example/shard_feed/shardfeed/Refusal$Reason"), (.object "java/lang/String")], returnType := none }, accessFlags := 0, code := some k12c0 }
def k12c1 : Code := { maxStack := 2, maxLocals := 4, code := prog_9_method_2_code, exceptionTable := #[], attributes := #[] }
def k12m1 : Method := { name := "<init>", desc := "(Lcom/example/shard_feed/shardfeed/Refusal$Reason;Ljava/lang/String;I)V", sig := { parameters := [(.object "com/example/shard_feed/shardfeed/Refusal$Reason"), (.object "java/lang/String"), .int], returnType := none }, accessFlags := 2, code := some k12c1 }
def k12c2 : Code := { maxStack := 5, maxLocals := 1, code := prog_9_method_3_code, exceptionTable := #[], attributes := #[] }
def k12m2 : Method := { name := "unknownUser", desc := "(Ljava/lang/String;)Lcom/example/shard_feed/shardfeed/Refusal;", sig := { parameters := [(.object "java/lang/String")], returnType := some (.object "com/example/shard_feed/shardfeed/Refusal") }, accessFlags := 8, code := some k12c2 }
def k12c3 : Code := { maxStack := 1, maxLocals := 1, code := prog_9_method_6_code, exceptionTable := #[], attributes := #[] }
def k12m3 : Method := { name := "reason", desc := "()Lcom/example/shard_feed/shardfeed/Refusal$Reason;", sig := { parameters := [], returnType := some (.object "com/example/shard_feed/shardfeed/Refusal$Reason") }, accessFlags := 0, code := some k12c3 }
def k12c4 : Code := { maxStack := 1, maxLocals := 1, code := prog_9_method_7_code, exceptionTable := #[], attributes := #[] }
def k12m4 : Method := { name := "line", desc := "()I", sig := { parameters := [], returnType := some .int }, accessFlags := 0, code := some k12c4 }
/-- com/example/shard_feed/shardfeed/Refusal -/
def k12 : Class := { plain "com/example/shard_feed/shardfeed/Refusal" (some 11) with
  accessFlags := 48
  interfaces := #[]
  cf := some (fileOf pool12 2 #[.nestMembers #[21]] #[{ accessFlags := 0, nameIndex := 5, descriptorIndex := 42, attributes := #[] }, { accessFlags := 2, nameIndex := 5, descriptorIndex := 6, attributes := #[] }, { accessFlags := 8, nameIndex := 66, descriptorIndex := 67, attributes := #[] }, { accessFlags := 0, nameIndex := 14, descriptorIndex := 72, attributes := #[] }, { accessFlags := 0, nameIndex := 18, descriptorIndex := 73, attributes := #[] }] 48 8 #[] #[{ accessFlags := 26, nameIndex := 59, descriptorIndex := 60, attributes := #[] }, { accessFlags := 18, nameIndex := 14, descriptorIndex := 15, attributes := #[] }, { accessFlags := 18, nameIndex := 18, descriptorIndex := 19, attributes := #[] }])
  fields := #[{ name := "serialVersionUID", type := .long, accessFlags := 26, slot := 0, constantValue := 0 }, { name := "reason", type := (.object "com/example/shard_feed/shardfeed/Refusal$Reason"), accessFlags := 18, slot := 6, constantValue := 0 }, { name := "line", type := .int, accessFlags := 18, slot := 7, constantValue := 0 }]
  methods := #[k12m0, k12m1, k12m2, k12m3, k12m4]
  instanceTypes := #[(.object "java/lang/Object"), (.object "java/lang/String"), (.object "java/lang/Throwable"), (.array (.object "java/lang/StackTraceElement")), .int, (.object "java/util/List"), (.object "com/example/shard_feed/shardfeed/Refusal$Reason"), .int]
  staticTypes := #[.long]
  resolved := Array.replicate 79 none
  statics := none }

def pool13 : Array CpInfo := pool [(2, .class_ 4), (1, u "java/lang/Enum"), (0, u "name"), (0, u "Ljava/lang/String;"), (2, u "ordinal"), (0, u "I"), (1, .class_ 14), (1, u "java/lang/Object"), (4, u "hash"), (86, .class_ 108), (1, u "java/lang/Enum$EnumDesc"), (2, .class_ 112), (0, u "java/lang/constant/Constable"), (0, .class_ 114), (0, u "java/lang/Comparable"), (0, .class_ 116), (0, u "java/io/Serializable")] 87

/-- java/lang/Enum -/
def k13 : Class := { plain "java/lang/Enum" (some 0) with
  accessFlags := 1057
  interfaces := #[5, 3, 2]
  cf := some (fileOf pool13 2 #[.nestMembers #[106]] #[] 1057 12 #[111, 113, 115] #[{ accessFlags := 18, nameIndex := 5, descriptorIndex := 6, attributes := #[] }, { accessFlags := 18, nameIndex := 9, descriptorIndex := 10, attributes := #[] }, { accessFlags := 2, nameIndex := 19, descriptorIndex := 10, attributes := #[] }])
  fields := #[{ name := "name", type := (.object "java/lang/String"), accessFlags := 18, slot := 0, constantValue := 0 }, { name := "ordinal", type := .int, accessFlags := 18, slot := 1, constantValue := 0 }, { name := "hash", type := .int, accessFlags := 2, slot := 2, constantValue := 0 }]
  methods := #[]
  instanceTypes := #[(.object "java/lang/String"), .int, .int]
  staticTypes := #[]
  resolved := Array.replicate 204 none
  statics := none }

def pool14 : Array CpInfo := pool [(1, .class_ 2), (0, u "com/example/shard_feed/shardfeed/Refusal$Reason"), (2, u "INVALID"), (0, u "Lcom/example/shard_feed/shardfeed/Refusal$Reason;"), (2, u "UNKNOWN_USER"), (2, u "NAME_TAKEN"), (2, u "TOO_LARGE"), (2, u "$VALUES"), (0, u "[Lcom/example/shard_feed/shardfeed/Refusal$Reason;"), (6, .class_ 28), (1, u "java/lang/Enum"), (8, u "status"), (0, u "I"), (25, .class_ 65), (0, u "com/example/shard_feed/shardfeed/Refusal")] 2

/-- com/example/shard_feed/shardfeed/Refusal$Reason -/
def k14 : Class := { plain "com/example/shard_feed/shardfeed/Refusal$Reason" (some 13) with
  accessFlags := 16432
  interfaces := #[]
  cf := some (fileOf pool14 1 #[.nestHost 64] #[] 16432 26 #[] #[{ accessFlags := 16409, nameIndex := 5, descriptorIndex := 6, attributes := #[] }, { accessFlags := 16409, nameIndex := 9, descriptorIndex := 6, attributes := #[] }, { accessFlags := 16409, nameIndex := 12, descriptorIndex := 6, attributes := #[] }, { accessFlags := 16409, nameIndex := 15, descriptorIndex := 6, attributes := #[] }, { accessFlags := 18, nameIndex := 37, descriptorIndex := 38, attributes := #[] }, { accessFlags := 4122, nameIndex := 18, descriptorIndex := 19, attributes := #[] }])
  fields := #[{ name := "INVALID", type := (.object "com/example/shard_feed/shardfeed/Refusal$Reason"), accessFlags := 16409, slot := 0, constantValue := 0 }, { name := "UNKNOWN_USER", type := (.object "com/example/shard_feed/shardfeed/Refusal$Reason"), accessFlags := 16409, slot := 1, constantValue := 0 }, { name := "NAME_TAKEN", type := (.object "com/example/shard_feed/shardfeed/Refusal$Reason"), accessFlags := 16409, slot := 2, constantValue := 0 }, { name := "TOO_LARGE", type := (.object "com/example/shard_feed/shardfeed/Refusal$Reason"), accessFlags := 16409, slot := 3, constantValue := 0 }, { name := "status", type := .int, accessFlags := 18, slot := 3, constantValue := 0 }, { name := "$VALUES", type := (.array (.object "com/example/shard_feed/shardfeed/Refusal$Reason")), accessFlags := 4122, slot := 4, constantValue := 0 }]
  methods := #[]
  instanceTypes := #[(.object "java/lang/String"), .int, .int, .int]
  staticTypes := #[(.object "com/example/shard_feed/shardfeed/Refusal$Reason"), (.object "com/example/shard_feed/shardfeed/Refusal$Reason"), (.object "com/example/shard_feed/shardfeed/Refusal$Reason"), (.object "com/example/shard_feed/shardfeed/Refusal$Reason"), (.array (.object "com/example/shard_feed/shardfeed/Refusal$Reason"))]
  resolved := Array.replicate 68 none
  statics := some 2 }

def pool15 : Array CpInfo := pool [(1, .class_ 2), (0, u "java/lang/Appendable"), (0, .class_ 4), (0, u "java/lang/Object")] 9

/-- java/lang/Appendable -/
def k15 : Class := { plain "java/lang/Appendable" (some 0) with
  accessFlags := 1537
  interfaces := #[]
  cf := some (fileOf pool15 1 #[] #[] 1537 3 #[] #[])
  fields := #[]
  methods := #[]
  instanceTypes := #[]
  staticTypes := #[]
  resolved := Array.replicate 14 none
  statics := none }

def pool16 : Array CpInfo := pool [(1, .class_ 2), (0, u "java/lang/String"), (0, .methodref 4 5), (0, .class_ 6), (0, .nameAndType 7 8), (0, u "java/lang/Object"), (0, u "<init>"), (0, u "()V"), (1, .class_ 12), (1, u "java/lang/AbstractStringBuilder"), (0, u "EMPTYVALUE"), (0, u "[B"), (0, .fieldref 10 16), (0, .nameAndType 17 14), (0, u "value"), (0, .fieldref 1 19), (0, .nameAndType 20 21), (0, u "COMPACT_STRINGS"), (0, u "Z"), (0, .fieldref 10 23), (0, .nameAndType 24 25), (0, u "coder"), (0, u "B"), (6, .methodref 1 33), (0, .nameAndType 34 35), (0, u "length"), (0, u "()I"), (3, .integer 2147483647), (0, .methodref 1 41), (0, .nameAndType 24 42), (0, u "()B"), (2, u "append"), (0, u "(Ljava/lang/String;)Ljava/lang/AbstractStringBuilder;"), (1, .class_ 49), (0, u "java/lang/CharSequence"), (19, u "(Ljava/lang/String;)V"), (5, u "maybeLatin1"), (3, .fieldref 10 80), (0, .nameAndType 81 82), (0, u "count"), (0, u "I"), (0, .methodref 10 84), (0, .nameAndType 85 86), (0, u "isLatin1"), (0, u "()Z"), (13, .methodref 10 101), (0, .nameAndType 102 103), (0, u "ensureCapacityInternal"), (0, u "(I)V"), (0, .methodref 10 105), (0, .nameAndType 106 107), (0, u "newCapacity"), (0, u "(I)I"), (0, .methodref 109 110), (0, .class_ 111), (0, .nameAndType 112 113), (0, u "java/util/Arrays"), (0, u "copyOf"), (0, u "([BI)[B"), (0, .methodref 115 116), (0, .class_ 117), (0, .nameAndType 118 119), (0, u "jdk/internal/util/ArraysSupport"), (0, u "newLength"), (0, u "(III)I"), (84, .methodref 10 205), (0, .nameAndType 206 207), (0, u "appendNull"), (0, u "()Ljava/lang/AbstractStringBuilder;"), (0, .methodref 10 209), (0, .nameAndType 210 211), (0, u "putStringAt"), (0, u "(ILjava/lang/String;)V"), (5, u "inflateIfNeededFor"), (2, .nameAndType 221 222), (0, u "getBytes"), (0, u "([BIB)V"), (174, .methodref 10 398), (0, .nameAndType 217 69), (0, .methodref 1 220), (3, u "()[B"), (40, .class_ 445), (0, u "java/lang/Appendable"), (106, u "getValue")] 56

def k16m0 : Method := { name := "<init>", desc := "()V", sig := { parameters := [], returnType := none }, accessFlags := 0, code := none }
def k16c1 : Code := { maxStack := 2, maxLocals := 2, code := jdk_68_method_2_code, exceptionTable := #[], attributes := #[] }
def k16m1 : Method := { name := "<init>", desc := "(I)V", sig := { parameters := [.int], returnType := none }, accessFlags := 0, code := some k16c1 }
def k16c2 : Code := { maxStack := 1, maxLocals := 1, code := jdk_68_method_6_code, exceptionTable := #[], attributes := #[] }
def k16m2 : Method := { name := "length", desc := "()I", sig := { parameters := [], returnType := some .int }, accessFlags := 1, code := some k16c2 }
def k16c3 : Code := { maxStack := 4, maxLocals := 3, code := jdk_68_method_9_code, exceptionTable := #[], attributes := #[] }
def k16m3 : Method := { name := "ensureCapacityInternal", desc := "(I)V", sig := { parameters := [.int], returnType := none }, accessFlags := 2, code := some k16c3 }
def k16c4 : Code := { maxStack := 5, maxLocals := 6, code := jdk_68_method_10_code, exceptionTable := #[], attributes := #[] }
def k16m4 : Method := { name := "newCapacity", desc := "(I)I", sig := { parameters := [.int], returnType := some .int }, accessFlags := 2, code := some k16c4 }
def k16c5 : Code := { maxStack := 3, maxLocals := 3, code := jdk_68_method_22_code, exceptionTable := #[], attributes := #[] }
def k16m5 : Method := { name := "append", desc := "(Ljava/lang/String;)Ljava/lang/AbstractStringBuilder;", sig := { parameters := [(.object "java/lang/String")], returnType := some (.object "java/lang/AbstractStringBuilder") }, accessFlags := 1, code := some k16c5 }
def k16c6 : Code := { maxStack := 6, maxLocals := 3, code := jdk_68_method_26_code, exceptionTable := #[], attributes := #[] }
def k16m6 : Method := { name := "appendNull", desc := "()Ljava/lang/AbstractStringBuilder;", sig := { parameters := [], returnType := some (.object "java/lang/AbstractStringBuilder") }, accessFlags := 2, code := some k16c6 }
def k16c7 : Code := { maxStack := 1, maxLocals := 1, code := jdk_68_method_64_code, exceptionTable := #[], attributes := #[] }
def k16m7 : Method := { name := "getValue", desc := "()[B", sig := { parameters := [], returnType := some (.array .byte) }, accessFlags := 16, code := some k16c7 }
def k16c8 : Code := { maxStack := 1, maxLocals := 1, code := jdk_68_method_68_code, exceptionTable := #[], attributes := #[] }
def k16m8 : Method := { name := "isLatin1", desc := "()Z", sig := { parameters := [], returnType := some .boolean }, accessFlags := 16, code := some k16c8 }
def k16c9 : Code := { maxStack := 2, maxLocals := 2, code := jdk_68_method_71_code, exceptionTable := #[], attributes := #[] }
def k16m9 : Method := { name := "inflateIfNeededFor", desc := "(Ljava/lang/String;)V", sig := { parameters := [(.object "java/lang/String")], returnType := none }, accessFlags := 2, code := some k16c9 }
def k16c10 : Code := { maxStack := 4, maxLocals := 3, code := jdk_68_method_73_code, exceptionTable := #[], attributes := #[] }
def k16m10 : Method := { name := "putStringAt", desc := "(ILjava/lang/String;)V", sig := { parameters := [.int, (.object "java/lang/String")], returnType := none }, accessFlags := 2, code := some k16c10 }
/-- java/lang/AbstractStringBuilder -/
def k16 : Class := { plain "java/lang/AbstractStringBuilder" (some 0) with
  accessFlags := 1056
  interfaces := #[15, 4]
  cf := some (fileOf pool16 10 #[] #[{ accessFlags := 0, nameIndex := 7, descriptorIndex := 8, attributes := #[] }, { accessFlags := 0, nameIndex := 7, descriptorIndex := 103, attributes := #[] }, { accessFlags := 1, nameIndex := 34, descriptorIndex := 35, attributes := #[] }, { accessFlags := 2, nameIndex := 102, descriptorIndex := 103, attributes := #[] }, { accessFlags := 2, nameIndex := 106, descriptorIndex := 107, attributes := #[] }, { accessFlags := 1, nameIndex := 45, descriptorIndex := 46, attributes := #[] }, { accessFlags := 2, nameIndex := 206, descriptorIndex := 207, attributes := #[] }, { accessFlags := 16, nameIndex := 552, descriptorIndex := 403, attributes := #[] }, { accessFlags := 16, nameIndex := 85, descriptorIndex := 86, attributes := #[] }, { accessFlags := 2, nameIndex := 217, descriptorIndex := 69, attributes := #[] }, { accessFlags := 2, nameIndex := 210, descriptorIndex := 211, attributes := #[] }] 1056 4 #[444, 48] #[{ accessFlags := 0, nameIndex := 17, descriptorIndex := 14, attributes := #[] }, { accessFlags := 0, nameIndex := 24, descriptorIndex := 25, attributes := #[] }, { accessFlags := 0, nameIndex := 75, descriptorIndex := 21, attributes := #[] }, { accessFlags := 0, nameIndex := 81, descriptorIndex := 82, attributes := #[] }, { accessFlags := 26, nameIndex := 13, descriptorIndex := 14, attributes := #[] }])
  fields := #[{ name := "value", type := (.array .byte), accessFlags := 0, slot := 0, constantValue := 0 }, { name := "coder", type := .byte, accessFlags := 0, slot := 1, constantValue := 0 }, { name := "maybeLatin1", type := .boolean, accessFlags := 0, slot := 2, constantValue := 0 }, { name := "count", type := .int, accessFlags := 0, slot := 3, constantValue := 0 }, { name := "EMPTYVALUE", type := (.array .byte), accessFlags := 26, slot := 0, constantValue := 0 }]
  methods := #[k16m0, k16m1, k16m2, k16m3, k16m4, k16m5, k16m6, k16m7, k16m8, k16m9, k16m10]
  instanceTypes := #[(.array .byte), .byte, .boolean, .int]
  staticTypes := #[(.array .byte)]
  resolved := Array.replicate 609 none
  statics := none }

def pool17 : Array CpInfo := pool [(1, .methodref 2 3), (0, .class_ 4), (0, .nameAndType 5 6), (0, u "java/lang/AbstractStringBuilder"), (0, u "<init>"), (0, u "(I)V"), (11, .class_ 20), (1, u "java/lang/String"), (3, .class_ 26), (1, u "java/lang/StringBuilder"), (0, u "append"), (0, u "(Ljava/lang/String;)Ljava/lang/StringBuilder;"), (0, .methodref 2 30), (0, .nameAndType 27 31), (0, u "(Ljava/lang/String;)Ljava/lang/AbstractStringBuilder;"), (105, .methodref 18 138), (0, .nameAndType 5 139), (0, u "(Ljava/lang/StringBuilder;)V"), (5, u "()V"), (10, u "()I"), (186, .methodref 2 344), (0, .nameAndType 345 156), (0, u "length"), (3, .class_ 350), (0, u "java/lang/Appendable"), (0, .class_ 352), (0, u "java/io/Serializable"), (0, .class_ 354), (0, u "java/lang/Comparable"), (0, .class_ 356), (0, u "java/lang/CharSequence"), (0, u "serialVersionUID"), (0, u "J"), (40, u "toString"), (0, u "()Ljava/lang/String;")] 21

def k17c0 : Code := { maxStack := 2, maxLocals := 1, code := jdk_67_method_1_code, exceptionTable := #[], attributes := #[] }
def k17m0 : Method := { name := "<init>", desc := "()V", sig := { parameters := [], returnType := none }, accessFlags := 1, code := some k17c0 }
def k17c1 : Code := { maxStack := 2, maxLocals := 2, code := jdk_67_method_7_code, exceptionTable := #[], attributes := #[] }
def k17m1 : Method := { name := "append", desc := "(Ljava/lang/String;)Ljava/lang/StringBuilder;", sig := { parameters := [(.object "java/lang/String")], returnType := some (.object "java/lang/StringBuilder") }, accessFlags := 1, code := some k17c1 }
def k17c2 : Code := { maxStack := 3, maxLocals := 1, code := jdk_67_method_42_code, exceptionTable := #[], attributes := #[] }
def k17m2 : Method := { name := "toString", desc := "()Ljava/lang/String;", sig := { parameters := [], returnType := some (.object "java/lang/String") }, accessFlags := 1, code := some k17c2 }
def k17c3 : Code := { maxStack := 1, maxLocals := 1, code := jdk_67_method_93_code, exceptionTable := #[], attributes := #[] }
def k17m3 : Method := { name := "length", desc := "()I", sig := { parameters := [], returnType := some .int }, accessFlags := 4161, code := some k17c3 }
/-- java/lang/StringBuilder -/
def k17 : Class := { plain "java/lang/StringBuilder" (some 16) with
  accessFlags := 49
  interfaces := #[15, 2, 3, 4]
  cf := some (fileOf pool17 24 #[] #[{ accessFlags := 1, nameIndex := 5, descriptorIndex := 145, attributes := #[] }, { accessFlags := 1, nameIndex := 27, descriptorIndex := 28, attributes := #[] }, { accessFlags := 1, nameIndex := 399, descriptorIndex := 400, attributes := #[] }, { accessFlags := 4161, nameIndex := 345, descriptorIndex := 156, attributes := #[] }] 49 2 #[349, 351, 353, 355] #[{ accessFlags := 24, nameIndex := 357, descriptorIndex := 358, attributes := #[] }])
  fields := #[{ name := "serialVersionUID", type := .long, accessFlags := 24, slot := 0, constantValue := 0 }]
  methods := #[k17m0, k17m1, k17m2, k17m3]
  instanceTypes := #[(.array .byte), .byte, .boolean, .int]
  staticTypes := #[.long]
  resolved := Array.replicate 422 none
  statics := none }

def pool18 : Array CpInfo := pool [(9, u "<init>"), (6, .class_ 18), (1, u "java/lang/Object"), (0, u "()V"), (1, .class_ 23), (1, u "jdk/internal/util/ArraysSupport"), (0, u "LOG2_ARRAY_LONG_INDEX_SCALE"), (0, u "I"), (2, u "U"), (0, u "Ljdk/internal/misc/Unsafe;"), (8, u "BIG_ENDIAN"), (0, u "Z"), (8, u "LOG2_BYTE_BIT_SIZE"), (4, u "LOG2_ARRAY_INT_INDEX_SCALE"), (54, u "JLA"), (0, u "Ljdk/internal/access/JavaLangAccess;"), (11, u "LOG2_ARRAY_BOOLEAN_INDEX_SCALE"), (9, u "LOG2_ARRAY_BYTE_INDEX_SCALE"), (5, u "LOG2_ARRAY_CHAR_INDEX_SCALE"), (5, u "LOG2_ARRAY_SHORT_INDEX_SCALE"), (18, u "LOG2_ARRAY_FLOAT_INDEX_SCALE"), (24, u "LOG2_ARRAY_DOUBLE_INDEX_SCALE"), (6, .methodref 195 196), (0, .class_ 197), (0, .nameAndType 198 199), (0, u "java/lang/Math"), (0, u "max"), (0, u "(II)I"), (0, .integer 2147483639), (76, u "T_BOOLEAN"), (2, u "T_CHAR"), (1, u "T_FLOAT"), (1, u "T_DOUBLE"), (1, u "T_BYTE"), (1, u "T_SHORT"), (1, u "T_INT"), (1, u "T_LONG"), (1, u "SOFT_MAX_ARRAY_LENGTH"), (56, u "newLength"), (0, u "(III)I")] 25

def k18m0 : Method := { name := "<init>", desc := "()V", sig := { parameters := [], returnType := none }, accessFlags := 2, code := none }
def k18c1 : Code := { maxStack := 3, maxLocals := 4, code := jdk_48_method_27_code, exceptionTable := #[], attributes := #[] }
def k18m1 : Method := { name := "newLength", desc := "(III)I", sig := { parameters := [.int, .int, .int], returnType := some .int }, accessFlags := 9, code := some k18c1 }
/-- jdk/internal/util/ArraysSupport -/
def k18 : Class := { plain "jdk/internal/util/ArraysSupport" (some 0) with
  accessFlags := 33
  interfaces := #[]
  cf := some (fileOf pool18 21 #[] #[{ accessFlags := 2, nameIndex := 9, descriptorIndex := 19, attributes := #[] }, { accessFlags := 9, nameIndex := 351, descriptorIndex := 352, attributes := #[] }] 33 16 #[] #[{ accessFlags := 24, nameIndex := 28, descriptorIndex := 29, attributes := #[] }, { accessFlags := 26, nameIndex := 38, descriptorIndex := 39, attributes := #[] }, { accessFlags := 25, nameIndex := 121, descriptorIndex := 25, attributes := #[] }, { accessFlags := 25, nameIndex := 131, descriptorIndex := 25, attributes := #[] }, { accessFlags := 25, nameIndex := 137, descriptorIndex := 25, attributes := #[] }, { accessFlags := 25, nameIndex := 143, descriptorIndex := 25, attributes := #[] }, { accessFlags := 25, nameIndex := 53, descriptorIndex := 25, attributes := #[] }, { accessFlags := 25, nameIndex := 24, descriptorIndex := 25, attributes := #[] }, { accessFlags := 25, nameIndex := 162, descriptorIndex := 25, attributes := #[] }, { accessFlags := 25, nameIndex := 187, descriptorIndex := 25, attributes := #[] }, { accessFlags := 26, nameIndex := 48, descriptorIndex := 25, attributes := #[] }, { accessFlags := 25, nameIndex := 277, descriptorIndex := 25, attributes := #[] }, { accessFlags := 25, nameIndex := 280, descriptorIndex := 25, attributes := #[] }, { accessFlags := 25, nameIndex := 282, descriptorIndex := 25, attributes := #[] }, { accessFlags := 25, nameIndex := 284, descriptorIndex := 25, attributes := #[] }, { accessFlags := 25, nameIndex := 286, descriptorIndex := 25, attributes := #[] }, { accessFlags := 25, nameIndex := 288, descriptorIndex := 25, attributes := #[] }, { accessFlags := 25, nameIndex := 290, descriptorIndex := 25, attributes := #[] }, { accessFlags := 25, nameIndex := 292, descriptorIndex := 25, attributes := #[] }, { accessFlags := 26, nameIndex := 108, descriptorIndex := 109, attributes := #[] }, { accessFlags := 25, nameIndex := 294, descriptorIndex := 25, attributes := #[] }])
  fields := #[{ name := "U", type := (.object "jdk/internal/misc/Unsafe"), accessFlags := 24, slot := 0, constantValue := 0 }, { name := "BIG_ENDIAN", type := .boolean, accessFlags := 26, slot := 1, constantValue := 0 }, { name := "LOG2_ARRAY_BOOLEAN_INDEX_SCALE", type := .int, accessFlags := 25, slot := 2, constantValue := 0 }, { name := "LOG2_ARRAY_BYTE_INDEX_SCALE", type := .int, accessFlags := 25, slot := 3, constantValue := 0 }, { name := "LOG2_ARRAY_CHAR_INDEX_SCALE", type := .int, accessFlags := 25, slot := 4, constantValue := 0 }, { name := "LOG2_ARRAY_SHORT_INDEX_SCALE", type := .int, accessFlags := 25, slot := 5, constantValue := 0 }, { name := "LOG2_ARRAY_INT_INDEX_SCALE", type := .int, accessFlags := 25, slot := 6, constantValue := 0 }, { name := "LOG2_ARRAY_LONG_INDEX_SCALE", type := .int, accessFlags := 25, slot := 7, constantValue := 0 }, { name := "LOG2_ARRAY_FLOAT_INDEX_SCALE", type := .int, accessFlags := 25, slot := 8, constantValue := 0 }, { name := "LOG2_ARRAY_DOUBLE_INDEX_SCALE", type := .int, accessFlags := 25, slot := 9, constantValue := 0 }, { name := "LOG2_BYTE_BIT_SIZE", type := .int, accessFlags := 26, slot := 10, constantValue := 0 }, { name := "T_BOOLEAN", type := .int, accessFlags := 25, slot := 11, constantValue := 0 }, { name := "T_CHAR", type := .int, accessFlags := 25, slot := 12, constantValue := 0 }, { name := "T_FLOAT", type := .int, accessFlags := 25, slot := 13, constantValue := 0 }, { name := "T_DOUBLE", type := .int, accessFlags := 25, slot := 14, constantValue := 0 }, { name := "T_BYTE", type := .int, accessFlags := 25, slot := 15, constantValue := 0 }, { name := "T_SHORT", type := .int, accessFlags := 25, slot := 16, constantValue := 0 }, { name := "T_INT", type := .int, accessFlags := 25, slot := 17, constantValue := 0 }, { name := "T_LONG", type := .int, accessFlags := 25, slot := 18, constantValue := 0 }, { name := "JLA", type := (.object "jdk/internal/access/JavaLangAccess"), accessFlags := 26, slot := 19, constantValue := 0 }, { name := "SOFT_MAX_ARRAY_LENGTH", type := .int, accessFlags := 25, slot := 20, constantValue := 0 }]
  methods := #[k18m0, k18m1]
  instanceTypes := #[]
  staticTypes := #[(.object "jdk/internal/misc/Unsafe"), .boolean, .int, .int, .int, .int, .int, .int, .int, .int, .int, .int, .int, .int, .int, .int, .int, .int, .int, (.object "jdk/internal/access/JavaLangAccess"), .int]
  resolved := Array.replicate 378 none
  statics := none }

def pool19 : Array CpInfo := pool [(1, .class_ 2), (0, u "java/lang/Math"), (1, .class_ 6), (1, u "java/lang/Object"), (0, u "<init>"), (0, u "()V"), (89, .class_ 100), (1, u "java/lang/Math$RandomNumberGeneratorHolder"), (71, u "negativeZeroFloatBits"), (0, u "J"), (2, u "negativeZeroDoubleBits"), (21, u "max"), (2, u "min"), (43, u "$assertionsDisabled"), (0, u "Z"), (88, u "(II)I"), (2, u "twoToTheDoubleScaleDown"), (0, u "D"), (4, u "twoToTheDoubleScaleUp"), (9, u "E"), (3, u "PI"), (2, u "TAU"), (2, u "DEGREES_TO_RADIANS"), (0, u "RADIANS_TO_DEGREES")] 94

def k19m0 : Method := { name := "<init>", desc := "()V", sig := { parameters := [], returnType := none }, accessFlags := 2, code := none }
def k19c1 : Code := { maxStack := 2, maxLocals := 2, code := jdk_29_method_65_code, exceptionTable := #[], attributes := #[] }
def k19m1 : Method := { name := "max", desc := "(II)I", sig := { parameters := [.int, .int], returnType := some .int }, accessFlags := 9, code := some k19c1 }
def k19c2 : Code := { maxStack := 2, maxLocals := 2, code := jdk_29_method_69_code, exceptionTable := #[], attributes := #[] }
def k19m2 : Method := { name := "min", desc := "(II)I", sig := { parameters := [.int, .int], returnType := some .int }, accessFlags := 9, code := some k19c2 }
/-- java/lang/Math -/
def k19 : Class := { plain "java/lang/Math" (some 0) with
  accessFlags := 49
  interfaces := #[]
  cf := some (fileOf pool19 1 #[.nestMembers #[98]] #[{ accessFlags := 2, nameIndex := 7, descriptorIndex := 8, attributes := #[] }, { accessFlags := 9, nameIndex := 198, descriptorIndex := 335, attributes := #[] }, { accessFlags := 9, nameIndex := 201, descriptorIndex := 335, attributes := #[] }] 49 4 #[] #[{ accessFlags := 25, nameIndex := 354, descriptorIndex := 339, attributes := #[] }, { accessFlags := 25, nameIndex := 358, descriptorIndex := 339, attributes := #[] }, { accessFlags := 25, nameIndex := 361, descriptorIndex := 339, attributes := #[] }, { accessFlags := 26, nameIndex := 364, descriptorIndex := 339, attributes := #[] }, { accessFlags := 26, nameIndex := 365, descriptorIndex := 339, attributes := #[] }, { accessFlags := 26, nameIndex := 172, descriptorIndex := 173, attributes := #[] }, { accessFlags := 26, nameIndex := 176, descriptorIndex := 173, attributes := #[] }, { accessFlags := 8, nameIndex := 344, descriptorIndex := 339, attributes := #[] }, { accessFlags := 8, nameIndex := 338, descriptorIndex := 339, attributes := #[] }, { accessFlags := 4120, nameIndex := 245, descriptorIndex := 246, attributes := #[] }])
  fields := #[{ name := "E", type := .double, accessFlags := 25, slot := 0, constantValue := 0 }, { name := "PI", type := .double, accessFlags := 25, slot := 1, constantValue := 0 }, { name := "TAU", type := .double, accessFlags := 25, slot := 2, constantValue := 0 }, { name := "DEGREES_TO_RADIANS", type := .double, accessFlags := 26, slot := 3, constantValue := 0 }, { name := "RADIANS_TO_DEGREES", type := .double, accessFlags := 26, slot := 4, constantValue := 0 }, { name := "negativeZeroFloatBits", type := .long, accessFlags := 26, slot := 5, constantValue := 0 }, { name := "negativeZeroDoubleBits", type := .long, accessFlags := 26, slot := 6, constantValue := 0 }, { name := "twoToTheDoubleScaleUp", type := .double, accessFlags := 8, slot := 7, constantValue := 0 }, { name := "twoToTheDoubleScaleDown", type := .double, accessFlags := 8, slot := 8, constantValue := 0 }, { name := "$assertionsDisabled", type := .boolean, accessFlags := 4120, slot := 9, constantValue := 0 }]
  methods := #[k19m0, k19m1, k19m2]
  instanceTypes := #[]
  staticTypes := #[.double, .double, .double, .double, .double, .long, .long, .double, .double, .boolean]
  resolved := Array.replicate 460 none
  statics := none }

def pool20 : Array CpInfo := pool [(2, .class_ 4), (1, u "java/lang/Object"), (0, u "<init>"), (0, u "()V"), (7, .class_ 16), (1, u "java/util/Arrays"), (57, .class_ 76), (1, u "java/util/Arrays$NaturalOrder"), (36, .class_ 115), (1, u "java/util/Arrays$LegacyMergeSort"), (1, u "Z"), (21, u "copyOfRange"), (10, .methodref 151 152), (0, .class_ 153), (0, .nameAndType 154 155), (0, u "java/lang/System"), (0, u "arraycopy"), (0, u "(Ljava/lang/Object;ILjava/lang/Object;II)V"), (146, u "copyOf"), (1, .methodref 305 306), (0, .class_ 307), (0, .nameAndType 308 309), (0, u "java/lang/Math"), (0, u "min"), (0, u "(II)I"), (29, .methodref 14 340), (0, .nameAndType 341 342), (0, u "copyOfRangeByte"), (0, u "([BII)[B"), (0, .methodref 14 344), (0, .nameAndType 345 346), (0, u "checkLength"), (0, u "(II)V"), (28, .class_ 376), (0, u "java/util/Arrays$ArrayList"), (68, u "$assertionsDisabled"), (269, u "MIN_ARRAY_SORT_GRAN"), (0, u "I"), (2, u "INSERTIONSORT_THRESHOLD"), (149, u "([BI)[B"), (105, .class_ 976), (0, u "java/util/Arrays$ArrayItr")] 52

def k20m0 : Method := { name := "<init>", desc := "()V", sig := { parameters := [], returnType := none }, accessFlags := 2, code := none }
def k20c1 : Code := { maxStack := 6, maxLocals := 3, code := jdk_65_method_121_code, exceptionTable := #[], attributes := #[] }
def k20m1 : Method := { name := "copyOf", desc := "([BI)[B", sig := { parameters := [(.array .byte), .int], returnType := some (.array .byte) }, accessFlags := 9, code := some k20c1 }
def k20c2 : Code := { maxStack := 4, maxLocals := 2, code := jdk_65_method_131_code, exceptionTable := #[], attributes := #[] }
def k20m2 : Method := { name := "checkLength", desc := "(II)V", sig := { parameters := [.int, .int], returnType := none }, accessFlags := 10, code := some k20c2 }
def k20c3 : Code := { maxStack := 3, maxLocals := 3, code := jdk_65_method_132_code, exceptionTable := #[], attributes := #[] }
def k20m3 : Method := { name := "copyOfRange", desc := "([BII)[B", sig := { parameters := [(.array .byte), .int, .int], returnType := some (.array .byte) }, accessFlags := 9, code := some k20c3 }
def k20c4 : Code := { maxStack := 6, maxLocals := 5, code := jdk_65_method_133_code, exceptionTable := #[], attributes := #[] }
def k20m4 : Method := { name := "copyOfRangeByte", desc := "([BII)[B", sig := { parameters := [(.array .byte), .int, .int], returnType := some (.array .byte) }, accessFlags := 10, code := some k20c4 }
/-- java/util/Arrays -/
def k20 : Class := { plain "java/util/Arrays" (some 0) with
  accessFlags := 49
  interfaces := #[]
  cf := some (fileOf pool20 14 #[.nestMembers #[975, 375, 113, 74]] #[{ accessFlags := 2, nameIndex := 5, descriptorIndex := 6, attributes := #[] }, { accessFlags := 9, nameIndex := 302, descriptorIndex := 869, attributes := #[] }, { accessFlags := 10, nameIndex := 345, descriptorIndex := 346, attributes := #[] }, { accessFlags := 9, nameIndex := 139, descriptorIndex := 342, attributes := #[] }, { accessFlags := 10, nameIndex := 341, descriptorIndex := 342, attributes := #[] }] 49 2 #[] #[{ accessFlags := 26, nameIndex := 715, descriptorIndex := 716, attributes := #[] }, { accessFlags := 26, nameIndex := 719, descriptorIndex := 716, attributes := #[] }, { accessFlags := 4120, nameIndex := 445, descriptorIndex := 117, attributes := #[] }])
  fields := #[{ name := "MIN_ARRAY_SORT_GRAN", type := .int, accessFlags := 26, slot := 0, constantValue := 0 }, { name := "INSERTIONSORT_THRESHOLD", type := .int, accessFlags := 26, slot := 1, constantValue := 0 }, { name := "$assertionsDisabled", type := .boolean, accessFlags := 4120, slot := 2, constantValue := 0 }]
  methods := #[k20m0, k20m1, k20m2, k20m3, k20m4]
  instanceTypes := #[]
  staticTypes := #[.int, .int, .boolean]
  resolved := Array.replicate 1029 none
  statics := none }

def pool21 : Array CpInfo := pool [(2, .class_ 4), (1, u "java/lang/Object"), (0, u "<init>"), (0, u "()V"), (1, .class_ 10), (1, u "java/lang/System"), (0, u "allowSecurityManager"), (0, u "I"), (16, u "cons"), (0, u "Ljava/io/Console;"), (77, .class_ 110), (1, u "java/lang/System$CallersHolder"), (43, u "initialErrStream"), (0, u "Ljava/io/PrintStream;"), (19, u "security"), (0, u "Ljava/lang/SecurityManager;"), (31, .class_ 209), (0, u "java/lang/System$1"), (7, u "props"), (0, u "Ljava/util/Properties;"), (2, u "lineSeparator"), (0, u "Ljava/lang/String;"), (96, .class_ 321), (1, u "java/lang/System$LoggerFinder"), (5, .class_ 328), (0, u "java/lang/System$Logger"), (67, u "err"), (2, u "out"), (91, u "notSupportedJnuEncoding"), (15, u "in"), (17, u "initialIn"), (0, u "Ljava/io/InputStream;"), (35, u "bootLayer"), (0, u "Ljava/lang/ModuleLayer;"), (99, .class_ 664), (0, u "java/lang/System$2"), (9, u "NEVER"), (2, u "MAYBE"), (49, u "arraycopy"), (0, u "(Ljava/lang/Object;ILjava/lang/Object;II)V"), (72, .class_ 802), (0, u "java/lang/System$Logger$Level")] 31

def k21m0 : Method := { name := "<init>", desc := "()V", sig := { parameters := [], returnType := none }, accessFlags := 2, code := none }
def k21m1 : Method := { name := "arraycopy", desc := "(Ljava/lang/Object;ILjava/lang/Object;II)V", sig := { parameters := [(.object "java/lang/Object"), .int, (.object "java/lang/Object"), .int, .int], returnType := none }, accessFlags := 265, code := none }
/-- java/lang/System -/
def k21 : Class := { plain "java/lang/System" (some 0) with
  accessFlags := 49
  interfaces := #[]
  cf := some (fileOf pool21 8 #[.nestMembers #[319, 327, 801, 108, 663, 208]] #[{ accessFlags := 2, nameIndex := 5, descriptorIndex := 6, attributes := #[] }, { accessFlags := 265, nameIndex := 727, descriptorIndex := 728, attributes := #[] }] 49 2 #[] #[{ accessFlags := 25, nameIndex := 507, descriptorIndex := 526, attributes := #[] }, { accessFlags := 25, nameIndex := 399, descriptorIndex := 155, attributes := #[] }, { accessFlags := 25, nameIndex := 396, descriptorIndex := 155, attributes := #[] }, { accessFlags := 10, nameIndex := 525, descriptorIndex := 526, attributes := #[] }, { accessFlags := 26, nameIndex := 674, descriptorIndex := 12, attributes := #[] }, { accessFlags := 26, nameIndex := 677, descriptorIndex := 12, attributes := #[] }, { accessFlags := 10, nameIndex := 11, descriptorIndex := 12, attributes := #[] }, { accessFlags := 74, nameIndex := 175, descriptorIndex := 176, attributes := #[] }, { accessFlags := 10, nameIndex := 491, descriptorIndex := 222, attributes := #[] }, { accessFlags := 74, nameIndex := 29, descriptorIndex := 30, attributes := #[] }, { accessFlags := 74, nameIndex := 154, descriptorIndex := 155, attributes := #[] }, { accessFlags := 10, nameIndex := 217, descriptorIndex := 218, attributes := #[] }, { accessFlags := 10, nameIndex := 221, descriptorIndex := 222, attributes := #[] }, { accessFlags := 8, nameIndex := 562, descriptorIndex := 563, attributes := #[] }])
  fields := #[{ name := "in", type := (.object "java/io/InputStream"), accessFlags := 25, slot := 0, constantValue := 0 }, { name := "out", type := (.object "java/io/PrintStream"), accessFlags := 25, slot := 1, constantValue := 0 }, { name := "err", type := (.object "java/io/PrintStream"), accessFlags := 25, slot := 2, constantValue := 0 }, { name := "initialIn", type := (.object "java/io/InputStream"), accessFlags := 10, slot := 3, constantValue := 0 }, { name := "NEVER", type := .int, accessFlags := 26, slot := 4, constantValue := 0 }, { name := "MAYBE", type := .int, accessFlags := 26, slot := 5, constantValue := 0 }, { name := "allowSecurityManager", type := .int, accessFlags := 10, slot := 6, constantValue := 0 }, { name := "security", type := (.object "java/lang/SecurityManager"), accessFlags := 74, slot := 7, constantValue := 0 }, { name := "notSupportedJnuEncoding", type := (.object "java/lang/String"), accessFlags := 10, slot := 8, constantValue := 0 }, { name := "cons", type := (.object "java/io/Console"), accessFlags := 74, slot := 9, constantValue := 0 }, { name := "initialErrStream", type := (.object "java/io/PrintStream"), accessFlags := 74, slot := 10, constantValue := 0 }, { name := "props", type := (.object "java/util/Properties"), accessFlags := 10, slot := 11, constantValue := 0 }, { name := "lineSeparator", type := (.object "java/lang/String"), accessFlags := 10, slot := 12, constantValue := 0 }, { name := "bootLayer", type := (.object "java/lang/ModuleLayer"), accessFlags := 8, slot := 13, constantValue := 0 }]
  methods := #[k21m0, k21m1]
  instanceTypes := #[]
  staticTypes := #[(.object "java/io/InputStream"), (.object "java/io/PrintStream"), (.object "java/io/PrintStream"), (.object "java/io/InputStream"), .int, .int, .int, (.object "java/lang/SecurityManager"), (.object "java/lang/String"), (.object "java/io/Console"), (.object "java/io/PrintStream"), (.object "java/util/Properties"), (.object "java/lang/String"), (.object "java/lang/ModuleLayer")]
  resolved := Array.replicate 834 none
  statics := none }

def pool22 : Array CpInfo := pool [(4, .class_ 6), (1, u "java/lang/Object"), (0, u "<init>"), (0, u "()V"), (5, .class_ 16), (1, u "java/lang/StringLatin1"), (104, u "$assertionsDisabled"), (0, u "Z"), (98, .class_ 223), (1, u "java/lang/StringLatin1$LinesSpliterator"), (57, u "equals"), (0, u "([B[B)Z"), (107, .class_ 391), (0, u "java/lang/StringLatin1$CharsSpliterator")] 3

def k22m0 : Method := { name := "<init>", desc := "()V", sig := { parameters := [], returnType := none }, accessFlags := 0, code := none }
def k22c1 : Code := { maxStack := 3, maxLocals := 3, code := jdk_43_method_13_code, exceptionTable := #[], attributes := #[] }
def k22m1 : Method := { name := "equals", desc := "([B[B)Z", sig := { parameters := [(.array .byte), (.array .byte)], returnType := some .boolean }, accessFlags := 9, code := some k22c1 }
/-- java/lang/StringLatin1 -/
def k22 : Class := { plain "java/lang/StringLatin1" (some 0) with
  accessFlags := 48
  interfaces := #[]
  cf := some (fileOf pool22 14 #[.nestMembers #[390, 221]] #[{ accessFlags := 0, nameIndex := 7, descriptorIndex := 8, attributes := #[] }, { accessFlags := 9, nameIndex := 281, descriptorIndex := 282, attributes := #[] }] 48 4 #[] #[{ accessFlags := 4120, nameIndex := 121, descriptorIndex := 122, attributes := #[] }])
  fields := #[{ name := "$assertionsDisabled", type := .boolean, accessFlags := 4120, slot := 0, constantValue := 0 }]
  methods := #[k22m0, k22m1]
  instanceTypes := #[]
  staticTypes := #[.boolean]
  resolved := Array.replicate 395 none
  statics := none }

def pool23 : Array CpInfo := pool [(2, .class_ 4), (1, u "java/lang/Object"), (0, u "<init>"), (0, u "()V"), (17, .class_ 26), (1, u "jdk/internal/util/Preconditions"), (28, .class_ 56), (0, u "jdk/internal/util/Preconditions$4"), (57, .class_ 115), (0, u "jdk/internal/util/Preconditions$1"), (7, u "SIOOBE_FORMATTER"), (0, u "Ljava/util/function/BiFunction;"), (0, .class_ 126), (0, u "jdk/internal/util/Preconditions$2"), (3, u "AIOOBE_FORMATTER"), (0, .class_ 132), (0, u "jdk/internal/util/Preconditions$3"), (3, u "IOOBE_FORMATTER")] 57

def k23m0 : Method := { name := "<init>", desc := "()V", sig := { parameters := [], returnType := none }, accessFlags := 1, code := none }
/-- jdk/internal/util/Preconditions -/
def k23 : Class := { plain "jdk/internal/util/Preconditions" (some 0) with
  accessFlags := 33
  interfaces := #[]
  cf := some (fileOf pool23 24 #[.nestMembers #[55, 131, 125, 114]] #[{ accessFlags := 1, nameIndex := 5, descriptorIndex := 6, attributes := #[] }] 33 2 #[] #[{ accessFlags := 25, nameIndex := 123, descriptorIndex := 124, attributes := #[] }, { accessFlags := 25, nameIndex := 130, descriptorIndex := 124, attributes := #[] }, { accessFlags := 25, nameIndex := 136, descriptorIndex := 124, attributes := #[] }])
  fields := #[{ name := "SIOOBE_FORMATTER", type := (.object "java/util/function/BiFunction"), accessFlags := 25, slot := 0, constantValue := 0 }, { name := "AIOOBE_FORMATTER", type := (.object "java/util/function/BiFunction"), accessFlags := 25, slot := 1, constantValue := 0 }, { name := "IOOBE_FORMATTER", type := (.object "java/util/function/BiFunction"), accessFlags := 25, slot := 2, constantValue := 0 }]
  methods := #[k23m0]
  instanceTypes := #[]
  staticTypes := #[(.object "java/util/function/BiFunction"), (.object "java/util/function/BiFunction"), (.object "java/util/function/BiFunction")]
  resolved := Array.replicate 194 none
  statics := some 3 }

def pool24 : Array CpInfo := pool [(2, .class_ 4), (1, u "java/lang/Object"), (0, u "<init>"), (0, u "()V"), (12, .class_ 20), (0, u "java/util/Collections"), (63, u "r"), (0, u "Ljava/util/Random;"), (80, .class_ 167), (0, u "java/util/Collections$UnmodifiableCollection"), (6, .class_ 175), (0, u "java/util/Collections$UnmodifiableSequencedCollection"), (6, .class_ 183), (0, u "java/util/Collections$UnmodifiableSet"), (6, .class_ 191), (0, u "java/util/Collections$UnmodifiableSequencedSet"), (6, .class_ 199), (0, u "java/util/Collections$UnmodifiableSortedSet"), (6, .class_ 207), (0, u "java/util/Collections$UnmodifiableNavigableSet"), (4, .class_ 213), (0, u "java/util/Collections$UnmodifiableList"), (1, .class_ 216), (0, u "java/util/Collections$UnmodifiableRandomAccessList"), (6, .class_ 224), (0, u "java/util/Collections$UnmodifiableMap"), (6, .class_ 232), (0, u "java/util/Collections$UnmodifiableSequencedMap"), (4, .class_ 238), (0, u "java/util/Collections$UnmodifiableSortedMap"), (6, .class_ 246), (0, u "java/util/Collections$UnmodifiableNavigableMap"), (3, .class_ 251), (0, u "java/util/Collections$SynchronizedCollection"), (4, .class_ 257), (0, u "java/util/Collections$SynchronizedSet"), (4, .class_ 263), (0, u "java/util/Collections$SynchronizedSortedSet"), (1, .class_ 266), (0, u "java/util/Collections$SynchronizedNavigableSet"), (1, .class_ 269), (0, u "java/util/Collections$SynchronizedRandomAccessList"), (1, .class_ 272), (0, u "java/util/Collections$SynchronizedList"), (5, .class_ 279), (0, u "java/util/Collections$SynchronizedMap"), (1, .class_ 282), (0, u "java/util/Collections$SynchronizedSortedMap"), (1, .class_ 285), (0, u "java/util/Collections$SynchronizedNavigableMap"), (1, .class_ 288), (0, u "java/util/Collections$CheckedCollection"), (11, .class_ 301), (0, u "java/util/Collections$CheckedQueue"), (3, .class_ 306), (0, u "java/util/Collections$CheckedSet"), (3, .class_ 311), (0, u "java/util/Collections$CheckedSortedSet"), (3, .class_ 316), (0, u "java/util/Collections$CheckedNavigableSet"), (3, .class_ 321), (0, u "java/util/Collections$CheckedRandomAccessList"), (3, .class_ 326), (0, u "java/util/Collections$CheckedList"), (1, .class_ 329), (0, u "java/util/Collections$CheckedMap"), (3, .class_ 334), (0, u "java/util/Collections$CheckedSortedMap"), (3, .class_ 339), (0, u "java/util/Collections$CheckedNavigableMap"), (4, .class_ 346), (1, u "java/util/Collections$EmptyIterator"), (3, .class_ 352), (1, u "java/util/Collections$EmptyListIterator"), (2, .class_ 357), (1, u "java/util/Collections$EmptyEnumeration"), (4, u "EMPTY_SET"), (0, u "Ljava/util/Set;"), (6, u "EMPTY_LIST"), (0, u "Ljava/util/List;"), (2, u "EMPTY_MAP"), (0, u "Ljava/util/Map;"), (4, .class_ 381), (0, u "java/util/Collections$SingletonSet"), (2, .class_ 385), (0, u "java/util/Collections$1"), (1, .class_ 388), (0, u "java/util/Collections$2"), (1, .class_ 391), (0, u "java/util/Collections$SingletonList"), (1, .class_ 394), (0, u "java/util/Collections$SingletonMap"), (22, .class_ 418), (0, u "java/util/Collections$CopiesList"), (4, .class_ 425), (1, u "java/util/Collections$ReverseComparator"), (8, .class_ 435), (0, u "java/util/Collections$ReverseComparator2"), (6, .class_ 443), (0, u "java/util/Collections$3"), (25, .class_ 470), (0, u "java/util/Collections$SetFromMap"), (2, .class_ 474), (0, u "java/util/Collections$SequencedSetFromMap"), (3, .class_ 479), (0, u "java/util/Collections$AsLIFOQueue"), (11, .class_ 492), (0, u "java/util/Collections$EmptySet"), (1, .class_ 495), (0, u "java/util/Collections$EmptyList"), (1, .class_ 498), (0, u "java/util/Collections$EmptyMap"), (1, u "BINARYSEARCH_THRESHOLD"), (0, u "I"), (2, u "REVERSE_THRESHOLD"), (1, u "SHUFFLE_THRESHOLD"), (1, u "FILL_THRESHOLD"), (1, u "ROTATE_THRESHOLD"), (1, u "COPY_THRESHOLD"), (1, u "REPLACEALL_THRESHOLD"), (1, u "INDEXOFSUBLIST_THRESHOLD"), (333, .class_ 851), (0, u "java/util/Collections$CheckedMap$CheckedEntrySet"), (0, .class_ 853), (0, u "java/util/Collections$CheckedMap$CheckedEntrySet$CheckedEntry"), (0, .class_ 855), (0, u "java/util/Collections$CheckedMap$CheckedEntrySet$1"), (0, .class_ 857), (0, u "java/util/Collections$CheckedList$1"), (0, .class_ 859), (0, u "java/util/Collections$CheckedCollection$1"), (0, .class_ 861), (0, u "java/util/Collections$UnmodifiableNavigableMap$EmptyNavigableMap"), (0, .class_ 863), (0, u "java/util/Collections$UnmodifiableMap$UnmodifiableEntrySet"), (0, .class_ 865), (0, u "java/util/Collections$UnmodifiableMap$UnmodifiableEntrySet$UnmodifiableEntry"), (0, .class_ 867), (0, u "java/util/Collections$UnmodifiableMap$UnmodifiableEntrySet$UnmodifiableEntrySetSpliterator"), (0, .class_ 869), (0, u "java/util/Collections$UnmodifiableMap$UnmodifiableEntrySet$1"), (0, .class_ 871), (0, u "java/util/Collections$UnmodifiableList$1"), (0, .class_ 873), (0, u "java/util/Collections$UnmodifiableNavigableSet$EmptyNavigableSet"), (0, .class_ 875), (0, u "java/util/Collections$UnmodifiableCollection$1")] 57

def k24m0 : Method := { name := "<init>", desc := "()V", sig := { parameters := [], returnType := none }, accessFlags := 2, code := none }
/-- java/util/Collections -/
def k24 : Class := { plain "java/util/Collections" (some 0) with
  accessFlags := 33
  interfaces := #[]
  cf := some (fileOf pool24 19 #[.nestMembers #[478, 473, 469, 434, 423, 417, 393, 390, 380, 497, 494, 491, 355, 350, 344, 338, 333, 328, 850, 852, 854, 320, 325, 856, 315, 310, 305, 300, 287, 858, 284, 281, 278, 268, 271, 265, 262, 256, 250, 245, 860, 237, 231, 223, 862, 864, 866, 868, 215, 212, 870, 206, 872, 198, 190, 182, 174, 166, 874, 442, 387, 384]] #[{ accessFlags := 2, nameIndex := 5, descriptorIndex := 6, attributes := #[] }] 33 2 #[] #[{ accessFlags := 26, nameIndex := 500, descriptorIndex := 501, attributes := #[] }, { accessFlags := 26, nameIndex := 504, descriptorIndex := 501, attributes := #[] }, { accessFlags := 26, nameIndex := 506, descriptorIndex := 501, attributes := #[] }, { accessFlags := 26, nameIndex := 508, descriptorIndex := 501, attributes := #[] }, { accessFlags := 26, nameIndex := 510, descriptorIndex := 501, attributes := #[] }, { accessFlags := 26, nameIndex := 512, descriptorIndex := 501, attributes := #[] }, { accessFlags := 26, nameIndex := 514, descriptorIndex := 501, attributes := #[] }, { accessFlags := 26, nameIndex := 516, descriptorIndex := 501, attributes := #[] }, { accessFlags := 10, nameIndex := 84, descriptorIndex := 85, attributes := #[] }, { accessFlags := 25, nameIndex := 362, descriptorIndex := 363, attributes := #[] }, { accessFlags := 25, nameIndex := 370, descriptorIndex := 371, attributes := #[] }, { accessFlags := 25, nameIndex := 374, descriptorIndex := 375, attributes := #[] }])
  fields := #[{ name := "BINARYSEARCH_THRESHOLD", type := .int, accessFlags := 26, slot := 0, constantValue := 0 }, { name := "REVERSE_THRESHOLD", type := .int, accessFlags := 26, slot := 1, constantValue := 0 }, { name := "SHUFFLE_THRESHOLD", type := .int, accessFlags := 26, slot := 2, constantValue := 0 }, { name := "FILL_THRESHOLD", type := .int, accessFlags := 26, slot := 3, constantValue := 0 }, { name := "ROTATE_THRESHOLD", type := .int, accessFlags := 26, slot := 4, constantValue := 0 }, { name := "COPY_THRESHOLD", type := .int, accessFlags := 26, slot := 5, constantValue := 0 }, { name := "REPLACEALL_THRESHOLD", type := .int, accessFlags := 26, slot := 6, constantValue := 0 }, { name := "INDEXOFSUBLIST_THRESHOLD", type := .int, accessFlags := 26, slot := 7, constantValue := 0 }, { name := "r", type := (.object "java/util/Random"), accessFlags := 10, slot := 8, constantValue := 0 }, { name := "EMPTY_SET", type := (.object "java/util/Set"), accessFlags := 25, slot := 9, constantValue := 0 }, { name := "EMPTY_LIST", type := (.object "java/util/List"), accessFlags := 25, slot := 10, constantValue := 0 }, { name := "EMPTY_MAP", type := (.object "java/util/Map"), accessFlags := 25, slot := 11, constantValue := 0 }]
  methods := #[k24m0]
  instanceTypes := #[]
  staticTypes := #[.int, .int, .int, .int, .int, .int, .int, .int, (.object "java/util/Random"), (.object "java/util/Set"), (.object "java/util/List"), (.object "java/util/Map")]
  resolved := Array.replicate 933 none
  statics := some 4 }

def pool25 : Array CpInfo := pool [(8, .class_ 10), (1, u "java/lang/Iterable"), (24, .class_ 36), (0, u "java/lang/Object")] 25

/-- java/lang/Iterable -/
def k25 : Class := { plain "java/lang/Iterable" (some 0) with
  accessFlags := 1537
  interfaces := #[]
  cf := some (fileOf pool25 8 #[] #[] 1537 35 #[] #[])
  fields := #[]
  methods := #[]
  instanceTypes := #[]
  staticTypes := #[]
  resolved := Array.replicate 62 none
  statics := none }

def pool26 : Array CpInfo := pool [(10, .class_ 12), (1, u "java/util/Collection"), (47, .class_ 61), (0, u "java/lang/Object"), (0, .class_ 63), (0, u "java/lang/Iterable")] 51

/-- java/util/Collection -/
def k26 : Class := { plain "java/util/Collection" (some 0) with
  accessFlags := 1537
  interfaces := #[25]
  cf := some (fileOf pool26 10 #[] #[] 1537 60 #[62] #[])
  fields := #[]
  methods := #[]
  instanceTypes := #[]
  staticTypes := #[]
  resolved := Array.replicate 115 none
  statics := none }

def pool27 : Array CpInfo := pool [(2, .class_ 4), (1, u "java/lang/Object"), (0, u "<init>"), (0, u "()V"), (1, .class_ 10), (1, u "java/util/AbstractCollection"), (66, .class_ 78), (0, u "java/util/Collection")] 81

def k27m0 : Method := { name := "<init>", desc := "()V", sig := { parameters := [], returnType := none }, accessFlags := 4, code := none }
/-- java/util/AbstractCollection -/
def k27 : Class := { plain "java/util/AbstractCollection" (some 0) with
  accessFlags := 1057
  interfaces := #[26]
  cf := some (fileOf pool27 8 #[] #[{ accessFlags := 4, nameIndex := 5, descriptorIndex := 6, attributes := #[] }] 1057 2 #[77] #[])
  fields := #[]
  methods := #[k27m0]
  instanceTypes := #[]
  staticTypes := #[]
  resolved := Array.replicate 160 none
  statics := none }

def pool28 : Array CpInfo := pool [(8, .class_ 10), (1, u "java/util/SequencedCollection"), (15, .class_ 27), (0, u "java/lang/Object"), (0, .class_ 29), (0, u "java/util/Collection")] 27

/-- java/util/SequencedCollection -/
def k28 : Class := { plain "java/util/SequencedCollection" (some 0) with
  accessFlags := 1537
  interfaces := #[26]
  cf := some (fileOf pool28 8 #[] #[] 1537 26 #[28] #[])
  fields := #[]
  methods := #[]
  instanceTypes := #[]
  staticTypes := #[]
  resolved := Array.replicate 57 none
  statics := none }

def pool29 : Array CpInfo := pool [(8, .class_ 10), (1, u "java/util/List"), (92, .class_ 104), (0, u "java/lang/Object"), (15, .class_ 121), (0, u "java/util/SequencedCollection")] 129

/-- java/util/List -/
def k29 : Class := { plain "java/util/List" (some 0) with
  accessFlags := 1537
  interfaces := #[28]
  cf := some (fileOf pool29 8 #[] #[] 1537 103 #[120] #[])
  fields := #[]
  methods := #[]
  instanceTypes := #[]
  staticTypes := #[]
  resolved := Array.replicate 251 none
  statics := none }

def pool30 : Array CpInfo := pool [(2, .class_ 4), (1, u "java/util/AbstractCollection"), (0, u "<init>"), (0, u "()V"), (1, .class_ 10), (1, u "java/util/AbstractList"), (0, u "modCount"), (0, u "I"), (64, .class_ 78), (0, u "java/util/AbstractList$Itr"), (3, .class_ 83), (0, u "java/util/AbstractList$ListItr"), (9, .class_ 94), (0, u "java/util/AbstractList$RandomAccessSubList"), (3, .class_ 99), (0, u "java/util/AbstractList$SubList"), (33, .class_ 134), (0, u "java/util/List"), (73, .class_ 209), (0, u "java/util/AbstractList$SubList$1"), (0, .class_ 211), (0, u "java/util/AbstractList$RandomAccessSpliterator")] 6

def k30m0 : Method := { name := "<init>", desc := "()V", sig := { parameters := [], returnType := none }, accessFlags := 4, code := none }
/-- java/util/AbstractList -/
def k30 : Class := { plain "java/util/AbstractList" (some 27) with
  accessFlags := 1057
  interfaces := #[29]
  cf := some (fileOf pool30 8 #[.nestMembers #[93, 98, 208, 210, 82, 77]] #[{ accessFlags := 4, nameIndex := 5, descriptorIndex := 6, attributes := #[] }] 1057 2 #[133] #[{ accessFlags := 132, nameIndex := 11, descriptorIndex := 12, attributes := #[] }])
  fields := #[{ name := "modCount", type := .int, accessFlags := 132, slot := 0, constantValue := 0 }]
  methods := #[k30m0]
  instanceTypes := #[.int]
  staticTypes := #[]
  resolved := Array.replicate 218 none
  statics := none }

def pool31 : Array CpInfo := pool [(1, .class_ 2), (0, u "java/util/RandomAccess"), (0, .class_ 4), (0, u "java/lang/Object")] 2

/-- java/util/RandomAccess -/
def k31 : Class := { plain "java/util/RandomAccess" (some 0) with
  accessFlags := 1537
  interfaces := #[]
  cf := some (fileOf pool31 1 #[] #[] 1537 3 #[] #[])
  fields := #[]
  methods := #[]
  instanceTypes := #[]
  staticTypes := #[]
  resolved := Array.replicate 7 none
  statics := none }

def pool32 : Array CpInfo := pool [(2, .class_ 4), (1, u "java/util/AbstractList"), (0, u "<init>"), (0, u "()V"), (1, .class_ 10), (1, u "java/util/Collections"), (54, .class_ 66), (0, u "java/util/Collections$EmptyList"), (0, .class_ 68), (0, u "java/util/RandomAccess"), (0, .class_ 70), (0, u "java/io/Serializable"), (0, u "serialVersionUID"), (0, u "J")] 77

def k32m0 : Method := { name := "<init>", desc := "()V", sig := { parameters := [], returnType := none }, accessFlags := 2, code := none }
/-- java/util/Collections$EmptyList -/
def k32 : Class := { plain "java/util/Collections$EmptyList" (some 30) with
  accessFlags := 32
  interfaces := #[31, 2]
  cf := some (fileOf pool32 65 #[.nestHost 8] #[{ accessFlags := 2, nameIndex := 5, descriptorIndex := 6, attributes := #[] }] 32 2 #[67, 69] #[{ accessFlags := 26, nameIndex := 71, descriptorIndex := 72, attributes := #[] }])
  fields := #[{ name := "serialVersionUID", type := .long, accessFlags := 26, slot := 0, constantValue := 0 }]
  methods := #[k32m0]
  instanceTypes := #[.int]
  staticTypes := #[.long]
  resolved := Array.replicate 150 none
  statics := none }

def pool33 : Array CpInfo := pool [(2, .class_ 4), (1, u "java/lang/StackTraceElement"), (0, u "<init>"), (2, .class_ 10), (1, u "java/lang/Object"), (0, u "()V"), (2, u "format"), (0, u "B"), (2, u "classLoaderName"), (0, u "Ljava/lang/String;"), (2, u "moduleName"), (2, u "moduleVersion"), (12, u "declaringClass"), (4, u "methodName"), (2, u "fileName"), (2, u "lineNumber"), (0, u "I"), (65, u "declaringClassObject"), (0, u "Ljava/lang/Class;"), (33, .class_ 153), (1, u "java/lang/StackTraceElement$HashedModules"), (17, .class_ 172), (0, u "java/io/Serializable"), (0, u "NATIVE_METHOD"), (1, u "UNKNOWN_SOURCE"), (2, u "BUILTIN_CLASS_LOADER"), (1, u "JDK_NON_UPGRADEABLE_MODULE"), (1, u "serialVersionUID"), (0, u "J")] 51

def k33m0 : Method := { name := "<init>", desc := "()V", sig := { parameters := [], returnType := none }, accessFlags := 2, code := none }
/-- java/lang/StackTraceElement -/
def k33 : Class := { plain "java/lang/StackTraceElement" (some 0) with
  accessFlags := 49
  interfaces := #[2]
  cf := some (fileOf pool33 2 #[.nestMembers #[151]] #[{ accessFlags := 2, nameIndex := 5, descriptorIndex := 11, attributes := #[] }] 49 8 #[171] #[{ accessFlags := 26, nameIndex := 173, descriptorIndex := 19, attributes := #[] }, { accessFlags := 26, nameIndex := 175, descriptorIndex := 19, attributes := #[] }, { accessFlags := 130, nameIndex := 116, descriptorIndex := 117, attributes := #[] }, { accessFlags := 2, nameIndex := 18, descriptorIndex := 19, attributes := #[] }, { accessFlags := 2, nameIndex := 22, descriptorIndex := 19, attributes := #[] }, { accessFlags := 2, nameIndex := 25, descriptorIndex := 19, attributes := #[] }, { accessFlags := 2, nameIndex := 38, descriptorIndex := 19, attributes := #[] }, { accessFlags := 2, nameIndex := 43, descriptorIndex := 19, attributes := #[] }, { accessFlags := 2, nameIndex := 46, descriptorIndex := 19, attributes := #[] }, { accessFlags := 2, nameIndex := 49, descriptorIndex := 50, attributes := #[] }, { accessFlags := 2, nameIndex := 14, descriptorIndex := 15, attributes := #[] }, { accessFlags := 26, nameIndex := 178, descriptorIndex := 15, attributes := #[] }, { accessFlags := 26, nameIndex := 180, descriptorIndex := 15, attributes := #[] }, { accessFlags := 26, nameIndex := 182, descriptorIndex := 183, attributes := #[] }])
  fields := #[{ name := "NATIVE_METHOD", type := (.object "java/lang/String"), accessFlags := 26, slot := 0, constantValue := 0 }, { name := "UNKNOWN_SOURCE", type := (.object "java/lang/String"), accessFlags := 26, slot := 1, constantValue := 0 }, { name := "declaringClassObject", type := (.object "java/lang/Class"), accessFlags := 130, slot := 0, constantValue := 0 }, { name := "classLoaderName", type := (.object "java/lang/String"), accessFlags := 2, slot := 1, constantValue := 0 }, { name := "moduleName", type := (.object "java/lang/String"), accessFlags := 2, slot := 2, constantValue := 0 }, { name := "moduleVersion", type := (.object "java/lang/String"), accessFlags := 2, slot := 3, constantValue := 0 }, { name := "declaringClass", type := (.object "java/lang/String"), accessFlags := 2, slot := 4, constantValue := 0 }, { name := "methodName", type := (.object "java/lang/String"), accessFlags := 2, slot := 5, constantValue := 0 }, { name := "fileName", type := (.object "java/lang/String"), accessFlags := 2, slot := 6, constantValue := 0 }, { name := "lineNumber", type := .int, accessFlags := 2, slot := 7, constantValue := 0 }, { name := "format", type := .byte, accessFlags := 2, slot := 8, constantValue := 0 }, { name := "BUILTIN_CLASS_LOADER", type := .byte, accessFlags := 26, slot := 2, constantValue := 0 }, { name := "JDK_NON_UPGRADEABLE_MODULE", type := .byte, accessFlags := 26, slot := 3, constantValue := 0 }, { name := "serialVersionUID", type := .long, accessFlags := 26, slot := 4, constantValue := 0 }]
  methods := #[k33m0]
  instanceTypes := #[(.object "java/lang/Class"), (.object "java/lang/String"), (.object "java/lang/String"), (.object "java/lang/String"), (.object "java/lang/String"), (.object "java/lang/String"), (.object "java/lang/String"), .int, .byte]
  staticTypes := #[(.object "java/lang/String"), (.object "java/lang/String"), .byte, .byte, .long]
  resolved := Array.replicate 235 none
  statics := none }

def pool34 : Array CpInfo := pool [(1, u "java/lang/Cloneable"), (0, .class_ 1), (0, u "java/lang/Object"), (0, .class_ 3)] 3

/-- java/lang/Cloneable -/
def k34 : Class := { plain "java/lang/Cloneable" (some 0) with
  accessFlags := 1537
  interfaces := #[]
  cf := some (fileOf pool34 2 #[] #[] 1537 4 #[] #[])
  fields := #[]
  methods := #[]
  instanceTypes := #[]
  staticTypes := #[]
  resolved := Array.replicate 8 none
  statics := none }

/-- the primitive byte -/
def k35 : Class := { plain "byte" none with kind := .primitive 'B', accessFlags := 0x411 }
/-- [B -/
def k36 : Class := { plain "[B" (some 0) with kind := .array 35 .byte, interfaces := #[34, 2], accessFlags := 1041 }

/-- the primitive char -/
def k37 : Class := { plain "char" none with kind := .primitive 'C', accessFlags := 0x411 }
/-- [C -/
def k38 : Class := { plain "[C" (some 0) with kind := .array 37 .char, interfaces := #[34, 2], accessFlags := 1041 }

/-- the primitive int -/
def k39 : Class := { plain "int" none with kind := .primitive 'I', accessFlags := 0x411 }
/-- [I -/
def k40 : Class := { plain "[I" (some 0) with kind := .array 39 .int, interfaces := #[34, 2], accessFlags := 1041 }

/-- [Ljava/lang/Object; -/
def k41 : Class := { plain "[Ljava/lang/Object;" (some 0) with kind := .array 0 (.object "java/lang/Object"), interfaces := #[34, 2], accessFlags := 1041 }

/-- [Ljava/lang/StackTraceElement; -/
def k42 : Class := { plain "[Ljava/lang/StackTraceElement;" (some 0) with kind := .array 33 (.object "java/lang/StackTraceElement"), interfaces := #[34, 2], accessFlags := 1041 }

/-- [Ljava/lang/Throwable; -/
def k43 : Class := { plain "[Ljava/lang/Throwable;" (some 0) with kind := .array 9 (.object "java/lang/Throwable"), interfaces := #[34, 2], accessFlags := 1041 }

def heap : Heap := #[{ cls := 7, slots := #[.long 0, .int 1, .null, .int 0, .null, .int 0, .int 0], vm := .statics 7 },
  { cls := 9, slots := #[.long 0, .ref 6, .ref 7, .null, .null, .null, .null, .ref 8, .int 1], vm := .statics 9 },
  { cls := 14, slots := #[.null, .ref 5, .null, .null, .null], vm := .statics 14 },
  { cls := 23, slots := #[.null, .null, .null], vm := .statics 23 },
  { cls := 24, slots := #[.int 0, .int 0, .int 0, .int 0, .int 0, .int 0, .int 0, .int 0, .null, .null, .ref 7, .null], vm := .statics 24 },
  { cls := 14, slots := #[.null, .int 0, .int 0, .int 0], vm := .none },
  { cls := 42, slots := #[], vm := .none },
  { cls := 32, slots := #[.int 0], vm := .none },
  { cls := 43, slots := #[], vm := .none }]
def classes : Array Class := #[k0, k1, k2, k3, k4, k5, k6, k7, k8, k9, k10, k11, k12, k13, k14, k15, k16, k17, k18, k19, k20, k21, k22, k23, k24, k25, k26, k27, k28, k29, k30, k31, k32, k33, k34, k35, k36, k37, k38, k39, k40, k41, k42, k43]
def interned : List (Array UInt16 × Addr) := []
def slotsUsed : Nat := 41
def theMethod : MethodId := ⟨1, 3⟩
def args0 : Array Value := #[.int 5, .int 5, .int 5, .int 5]
def aboutOver (below : List Frame) : State where
  vm := { classes := classes, interned := interned.toArray }
  heap := heap
  slotsUsed := slotsUsed
  threads := #[{ frames := .invoking theMethod args0 :: below }]
def below0 : List Frame := [.native { method := ⟨0, 0⟩, args := #[] }]
def about1 : State := aboutOver below0
def p0 : Program := .bare "" "" ""
def e0 : Env := launch0.env 0 0 0
theorem w_frames : about1.frames = Frame.invoking theMethod args0 :: below0 := rfl
set_option maxRecDepth 65536 in
theorem w_args : argsFit about1.vm theMethod args0 = true := by decide +kernel
set_option maxRecDepth 65536 in
theorem w_heap : heapFits about1 = true := by decide +kernel
set_option maxRecDepth 65536 in
theorem w_runnable : about1.curStatus? = some .runnable := by decide +kernel
set_option maxRecDepth 65536 in
theorem w_alone : about1.alone = true := by decide +kernel
set_option maxRecDepth 65536 in
theorem w_named : about1.methodNamed? x = some theMethod := by decide +kernel
set_option maxRecDepth 65536 in
theorem w_hears : about1.hears theMethod below0 = true := by decide +kernel
set_option maxRecDepth 65536 in
theorem w_ripe : about1.ripe theMethod args0 below0 = true := by decide +kernel
theorem w_running : about1.status = .running := rfl
set_option maxRecDepth 65536 in
theorem w_room : about1.hasRoom e0.platform room_1 = true :=
  launch0.hasRoom_least _ room_1 (by decide +kernel) (by decide +kernel) (by decide +kernel) (by decide +kernel) (by decide +kernel) (by decide +kernel)
theorem allAtoms_all (ts : List Jvm.Cond) (a : Array Jvm.Value) (st : Jvm.State) : (allAtoms ts).before a st = ts.all (fun c => c.before a st) := by
  induction ts with
  | nil => rfl
  | cons c t ih =>
    show (Jvm.Cond.and c (allAtoms t)).before a st = _
    rw [Jvm.Cond.before_and, ih, List.all_cons]
def words1 : List Jvm.Cond := Jvm.Cond.code x code maxLocals ret :: tables_1
/-- a 'code' word, met by the world's own term for the bytes: nothing is compared byte by byte -/
theorem code_word {y : MethodName} {bytes : ByteArray} {mx : Nat} {rt : Option FieldType} {a : Array Value} {s : State} {m : MethodId} {meth : Method} {c : Code} (h1 : s.methodNamed? y = some m) (h2 : s.vm.method? m = some meth) (h3 : meth.code = some c) (h4 : c.code = bytes)
    (h5 : (c.maxLocals == mx && c.exceptionTable.isEmpty && decide (c.maxStack ≤ mostOperands) && decide (meth.sig.returnType = rt) && !meth.locks && decide (parseMethodDescriptor y.desc = some meth.sig)) = true) : (Jvm.Cond.code y bytes mx rt).before a s = true := by
  simp only [Bool.and_eq_true, beq_iff_eq, Bool.not_eq_true', decide_eq_true_eq] at h5
  obtain ⟨⟨⟨⟨⟨g1, g2⟩, g3⟩, g4⟩, g5⟩, g6⟩ := h5
  simp [Cond.before, Cond.holds, Cond.value, h1, h2, h3, h4, g1, g2, g3, g4, g5, g6]
def isCode : Jvm.Cond → Bool
  | .code _ _ _ _ => true
  | _ => false
theorem all_split {L : List Jvm.Cond} {P : Jvm.Cond → Bool} (h1 : L.all (fun c => isCode c || P c) = true) (h2 : ∀ c ∈ L.filter isCode, P c = true) : L.all P = true := by
  refine List.all_eq_true.mpr fun c hc => ?_
  have h := List.all_eq_true.mp h1 c hc
  rcases Bool.eq_false_or_eq_true (isCode c) with hi | hi
  · exact h2 c (List.mem_filter.mpr ⟨hc, hi⟩)
  · simpa [hi] using h
set_option maxRecDepth 65536 in
theorem w_c0 : (Jvm.Cond.code x code maxLocals ret).before args0 about1 = true := code_word (m := ⟨1, 3⟩) (meth := k1m3) (c := k1c3) (by decide +kernel) rfl rfl rfl (by decide +kernel)
set_option maxRecDepth 65536 in
theorem w_c1 : (Jvm.Cond.code ({ cls := "com/example/shard_feed/shardfeed/RefusalUnknownUserPinLaw", name := "nameOf", desc := "(ICCC)Ljava/lang/String;" } : Jvm.MethodName) method_2_code (5 : Nat) (Option.some (Jvm.ClassFile.FieldType.object "java/lang/String"))).before args0 about1 = true := code_word (m := ⟨1, 1⟩) (meth := k1m1) (c := k1c1) (by decide +kernel) rfl rfl rfl (by decide +kernel)
set_option maxRecDepth 65536 in
theorem w_c2 : (Jvm.Cond.code ({ cls := "java/lang/String", name := "<init>", desc := "([C)V" } : Jvm.MethodName) jdk_42_method_3_code (2 : Nat) (Option.none : Option Jvm.ClassFile.FieldType)).before args0 about1 = true := code_word (m := ⟨7, 1⟩) (meth := k7m1) (c := k7c1) (by decide +kernel) rfl rfl rfl (by decide +kernel)
set_option maxRecDepth 65536 in
theorem w_c3 : (Jvm.Cond.code ({ cls := "java/lang/String", name := "<init>", desc := "([CIILjava/lang/Void;)V" } : Jvm.MethodName) jdk_42_method_149_code (6 : Nat) (Option.none : Option Jvm.ClassFile.FieldType)).before args0 about1 = true := code_word (m := ⟨7, 6⟩) (meth := k7m6) (c := k7c6) (by decide +kernel) rfl rfl rfl (by decide +kernel)
set_option maxRecDepth 65536 in
theorem w_c4 : (Jvm.Cond.code ({ cls := "java/lang/Object", name := "<init>", desc := "()V" } : Jvm.MethodName) object_method_1_code (1 : Nat) (Option.none : Option Jvm.ClassFile.FieldType)).before args0 about1 = true := code_word (m := ⟨0, 0⟩) (meth := k0m0) (c := k0c0) (by decide +kernel) rfl rfl rfl (by decide +kernel)
set_option maxRecDepth 65536 in
theorem w_c5 : (Jvm.Cond.code ({ cls := "java/lang/StringUTF16", name := "compress", desc := "([CII)[B" } : Jvm.MethodName) jdk_52_method_16_code (6 : Nat) (Option.some (Jvm.ClassFile.FieldType.array Jvm.ClassFile.FieldType.byte))).before args0 about1 = true := code_word (m := ⟨8, 2⟩) (meth := k8m2) (c := k8c2) (by decide +kernel) rfl rfl rfl (by decide +kernel)
set_option maxRecDepth 65536 in
theorem w_c6 : (Jvm.Cond.code ({ cls := "java/lang/StringUTF16", name := "compress", desc := "([CI[BII)I" } : Jvm.MethodName) jdk_52_method_21_code (7 : Nat) (Option.some Jvm.ClassFile.FieldType.int)).before args0 about1 = true := code_word (m := ⟨8, 3⟩) (meth := k8m3) (c := k8c3) (by decide +kernel) rfl rfl rfl (by decide +kernel)
set_option maxRecDepth 65536 in
theorem w_c7 : (Jvm.Cond.code ({ cls := "java/lang/StringUTF16", name := "coderFromArrayLen", desc := "([BI)B" } : Jvm.MethodName) jdk_52_method_15_code (2 : Nat) (Option.some Jvm.ClassFile.FieldType.byte)).before args0 about1 = true := code_word (m := ⟨8, 1⟩) (meth := k8m1) (c := k8c1) (by decide +kernel) rfl rfl rfl (by decide +kernel)
set_option maxRecDepth 65536 in
theorem w_c8 : (Jvm.Cond.code ({ cls := "com/example/shard_feed/shardfeed/RefusalUnknownUserPinLaw", name := "expected", desc := "(ICCC)Ljava/lang/String;" } : Jvm.MethodName) method_3_code (5 : Nat) (Option.some (Jvm.ClassFile.FieldType.object "java/lang/String"))).before args0 about1 = true := code_word (m := ⟨1, 2⟩) (meth := k1m2) (c := k1c2) (by decide +kernel) rfl rfl rfl (by decide +kernel)
set_option maxRecDepth 65536 in
theorem w_c9 : (Jvm.Cond.code ({ cls := "com/example/shard_feed/shardfeed/Refusal", name := "unknownUser", desc := "(Ljava/lang/String;)Lcom/example/shard_feed/shardfeed/Refusal;" } : Jvm.MethodName) prog_9_method_3_code (1 : Nat) (Option.some (Jvm.ClassFile.FieldType.object "com/example/shard_feed/shardfeed/Refusal"))).before args0 about1 = true := code_word (m := ⟨12, 2⟩) (meth := k12m2) (c := k12c2) (by decide +kernel) rfl rfl rfl (by decide +kernel)
set_option maxRecDepth 65536 in
theorem w_c10 : (Jvm.Cond.code ({ cls := "java/lang/StringBuilder", name := "<init>", desc := "()V" } : Jvm.MethodName) jdk_67_method_1_code (1 : Nat) (Option.none : Option Jvm.ClassFile.FieldType)).before args0 about1 = true := code_word (m := ⟨17, 0⟩) (meth := k17m0) (c := k17c0) (by decide +kernel) rfl rfl rfl (by decide +kernel)
set_option maxRecDepth 65536 in
theorem w_c11 : (Jvm.Cond.code ({ cls := "java/lang/AbstractStringBuilder", name := "<init>", desc := "(I)V" } : Jvm.MethodName) jdk_68_method_2_code (2 : Nat) (Option.none : Option Jvm.ClassFile.FieldType)).before args0 about1 = true := code_word (m := ⟨16, 1⟩) (meth := k16m1) (c := k16c1) (by decide +kernel) rfl rfl rfl (by decide +kernel)
set_option maxRecDepth 65536 in
theorem w_c12 : (Jvm.Cond.code ({ cls := "java/lang/StringBuilder", name := "append", desc := "(Ljava/lang/String;)Ljava/lang/StringBuilder;" } : Jvm.MethodName) jdk_67_method_7_code (2 : Nat) (Option.some (Jvm.ClassFile.FieldType.object "java/lang/StringBuilder"))).before args0 about1 = true := code_word (m := ⟨17, 1⟩) (meth := k17m1) (c := k17c1) (by decide +kernel) rfl rfl rfl (by decide +kernel)
set_option maxRecDepth 65536 in
theorem w_c13 : (Jvm.Cond.code ({ cls := "java/lang/AbstractStringBuilder", name := "append", desc := "(Ljava/lang/String;)Ljava/lang/AbstractStringBuilder;" } : Jvm.MethodName) jdk_68_method_22_code (3 : Nat) (Option.some (Jvm.ClassFile.FieldType.object "java/lang/AbstractStringBuilder"))).before args0 about1 = true := code_word (m := ⟨16, 5⟩) (meth := k16m5) (c := k16c5) (by decide +kernel) rfl rfl rfl (by decide +kernel)
set_option maxRecDepth 65536 in
theorem w_c14 : (Jvm.Cond.code ({ cls := "java/lang/String", name := "length", desc := "()I" } : Jvm.MethodName) jdk_42_method_54_code (1 : Nat) (Option.some Jvm.ClassFile.FieldType.int)).before args0 about1 = true := code_word (m := ⟨7, 3⟩) (meth := k7m3) (c := k7c3) (by decide +kernel) rfl rfl rfl (by decide +kernel)
set_option maxRecDepth 65536 in
theorem w_c15 : (Jvm.Cond.code ({ cls := "java/lang/String", name := "coder", desc := "()B" } : Jvm.MethodName) jdk_42_method_152_code (1 : Nat) (Option.some Jvm.ClassFile.FieldType.byte)).before args0 about1 = true := code_word (m := ⟨7, 8⟩) (meth := k7m8) (c := k7c8) (by decide +kernel) rfl rfl rfl (by decide +kernel)
set_option maxRecDepth 65536 in
theorem w_c16 : (Jvm.Cond.code ({ cls := "java/lang/AbstractStringBuilder", name := "ensureCapacityInternal", desc := "(I)V" } : Jvm.MethodName) jdk_68_method_9_code (3 : Nat) (Option.none : Option Jvm.ClassFile.FieldType)).before args0 about1 = true := code_word (m := ⟨16, 3⟩) (meth := k16m3) (c := k16c3) (by decide +kernel) rfl rfl rfl (by decide +kernel)
set_option maxRecDepth 65536 in
theorem w_c17 : (Jvm.Cond.code ({ cls := "java/lang/AbstractStringBuilder", name := "newCapacity", desc := "(I)I" } : Jvm.MethodName) jdk_68_method_10_code (6 : Nat) (Option.some Jvm.ClassFile.FieldType.int)).before args0 about1 = true := code_word (m := ⟨16, 4⟩) (meth := k16m4) (c := k16c4) (by decide +kernel) rfl rfl rfl (by decide +kernel)
set_option maxRecDepth 65536 in
theorem w_c18 : (Jvm.Cond.code ({ cls := "jdk/internal/util/ArraysSupport", name := "newLength", desc := "(III)I" } : Jvm.MethodName) jdk_48_method_27_code (4 : Nat) (Option.some Jvm.ClassFile.FieldType.int)).before args0 about1 = true := code_word (m := ⟨18, 1⟩) (meth := k18m1) (c := k18c1) (by decide +kernel) rfl rfl rfl (by decide +kernel)
set_option maxRecDepth 65536 in
theorem w_c19 : (Jvm.Cond.code ({ cls := "java/lang/Math", name := "max", desc := "(II)I" } : Jvm.MethodName) jdk_29_method_65_code (2 : Nat) (Option.some Jvm.ClassFile.FieldType.int)).before args0 about1 = true := code_word (m := ⟨19, 1⟩) (meth := k19m1) (c := k19c1) (by decide +kernel) rfl rfl rfl (by decide +kernel)
set_option maxRecDepth 65536 in
theorem w_c20 : (Jvm.Cond.code ({ cls := "java/util/Arrays", name := "copyOf", desc := "([BI)[B" } : Jvm.MethodName) jdk_65_method_121_code (3 : Nat) (Option.some (Jvm.ClassFile.FieldType.array Jvm.ClassFile.FieldType.byte))).before args0 about1 = true := code_word (m := ⟨20, 1⟩) (meth := k20m1) (c := k20c1) (by decide +kernel) rfl rfl rfl (by decide +kernel)
set_option maxRecDepth 65536 in
theorem w_c21 : (Jvm.Cond.code ({ cls := "java/lang/Math", name := "min", desc := "(II)I" } : Jvm.MethodName) jdk_29_method_69_code (2 : Nat) (Option.some Jvm.ClassFile.FieldType.int)).before args0 about1 = true := code_word (m := ⟨19, 2⟩) (meth := k19m2) (c := k19c2) (by decide +kernel) rfl rfl rfl (by decide +kernel)
set_option maxRecDepth 65536 in
theorem w_c22 : (Jvm.Cond.code ({ cls := "java/lang/AbstractStringBuilder", name := "putStringAt", desc := "(ILjava/lang/String;)V" } : Jvm.MethodName) jdk_68_method_73_code (3 : Nat) (Option.none : Option Jvm.ClassFile.FieldType)).before args0 about1 = true := code_word (m := ⟨16, 10⟩) (meth := k16m10) (c := k16c10) (by decide +kernel) rfl rfl rfl (by decide +kernel)
set_option maxRecDepth 65536 in
theorem w_c23 : (Jvm.Cond.code ({ cls := "java/lang/AbstractStringBuilder", name := "inflateIfNeededFor", desc := "(Ljava/lang/String;)V" } : Jvm.MethodName) jdk_68_method_71_code (2 : Nat) (Option.none : Option Jvm.ClassFile.FieldType)).before args0 about1 = true := code_word (m := ⟨16, 9⟩) (meth := k16m9) (c := k16c9) (by decide +kernel) rfl rfl rfl (by decide +kernel)
set_option maxRecDepth 65536 in
theorem w_c24 : (Jvm.Cond.code ({ cls := "java/lang/String", name := "getBytes", desc := "([BIB)V" } : Jvm.MethodName) jdk_42_method_147_code (4 : Nat) (Option.none : Option Jvm.ClassFile.FieldType)).before args0 about1 = true := code_word (m := ⟨7, 5⟩) (meth := k7m5) (c := k7c5) (by decide +kernel) rfl rfl rfl (by decide +kernel)
set_option maxRecDepth 65536 in
theorem w_c25 : (Jvm.Cond.code ({ cls := "java/lang/StringBuilder", name := "toString", desc := "()Ljava/lang/String;" } : Jvm.MethodName) jdk_67_method_42_code (1 : Nat) (Option.some (Jvm.ClassFile.FieldType.object "java/lang/String"))).before args0 about1 = true := code_word (m := ⟨17, 2⟩) (meth := k17m2) (c := k17c2) (by decide +kernel) rfl rfl rfl (by decide +kernel)
set_option maxRecDepth 65536 in
theorem w_c26 : (Jvm.Cond.code ({ cls := "java/lang/String", name := "<init>", desc := "(Ljava/lang/StringBuilder;)V" } : Jvm.MethodName) jdk_42_method_53_code (2 : Nat) (Option.none : Option Jvm.ClassFile.FieldType)).before args0 about1 = true := code_word (m := ⟨7, 2⟩) (meth := k7m2) (c := k7c2) (by decide +kernel) rfl rfl rfl (by decide +kernel)
set_option maxRecDepth 65536 in
theorem w_c27 : (Jvm.Cond.code ({ cls := "java/lang/String", name := "<init>", desc := "(Ljava/lang/AbstractStringBuilder;Ljava/lang/Void;)V" } : Jvm.MethodName) jdk_42_method_150_code (5 : Nat) (Option.none : Option Jvm.ClassFile.FieldType)).before args0 about1 = true := code_word (m := ⟨7, 7⟩) (meth := k7m7) (c := k7c7) (by decide +kernel) rfl rfl rfl (by decide +kernel)
set_option maxRecDepth 65536 in
theorem w_c28 : (Jvm.Cond.code ({ cls := "java/lang/AbstractStringBuilder", name := "getValue", desc := "()[B" } : Jvm.MethodName) jdk_68_method_64_code (1 : Nat) (Option.some (Jvm.ClassFile.FieldType.array Jvm.ClassFile.FieldType.byte))).before args0 about1 = true := code_word (m := ⟨16, 7⟩) (meth := k16m7) (c := k16c7) (by decide +kernel) rfl rfl rfl (by decide +kernel)
set_option maxRecDepth 65536 in
theorem w_c29 : (Jvm.Cond.code ({ cls := "java/lang/StringBuilder", name := "length", desc := "()I" } : Jvm.MethodName) jdk_67_method_93_code (1 : Nat) (Option.some Jvm.ClassFile.FieldType.int)).before args0 about1 = true := code_word (m := ⟨17, 3⟩) (meth := k17m3) (c := k17c3) (by decide +kernel) rfl rfl rfl (by decide +kernel)
set_option maxRecDepth 65536 in
theorem w_c30 : (Jvm.Cond.code ({ cls := "java/lang/AbstractStringBuilder", name := "length", desc := "()I" } : Jvm.MethodName) jdk_68_method_6_code (1 : Nat) (Option.some Jvm.ClassFile.FieldType.int)).before args0 about1 = true := code_word (m := ⟨16, 2⟩) (meth := k16m2) (c := k16c2) (by decide +kernel) rfl rfl rfl (by decide +kernel)
set_option maxRecDepth 65536 in
theorem w_c31 : (Jvm.Cond.code ({ cls := "java/lang/AbstractStringBuilder", name := "isLatin1", desc := "()Z" } : Jvm.MethodName) jdk_68_method_68_code (1 : Nat) (Option.some Jvm.ClassFile.FieldType.boolean)).before args0 about1 = true := code_word (m := ⟨16, 8⟩) (meth := k16m8) (c := k16c8) (by decide +kernel) rfl rfl rfl (by decide +kernel)
set_option maxRecDepth 65536 in
theorem w_c32 : (Jvm.Cond.code ({ cls := "java/util/Arrays", name := "copyOfRange", desc := "([BII)[B" } : Jvm.MethodName) jdk_65_method_132_code (3 : Nat) (Option.some (Jvm.ClassFile.FieldType.array Jvm.ClassFile.FieldType.byte))).before args0 about1 = true := code_word (m := ⟨20, 3⟩) (meth := k20m3) (c := k20c3) (by decide +kernel) rfl rfl rfl (by decide +kernel)
set_option maxRecDepth 65536 in
theorem w_c33 : (Jvm.Cond.code ({ cls := "java/util/Arrays", name := "copyOfRangeByte", desc := "([BII)[B" } : Jvm.MethodName) jdk_65_method_133_code (5 : Nat) (Option.some (Jvm.ClassFile.FieldType.array Jvm.ClassFile.FieldType.byte))).before args0 about1 = true := code_word (m := ⟨20, 4⟩) (meth := k20m4) (c := k20c4) (by decide +kernel) rfl rfl rfl (by decide +kernel)
set_option maxRecDepth 65536 in
theorem w_c34 : (Jvm.Cond.code ({ cls := "java/util/Arrays", name := "checkLength", desc := "(II)V" } : Jvm.MethodName) jdk_65_method_131_code (2 : Nat) (Option.none : Option Jvm.ClassFile.FieldType)).before args0 about1 = true := code_word (m := ⟨20, 2⟩) (meth := k20m2) (c := k20c2) (by decide +kernel) rfl rfl rfl (by decide +kernel)
set_option maxRecDepth 65536 in
theorem w_c35 : (Jvm.Cond.code ({ cls := "com/example/shard_feed/shardfeed/Refusal", name := "<init>", desc := "(Lcom/example/shard_feed/shardfeed/Refusal$Reason;Ljava/lang/String;)V" } : Jvm.MethodName) prog_9_method_1_code (3 : Nat) (Option.none : Option Jvm.ClassFile.FieldType)).before args0 about1 = true := code_word (m := ⟨12, 0⟩) (meth := k12m0) (c := k12c0) (by decide +kernel) rfl rfl rfl (by decide +kernel)
set_option maxRecDepth 65536 in
theorem w_c36 : (Jvm.Cond.code ({ cls := "com/example/shard_feed/shardfeed/Refusal", name := "<init>", desc := "(Lcom/example/shard_feed/shardfeed/Refusal$Reason;Ljava/lang/String;I)V" } : Jvm.MethodName) prog_9_method_2_code (4 : Nat) (Option.none : Option Jvm.ClassFile.FieldType)).before args0 about1 = true := code_word (m := ⟨12, 1⟩) (meth := k12m1) (c := k12c1) (by decide +kernel) rfl rfl rfl (by decide +kernel)
set_option maxRecDepth 65536 in
theorem w_c37 : (Jvm.Cond.code ({ cls := "java/lang/RuntimeException", name := "<init>", desc := "(Ljava/lang/String;)V" } : Jvm.MethodName) jdk_58_method_2_code (2 : Nat) (Option.none : Option Jvm.ClassFile.FieldType)).before args0 about1 = true := code_word (m := ⟨11, 1⟩) (meth := k11m1) (c := k11c1) (by decide +kernel) rfl rfl rfl (by decide +kernel)
set_option maxRecDepth 65536 in
theorem w_c38 : (Jvm.Cond.code ({ cls := "java/lang/Exception", name := "<init>", desc := "(Ljava/lang/String;)V" } : Jvm.MethodName) jdk_59_method_2_code (2 : Nat) (Option.none : Option Jvm.ClassFile.FieldType)).before args0 about1 = true := code_word (m := ⟨10, 1⟩) (meth := k10m1) (c := k10c1) (by decide +kernel) rfl rfl rfl (by decide +kernel)
set_option maxRecDepth 65536 in
theorem w_c39 : (Jvm.Cond.code ({ cls := "java/lang/Throwable", name := "<init>", desc := "(Ljava/lang/String;)V" } : Jvm.MethodName) jdk_78_method_2_code (2 : Nat) (Option.none : Option Jvm.ClassFile.FieldType)).before args0 about1 = true := code_word (m := ⟨9, 1⟩) (meth := k9m1) (c := k9c1) (by decide +kernel) rfl rfl rfl (by decide +kernel)
set_option maxRecDepth 65536 in
theorem w_c40 : (Jvm.Cond.code ({ cls := "java/lang/Throwable", name := "<init>", desc := "()V" } : Jvm.MethodName) jdk_78_method_1_code (1 : Nat) (Option.none : Option Jvm.ClassFile.FieldType)).before args0 about1 = true := code_word (m := ⟨9, 0⟩) (meth := k9m0) (c := k9c0) (by decide +kernel) rfl rfl rfl (by decide +kernel)
set_option maxRecDepth 65536 in
theorem w_c41 : (Jvm.Cond.code ({ cls := "com/example/shard_feed/shardfeed/Refusal", name := "reason", desc := "()Lcom/example/shard_feed/shardfeed/Refusal$Reason;" } : Jvm.MethodName) prog_9_method_6_code (1 : Nat) (Option.some (Jvm.ClassFile.FieldType.object "com/example/shard_feed/shardfeed/Refusal$Reason"))).before args0 about1 = true := code_word (m := ⟨12, 3⟩) (meth := k12m3) (c := k12c3) (by decide +kernel) rfl rfl rfl (by decide +kernel)
set_option maxRecDepth 65536 in
theorem w_c42 : (Jvm.Cond.code ({ cls := "com/example/shard_feed/shardfeed/Refusal", name := "line", desc := "()I" } : Jvm.MethodName) prog_9_method_7_code (1 : Nat) (Option.some Jvm.ClassFile.FieldType.int)).before args0 about1 = true := code_word (m := ⟨12, 4⟩) (meth := k12m4) (c := k12c4) (by decide +kernel) rfl rfl rfl (by decide +kernel)
set_option maxRecDepth 65536 in
theorem w_c43 : (Jvm.Cond.code ({ cls := "java/lang/Throwable", name := "getMessage", desc := "()Ljava/lang/String;" } : Jvm.MethodName) jdk_78_method_6_code (1 : Nat) (Option.some (Jvm.ClassFile.FieldType.object "java/lang/String"))).before args0 about1 = true := code_word (m := ⟨9, 2⟩) (meth := k9m2) (c := k9c2) (by decide +kernel) rfl rfl rfl (by decide +kernel)
set_option maxRecDepth 65536 in
theorem w_c44 : (Jvm.Cond.code ({ cls := "java/lang/String", name := "equals", desc := "(Ljava/lang/Object;)Z" } : Jvm.MethodName) jdk_42_method_66_code (3 : Nat) (Option.some Jvm.ClassFile.FieldType.boolean)).before args0 about1 = true := code_word (m := ⟨7, 4⟩) (meth := k7m4) (c := k7c4) (by decide +kernel) rfl rfl rfl (by decide +kernel)
set_option maxRecDepth 65536 in
theorem w_c45 : (Jvm.Cond.code ({ cls := "java/lang/StringLatin1", name := "equals", desc := "([B[B)Z" } : Jvm.MethodName) jdk_43_method_13_code (3 : Nat) (Option.some Jvm.ClassFile.FieldType.boolean)).before args0 about1 = true := code_word (m := ⟨22, 1⟩) (meth := k22m1) (c := k22c1) (by decide +kernel) rfl rfl rfl (by decide +kernel)
set_option maxRecDepth 65536 in
theorem w_c46 : (Jvm.Cond.code ({ cls := "java/lang/AbstractStringBuilder", name := "appendNull", desc := "()Ljava/lang/AbstractStringBuilder;" } : Jvm.MethodName) jdk_68_method_26_code (3 : Nat) (Option.some (Jvm.ClassFile.FieldType.object "java/lang/AbstractStringBuilder"))).before args0 about1 = true := code_word (m := ⟨16, 6⟩) (meth := k16m6) (c := k16c6) (by decide +kernel) rfl rfl rfl (by decide +kernel)
def codes1 : List Jvm.Cond := [Jvm.Cond.code x code maxLocals ret, Jvm.Cond.code ({ cls := "com/example/shard_feed/shardfeed/RefusalUnknownUserPinLaw", name := "nameOf", desc := "(ICCC)Ljava/lang/String;" } : Jvm.MethodName) method_2_code (5 : Nat) (Option.some (Jvm.ClassFile.FieldType.object "java/lang/String")), Jvm.Cond.code ({ cls := "java/lang/String", name := "<init>", desc := "([C)V" } : Jvm.MethodName) jdk_42_method_3_code (2 : Nat) (Option.none : Option Jvm.ClassFile.FieldType), Jvm.Cond.code ({ cls := "java/lang/String", name := "<init>", desc := "([CIILjava/lang/Void;)V" } : Jvm.MethodName) jdk_42_method_149_code (6 : Nat) (Option.none : Option Jvm.ClassFile.FieldType), Jvm.Cond.code ({ cls := "java/lang/Object", name := "<init>", desc := "()V" } : Jvm.MethodName) object_method_1_code (1 : Nat) (Option.none : Option Jvm.ClassFile.FieldType), Jvm.Cond.code ({ cls := "java/lang/StringUTF16", name := "compress", desc := "([CII)[B" } : Jvm.MethodName) jdk_52_method_16_code (6 : Nat) (Option.some (Jvm.ClassFile.FieldType.array Jvm.ClassFile.FieldType.byte)), Jvm.Cond.code ({ cls := "java/lang/StringUTF16", name := "compress", desc := "([CI[BII)I" } : Jvm.MethodName) jdk_52_method_21_code (7 : Nat) (Option.some Jvm.ClassFile.FieldType.int), Jvm.Cond.code ({ cls := "java/lang/StringUTF16", name := "coderFromArrayLen", desc := "([BI)B" } : Jvm.MethodName) jdk_52_method_15_code (2 : Nat) (Option.some Jvm.ClassFile.FieldType.byte), Jvm.Cond.code ({ cls := "com/example/shard_feed/shardfeed/RefusalUnknownUserPinLaw", name := "expected", desc := "(ICCC)Ljava/lang/String;" } : Jvm.MethodName) method_3_code (5 : Nat) (Option.some (Jvm.ClassFile.FieldType.object "java/lang/String")), Jvm.Cond.code ({ cls := "com/example/shard_feed/shardfeed/Refusal", name := "unknownUser", desc := "(Ljava/lang/String;)Lcom/example/shard_feed/shardfeed/Refusal;" } : Jvm.MethodName) prog_9_method_3_code (1 : Nat) (Option.some (Jvm.ClassFile.FieldType.object "com/example/shard_feed/shardfeed/Refusal")), Jvm.Cond.code ({ cls := "java/lang/StringBuilder", name := "<init>", desc := "()V" } : Jvm.MethodName) jdk_67_method_1_code (1 : Nat) (Option.none : Option Jvm.ClassFile.FieldType), Jvm.Cond.code ({ cls := "java/lang/AbstractStringBuilder", name := "<init>", desc := "(I)V" } : Jvm.MethodName) jdk_68_method_2_code (2 : Nat) (Option.none : Option Jvm.ClassFile.FieldType), Jvm.Cond.code ({ cls := "java/lang/StringBuilder", name := "append", desc := "(Ljava/lang/String;)Ljava/lang/StringBuilder;" } : Jvm.MethodName) jdk_67_method_7_code (2 : Nat) (Option.some (Jvm.ClassFile.FieldType.object "java/lang/StringBuilder")), Jvm.Cond.code ({ cls := "java/lang/AbstractStringBuilder", name := "append", desc := "(Ljava/lang/String;)Ljava/lang/AbstractStringBuilder;" } : Jvm.MethodName) jdk_68_method_22_code (3 : Nat) (Option.some (Jvm.ClassFile.FieldType.object "java/lang/AbstractStringBuilder")), Jvm.Cond.code ({ cls := "java/lang/String", name := "length", desc := "()I" } : Jvm.MethodName) jdk_42_method_54_code (1 : Nat) (Option.some Jvm.ClassFile.FieldType.int), Jvm.Cond.code ({ cls := "java/lang/String", name := "coder", desc := "()B" } : Jvm.MethodName) jdk_42_method_152_code (1 : Nat) (Option.some Jvm.ClassFile.FieldType.byte), Jvm.Cond.code ({ cls := "java/lang/AbstractStringBuilder", name := "ensureCapacityInternal", desc := "(I)V" } : Jvm.MethodName) jdk_68_method_9_code (3 : Nat) (Option.none : Option Jvm.ClassFile.FieldType), Jvm.Cond.code ({ cls := "java/lang/AbstractStringBuilder", name := "newCapacity", desc := "(I)I" } : Jvm.MethodName) jdk_68_method_10_code (6 : Nat) (Option.some Jvm.ClassFile.FieldType.int), Jvm.Cond.code ({ cls := "jdk/internal/util/ArraysSupport", name := "newLength", desc := "(III)I" } : Jvm.MethodName) jdk_48_method_27_code (4 : Nat) (Option.some Jvm.ClassFile.FieldType.int), Jvm.Cond.code ({ cls := "java/lang/Math", name := "max", desc := "(II)I" } : Jvm.MethodName) jdk_29_method_65_code (2 : Nat) (Option.some Jvm.ClassFile.FieldType.int), Jvm.Cond.code ({ cls := "java/util/Arrays", name := "copyOf", desc := "([BI)[B" } : Jvm.MethodName) jdk_65_method_121_code (3 : Nat) (Option.some (Jvm.ClassFile.FieldType.array Jvm.ClassFile.FieldType.byte)), Jvm.Cond.code ({ cls := "java/lang/Math", name := "min", desc := "(II)I" } : Jvm.MethodName) jdk_29_method_69_code (2 : Nat) (Option.some Jvm.ClassFile.FieldType.int), Jvm.Cond.code ({ cls := "java/lang/AbstractStringBuilder", name := "putStringAt", desc := "(ILjava/lang/String;)V" } : Jvm.MethodName) jdk_68_method_73_code (3 : Nat) (Option.none : Option Jvm.ClassFile.FieldType), Jvm.Cond.code ({ cls := "java/lang/AbstractStringBuilder", name := "inflateIfNeededFor", desc := "(Ljava/lang/String;)V" } : Jvm.MethodName) jdk_68_method_71_code (2 : Nat) (Option.none : Option Jvm.ClassFile.FieldType), Jvm.Cond.code ({ cls := "java/lang/String", name := "getBytes", desc := "([BIB)V" } : Jvm.MethodName) jdk_42_method_147_code (4 : Nat) (Option.none : Option Jvm.ClassFile.FieldType), Jvm.Cond.code ({ cls := "java/lang/StringBuilder", name := "toString", desc := "()Ljava/lang/String;" } : Jvm.MethodName) jdk_67_method_42_code (1 : Nat) (Option.some (Jvm.ClassFile.FieldType.object "java/lang/String")), Jvm.Cond.code ({ cls := "java/lang/String", name := "<init>", desc := "(Ljava/lang/StringBuilder;)V" } : Jvm.MethodName) jdk_42_method_53_code (2 : Nat) (Option.none : Option Jvm.ClassFile.FieldType), Jvm.Cond.code ({ cls := "java/lang/String", name := "<init>", desc := "(Ljava/lang/AbstractStringBuilder;Ljava/lang/Void;)V" } : Jvm.MethodName) jdk_42_method_150_code (5 : Nat) (Option.none : Option Jvm.ClassFile.FieldType), Jvm.Cond.code ({ cls := "java/lang/AbstractStringBuilder", name := "getValue", desc := "()[B" } : Jvm.MethodName) jdk_68_method_64_code (1 : Nat) (Option.some (Jvm.ClassFile.FieldType.array Jvm.ClassFile.FieldType.byte)), Jvm.Cond.code ({ cls := "java/lang/StringBuilder", name := "length", desc := "()I" } : Jvm.MethodName) jdk_67_method_93_code (1 : Nat) (Option.some Jvm.ClassFile.FieldType.int), Jvm.Cond.code ({ cls := "java/lang/AbstractStringBuilder", name := "length", desc := "()I" } : Jvm.MethodName) jdk_68_method_6_code (1 : Nat) (Option.some Jvm.ClassFile.FieldType.int), Jvm.Cond.code ({ cls := "java/lang/AbstractStringBuilder", name := "isLatin1", desc := "()Z" } : Jvm.MethodName) jdk_68_method_68_code (1 : Nat) (Option.some Jvm.ClassFile.FieldType.boolean), Jvm.Cond.code ({ cls := "java/util/Arrays", name := "copyOfRange", desc := "([BII)[B" } : Jvm.MethodName) jdk_65_method_132_code (3 : Nat) (Option.some (Jvm.ClassFile.FieldType.array Jvm.ClassFile.FieldType.byte)), Jvm.Cond.code ({ cls := "java/util/Arrays", name := "copyOfRangeByte", desc := "([BII)[B" } : Jvm.MethodName) jdk_65_method_133_code (5 : Nat) (Option.some (Jvm.ClassFile.FieldType.array Jvm.ClassFile.FieldType.byte)), Jvm.Cond.code ({ cls := "java/util/Arrays", name := "checkLength", desc := "(II)V" } : Jvm.MethodName) jdk_65_method_131_code (2 : Nat) (Option.none : Option Jvm.ClassFile.FieldType), Jvm.Cond.code ({ cls := "com/example/shard_feed/shardfeed/Refusal", name := "<init>", desc := "(Lcom/example/shard_feed/shardfeed/Refusal$Reason;Ljava/lang/String;)V" } : Jvm.MethodName) prog_9_method_1_code (3 : Nat) (Option.none : Option Jvm.ClassFile.FieldType), Jvm.Cond.code ({ cls := "com/example/shard_feed/shardfeed/Refusal", name := "<init>", desc := "(Lcom/example/shard_feed/shardfeed/Refusal$Reason;Ljava/lang/String;I)V" } : Jvm.MethodName) prog_9_method_2_code (4 : Nat) (Option.none : Option Jvm.ClassFile.FieldType), Jvm.Cond.code ({ cls := "java/lang/RuntimeException", name := "<init>", desc := "(Ljava/lang/String;)V" } : Jvm.MethodName) jdk_58_method_2_code (2 : Nat) (Option.none : Option Jvm.ClassFile.FieldType), Jvm.Cond.code ({ cls := "java/lang/Exception", name := "<init>", desc := "(Ljava/lang/String;)V" } : Jvm.MethodName) jdk_59_method_2_code (2 : Nat) (Option.none : Option Jvm.ClassFile.FieldType), Jvm.Cond.code ({ cls := "java/lang/Throwable", name := "<init>", desc := "(Ljava/lang/String;)V" } : Jvm.MethodName) jdk_78_method_2_code (2 : Nat) (Option.none : Option Jvm.ClassFile.FieldType), Jvm.Cond.code ({ cls := "java/lang/Throwable", name := "<init>", desc := "()V" } : Jvm.MethodName) jdk_78_method_1_code (1 : Nat) (Option.none : Option Jvm.ClassFile.FieldType), Jvm.Cond.code ({ cls := "com/example/shard_feed/shardfeed/Refusal", name := "reason", desc := "()Lcom/example/shard_feed/shardfeed/Refusal$Reason;" } : Jvm.MethodName) prog_9_method_6_code (1 : Nat) (Option.some (Jvm.ClassFile.FieldType.object "com/example/shard_feed/shardfeed/Refusal$Reason")), Jvm.Cond.code ({ cls := "com/example/shard_feed/shardfeed/Refusal", name := "line", desc := "()I" } : Jvm.MethodName) prog_9_method_7_code (1 : Nat) (Option.some Jvm.ClassFile.FieldType.int), Jvm.Cond.code ({ cls := "java/lang/Throwable", name := "getMessage", desc := "()Ljava/lang/String;" } : Jvm.MethodName) jdk_78_method_6_code (1 : Nat) (Option.some (Jvm.ClassFile.FieldType.object "java/lang/String")), Jvm.Cond.code ({ cls := "java/lang/String", name := "equals", desc := "(Ljava/lang/Object;)Z" } : Jvm.MethodName) jdk_42_method_66_code (3 : Nat) (Option.some Jvm.ClassFile.FieldType.boolean), Jvm.Cond.code ({ cls := "java/lang/StringLatin1", name := "equals", desc := "([B[B)Z" } : Jvm.MethodName) jdk_43_method_13_code (3 : Nat) (Option.some Jvm.ClassFile.FieldType.boolean), Jvm.Cond.code ({ cls := "java/lang/AbstractStringBuilder", name := "appendNull", desc := "()Ljava/lang/AbstractStringBuilder;" } : Jvm.MethodName) jdk_68_method_26_code (3 : Nat) (Option.some (Jvm.ClassFile.FieldType.object "java/lang/AbstractStringBuilder"))]
set_option maxRecDepth 65536 in
theorem codes_eq : words1.filter isCode = codes1 := rfl
theorem w_codes : ∀ c ∈ words1.filter isCode, c.before args0 about1 = true := by
  rw [codes_eq]
  intro c hc
  simp only [codes1, List.mem_cons, List.not_mem_nil, or_false] at hc
  rcases hc with rfl | rfl | rfl | rfl | rfl | rfl | rfl | rfl | rfl | rfl | rfl | rfl | rfl | rfl | rfl | rfl | rfl | rfl | rfl | rfl | rfl | rfl | rfl | rfl | rfl | rfl | rfl | rfl | rfl | rfl | rfl | rfl | rfl | rfl | rfl | rfl | rfl | rfl | rfl | rfl | rfl | rfl | rfl | rfl | rfl | rfl | rfl
  · exact w_c0
  · exact w_c1
  · exact w_c2
  · exact w_c3
  · exact w_c4
  · exact w_c5
  · exact w_c6
  · exact w_c7
  · exact w_c8
  · exact w_c9
  · exact w_c10
  · exact w_c11
  · exact w_c12
  · exact w_c13
  · exact w_c14
  · exact w_c15
  · exact w_c16
  · exact w_c17
  · exact w_c18
  · exact w_c19
  · exact w_c20
  · exact w_c21
  · exact w_c22
  · exact w_c23
  · exact w_c24
  · exact w_c25
  · exact w_c26
  · exact w_c27
  · exact w_c28
  · exact w_c29
  · exact w_c30
  · exact w_c31
  · exact w_c32
  · exact w_c33
  · exact w_c34
  · exact w_c35
  · exact w_c36
  · exact w_c37
  · exact w_c38
  · exact w_c39
  · exact w_c40
  · exact w_c41
  · exact w_c42
  · exact w_c43
  · exact w_c44
  · exact w_c45
  · exact w_c46
set_option maxRecDepth 65536 in
theorem w_t1 : (words1.take 24).all (fun c => isCode c || c.before args0 about1) = true := by decide +kernel
set_option maxRecDepth 65536 in
theorem w_t2 : ((words1.drop 24).take 24).all (fun c => isCode c || c.before args0 about1) = true := by decide +kernel
set_option maxRecDepth 65536 in
theorem w_t3 : (((words1.drop 24).drop 24).take 24).all (fun c => isCode c || c.before args0 about1) = true := by decide +kernel
set_option maxRecDepth 65536 in
theorem w_t4 : ((((words1.drop 24).drop 24).drop 24).take 24).all (fun c => isCode c || c.before args0 about1) = true := by decide +kernel
set_option maxRecDepth 65536 in
theorem w_t5 : (((((words1.drop 24).drop 24).drop 24).drop 24).take 24).all (fun c => isCode c || c.before args0 about1) = true := by decide +kernel
set_option maxRecDepth 65536 in
theorem w_t6 : ((((((words1.drop 24).drop 24).drop 24).drop 24).drop 24).take 24).all (fun c => isCode c || c.before args0 about1) = true := by decide +kernel
set_option maxRecDepth 65536 in
theorem w_t7 : (((((((words1.drop 24).drop 24).drop 24).drop 24).drop 24).drop 24).take 24).all (fun c => isCode c || c.before args0 about1) = true := by decide +kernel
set_option maxRecDepth 65536 in
theorem w_t8 : ((((((((words1.drop 24).drop 24).drop 24).drop 24).drop 24).drop 24).drop 24).take 24).all (fun c => isCode c || c.before args0 about1) = true := by decide +kernel
set_option maxRecDepth 65536 in
theorem w_t9 : (((((((((words1.drop 24).drop 24).drop 24).drop 24).drop 24).drop 24).drop 24).drop 24).take 24).all (fun c => isCode c || c.before args0 about1) = true := by decide +kernel
set_option maxRecDepth 65536 in
theorem w_t10 : ((((((((((words1.drop 24).drop 24).drop 24).drop 24).drop 24).drop 24).drop 24).drop 24).drop 24).take 24).all (fun c => isCode c || c.before args0 about1) = true := by decide +kernel
set_option maxRecDepth 65536 in
theorem w_t11 : (((((((((((words1.drop 24).drop 24).drop 24).drop 24).drop 24).drop 24).drop 24).drop 24).drop 24).drop 24).take 24).all (fun c => isCode c || c.before args0 about1) = true := by decide +kernel
set_option maxRecDepth 65536 in
theorem w_t12 : (((((((((((words1.drop 24).drop 24).drop 24).drop 24).drop 24).drop 24).drop 24).drop 24).drop 24).drop 24).drop 24).all (fun c => isCode c || c.before args0 about1) = true := by decide +kernel
theorem w_tables : (allAtoms (Jvm.Cond.code x code maxLocals ret :: tables_1)).before args0 about1 = true := by
  rw [allAtoms_all]
  show words1.all (fun c => c.before args0 about1) = true
  refine all_split ?_ w_codes
  rw [← List.take_append_drop 24 words1, List.all_append, w_t1, ← List.take_append_drop 24 (words1.drop 24), List.all_append, w_t2, ← List.take_append_drop 24 ((words1.drop 24).drop 24), List.all_append, w_t3, ← List.take_append_drop 24 (((words1.drop 24).drop 24).drop 24), List.all_append, w_t4, ← List.take_append_drop 24 ((((words1.drop 24).drop 24).drop 24).drop 24), List.all_append, w_t5, ← List.take_append_drop 24 (((((words1.drop 24).drop 24).drop 24).drop 24).drop 24), List.all_append, w_t6, ← List.take_append_drop 24 ((((((words1.drop 24).drop 24).drop 24).drop 24).drop 24).drop 24), List.all_append, w_t7, ← List.take_append_drop 24 (((((((words1.drop 24).drop 24).drop 24).drop 24).drop 24).drop 24).drop 24), List.all_append, w_t8, ← List.take_append_drop 24 ((((((((words1.drop 24).drop 24).drop 24).drop 24).drop 24).drop 24).drop 24).drop 24), List.all_append, w_t9, ← List.take_append_drop 24 (((((((((words1.drop 24).drop 24).drop 24).drop 24).drop 24).drop 24).drop 24).drop 24).drop 24), List.all_append, w_t10, ← List.take_append_drop 24 ((((((((((words1.drop 24).drop 24).drop 24).drop 24).drop 24).drop 24).drop 24).drop 24).drop 24).drop 24), List.all_append, w_t11, w_t12]
  rfl
set_option maxRecDepth 65536 in
theorem w_rest : rest_1_c.before args0 about1 = true := by decide +kernel
set_option maxRecDepth 65536 in
theorem w_case : (Jvm.Cond.and given_1 narrow_1).before args0 about1 = true := by decide +kernel
set_option maxRecDepth 65536 in
theorem w_consts : constsHeld consts_1 about1 := Jvm.Lit.constsHeldB_iff.mp (by decide +kernel)
theorem w_applies : (headSpec (Jvm.Cond.code x code maxLocals ret :: tables_1) room_1).applies x e0.platform about1 = true :=
  (Spec.applies_iff w_frames).mpr ⟨w_running, w_runnable, w_alone, w_named, w_hears, w_ripe, w_room, w_tables⟩
theorem atStart : AtStart classFile x code maxLocals ret World_1 tables_1 room_1 Calls_1 rest_1 Pre_1 launch0 p0 e0 about1 theMethod args0 below0 :=
  ⟨lists_1, trivial, launch0.admits_env _ _ _, launch0.least_env, fairChoices_fair.cas, fairChoices_fair.clock, w_frames, w_args, w_heap, w_applies, ⟨(by decide +kernel : framesKnown about1 = true), ⟨(by decide +kernel : tablesKnown about1 = true), ⟨w_consts, trivial⟩⟩⟩, w_rest, w_case⟩
end start1
theorem witness_1 : WitnessClaimed_1 := ⟨start1.p0, start1.e0, start1.about1, start1.theMethod, start1.args0, start1.below0, start1.atStart⟩
end Jvm.Pilot.@@N@@
