import JvmDerived
import JvmDerived.Pilot.@@N@@Statement
import JvmDerived.Pilot.@@N@@Code
set_option linter.unusedVariables false
set_option linter.unusedSimpArgs false
set_option maxRecDepth 65536
set_option maxHeartbeats 40000000
/- laws to paste: Road.backV (cut by pick.py; bodies as the Statement names them) -/
namespace Jvm.Pilot.@@N@@
namespace StrChars
open Jvm Sem ClassFile Op Lib Jvm.Stand Jvm.Free.XT Jvm.Free.ALB Jvm.Free.JM Jvm.Free
open Jvm.Lib.Cold (StaticIs)
/-- a char array whose places are chars -/
def Ch (a : Addr) (A : Cell) (U : State) : Prop := Arr .char a A U ∧ Typed .char A
theorem Ch.mv {a : Addr} {A : Cell} {U U' : State} (h : Ch a A U) (hal : U.vm.Alike U'.vm) (hh : U'.heap = U.heap) : Ch a A U' := ⟨h.1.mv hal hh, h.2⟩
theorem Ch.keep {a : Addr} {A : Cell} {U U' : State} (h : Ch a A U) (hal : U.vm.Alike U'.vm) (hk : U'.heap[a]? = some A) : Ch a A U' := ⟨h.1.keep hal hk, h.2⟩
/-- what place i of a char[]'s cell holds -/
def cv (A : Cell) (i : Nat) : Int32 := match A.slots[i]? with | some (.int x) => x | _ => 0
theorem Ch.get {a : Addr} {A : Cell} {U : State} (h : Ch a A U) {i : Nat} (hi : i < A.slots.size) : A.slots[i]? = some (.int (cv A i)) := by
  have e := Array.getElem?_eq_getElem hi
  have f := h.2 i _ e
  unfold cv; rw [e]
  generalize A.slots[i] = v at f
  cases v <;> simp [fits] at f ⊢
/-- the byte that i2b leaves of a char -/
def lo8 (x : Int32) : Int32 := x.toInt8.toInt32
theorem fits_lo8 (y : Int32) : fits .byte (.int (lo8 y)) = true := by
  have h1 := y.toInt8.le_toInt
  have h2 := y.toInt8.toInt_lt
  simp only [lo8, fits, Bool.and_eq_true, decide_eq_true_eq, Int32.le_iff_toInt_le, Int8.toInt_toInt32, show (-128 : Int32).toInt = -128 from by decide, show (127 : Int32).toInt = 127 from by decide]
  omega
/-- A' is A but that each place j of lo .. hi - 1 holds f j -/
def Laid (A A' : Cell) (lo hi : Nat) (f : Nat → Value) : Prop := A'.cls = A.cls ∧ A'.vm = A.vm ∧ A'.slots.size = A.slots.size ∧ ∀ i, A'.slots[i]? = if lo ≤ i ∧ i < hi then some (f i) else A.slots[i]?
theorem Laid.zero (A : Cell) (lo : Nat) (f : Nat → Value) : Laid A A lo (lo + 0) f := ⟨rfl, rfl, rfl, fun i => by rw [if_neg (by omega)]⟩
theorem Laid.step {A Ak : Cell} {lo k : Nat} {f : Nat → Value} {v : Value} (h : Laid A Ak lo k f) (hlo : lo ≤ k) (hk : k < Ak.slots.size) (hv : v = f k) : Laid A (Ak.setSlot k v) lo (k + 1) f := by
  refine ⟨h.1, h.2.1, by simpa [Cell.setSlot] using h.2.2.1, fun i => ?_⟩
  by_cases e : k = i
  · subst e; rw [Cell.slots_setSlot_self v hk, if_pos (by omega), hv]
  · rw [Cell.slots_setSlot_ne v e, h.2.2.2 i]
    by_cases q : lo ≤ i ∧ i < k
    · rw [if_pos q, if_pos (by omega)]
    · rw [if_neg q, if_neg (by omega)]
def U16 : String := "java/lang/StringUTF16"
namespace Cmp5
def yN : MethodName := ⟨"java/lang/StringUTF16", "compress", "([CI[BII)I"⟩
abbrev yB : ByteArray := jdk_52_method_21_code
theorem d0 : decode yB 0 = .ok (.iconst 0, 1) := by decide +kernel
theorem d1 : decode yB 1 = .ok (.istore 5, 2) := by decide +kernel
theorem d3 : decode yB 3 = .ok (.iload 5, 2) := by decide +kernel
theorem d5 : decode yB 5 = .ok (.iload 4, 2) := by decide +kernel
theorem d7 : decode yB 7 = .ok (.if_icmp (.ge) 37, 3) := by decide +kernel
theorem d10 : decode yB 10 = .ok (.aload_n 0, 1) := by decide +kernel
theorem d11 : decode yB 11 = .ok (.iload_n 1, 1) := by decide +kernel
theorem d12 : decode yB 12 = .ok (.caload, 1) := by decide +kernel
theorem d13 : decode yB 13 = .ok (.istore 6, 2) := by decide +kernel
theorem d15 : decode yB 15 = .ok (.iload 6, 2) := by decide +kernel
theorem d17 : decode yB 17 = .ok (.sipush 255, 3) := by decide +kernel
theorem d20 : decode yB 20 = .ok (.if_icmp (.le) 6, 3) := by decide +kernel
theorem d26 : decode yB 26 = .ok (.aload_n 2, 1) := by decide +kernel
theorem d27 : decode yB 27 = .ok (.iload_n 3, 1) := by decide +kernel
theorem d28 : decode yB 28 = .ok (.iload 6, 2) := by decide +kernel
theorem d30 : decode yB 30 = .ok (.i2b, 1) := by decide +kernel
theorem d31 : decode yB 31 = .ok (.bastore, 1) := by decide +kernel
theorem d32 : decode yB 32 = .ok (.iinc 1 1, 3) := by decide +kernel
theorem d35 : decode yB 35 = .ok (.iinc 3 1, 3) := by decide +kernel
theorem d38 : decode yB 38 = .ok (.iinc 5 1, 3) := by decide +kernel
theorem d41 : decode yB 41 = .ok (.goto (-38), 3) := by decide +kernel
theorem d44 : decode yB 44 = .ok (.iload 4, 2) := by decide +kernel
theorem d46 : decode yB 46 = .ok (.ireturn, 1) := by decide +kernel
def site : List Cond := []
def tab : Cond := tabOf yN yB 7 (some .int) site
def P (b : Addr) (A : Cell) (d : Addr) (B : Cell) (o q len : Nat) (args : Array Value) (s : State) : Prop := args = #[.ref b, .int (Int32.ofNat o), .ref d, .int (Int32.ofNat q), .int (Int32.ofNat len)] ∧ Ch b A s ∧ Arr .byte d B s ∧ b ≠ d ∧ o + len ≤ A.slots.size ∧ q + len ≤ B.slots.size ∧ ∀ i, i < len → ¬ 255 < cv A (o + i)
def E (b : Addr) (A : Cell) (d : Addr) (B : Cell) (o q len : Nat) (r : Option Value) (s u : State) : Prop := r = some (.int (Int32.ofNat len)) ∧ ∃ B', Put d B' s u ∧ Laid B B' q (q + len) (fun j => Value.int (lo8 (cv A (o + (j - q)))))
/-- no char of the range above 255: len; the places written hold each char's low byte -/
theorem law (l : Launch) (b : Addr) (A : Cell) (d : Addr) (B : Cell) (o q len : Nat) : Law l yN 5 5 0 0 yB 7 (some .int) site (P b A d B o q len) (E b A d B o q len) (copyLocs d q len) 0 0 := by
  refine Law.of_walk (plainFor_of_name (by decide +kernel)) (by decide +kernel) (by decide +kernel) (by decide) (fun _ _ h => by rw [h.1]; rfl) (fun _ U U' hal hh h => ⟨h.1, h.2.1.mv hal hh, h.2.2.1.mv hal hh, h.2.2.2⟩) (fun r U U' V V' h1 hal h2 h => ⟨h.1, h.2.elim fun B' q => ⟨B', q.1.mv h1 h2, q.2⟩⟩) ?_
  intro p e s m args below meth c s₁ X0 hexec hbytes hml hret hlk hnm hown hh0 W hP
  obtain ⟨rfl, hA, hB, hne, l1, l2, hp⟩ := hP
  have c1 : Steps p.tables e below (s₁.setTop (entryFrame m #[.ref b, .int (Int32.ofNat o), .ref d, .int (Int32.ofNat q), .int (Int32.ofNat len)] 7)) (s₁.setTop (mkF m 0 #[.val (.ref b), .val (.int (Int32.ofNat o)), .val (.ref d), .val (.int (Int32.ofNat q)), .val (.int (Int32.ofNat len)), .unset, .unset] [])) := entry rfl
  have hA0 := hA.1.mv X0.warmed.alike hh0
  have hB0 := hB.mv X0.warmed.alike hh0
  have a31 := hA.1.2.2.2
  have c2 : Steps p.tables e below (s₁.setTop (entryFrame m #[.ref b, .int (Int32.ofNat o), .ref d, .int (Int32.ofNat q), .int (Int32.ofNat len)] 7)) (s₁.setTop (mkF m 3 #[.val (.ref b), .val (.int (Int32.ofNat o)), .val (.ref d), .val (.int (Int32.ofNat q)), .val (.int (Int32.ofNat len)), .val (.int 0), .unset] [])) := c1.trans (by
    refine iconstV X0.here hexec rfl 0 (hb hbytes d0) (by decide) ?_
    refine XS.istore X0.here hexec rfl (hb hbytes d1) rfl rfl ?_
    exact Steps.refl _)
  have loop : ∀ (r i : Nat), i + r = len → ∀ (z : Slot), (z = .unset ∨ ∃ w, z = .val w ∧ w.category = 1) → ∀ (Tl : State) (Bk : Cell), Stand p l e { frames := 0, locals := 0, cells := 0, slots := 0 } s m #[.ref b, .int (Int32.ofNat o), .ref d, .int (Int32.ofNat q), .int (Int32.ofNat len)] below meth c Tl ([] ++ copyLocs d q i) 0 0 → Put d Bk s₁ Tl → Laid B Bk q (q + i) (fun j => Value.int (lo8 (cv A (o + (j - q))))) →
      Steps p.tables e below (s₁.setTop (entryFrame m #[.ref b, .int (Int32.ofNat o), .ref d, .int (Int32.ofNat q), .int (Int32.ofNat len)] 7)) (Tl.setTop (mkF m 3 #[.val (.ref b), .val (.int (Int32.ofNat (o + i))), .val (.ref d), .val (.int (Int32.ofNat (q + i))), .val (.int (Int32.ofNat len)), .val (.int (Int32.ofNat i)), z] [])) → ∃ (T' : State) (B' : Cell) (z' : Slot), Stand p l e { frames := 0, locals := 0, cells := 0, slots := 0 } s m #[.ref b, .int (Int32.ofNat o), .ref d, .int (Int32.ofNat q), .int (Int32.ofNat len)] below meth c T' ([] ++ copyLocs d q len) 0 0 ∧ Put d B' s₁ T' ∧ Laid B B' q (q + len) (fun j => Value.int (lo8 (cv A (o + (j - q))))) ∧
      Steps p.tables e below (s₁.setTop (entryFrame m #[.ref b, .int (Int32.ofNat o), .ref d, .int (Int32.ofNat q), .int (Int32.ofNat len)] 7)) (T'.setTop (mkF m 3 #[.val (.ref b), .val (.int (Int32.ofNat (o + len))), .val (.ref d), .val (.int (Int32.ofNat (q + len))), .val (.int (Int32.ofNat len)), .val (.int (Int32.ofNat len)), z'] [])) := by
    intro r
    induction r with
    | zero =>
      intro i hi z hz Tl Bk Xl pl fl cl
      have hil : i = len := by omega
      rw [hil] at Xl fl cl
      exact ⟨Tl, Bk, z, Xl, pl, fl, cl⟩
    | succ r ih =>
      intro i hi z hz Tl Bk Xl pl fl cl
      have all := X0.warmed.alike.symm.trans Xl.warmed.alike
      have hAl := hA0.keep all (pl.other hne hA0.1)
      have hBk := hB0.like all pl.1 fl.1 fl.2.1 fl.2.2.1
      have hlt : q + i < Bk.slots.size := by rw [fl.2.2.1]; omega
      have c3 : Steps p.tables e below (s₁.setTop (entryFrame m #[.ref b, .int (Int32.ofNat o), .ref d, .int (Int32.ofNat q), .int (Int32.ofNat len)] 7)) (Tl.setTop (mkF m 12 #[.val (.ref b), .val (.int (Int32.ofNat (o + i))), .val (.ref d), .val (.int (Int32.ofNat (q + i))), .val (.int (Int32.ofNat len)), .val (.int (Int32.ofNat i)), z] [.int (Int32.ofNat (o + i)), .ref b])) := cl.trans (by
        refine XS.iload Xl.here hexec rfl (hb hbytes d3) rfl ?_
        refine XS.iload Xl.here hexec rfl (hb hbytes d5) rfl ?_
        refine XS.icmpNo Xl.here hexec rfl (hb hbytes d7) rfl (ii_ge_f (lt32 (by omega) (by omega))) ?_
        refine XS.aloadN Xl.here hexec rfl (hb hbytes d10) rfl rfl ?_
        refine XS.iloadN Xl.here hexec rfl (hb hbytes d11) rfl ?_
        exact Steps.refl _)
      have c4 : Steps p.tables e below (s₁.setTop (entryFrame m #[.ref b, .int (Int32.ofNat o), .ref d, .int (Int32.ofNat q), .int (Int32.ofNat len)] 7)) (Tl.setTop (mkF m 13 #[.val (.ref b), .val (.int (Int32.ofNat (o + i))), .val (.ref d), .val (.int (Int32.ofNat (q + i))), .val (.int (Int32.ofNat len)), .val (.int (Int32.ofNat i)), z] [.int (cv A (o + i))])) := c3.trans (by
        refine Xl.aget hexec hAl rfl (hA.get (i := o + i) (by omega)) rfl rfl (hb hbytes d12) ?_
        exact Steps.refl _)
      have c5 : Steps p.tables e below (s₁.setTop (entryFrame m #[.ref b, .int (Int32.ofNat o), .ref d, .int (Int32.ofNat q), .int (Int32.ofNat len)] 7)) (Tl.setTop (mkF m 15 #[.val (.ref b), .val (.int (Int32.ofNat (o + i))), .val (.ref d), .val (.int (Int32.ofNat (q + i))), .val (.int (Int32.ofNat len)), .val (.int (Int32.ofNat i)), .val (.int (cv A (o + i)))] [])) := c4.trans (by
        refine XS.istoreS Xl.here hexec rfl (hb hbytes d13) rfl rfl hz ?_
        exact Steps.refl _)
      have c6 : Steps p.tables e below (s₁.setTop (entryFrame m #[.ref b, .int (Int32.ofNat o), .ref d, .int (Int32.ofNat q), .int (Int32.ofNat len)] 7)) (Tl.setTop (mkF m 31 #[.val (.ref b), .val (.int (Int32.ofNat (o + i))), .val (.ref d), .val (.int (Int32.ofNat (q + i))), .val (.int (Int32.ofNat len)), .val (.int (Int32.ofNat i)), .val (.int (cv A (o + i)))] [.int (lo8 (cv A (o + i))), .int (Int32.ofNat (q + i)), .ref d])) := c5.trans (by
        refine XS.iload Xl.here hexec rfl (hb hbytes d15) rfl ?_
        refine sipushV Xl.here hexec rfl 255 (hb hbytes d17) (by decide) ?_
        refine XS.icmpYes Xl.here hexec rfl (pc0 := 20) rfl (hb hbytes d20) rfl (ii_le_t (hp i (by omega))) (by decide) rfl ?_
        refine XS.aloadN Xl.here hexec rfl (hb hbytes d26) rfl rfl ?_
        refine XS.iloadN Xl.here hexec rfl (hb hbytes d27) rfl ?_
        refine XS.iload Xl.here hexec rfl (hb hbytes d28) rfl ?_
        refine i2b Xl.here hexec rfl (hb hbytes d30) rfl ?_
        exact Steps.refl _)
      obtain ⟨T7, X7, p7, st7⟩ := Xl.aput hexec hBk rfl hlt rfl (fits_lo8 (cv A (o + i))) (g := (mkF m 31 #[.val (.ref b), .val (.int (Int32.ofNat (o + i))), .val (.ref d), .val (.int (Int32.ofNat (q + i))), .val (.int (Int32.ofNat len)), .val (.int (Int32.ofNat i)), .val (.int (cv A (o + i)))] [.int (lo8 (cv A (o + i))), .int (Int32.ofNat (q + i)), .ref d])) rfl (rest := []) rfl (hb hbytes d31)
      have c8 : Steps p.tables e below (s₁.setTop (entryFrame m #[.ref b, .int (Int32.ofNat o), .ref d, .int (Int32.ofNat q), .int (Int32.ofNat len)] 7)) (T7.setTop (mkF m 32 #[.val (.ref b), .val (.int (Int32.ofNat (o + i))), .val (.ref d), .val (.int (Int32.ofNat (q + i))), .val (.int (Int32.ofNat len)), .val (.int (Int32.ofNat i)), .val (.int (cv A (o + i)))] [])) := c6.trans (st7 _ (Steps.refl _))
      have c9 : Steps p.tables e below (s₁.setTop (entryFrame m #[.ref b, .int (Int32.ofNat o), .ref d, .int (Int32.ofNat q), .int (Int32.ofNat len)] 7)) (T7.setTop (mkF m 3 #[.val (.ref b), .val (.int (Int32.ofNat (o + i) + 1)), .val (.ref d), .val (.int (Int32.ofNat (q + i) + 1)), .val (.int (Int32.ofNat len)), .val (.int (Int32.ofNat i + 1)), .val (.int (cv A (o + i)))] [])) := c8.trans (by
        refine iincV X7.here hexec rfl 1 (hb hbytes d32) (by decide) rfl rfl ?_
        refine iincV X7.here hexec rfl 1 (hb hbytes d35) (by decide) rfl rfl ?_
        refine iincV X7.here hexec rfl 1 (hb hbytes d38) (by decide) rfl rfl ?_
        refine XS.goto X7.here hexec rfl (pc0 := 41) rfl (hb hbytes d41) (by decide) rfl ?_
        exact Steps.refl _)
      have c10 : Steps p.tables e below (s₁.setTop (entryFrame m #[.ref b, .int (Int32.ofNat o), .ref d, .int (Int32.ofNat q), .int (Int32.ofNat len)] 7)) (T7.setTop (mkF m 3 #[.val (.ref b), .val (.int (Int32.ofNat (o + (i + 1)))), .val (.ref d), .val (.int (Int32.ofNat (q + (i + 1)))), .val (.int (Int32.ofNat len)), .val (.int (Int32.ofNat (i + 1))), .val (.int (cv A (o + i)))] [])) := by
        have := c9
        rw [succ32, succ32, succ32] at this
        exact this
      exact ih (i + 1) (by omega) _ (Or.inr ⟨_, rfl, rfl⟩) T7 _ (by rw [copyLocs_step, ← List.append_assoc]; exact X7) (pl.trans p7) (fl.step (by omega) hlt (by simp)) c10
  obtain ⟨T9, B9, z9, X9, p9, f9, g9⟩ := loop len 0 (by omega) .unset (Or.inl rfl) s₁ B (by simpa [copyLocs] using X0) ⟨hB0.1, fun _ _ => rfl, rfl⟩ (Laid.zero _ _ _) c2
  have c11 : Steps p.tables e below (s₁.setTop (entryFrame m #[.ref b, .int (Int32.ofNat o), .ref d, .int (Int32.ofNat q), .int (Int32.ofNat len)] 7)) (T9.setTop (mkF m 46 #[.val (.ref b), .val (.int (Int32.ofNat (o + len))), .val (.ref d), .val (.int (Int32.ofNat (q + len))), .val (.int (Int32.ofNat len)), .val (.int (Int32.ofNat len)), z9] [.int (Int32.ofNat len)])) := g9.trans (by
    refine XS.iload X9.here hexec rfl (hb hbytes d3) rfl ?_
    refine XS.iload X9.here hexec rfl (hb hbytes d5) rfl ?_
    refine XS.icmpYes X9.here hexec rfl (pc0 := 7) rfl (hb hbytes d7) rfl (ii_ge_t (nlt32 (by omega) (Nat.le_refl _))) (by decide) rfl ?_
    refine XS.iload X9.here hexec rfl (hb hbytes d44) rfl ?_
    exact Steps.refl _)
  exact ⟨T9, some (.int (Int32.ofNat len)), _, _, _, X9, by simp, rfl, rfl, (fun h => by cases h), ⟨rfl, B9, p9.from hh0, f9⟩, fun fs hl => c11.trans (X9.ireturnOut hexec hret rfl (Or.inl rfl) (hb hbytes d46) hl)⟩
end Cmp5
namespace Cmp3
def yN : MethodName := ⟨"java/lang/StringUTF16", "compress", "([CII)[B"⟩
abbrev yB : ByteArray := jdk_52_method_16_code
theorem d0 : decode yB 0 = .ok (.iload_n 2, 1) := by decide +kernel
theorem d1 : decode yB 1 = .ok (.newarray .byte, 2) := by decide +kernel
theorem d3 : decode yB 3 = .ok (.astore_n 3, 1) := by decide +kernel
theorem d4 : decode yB 4 = .ok (.aload_n 0, 1) := by decide +kernel
theorem d5 : decode yB 5 = .ok (.iload_n 1, 1) := by decide +kernel
theorem d6 : decode yB 6 = .ok (.aload_n 3, 1) := by decide +kernel
theorem d7 : decode yB 7 = .ok (.iconst 0, 1) := by decide +kernel
theorem d8 : decode yB 8 = .ok (.iload_n 2, 1) := by decide +kernel
theorem d9 : decode yB 9 = .ok (.invokestatic 115, 3) := by decide +kernel
theorem d12 : decode yB 12 = .ok (.istore 4, 2) := by decide +kernel
theorem d14 : decode yB 14 = .ok (.iload 4, 2) := by decide +kernel
theorem d16 : decode yB 16 = .ok (.iload_n 2, 1) := by decide +kernel
theorem d17 : decode yB 17 = .ok (.if_icmp (.eq) 40, 3) := by decide +kernel
theorem d57 : decode yB 57 = .ok (.aload_n 3, 1) := by decide +kernel
theorem d58 : decode yB 58 = .ok (.areturn, 1) := by decide +kernel
def site : List Cond := [.arrayClass .byte, Cmp5.tab] ++ staticW U16 115 Cmp5.yN
def tab : Cond := tabOf yN yB 6 (some (.array .byte)) site
def P (b : Addr) (A : Cell) (o len : Nat) (args : Array Value) (s : State) : Prop := args = #[.ref b, .int (Int32.ofNat o), .int (Int32.ofNat len)] ∧ Ch b A s ∧ o + len ≤ A.slots.size ∧ len ≤ 536870912 ∧ ∀ i, i < len → ¬ 255 < cv A (o + i)
def E (b : Addr) (A : Cell) (o len : Nat) (r : Option Value) (s u : State) : Prop := NewArr .byte "[B" len (fun j => .int (lo8 (cv A (o + j)))) r s u ∧ u.heap.size = s.heap.size + 1
/-- no char of the range above 255: a new byte[] of their low bytes -/
theorem law (l : Launch) (b : Addr) (A : Cell) (o len : Nat) : Law l yN 3 3 1 18 yB 6 (some (.array .byte)) site (P b A o len) (E b A o len) [] 1 len := by
  refine Law.of_walk (plainFor_of_name (by decide +kernel)) (by decide +kernel) (by decide +kernel) (by decide) (fun _ _ h => by rw [h.1]; rfl) (fun _ U U' hal hh h => ⟨h.1, h.2.1.mv hal hh, h.2.2⟩) (fun r U U' V V' h1 hal h2 h => ⟨NewArr.mv r U U' V V' h1 hal h2 h.1, by rw [h1, h2]; exact h.2⟩) ?_
  intro p e s m args below meth c s₁ X0 hexec hbytes hml hret hlk hnm hown hh0 W hP
  obtain ⟨rfl, hA, l1, l2, hp⟩ := hP
  have a31 := hA.1.2.2.2
  have c1 : Steps p.tables e below (s₁.setTop (entryFrame m #[.ref b, .int (Int32.ofNat o), .int (Int32.ofNat len)] 6)) (s₁.setTop (mkF m 0 #[.val (.ref b), .val (.int (Int32.ofNat o)), .val (.int (Int32.ofNat len)), .unset, .unset, .unset] [])) := entry rfl
  have c2 : Steps p.tables e below (s₁.setTop (entryFrame m #[.ref b, .int (Int32.ofNat o), .int (Int32.ofNat len)] 6)) (s₁.setTop (mkF m 1 #[.val (.ref b), .val (.int (Int32.ofNat o)), .val (.int (Int32.ofNat len)), .unset, .unset, .unset] [.int (Int32.ofNat len)])) := c1.trans (by
    refine XS.iloadN X0.here hexec rfl (hb hbytes d0) rfl ?_
    exact Steps.refl _)
  obtain ⟨T3, B3, X3, ba3, bs3, bv3, bh3, bf3, st3⟩ := X0.anew hexec (atype := .byte) (wk W (.arrayClass .byte)) rfl (by show len * 1 ≤ _; omega) (by omega) (g := (mkF m 1 #[.val (.ref b), .val (.int (Int32.ofNat o)), .val (.int (Int32.ofNat len)), .unset, .unset, .unset] [.int (Int32.ofNat len)])) rfl (hb hbytes d1) (rest := []) rfl (Nat.le_refl _) (by show 0 + len ≤ len; omega)
  rw [hh0] at ba3 st3
  have kp3 : XT.Kept s T3 := (XT.Kept.of_eq hh0).push bh3
  have hA3 := hA.keep X3.warmed.alike (kp3 _ _ hA.1.1)
  have hne : b ≠ s.heap.size := hA.1.ne
  have c4 : Steps p.tables e below (s₁.setTop (entryFrame m #[.ref b, .int (Int32.ofNat o), .int (Int32.ofNat len)] 6)) (T3.setTop (mkF m 3 #[.val (.ref b), .val (.int (Int32.ofNat o)), .val (.int (Int32.ofNat len)), .unset, .unset, .unset] [.ref s.heap.size])) := c2.trans (st3 _ (Steps.refl _))
  have c5 : Steps p.tables e below (s₁.setTop (entryFrame m #[.ref b, .int (Int32.ofNat o), .int (Int32.ofNat len)] 6)) (T3.setTop (mkF m 9 #[.val (.ref b), .val (.int (Int32.ofNat o)), .val (.int (Int32.ofNat len)), .val (.ref s.heap.size), .unset, .unset] [.int (Int32.ofNat len), .int 0, .ref s.heap.size, .int (Int32.ofNat o), .ref b])) := c4.trans (by
    refine XS.astoreN X3.here hexec rfl (hb hbytes d3) rfl rfl rfl ?_
    refine XS.aloadN X3.here hexec rfl (hb hbytes d4) rfl rfl ?_
    refine XS.iloadN X3.here hexec rfl (hb hbytes d5) rfl ?_
    refine XS.aloadN X3.here hexec rfl (hb hbytes d6) rfl rfl ?_
    refine iconstV X3.here hexec rfl 0 (hb hbytes d7) (by decide) ?_
    refine XS.iloadN X3.here hexec rfl (hb hbytes d8) rfl ?_
    exact Steps.refl _)
  obtain ⟨v6, T6, X6, E6, g6⟩ := X3.callS hexec (Cmp5.law l b A s.heap.size B3 o 0 len) hown (wks W (staticW U16 115 Cmp5.yN)) (wk W Cmp5.tab) (W := 0) (Nat.le_of_ble_eq_true rfl) (Nat.le_of_ble_eq_true rfl) (Nat.le_refl _) (by show 0 + len + 0 ≤ len; omega) (g := (mkF m 9 #[.val (.ref b), .val (.int (Int32.ofNat o)), .val (.int (Int32.ofNat len)), .val (.ref s.heap.size), .unset, .unset] [.int (Int32.ofNat len), .int (Int32.ofNat 0), .ref s.heap.size, .int (Int32.ofNat o), .ref b])) rfl (by rw [hml]; rfl) c5 (argsL := [.ref b, .int (Int32.ofNat o), .ref s.heap.size, .int (Int32.ofNat 0), .int (Int32.ofNat len)]) (rest := []) rfl rfl (by show 2 * 0 + 0 ≤ _; decide) (hb hbytes d9) (⟨rfl, hA3, ba3, hne, l1, by rw [bs3]; simp, hp⟩)
  obtain ⟨rfl, B6, p6, f6⟩ := E6
  have c7 : Steps p.tables e below (s₁.setTop (entryFrame m #[.ref b, .int (Int32.ofNat o), .int (Int32.ofNat len)] 6)) (T6.setTop (mkF m 12 #[.val (.ref b), .val (.int (Int32.ofNat o)), .val (.int (Int32.ofNat len)), .val (.ref s.heap.size), .unset, .unset] [.int (Int32.ofNat len)])) := g6
  have c8 : Steps p.tables e below (s₁.setTop (entryFrame m #[.ref b, .int (Int32.ofNat o), .int (Int32.ofNat len)] 6)) (T6.setTop (mkF m 58 #[.val (.ref b), .val (.int (Int32.ofNat o)), .val (.int (Int32.ofNat len)), .val (.ref s.heap.size), .val (.int (Int32.ofNat len)), .unset] [.ref s.heap.size])) := c7.trans (by
    refine XS.istore X6.here hexec rfl (hb hbytes d12) rfl rfl ?_
    refine XS.iload X6.here hexec rfl (hb hbytes d14) rfl ?_
    refine XS.iloadN X6.here hexec rfl (hb hbytes d16) rfl ?_
    refine XS.icmpYes X6.here hexec rfl (pc0 := 17) rfl (hb hbytes d17) rfl (ii_eq_t rfl) (by decide) rfl ?_
    refine XS.aloadN X6.here hexec rfl (hb hbytes d57) rfl rfl ?_
    exact Steps.refl _)
  have X8 := X6.wide (L' := []) (cells' := 1) (slots' := len) (fun x hx hlt => by
    simp only [List.nil_append, copyLocs, List.mem_map, List.mem_range] at hx
    obtain ⟨i, -, rfl⟩ := hx
    exact absurd hlt (Nat.lt_irrefl _)) (Nat.le_refl _) (by omega)
  exact ⟨T6, some (.ref s.heap.size), _, _, _, X8, rfl, rfl, rfl, (fun h => by cases h), ⟨⟨rfl, B6, ba3.like (X3.warmed.alike.symm.trans X6.warmed.alike) p6.1 f6.1 f6.2.1 f6.2.2.1, f6.2.1.trans bv3, by rw [X6.warmed.alike.findClass, f6.1]; exact bf3, by rw [f6.2.2.1, bs3]; simp, fun j hj => by rw [f6.2.2.2 j, if_pos (by omega)]; rfl, kp3.put p6 (Nat.le_refl _)⟩, by rw [p6.2.2, bh3, hh0]; simp⟩, fun fs hl => c8.trans (X8.areturnOut hexec rfl hret rfl (hb hbytes d58) hl)⟩
end Cmp3
namespace CodL
def yN : MethodName := ⟨"java/lang/StringUTF16", "coderFromArrayLen", "([BI)B"⟩
abbrev yB : ByteArray := jdk_52_method_15_code
theorem d0 : decode yB 0 = .ok (.iload_n 1, 1) := by decide +kernel
theorem d1 : decode yB 1 = .ok (.aload_n 0, 1) := by decide +kernel
theorem d2 : decode yB 2 = .ok (.arraylength, 1) := by decide +kernel
theorem d3 : decode yB 3 = .ok (.isub, 1) := by decide +kernel
theorem d4 : decode yB 4 = .ok (.bipush 31, 2) := by decide +kernel
theorem d6 : decode yB 6 = .ok (.iushr, 1) := by decide +kernel
theorem d7 : decode yB 7 = .ok (.i2b, 1) := by decide +kernel
theorem d8 : decode yB 8 = .ok (.ireturn, 1) := by decide +kernel
def site : List Cond := []
def tab : Cond := tabOf yN yB 2 (some .byte) site
def P (d : Addr) (B : Cell) (args : Array Value) (s : State) : Prop := args = #[.ref d, .int (Int32.ofNat B.slots.size)] ∧ Arr .byte d B s
def E (r : Option Value) (s u : State) : Prop := XT.PureE (some (.int 0)) r s u
/-- an array as long as the number of chars: LATIN1 -/
theorem law (l : Launch) (d : Addr) (B : Cell) : Law l yN 2 2 0 0 yB 2 (some .byte) site (P d B) E [] 0 0 := by
  refine Law.of_walk (plainFor_of_name (by decide +kernel)) (by decide +kernel) (by decide +kernel) (by decide) (fun _ _ h => by rw [h.1]; rfl) (fun _ U U' hal hh h => ⟨h.1, h.2.mv hal hh⟩) (fun r U U' V V' h1 hal h2 h => XT.PureE.mv r U U' V V' h1 hal h2 h) ?_
  intro p e s m args below meth c s₁ X0 hexec hbytes hml hret hlk hnm hown hh0 W hP
  obtain ⟨rfl, hB⟩ := hP
  have hB0 := hB.mv X0.warmed.alike hh0
  have c1 : Steps p.tables e below (s₁.setTop (entryFrame m #[.ref d, .int (Int32.ofNat B.slots.size)] 2)) (s₁.setTop (mkF m 0 #[.val (.ref d), .val (.int (Int32.ofNat B.slots.size))] [])) := entry rfl
  have c2 : Steps p.tables e below (s₁.setTop (entryFrame m #[.ref d, .int (Int32.ofNat B.slots.size)] 2)) (s₁.setTop (mkF m 2 #[.val (.ref d), .val (.int (Int32.ofNat B.slots.size))] [.ref d, .int (Int32.ofNat B.slots.size)])) := c1.trans (by
    refine XS.iloadN X0.here hexec rfl (hb hbytes d0) rfl ?_
    refine XS.aloadN X0.here hexec rfl (hb hbytes d1) rfl rfl ?_
    exact Steps.refl _)
  have c3 : Steps p.tables e below (s₁.setTop (entryFrame m #[.ref d, .int (Int32.ofNat B.slots.size)] 2)) (s₁.setTop (mkF m 8 #[.val (.ref d), .val (.int (Int32.ofNat B.slots.size))] [.int (lo8 (ushr (Int32.ofNat B.slots.size - Int32.ofNat B.slots.size) 31))])) := c2.trans (by
    refine X0.alen hexec hB0 rfl rfl (hb hbytes d2) ?_
    refine XS.isub X0.here hexec rfl (hb hbytes d3) rfl ?_
    refine bipushV X0.here hexec rfl 31 (hb hbytes d4) (by decide) ?_
    refine iushr X0.here hexec rfl (hb hbytes d6) rfl ?_
    refine i2b X0.here hexec rfl (hb hbytes d7) rfl ?_
    exact Steps.refl _)
  have e0 : lo8 (ushr (Int32.ofNat B.slots.size - Int32.ofNat B.slots.size) 31) = 0 := by rw [Int32.sub_self]; decide
  rw [e0] at c3
  exact ⟨s₁, some (.int 0), _, _, _, X0, rfl, rfl, rfl, (fun h => by cases h), ⟨rfl, hh0⟩, fun fs hl => c3.trans (X0.ireturnOut hexec hret rfl (Or.inr (Or.inr (Or.inl rfl))) (hb hbytes d8) hl)⟩
end CodL
/-- the String at a is Latin-1 over a new byte[] (the heap's one new cell): the low bytes of the len chars of A from o on; every cell but a is kept -/
def Got (a : Addr) (D : Cell) (fV fC : Field) (A : Cell) (o len : Nat) (r : Option Value) (s u : State) : Prop := r = none ∧ ∃ D' V : Cell, Blank "java/lang/String" a D' u ∧ Same D D' [fV.slot, fC.slot] ∧ D'.slots[fV.slot]? = some (.ref s.heap.size) ∧ D'.slots[fC.slot]? = some (.int 0) ∧ Arr .byte s.heap.size V u ∧ V.vm = .none ∧ u.vm.findClass "[B" = some V.cls ∧ V.slots.size = len ∧ (∀ j, j < len → V.slots[j]? = some (.int (lo8 (cv A (o + j))))) ∧ (∀ (y : Addr) (c : Cell), y ≠ a → s.heap[y]? = some c → u.heap[y]? = some c) ∧ u.heap.size = s.heap.size + 1
theorem Got.mv {a : Addr} {D A : Cell} {fV fC : Field} {o len : Nat} : ∀ r (U U' V V' : State), U'.heap = U.heap → V.vm.Alike V'.vm → V'.heap = V.heap → Got a D fV fC A o len r U V → Got a D fV fC A o len r U' V' :=
  fun r U U' V V' h1 hal h2 ⟨e0, D', X, a1, a2, a3, a4, a5, a6, a7, a8, a9, a10, a11⟩ => ⟨e0, D', X, a1.mv hal h2, a2, by rw [h1]; exact a3, a4, by rw [h1]; exact a5.mv hal h2, a6, by rw [hal.findClass]; exact a7, a8, a9, by rw [h1, h2]; exact a10, by rw [h1, h2]; exact a11⟩
namespace New4
def yN : MethodName := ⟨"java/lang/String", "<init>", "([CIILjava/lang/Void;)V"⟩
abbrev yB : ByteArray := jdk_42_method_149_code
theorem d0 : decode yB 0 = .ok (.aload_n 0, 1) := by decide +kernel
theorem d1 : decode yB 1 = .ok (.invokespecial 1, 3) := by decide +kernel
theorem d4 : decode yB 4 = .ok (.iload_n 3, 1) := by decide +kernel
theorem d5 : decode yB 5 = .ok (.ifCond (.ne) 22, 3) := by decide +kernel
theorem d27 : decode yB 27 = .ok (.getstatic 38, 3) := by decide +kernel
theorem d30 : decode yB 30 = .ok (.ifCond (.eq) 28, 3) := by decide +kernel
theorem d33 : decode yB 33 = .ok (.aload_n 1, 1) := by decide +kernel
theorem d34 : decode yB 34 = .ok (.iload_n 2, 1) := by decide +kernel
theorem d35 : decode yB 35 = .ok (.iload_n 3, 1) := by decide +kernel
theorem d36 : decode yB 36 = .ok (.invokestatic 177, 3) := by decide +kernel
theorem d39 : decode yB 39 = .ok (.astore 5, 2) := by decide +kernel
theorem d41 : decode yB 41 = .ok (.aload_n 0, 1) := by decide +kernel
theorem d42 : decode yB 42 = .ok (.aload 5, 2) := by decide +kernel
theorem d44 : decode yB 44 = .ok (.iload_n 3, 1) := by decide +kernel
theorem d45 : decode yB 45 = .ok (.invokestatic 47, 3) := by decide +kernel
theorem d48 : decode yB 48 = .ok (.putfield 15, 3) := by decide +kernel
theorem d51 : decode yB 51 = .ok (.aload_n 0, 1) := by decide +kernel
theorem d52 : decode yB 52 = .ok (.aload 5, 2) := by decide +kernel
theorem d54 : decode yB 54 = .ok (.putfield 9, 3) := by decide +kernel
theorem d57 : decode yB 57 = .ok (.return_, 1) := by decide +kernel
def site : List Cond := [.fieldLink "java/lang/String" 38 "java/lang/String" "COMPACT_STRINGS" "Z", Cmp3.tab, CodL.tab, .laysFinal "java/lang/String" "java/lang/String" "value" "[B", .fieldLink "java/lang/String" 9 "java/lang/String" "value" "[B", .laysFinal "java/lang/String" "java/lang/String" "coder" "B", .fieldLink "java/lang/String" 15 "java/lang/String" "coder" "B"] ++ objW "java/lang/String" 1 ++ staticW "java/lang/String" 177 Cmp3.yN ++ staticW "java/lang/String" 47 CodL.yN
def tab : Cond := tabOf yN yB 6 none site
def P (a : Addr) (D : Cell) (fV fC : Field) (b : Addr) (A : Cell) (z : Int32) (o len : Nat) (args : Array Value) (s : State) : Prop := args = #[.ref a, .ref b, .int (Int32.ofNat o), .int (Int32.ofNat len), .null] ∧ Blank "java/lang/String" a D s ∧ Found "java/lang/String" "value" "[B" fV s ∧ Found "java/lang/String" "coder" "B" fC s ∧ Ch b A s ∧ StaticIs s "java/lang/String" "COMPACT_STRINGS" "Z" (.int z) ∧ ¬ z = 0 ∧ 0 < len ∧ o + len ≤ A.slots.size ∧ len ≤ 536870912 ∧ ∀ i, i < len → ¬ 255 < cv A (o + i)
def E (a : Addr) (D : Cell) (fV fC : Field) (A : Cell) (o len : Nat) (r : Option Value) (s u : State) : Prop := Got a D fV fC A o len r s u
/-- len > 0, no char of the range above 255: a Latin-1 String of their low bytes -/
theorem law (l : Launch) (a : Addr) (D : Cell) (fV fC : Field) (b : Addr) (A : Cell) (z : Int32) (o len : Nat) : Law l yN 5 4 2 35 yB 6 none site (P a D fV fC b A z o len) (E a D fV fC A o len) [⟨a, fC.slot⟩, ⟨a, fV.slot⟩] 1 len := by
  refine Law.of_walk (plainFor_of_name (by decide +kernel)) (by decide +kernel) (by decide +kernel) (by decide) (fun _ _ h => by rw [h.1]; rfl) (fun _ U U' hal hh h => ⟨h.1, h.2.1.mv hal hh, h.2.2.1.al hal, h.2.2.2.1.al hal, h.2.2.2.2.1.mv hal hh, h.2.2.2.2.2.1.there hal hh, h.2.2.2.2.2.2⟩) (fun r U U' V V' h1 hal h2 h => Got.mv r U U' V V' h1 hal h2 h) ?_
  intro p e s m args below meth c s₁ X0 hexec hbytes hml hret hlk hnm hown hh0 W hP
  obtain ⟨rfl, hB, f1, f2, hA, s1, hz, l0, l1, l2, hp⟩ := hP
  have a31 := hA.1.2.2.2
  have c1 : Steps p.tables e below (s₁.setTop (entryFrame m #[.ref a, .ref b, .int (Int32.ofNat o), .int (Int32.ofNat len), .null] 6)) (s₁.setTop (mkF m 0 #[.val (.ref a), .val (.ref b), .val (.int (Int32.ofNat o)), .val (.int (Int32.ofNat len)), .val .null, .unset] [])) := entry rfl
  have c2 : Steps p.tables e below (s₁.setTop (entryFrame m #[.ref a, .ref b, .int (Int32.ofNat o), .int (Int32.ofNat len), .null] 6)) (s₁.setTop (mkF m 1 #[.val (.ref a), .val (.ref b), .val (.int (Int32.ofNat o)), .val (.int (Int32.ofNat len)), .val .null, .unset] [.ref a])) := c1.trans (by
    refine XS.aloadN X0.here hexec rfl (hb hbytes d0) rfl rfl ?_
    exact Steps.refl _)
  obtain ⟨T3, X3, q3, st3⟩ := X0.oinit hexec hown (wks W (objW "java/lang/String" 1)) (g := (mkF m 1 #[.val (.ref a), .val (.ref b), .val (.int (Int32.ofNat o)), .val (.int (Int32.ofNat len)), .val .null, .unset] [.ref a])) rfl (by rw [hml]; rfl) (rest := []) rfl (hb hbytes d1) (W := 0) (by show 2 * 0 + 0 ≤ _; decide) (Nat.le_of_ble_eq_true rfl) (Nat.le_of_ble_eq_true rfl)
  have hh3 := q3.trans hh0
  have c4 : Steps p.tables e below (s₁.setTop (entryFrame m #[.ref a, .ref b, .int (Int32.ofNat o), .int (Int32.ofNat len), .null] 6)) (T3.setTop (mkF m 27 #[.val (.ref a), .val (.ref b), .val (.int (Int32.ofNat o)), .val (.int (Int32.ofNat len)), .val .null, .unset] [])) := (c2.trans (st3 _ (Steps.refl _))).trans (by
    refine XS.iloadN X3.here hexec rfl (hb hbytes d4) rfl ?_
    refine XS.ifYes X3.here hexec rfl (pc0 := 5) rfl (hb hbytes d5) rfl (i0_ne_t (nz32 (by omega) l0)) (by decide) rfl ?_
    exact Steps.refl _)
  obtain ⟨T5, X5, q5, st5⟩ := X3.sget hexec hown (wk W (.fieldLink "java/lang/String" 38 "java/lang/String" "COMPACT_STRINGS" "Z")) s1 (fun _ _ h => by rw [hh3]; exact h) (g := (mkF m 27 #[.val (.ref a), .val (.ref b), .val (.int (Int32.ofNat o)), .val (.int (Int32.ofNat len)), .val .null, .unset] [])) rfl (hb hbytes d27)
  have hh5 := q5.trans hh3
  have c6 : Steps p.tables e below (s₁.setTop (entryFrame m #[.ref a, .ref b, .int (Int32.ofNat o), .int (Int32.ofNat len), .null] 6)) (T5.setTop (mkF m 30 #[.val (.ref a), .val (.ref b), .val (.int (Int32.ofNat o)), .val (.int (Int32.ofNat len)), .val .null, .unset] [.int z])) := c4.trans (st5 _ (Steps.refl _))
  have c7 : Steps p.tables e below (s₁.setTop (entryFrame m #[.ref a, .ref b, .int (Int32.ofNat o), .int (Int32.ofNat len), .null] 6)) (T5.setTop (mkF m 36 #[.val (.ref a), .val (.ref b), .val (.int (Int32.ofNat o)), .val (.int (Int32.ofNat len)), .val .null, .unset] [.int (Int32.ofNat len), .int (Int32.ofNat o), .ref b])) := c6.trans (by
    refine XS.ifNo X5.here hexec rfl (hb hbytes d30) rfl (i0_eq_f hz) ?_
    refine XS.aloadN X5.here hexec rfl (hb hbytes d33) rfl rfl ?_
    refine XS.iloadN X5.here hexec rfl (hb hbytes d34) rfl ?_
    refine XS.iloadN X5.here hexec rfl (hb hbytes d35) rfl ?_
    exact Steps.refl _)
  obtain ⟨v8, T8, X8, E8, g8⟩ := X5.callS hexec (Cmp3.law l b A o len) hown (wks W (staticW "java/lang/String" 177 Cmp3.yN)) (wk W Cmp3.tab) (W := 0) (Nat.le_of_ble_eq_true rfl) (Nat.le_of_ble_eq_true rfl) (Nat.le_refl _) (by show 0 + len ≤ len; omega) (g := (mkF m 36 #[.val (.ref a), .val (.ref b), .val (.int (Int32.ofNat o)), .val (.int (Int32.ofNat len)), .val .null, .unset] [.int (Int32.ofNat len), .int (Int32.ofNat o), .ref b])) rfl (by rw [hml]; rfl) c7 (argsL := [.ref b, .int (Int32.ofNat o), .int (Int32.ofNat len)]) (rest := []) rfl rfl (by show 2 * 0 + 0 ≤ _; decide) (hb hbytes d36) (⟨rfl, hA.mv X5.warmed.alike hh5, l1, l2, hp⟩)
  obtain ⟨e8, z8⟩ := E8
  obtain ⟨rfl, N, n1, n2, n3, n4, n5, n6⟩ := NewArr.mv _ T5 s _ _ hh5.symm (Vm.Alike.refl _) rfl e8
  rw [hh5] at z8
  have hB1 := hB.keep X8.warmed.alike (n6 _ _ hB.1)
  have hne : s.heap.size ≠ a := (Nat.ne_of_lt (Array.getElem?_eq_some_iff.mp hB.1).1).symm
  have c9 : Steps p.tables e below (s₁.setTop (entryFrame m #[.ref a, .ref b, .int (Int32.ofNat o), .int (Int32.ofNat len), .null] 6)) (T8.setTop (mkF m 39 #[.val (.ref a), .val (.ref b), .val (.int (Int32.ofNat o)), .val (.int (Int32.ofNat len)), .val .null, .unset] [.ref s.heap.size])) := g8
  have c10 : Steps p.tables e below (s₁.setTop (entryFrame m #[.ref a, .ref b, .int (Int32.ofNat o), .int (Int32.ofNat len), .null] 6)) (T8.setTop (mkF m 45 #[.val (.ref a), .val (.ref b), .val (.int (Int32.ofNat o)), .val (.int (Int32.ofNat len)), .val .null, .val (.ref s.heap.size)] [.int (Int32.ofNat N.slots.size), .ref s.heap.size, .ref a])) := by
    have hc : Steps p.tables e below (s₁.setTop (entryFrame m #[.ref a, .ref b, .int (Int32.ofNat o), .int (Int32.ofNat len), .null] 6)) (T8.setTop (mkF m 45 #[.val (.ref a), .val (.ref b), .val (.int (Int32.ofNat o)), .val (.int (Int32.ofNat len)), .val .null, .val (.ref s.heap.size)] [.int (Int32.ofNat len), .ref s.heap.size, .ref a])) := c9.trans (by
      refine XS.astore X8.here hexec rfl (hb hbytes d39) rfl rfl rfl ?_
      refine XS.aloadN X8.here hexec rfl (hb hbytes d41) rfl rfl ?_
      refine XS.aload X8.here hexec rfl (hb hbytes d42) rfl rfl ?_
      refine XS.iloadN X8.here hexec rfl (hb hbytes d44) rfl ?_
      exact Steps.refl _)
    rw [n4]; exact hc
  obtain ⟨v11, T11, X11, E11, g11⟩ := X8.callS hexec (CodL.law l s.heap.size N) hown (wks W (staticW "java/lang/String" 47 CodL.yN)) (wk W CodL.tab) (W := 1) (Nat.le_of_ble_eq_true rfl) (Nat.le_of_ble_eq_true rfl) (Nat.le_refl _) (by show 0 + len + 0 ≤ len; omega) (g := (mkF m 45 #[.val (.ref a), .val (.ref b), .val (.int (Int32.ofNat o)), .val (.int (Int32.ofNat len)), .val .null, .val (.ref s.heap.size)] [.int (Int32.ofNat N.slots.size), .ref s.heap.size, .ref a])) rfl (by rw [hml]; rfl) c10 (argsL := [.ref s.heap.size, .int (Int32.ofNat N.slots.size)]) (rest := [.ref a]) rfl rfl (by show 2 * 0 + (1 + 0) ≤ _; decide) (hb hbytes d45) (⟨rfl, n1⟩)
  obtain ⟨rfl, q11⟩ := E11
  have hB11 := hB1.mv (X8.warmed.alike.symm.trans X11.warmed.alike) q11
  have c12 : Steps p.tables e below (s₁.setTop (entryFrame m #[.ref a, .ref b, .int (Int32.ofNat o), .int (Int32.ofNat len), .null] 6)) (T11.setTop (mkF m 48 #[.val (.ref a), .val (.ref b), .val (.int (Int32.ofNat o)), .val (.int (Int32.ofNat len)), .val .null, .val (.ref s.heap.size)] [.int 0, .ref a])) := g11
  obtain ⟨T13, X13, p13, bl13, sl13, st13⟩ := X11.finit hexec hown (wk W (.fieldLink "java/lang/String" 15 "java/lang/String" "coder" "B")) (Or.inr ⟨_, (wk W (.laysFinal "java/lang/String" "java/lang/String" "coder" "B"))⟩) (Or.inl ⟨rfl, hnm⟩) f2 (Or.inl rfl) hB11 (t := .byte) (by decide +kernel) rfl (g := (mkF m 48 #[.val (.ref a), .val (.ref b), .val (.int (Int32.ofNat o)), .val (.int (Int32.ofNat len)), .val .null, .val (.ref s.heap.size)] [.int 0, .ref a])) rfl (rest := []) rfl (hb hbytes d48)
  have c14 : Steps p.tables e below (s₁.setTop (entryFrame m #[.ref a, .ref b, .int (Int32.ofNat o), .int (Int32.ofNat len), .null] 6)) (T13.setTop (mkF m 54 #[.val (.ref a), .val (.ref b), .val (.int (Int32.ofNat o)), .val (.int (Int32.ofNat len)), .val .null, .val (.ref s.heap.size)] [.ref s.heap.size, .ref a])) := (c12.trans (st13 _ (Steps.refl _))).trans (by
    refine XS.aloadN X13.here hexec rfl (hb hbytes d51) rfl rfl ?_
    refine XS.aload X13.here hexec rfl (hb hbytes d52) rfl rfl ?_
    exact Steps.refl _)
  obtain ⟨T15, X15, p15, bl15, sl15, st15⟩ := X13.finit hexec hown (wk W (.fieldLink "java/lang/String" 9 "java/lang/String" "value" "[B")) (Or.inr ⟨_, (wk W (.laysFinal "java/lang/String" "java/lang/String" "value" "[B"))⟩) (Or.inl ⟨rfl, hnm⟩) f1 (Or.inl rfl) bl13 (t := (.array .byte)) (by decide +kernel) rfl (g := (mkF m 54 #[.val (.ref a), .val (.ref b), .val (.int (Int32.ofNat o)), .val (.int (Int32.ofNat len)), .val .null, .val (.ref s.heap.size)] [.ref s.heap.size, .ref a])) rfl (rest := []) rfl (hb hbytes d54)
  have c16 : Steps p.tables e below (s₁.setTop (entryFrame m #[.ref a, .ref b, .int (Int32.ofNat o), .int (Int32.ofNat len), .null] 6)) (T15.setTop (mkF m 57 #[.val (.ref a), .val (.ref b), .val (.int (Int32.ofNat o)), .val (.int (Int32.ofNat len)), .val .null, .val (.ref s.heap.size)] [])) := c14.trans (st15 _ (Steps.refl _))
  have ap := apart (Or.inr ⟨_, (wk W (.laysFinal "java/lang/String" "java/lang/String" "value" "[B"))⟩) (Or.inr ⟨_, (wk W (.laysFinal "java/lang/String" "java/lang/String" "coder" "B"))⟩) f1 f2 (t₁ := .array .byte) (t₂ := .byte) (by decide +kernel) (by decide +kernel) (by decide)
  have al := X8.warmed.alike.symm.trans X15.warmed.alike
  have n7 : T11.heap[s.heap.size]? = some N := by rw [q11]; exact n1.1
  exact ⟨T15, none, _, _, _, X15, by simp, rfl, by omega, (fun _ => rfl), ⟨rfl, _, N, bl15, ((Same.refl D _).set _ (by simp)).set _ (by simp), sl15, (Cell.slots_setSlot_ne _ ap).trans sl13, n1.keep al (p15.other hne (p13.other hne n7)), n2, by rw [al.findClass]; exact n3, n4, n5, fun y c h1 h2 => p15.other h1 (p13.other h1 (by rw [q11]; exact n6 y c h2)), by rw [p15.2.2, p13.2.2, q11]; exact z8⟩, fun fs hl => c16.trans (X15.returnOut hexec hret (hb hbytes d57) hl)⟩
end New4
namespace New1
def yN : MethodName := ⟨"java/lang/String", "<init>", "([C)V"⟩
abbrev yB : ByteArray := jdk_42_method_3_code
theorem d0 : decode yB 0 = .ok (.aload_n 0, 1) := by decide +kernel
theorem d1 : decode yB 1 = .ok (.aload_n 1, 1) := by decide +kernel
theorem d2 : decode yB 2 = .ok (.iconst 0, 1) := by decide +kernel
theorem d3 : decode yB 3 = .ok (.aload_n 1, 1) := by decide +kernel
theorem d4 : decode yB 4 = .ok (.arraylength, 1) := by decide +kernel
theorem d5 : decode yB 5 = .ok (.aconst_null, 1) := by decide +kernel
theorem d6 : decode yB 6 = .ok (.invokespecial 27, 3) := by decide +kernel
theorem d9 : decode yB 9 = .ok (.return_, 1) := by decide +kernel
def site : List Cond := [New4.tab] ++ initW "java/lang/String" 27 New4.yN
def tab : Cond := tabOf yN yB 2 none site
def P (a : Addr) (D : Cell) (fV fC : Field) (b : Addr) (A : Cell) (z : Int32) (args : Array Value) (s : State) : Prop := args = #[.ref a, .ref b] ∧ Blank "java/lang/String" a D s ∧ Found "java/lang/String" "value" "[B" fV s ∧ Found "java/lang/String" "coder" "B" fC s ∧ Ch b A s ∧ StaticIs s "java/lang/String" "COMPACT_STRINGS" "Z" (.int z) ∧ ¬ z = 0 ∧ 0 < A.slots.size ∧ A.slots.size ≤ 536870912 ∧ ∀ i, i < A.slots.size → ¬ 255 < cv A i
def E (a : Addr) (D : Cell) (fV fC : Field) (A : Cell) (r : Option Value) (s u : State) : Prop := Got a D fV fC A 0 A.slots.size r s u
/-- new String(chars), not empty, no char above 255: a Latin-1 String of their low bytes -/
theorem law (l : Launch) (a : Addr) (D : Cell) (fV fC : Field) (b : Addr) (A : Cell) (z : Int32) : Law l yN 2 1 3 52 yB 2 none site (P a D fV fC b A z) (E a D fV fC A) [⟨a, fC.slot⟩, ⟨a, fV.slot⟩] 1 A.slots.size := by
  refine Law.of_walk (plainFor_of_name (by decide +kernel)) (by decide +kernel) (by decide +kernel) (by decide) (fun _ _ h => by rw [h.1]; rfl) (fun _ U U' hal hh h => ⟨h.1, h.2.1.mv hal hh, h.2.2.1.al hal, h.2.2.2.1.al hal, h.2.2.2.2.1.mv hal hh, h.2.2.2.2.2.1.there hal hh, h.2.2.2.2.2.2⟩) (fun r U U' V V' h1 hal h2 h => Got.mv r U U' V V' h1 hal h2 h) ?_
  intro p e s m args below meth c s₁ X0 hexec hbytes hml hret hlk hnm hown hh0 W hP
  obtain ⟨rfl, hB, f1, f2, hA, s1, hz, l0, l2, hp⟩ := hP
  have c1 : Steps p.tables e below (s₁.setTop (entryFrame m #[.ref a, .ref b] 2)) (s₁.setTop (mkF m 0 #[.val (.ref a), .val (.ref b)] [])) := entry rfl
  have c2 : Steps p.tables e below (s₁.setTop (entryFrame m #[.ref a, .ref b] 2)) (s₁.setTop (mkF m 6 #[.val (.ref a), .val (.ref b)] [.null, .int (Int32.ofNat A.slots.size), .int 0, .ref b, .ref a])) := c1.trans (by
    refine XS.aloadN X0.here hexec rfl (hb hbytes d0) rfl rfl ?_
    refine XS.aloadN X0.here hexec rfl (hb hbytes d1) rfl rfl ?_
    refine iconstV X0.here hexec rfl 0 (hb hbytes d2) (by decide) ?_
    refine XS.aloadN X0.here hexec rfl (hb hbytes d3) rfl rfl ?_
    refine X0.alen hexec (hA.1.mv X0.warmed.alike hh0) rfl rfl (hb hbytes d4) ?_
    refine XS.aconstNull X0.here hexec rfl (hb hbytes d5) ?_
    exact Steps.refl _)
  obtain ⟨v3, T3, X3, E3, g3⟩ := X0.callN hexec (New4.law l a D fV fC b A z 0 A.slots.size) rfl hown (wks W (initW "java/lang/String" 27 New4.yN)) (W New4.tab (by simp only [site, List.mem_cons, List.mem_append, true_or, or_true])) (W := 0) (Nat.le_of_ble_eq_true rfl) (Nat.le_of_ble_eq_true rfl) (Nat.le_refl _) (by show 0 + A.slots.size ≤ A.slots.size; omega) (g := (mkF m 6 #[.val (.ref a), .val (.ref b)] [.null, .int (Int32.ofNat A.slots.size), .int (Int32.ofNat 0), .ref b, .ref a])) rfl (by rw [hml]; rfl) c2 (argsL := [.ref b, .int (Int32.ofNat 0), .int (Int32.ofNat A.slots.size), .null]) (rest := []) rfl rfl (by show 2 * 0 + 0 ≤ _; decide) (hb hbytes d6) (⟨rfl, hB.mv X0.warmed.alike hh0, f1.al X0.warmed.alike, f2.al X0.warmed.alike, hA.mv X0.warmed.alike hh0, s1.there X0.warmed.alike hh0, hz, l0, by omega, l2, fun i hi => by rw [Nat.zero_add]; exact hp i hi⟩)
  have e0 := Got.mv _ s₁ s _ _ hh0.symm (Vm.Alike.refl _) rfl E3
  obtain rfl := e0.1
  have c4 : Steps p.tables e below (s₁.setTop (entryFrame m #[.ref a, .ref b] 2)) (T3.setTop (mkF m 9 #[.val (.ref a), .val (.ref b)] [])) := g3
  exact ⟨T3, none, _, _, _, X3, by simp, rfl, by omega, (fun _ => rfl), e0, fun fs hl => c4.trans (X3.returnOut hexec hret (hb hbytes d9) hl)⟩
theorem pays {l : Launch} {R : Room} {p : Program} {e : Env} {below : List Frame} {s : State} {sargs : Array Value} {len W : Nat} (a : Addr) (D : Cell) (fV fC : Field) (b : Addr) (A : Cell) (z : Int32) (htab : tab.before sargs s = true) (hfr : 4 ≤ R.frames) (hlo : W + 65 ≤ R.locals) :
    Back l R p e below s sargs yN len W (fun A₁ a₁ => A₁.cells + 1 ≤ R.cells ∧ A₁.slots + A.slots.size ≤ R.slots ∧ P a D fV fC b A z a₁ A₁.U) (fun A₁ _ v₁ B₁ => E a D fV fC A v₁ A₁.U B₁.U ∧ B₁.locs = A₁.locs ++ [⟨a, fC.slot⟩, ⟨a, fV.slot⟩] ∧ B₁.cells = A₁.cells + 1 ∧ B₁.slots = A₁.slots + A.slots.size) :=
  (law l a D fV fC b A z).pays htab hfr (by omega)
end New1
end StrChars
namespace StrChars.Road
open Jvm Sem ClassFile Op Lib Jvm.Stand Jvm.Free Jvm.Free.XT
open Jvm.Lib.Cold (StaticIs)
abbrev ST : String := "java/lang/String"
/-- every table word that New1's law asks, flat -/
abbrev words : List Jvm.Cond := [.code New1.yN New1.yB 2 none, .initialized ST, .methodLink ST 27 New4.yN, .instanceMethod New4.yN,
  .code New4.yN New4.yB 6 none, .fieldLink ST 38 ST "COMPACT_STRINGS" "Z", .laysFinal ST ST "value" "[B", .fieldLink ST 9 ST "value" "[B", .laysFinal ST ST "coder" "B", .fieldLink ST 15 ST "coder" "B",
  .methodLink ST 1 Lib.objectInit, .instanceMethod Lib.objectInit, .code Lib.objectInit ⟨#[0xb1]⟩ 1 none, .methodLink ST 177 Cmp3.yN, .static Cmp3.yN, .methodLink ST 47 CodL.yN, .static CodL.yN,
  .code Cmp3.yN Cmp3.yB 6 (some (.array .byte)), .initialized U16, .arrayClass .byte, .methodLink U16 115 Cmp5.yN, .static Cmp5.yN, .code Cmp5.yN Cmp5.yB 7 (some .int), .code CodL.yN CodL.yB 2 (some .byte)]
theorem tab_of {a : Array Value} {s : State} (h : ∀ w ∈ words, w.before a s = true) : New1.tab.before a s = true := by
  have h5 : Cmp5.tab.before a s = true := unparts (wk h (.code Cmp5.yN Cmp5.yB 7 (some .int))) (wks h (.initialized Cmp5.yN.cls :: Cmp5.site))
  have hc : CodL.tab.before a s = true := unparts (wk h (.code CodL.yN CodL.yB 2 (some .byte))) (wks h (.initialized CodL.yN.cls :: CodL.site))
  have q5 : ∀ w ∈ Cmp5.tab :: words, w.before a s = true := fun w hw => (List.mem_cons.mp hw).elim (fun e => e ▸ h5) (h w)
  have h3 : Cmp3.tab.before a s = true := unparts (wk q5 (.code Cmp3.yN Cmp3.yB 6 (some (.array .byte)))) (wks q5 (.initialized Cmp3.yN.cls :: Cmp3.site))
  have q3 : ∀ w ∈ Cmp3.tab :: CodL.tab :: words, w.before a s = true := fun w hw => (List.mem_cons.mp hw).elim (fun e => e ▸ h3) fun hw => (List.mem_cons.mp hw).elim (fun e => e ▸ hc) (h w)
  have h4 : New4.tab.before a s = true := unparts (wk q3 (.code New4.yN New4.yB 6 none)) (wks q3 (.initialized New4.yN.cls :: New4.site))
  have q4 : ∀ w ∈ New4.tab :: words, w.before a s = true := fun w hw => (List.mem_cons.mp hw).elim (fun e => e ▸ h4) (h w)
  exact unparts (wk q4 (.code New1.yN New1.yB 2 none)) (wks q4 (.initialized New1.yN.cls :: New1.site))
/-- the words ride from the start Z to the walk's own state -/
theorem moved {Z s : State} {a0 args : Array Value} (hZ : Z.Warmed39 s.vm) (hw : ∀ d ∈ words, d.before a0 Z = true) : ∀ d ∈ words, d.before args s = true := fun d hd => by
  have q := hw d hd
  have t : ∀ d ∈ words, d = .arrayClass .byte ∨ (d.onTables && d.keepsFace) = true := by decide +kernel
  rcases t d hd with rfl | t
  · exact RoadKit.mvA hZ q
  · exact RoadKit.mv hZ q t
/-- WHAT COMES BACK, over the tables of the start Z: h the heap at the call, h' behind it -/
def Q (Z : State) (x : Addr) (A : Cell) (h : Heap) (v : Option Value) (h' : Heap) (L : List Loc) : Prop := v = none ∧ (∀ y ∈ L, y.base = x) ∧ RoadKit.Keep h h' [x] ∧ h'.size = h.size + 1 ∧ RoadKit.Exa Z h' x ST ∧ RoadKit.Fld Z h' x ST "value" "[B" (.ref h.size) ∧ RoadKit.Fld Z h' x ST "coder" "B" (.int 0) ∧
  (∃ V : Cell, RoadKit.Arr Z h' h.size V .byte ∧ V.vm = .none ∧ Z.vm.findClass "[B" = some V.cls ∧ V.slots.size = A.slots.size ∧ ∀ j, j < A.slots.size → V.slots[j]? = some (.int (lo8 (cv A j)))) ∧
  ∀ (O n d : String) (w : Value), RoadKit.Fld Z h x O n d w → RoadKit.slotOf Z O n d ≠ RoadKit.slotOf Z ST "value" "[B" → RoadKit.slotOf Z O n d ≠ RoadKit.slotOf Z ST "coder" "B" → RoadKit.Fld Z h' x O n d w
/-- **new String(chars) AT A CALL, IN THE ROAD'S FORM**: for specialBack behind newO: x the fresh String, b the char[] with the cell A -/
theorem back {p : Program} {l : Launch} {e : Env} {R : Room} {s : State} {args : Array Value} {below : List Frame} {len W : Nat} {Z : State} {a0 : Array Value} {h : Heap} (hZ : Z.Warmed39 s.vm) (hw : ∀ d ∈ words, d.before a0 Z = true) {kI : Nat} (wi : (Jvm.Cond.instantiable ST kI).before a0 Z = true)
    {x b : Addr} {A : Cell} {z : Int32} {v0 c0 : Value} (E : RoadKit.Exa Z h x ST) (V : RoadKit.Fld Z h x ST "value" "[B" v0) (C : RoadKit.Fld Z h x ST "coder" "B" c0) (K : RoadKit.Arr Z h b A .char) (hty : Typed .char A) (S : RoadKit.Sta Z h ST "COMPACT_STRINGS" "Z" (.int z)) (hz : ¬ z = 0)
    (l0 : 0 < A.slots.size) (l2 : A.slots.size ≤ 536870912) (hp : ∀ i, i < A.slots.size → ¬ 255 < cv A i) (hfr : 4 ≤ R.frames) (hlo : W + 65 ≤ R.locals) :
    Back l R p e below s args New1.yN len W (fun P a => a = #[.ref x, .ref b] ∧ P.U.heap = h ∧ P.cells + 1 ≤ R.cells ∧ P.slots + A.slots.size ≤ R.slots)
      (fun P _ v B => ∃ L, Q Z x A h v B.U.heap L ∧ B.locs = P.locs ++ L ∧ B.cells = P.cells + 1 ∧ B.slots = P.slots + A.slots.size) := by
  intro m meth c P g ig mk a X hg hsize hdg hW hn hp'
  obtain ⟨rfl, rfl, r1, r2⟩ := hp'
  have al : Z.vm.Alike P.U.vm := hZ.alike.trans X.warmed.alike
  obtain ⟨D, cfV, kV, iV, fV, hD, gV, stV, knV, obV, asV, slV⟩ := id V
  obtain ⟨D', cfC, kC, iC, fC, hD', gC, stC, -, -, asC, slC⟩ := id C
  cases hD.symm.trans hD'
  obtain ⟨D2, kD, e1, e2, e3, e4, e5⟩ := id E
  cases hD.symm.trans e1
  obtain ⟨c2, k2, i1, i2, i3, -⟩ := Cond.instantiable_spec wi
  cases e2.symm.trans i1
  cases e3.symm.trans i2
  obtain ⟨kU, u1, u2⟩ := al.2.2 _ _ e3
  have hB : Blank ST x D P.U := ⟨hD, ⟨knV, fun q hq => by rw [hq] at obV; cases obV⟩, by rw [al.findClass]; exact e2, kU, u1, by rw [u2]; exact i3, by rw [u2]; exact e5 i3⟩
  have F1 : Found ST "value" "[B" fV P.U := ⟨SBG.found_only al ⟨cfV, kV, iV, gV⟩, stV⟩
  have F2 : Found ST "coder" "B" fC P.U := ⟨SBG.found_only al ⟨cfC, kC, iC, gC⟩, stC⟩
  have hA : Ch b A P.U := ⟨⟨K.1, State.isArrayOf_alike al K.2.1, K.2.2, by omega⟩, hty⟩
  have hS : StaticIs P.U ST "COMPACT_STRINGS" "Z" (.int z) := by
    obtain ⟨cfS, iS, kS, fS, st, cS, t1, t2, t3, t4, t5, t6, t7⟩ := S
    exact StaticIs.there (s := { Z with heap := P.U.heap }) ⟨cfS, iS, kS, fS, st, cS, t1, t2, t3, t4, t5, (fun q => by rw [q] at t6; cases t6), t7⟩ al rfl
  obtain ⟨v, B, X', ⟨⟨hv, E', V', q1, q2, q3, q4, q5, q6, q7, q8, q9, q10, q11⟩, hl, hc, hs⟩, st⟩ := New1.pays x D fV fC b A z (tab_of (moved hZ hw)) hfr hlo m meth c P g ig mk _ X hg hsize hdg hW hn ⟨r1, r2, rfl, hB, F1, F2, hA, hS, hz, l0, l2, hp⟩
  have al' : Z.vm.Alike B.U.vm := hZ.alike.trans X'.warmed.alike
  have hsz : E'.slots.size = D.slots.size := by
    obtain ⟨-, -, -, kB, w1, w2, w3⟩ := q1
    obtain ⟨kB', y1, y2⟩ := al'.2.2 _ _ e3
    rw [q2.2.1] at w1
    cases w1.symm.trans y1
    rw [w3, e5 i3, y2]
  refine ⟨v, B, X', ⟨_, ⟨hv, ?_, ⟨by omega, fun y cy hy hn' => q10 y cy (by simpa using hn') hy, fun y cy hy => ?_⟩, q11, ⟨E', _, q1.1, by rw [q2.2.1]; exact e2, by rw [q2.2.1]; exact e3, by rw [q2.1]; exact obV, fun _ => by rw [hsz]; exact e5 i3⟩,
    ⟨E', cfV, kV, iV, fV, q1.1, gV, stV, by rw [q2.1]; exact knV, by rw [q2.1]; exact obV, by rw [q2.2.1]; exact asV, q3⟩, ⟨E', cfC, kC, iC, fC, q1.1, gC, stC, by rw [q2.1]; exact knV, by rw [q2.1]; exact obV, by rw [q2.2.1]; exact asC, q4⟩,
    ⟨V', ⟨q5.1, State.isArrayOf_alike al'.symm q5.2.1, q5.2.2.1⟩, q6, by rw [← al'.findClass]; exact q7, q8, fun j hj => by have := q9 j hj; rwa [Nat.zero_add] at this⟩, fun O n d w F n1 n2 => ?_⟩, hl, hc, hs⟩, st⟩
  · intro y hy
    simp only [List.mem_cons, List.not_mem_nil, or_false] at hy
    rcases hy with rfl | rfl <;> rfl
  · by_cases q : y = x
    · subst q
      cases hD.symm.trans hy
      exact ⟨E', q1.1, q2.2.1, q2.1, hsz⟩
    · exact ⟨cy, q10 y cy q hy, rfl, rfl, rfl⟩
  · obtain ⟨D3, cf, k, i, f, g1, g2, g3, g4, g5, g6, g7⟩ := F
    cases hD.symm.trans g1
    simp only [RoadKit.slotOf, g2, gV, gC, Option.map_some, Option.getD_some] at n1 n2
    exact ⟨E', cf, k, i, f, q1.1, g2, g3, by rw [q2.1]; exact g4, by rw [q2.1]; exact g5, by rw [q2.2.1]; exact g6, by rw [q2.2.2 f.slot (by simp [n1, n2])]; exact g7⟩
end StrChars.Road
namespace StrChars.Road
open Jvm Sem ClassFile Op Lib Jvm.Stand Jvm.Free Jvm.Free.XT
/-- WHAT COMES BACK, the byte[] as a list of values -/
def QA (Z : State) (x : Addr) (zn : Int32) (cs : List Int32) (h : Heap) (v : Option Value) (h' : Heap) (L : List Loc) : Prop := v = none ∧ (∀ y ∈ L, y.base = x) ∧ RoadKit.Keep h h' [x] ∧ h'.size = h.size + 1 ∧ RoadKit.Exa Z h' x ST ∧ RoadKit.Fld Z h' x ST "value" "[B" (.ref h.size) ∧ RoadKit.Fld Z h' x ST "coder" "B" (.int 0) ∧
  (∃ kb, Z.vm.findClass "[B" = some kb ∧ RoadKit.Arv Z h' h.size kb .byte zn (cs.map fun c => .int (lo8 c)) (.int 0)) ∧
  ∀ (O n d : String) (w : Value), RoadKit.Fld Z h x O n d w → RoadKit.slotOf Z O n d ≠ RoadKit.slotOf Z ST "value" "[B" → RoadKit.slotOf Z O n d ≠ RoadKit.slotOf Z ST "coder" "B" → RoadKit.Fld Z h' x O n d w
/-- **new String(chars) AT A CALL, THE ARRAYS AS LISTS**: the char[] at b holds cs, not empty, no char above 255 -/
theorem backArv {p : Program} {l : Launch} {e : Env} {R : Room} {s : State} {args : Array Value} {below : List Frame} {len W : Nat} {Z : State} {a0 : Array Value} {h : Heap} (hZ : Z.Warmed39 s.vm) (hw : ∀ d ∈ words, d.before a0 Z = true) {kI : Nat} (wi : (Jvm.Cond.instantiable ST kI).before a0 Z = true)
    {x b : Addr} {k : ClassId} {zn z : Int32} {cs : List Int32} {dv v0 c0 : Value} (E : RoadKit.Exa Z h x ST) (V : RoadKit.Fld Z h x ST "value" "[B" v0) (C : RoadKit.Fld Z h x ST "coder" "B" c0) (K : RoadKit.Arv Z h b k .char zn (cs.map Value.int) dv) (S : RoadKit.Sta Z h ST "COMPACT_STRINGS" "Z" (.int z)) (hz : ¬ z = 0)
    (hlen : zn.toNatClampNeg = cs.length) (h0 : 0 < cs.length) (hbig : cs.length ≤ 536870912) (hall : ∀ c ∈ cs, ¬ 255 < c) (hfr : 4 ≤ R.frames) (hlo : W + 65 ≤ R.locals) :
    Back l R p e below s args New1.yN len W (fun P a => a = #[.ref x, .ref b] ∧ P.U.heap = h ∧ P.cells + 1 ≤ R.cells ∧ P.slots + cs.length ≤ R.slots)
      (fun P _ v B => ∃ L, QA Z x zn cs h v B.U.heap L ∧ B.locs = P.locs ++ L ∧ B.cells = P.cells + 1 ∧ B.slots = P.slots + cs.length) := by
  obtain ⟨A, K1, K2, K3, K4, K5, K6⟩ := K
  have e : A.slots.size = cs.length := K3.trans hlen
  have hat : ∀ (i : Nat) (hi : i < cs.length), A.slots[i]? = some (.int cs[i]) := fun i hi => by rw [K5 i (by omega)]; simp [List.getD_eq_getElem?_getD, hi]
  have hcv : ∀ (i : Nat) (hi : i < cs.length), cv A i = cs[i] := fun i hi => by unfold cv; rw [hat i hi]
  have hty : Typed .char A := fun i v hv => by
    have hi : i < A.slots.size := (Array.getElem?_eq_some_iff.mp hv).1
    have q := K5 i hi
    rw [hv] at q
    rw [Option.some.inj q]
    exact K6 i hi
  refine Back.mono (back hZ hw wi E V C K1 hty S hz (by omega) (by omega) (fun i hi => by rw [hcv i (by omega)]; exact hall _ (List.getElem_mem _)) hfr hlo) (fun P a hp => ⟨hp.1, hp.2.1, hp.2.2.1, by rw [e]; exact hp.2.2.2⟩) (fun P a v B hp hq => ?_)
  obtain ⟨L, ⟨q1, q2, q3, q4, q5, q6, q7, ⟨V', v1, v2, v3, v4, v5⟩, q9⟩, hl, hc, hs⟩ := hq
  refine ⟨L, ⟨q1, q2, q3, q4, q5, q6, q7, ⟨V'.cls, v3, V', v1, rfl, by rw [v4, e, hlen], K4, fun i hi => ?_, fun i hi => ?_⟩, q9⟩, hl, hc, by rw [hs, e]⟩
  · have hi' : i < cs.length := by omega
    rw [v5 i (by omega), hcv i hi']; simp [List.getD_eq_getElem?_getD, hi']
  · have hi' : i < cs.length := by omega
    simp only [List.getD_eq_getElem?_getD, List.getElem?_map, List.getElem?_eq_getElem hi', Option.map_some, Option.getD_some]
    exact fits_lo8 _
end StrChars.Road
namespace StrChars.Road
open Jvm Sem ClassFile Op Lib Jvm.Stand Jvm.Free Jvm.Free.XT
/-- WHAT COMES BACK, in the writer's own shape -/
def QV (Z : State) (x : Addr) (N : Int32) (bs : List Int32) (h : Heap) (n0 : Nat) (v : Option Value) (h' : Heap) (L : List Loc) : Prop := v = none ∧ RoadKit.Fr n0 L ∧ RoadKit.Keep h h' [x] ∧ RoadKit.Exa Z h' x ST ∧ RoadKit.Fld Z h' x ST "coder" "B" (.int 0) ∧
  ∃ (t : Addr) (kb : ClassId), n0 ≤ t ∧ h.size ≤ t ∧ ¬ t = x ∧ RoadKit.Fld Z h' x ST "value" "[B" (.ref t) ∧ RoadKit.Arv Z h' t kb .byte N (bs.map Value.int) (.int 0)
/-- **new String(chars) AT A CALL, FOR THE WRITER**: a char[] of n known ints, each 0 to 255 -/
theorem backV {p : Program} {l : Launch} {e : Env} {R : Room} {s : State} {args : Array Value} {below : List Frame} {len W : Nat} {Z : State} {a0 : Array Value} {h : Heap} (hZ : Z.Warmed39 s.vm) (hw : ∀ d ∈ words, d.before a0 Z = true) {kI : Nat} (wi : (Jvm.Cond.instantiable ST kI).before a0 Z = true)
    {x b : Addr} {kC : ClassId} {cs bs : List Int32} {d v0 c0 : Value} {z N : Int32} {n n0 : Nat} (hx0 : n0 ≤ x) (hh0 : n0 ≤ h.size) (E : RoadKit.Exa Z h x ST) (V : RoadKit.Fld Z h x ST "value" "[B" v0) (C : RoadKit.Fld Z h x ST "coder" "B" c0) (K : RoadKit.Arv Z h b kC .char N (cs.map Value.int) d) (S : RoadKit.Sta Z h ST "COMPACT_STRINGS" "Z" (.int z)) (hz : ¬ z = 0)
    (hn : cs.length = n) (hN : N = Int32.ofNat n) (l0 : 0 < n) (l2 : n ≤ 4000) (hp : ∀ c ∈ cs, ¬ c < 0 ∧ ¬ (255 : Int32) < c) (hb : bs = cs.map (fun c => c.toInt8.toInt32)) (hfr : 4 ≤ R.frames) (hlo : W + 65 ≤ R.locals) :
    Back l R p e below s args (⟨"java/lang/String", "<init>", "([C)V"⟩ : MethodName) len W (fun P a => a = #[.ref x, .ref b] ∧ P.U.heap = h ∧ P.cells + 1 ≤ R.cells ∧ P.slots + n ≤ R.slots)
      (fun P _ v B => ∃ L, QV Z x N bs h n0 v B.U.heap L ∧ B.locs = P.locs ++ L ∧ B.cells = P.cells + 1 ∧ B.slots = P.slots + n) := by
  subst hn hN hb
  refine Back.mono (backArv hZ hw wi E V C K S hz (n32 (by omega)) l0 (by omega) (fun c hc => (hp c hc).2) hfr hlo) (fun P a hp => hp) (fun P a v B hp hq => ?_)
  obtain ⟨L, ⟨q1, q2, q3, q4, q5, q6, q7, ⟨kb, v1, v2⟩, q9⟩, hl, hc, hs⟩ := hq
  exact ⟨L, ⟨q1, fun y hy => by rw [q2 y hy]; exact hx0, q3, q5, q7, h.size, kb, hh0, Nat.le_refl _, Nat.ne_of_gt E.lt, q6, by rw [List.map_map]; exact v2⟩, hl, hc, hs⟩
end StrChars.Road
end Jvm.Pilot.@@N@@

namespace Jvm.Pilot.@@N@@
open Jvm Jvm.ClassFile Sem Op Lib Jvm.Free Jvm.Stand Jvm.LawKit Jvm.RoadKit Bundle Jvm.Pilot.@@N@@.Jvm.D
section Own
variable {p : Program} {l : Launch} {e : Env} {R : Room} {s : State} {m : MethodId} {args : Array Value} {below : List Frame} {meth : Method} {c : Code} {T : State} {locs : List Loc} {cells slots : Nat}
theorem own_retI (X : Stand p l e R s m args below meth c T locs cells slots) (hx : p.tables.exec = Jvm.exec) {pc : Nat} {Ls : Array Slot} {z : Int32} {rest : List Value} (hret : meth.sig.returnType = some .int) (hd : decode c.code pc = .ok (.ireturn, 1)) {fs : List Frame}
    (hl : ∀ (f : JFrame) (acts : List Action), f.method = m → f.locked = none → f.entered = [] → (doReturn e (T.setTop f) acts (some (.int z))).1 = T.setFrames fs) : Steps p.tables e below (T.setTop (mkF m pc Ls (.int z :: rest))) (T.setFrames fs) := by
  have hm' : T.vm.method? m = some meth := X.method'
  have hn : narrow .int (.int z) = .int z := rfl
  show Steps p.tables e below (T.setTop { method := m, pc := pc, locals := Ls, stack := _ :: rest, locked := none }) _
  jvm_step X.here [X.here.top, hx, hd, hm', hret, hn]
  first | (intro acts; rw [hl _ acts rfl rfl rfl]) | rw [hl _ _ rfl rfl rfl]
  exact Steps.refl _
/-- from the state S the invocation comes to an end at which Post holds -/
def own_Go (p : Program) (e : Env) (below : List Frame) (Post : Outcome → State → Prop) (S : State) : Prop := ∃ s₂ o, Steps p.tables e below S s₂ ∧ s₂.status = .running ∧ Ended s₂ below o ∧ Post o s₂
theorem own_Go.of {Post : Outcome → State → Prop} {S S' : State} (k : ∀ target, Steps p.tables e below S' target → Steps p.tables e below S target) (h : own_Go p e below Post S') : own_Go p e below Post S := by
  obtain ⟨s₂, o, h1, h2⟩ := h
  exact ⟨s₂, o, k _ h1, h2⟩
theorem own_Go.tr {Post : Outcome → State → Prop} {S S' : State} (k : Steps p.tables e below S S') (h : own_Go p e below Post S') : own_Go p e below Post S := by
  obtain ⟨s₂, o, h1, h2⟩ := h
  exact ⟨s₂, o, k.trans h1, h2⟩
theorem own_retP (X : Stand p l e R s m args below meth c T locs cells slots) {v : Option Value} {Q : Option Value → Heap → List Loc → Prop} {C S : Nat} {g : JFrame} (hv : meth.sig.returnType = none → v = none) (hlk : meth.locks = false)
    (st : ∀ fs, (∀ (f : JFrame) (acts : List Action), f.method = m → f.locked = none → f.entered = [] → (doReturn e (T.setTop f) acts v).1 = T.setFrames fs) → Steps p.tables e below (T.setTop g) (T.setFrames fs)) (hc : cells ≤ C) (hs : slots ≤ S) (hQ : Q v T.heap locs) :
    own_Go p e below (fun o U' => ∃ v L, o = .returned v ∧ Q v U'.heap L ∧ FrameEnd s o U' L C S) (T.setTop g) := by
  obtain ⟨fs, hr, hrun, hended, hW, hsame⟩ := X.leave (v := v) hv hlk
  exact ⟨_, _, st fs hr, hrun, hended, _, _, rfl, hQ, ⟨_, rfl⟩, hW, hsame.mono hc hs⟩
theorem own_cP {pc : Nat} {Ls : Array Slot} {S rest : List Value} {Post : Outcome → State → Prop} {Q : Option Value → Heap → List Loc → Prop} {j n : Nat} (X : Stand p l e R s m args below meth c T locs cells slots)
    (H : ∃ (v : Option Value) (vm₁ : Vm) (B : Pt), s.WarmedH vm₁ ∧ Stand p l e R s m args below meth c B.U B.locs B.cells B.slots ∧ (∃ L, Q v B.U.heap L ∧ B.locs = locs ++ L ∧ B.cells = cells + j ∧ B.slots = slots + n) ∧ Steps p.tables e below (T.setTop (mkF m pc Ls S)) (B.U.setTop (mkF m (pc + 3) Ls (v.toList ++ rest))))
    (k : ∀ v T' L, Stand p l e R s m args below meth c T' (locs ++ L) (cells + j) (slots + n) → Q v T'.heap L → own_Go p e below Post (T'.setTop (mkF m (pc + 3) Ls (v.toList ++ rest)))) : own_Go p e below Post (T.setTop (mkF m pc Ls S)) := by
  obtain ⟨v, vm₁, ⟨T', L', c', n'⟩, -, X', ⟨L, hQ, e1, e2, e3⟩, st⟩ := H
  dsimp only [Pt.U, Pt.locs, Pt.cells, Pt.slots] at X' e1 e2 e3 st hQ
  subst e1 e2 e3
  exact own_Go.tr st (k v T' L X' hQ)
theorem own_cF {pc : Nat} {Ls : Array Slot} {S rest : List Value} {Post : Outcome → State → Prop} {Q : Option Value → Heap → List Loc → Prop} {j n : Nat} (X : Stand p l e R s m args below meth c T locs cells slots)
    (H : ∃ (v : Option Value) (vm₁ : Vm) (B : Pt), s.WarmedH vm₁ ∧ Stand p l e R s m args below meth c B.U B.locs B.cells B.slots ∧ (∃ L, Q v B.U.heap L ∧ B.locs = locs ++ L ∧ B.cells = cells + j ∧ B.slots = slots + n) ∧ ∀ target, Steps p.tables e below (B.U.setTop (mkF m (pc + 3) Ls (v.toList ++ rest))) target → Steps p.tables e below (T.setTop (mkF m pc Ls S)) target)
    (k : ∀ v T' L, Stand p l e R s m args below meth c T' (locs ++ L) (cells + j) (slots + n) → Q v T'.heap L → own_Go p e below Post (T'.setTop (mkF m (pc + 3) Ls (v.toList ++ rest)))) : own_Go p e below Post (T.setTop (mkF m pc Ls S)) := by
  obtain ⟨v, vm₁, ⟨T', L', c', n'⟩, -, X', ⟨L, hQ, e1, e2, e3⟩, st⟩ := H
  dsimp only [Pt.U, Pt.locs, Pt.cells, Pt.slots] at X' e1 e2 e3 st hQ
  subst e1 e2 e3
  exact own_Go.of st (k v T' L X' hQ)
abbrev own_MP (l : Launch) (y : MethodName) (b : ByteArray) (ml : Nat) (rt : Option FieldType) (ws : List Jvm.Cond) (R : Room) (Z : State) (h0 : Heap) (as : Array Value) (K : Program → Env → List Frame → State → Array Value → Prop) (Q : Option Value → Heap → List Loc → Prop) : Prop :=
  MetFree l y (head1 (Jvm.Cond.code y b ml rt :: ws) R) (fun a U => a = as ∧ Z.Warmed39 U.vm ∧ U.heap = h0) K (fun _ U o U' => ∃ v L, o = .returned v ∧ Q v U'.heap L ∧ FrameEnd U o U' L R.cells R.slots)
theorem own_startP {l : Launch} {y : MethodName} {b : ByteArray} {ml : Nat} {rt : Option FieldType} {ws : List Jvm.Cond} {R : Room} {Z : State} {h0 : Heap} {as : Array Value} {K : Program → Env → List Frame → State → Array Value → Prop} {Q : Option Value → Heap → List Loc → Prop} (hpn : plainFor y = true)
    (h : ∀ (p : Program) (e : Env) (s : State) (m : MethodId) (below : List Frame) (meth : Method) (c : Code) (s₁ : State), BodyLoose p l y (head1 (Jvm.Cond.code y b ml rt :: ws) R) b ml rt e s m as below meth c s₁ → p.tables.exec = Jvm.exec → c.code = b → c.maxLocals = ml → s.vm.findClass y.cls = some m.cls → Stand p l e R s m as below meth c s₁ [] 0 0 → s₁.heap = h0 → s.heap = h0 → Z.Warmed39 s.vm → K p e below s as →
      ∀ Pst : Outcome → State → Prop, Pst = (fun o U' => ∃ v L, o = .returned v ∧ Q v U'.heap L ∧ FrameEnd s o U' L R.cells R.slots) → own_Go p e below Pst (s₁.setTop (entryFrame m as ml))) : own_MP l y b ml rt ws R Z h0 as K Q := by
  refine MetFree.of_bodySF hpn hisR ?_
  intro p e s m args below meth c s₁ Bd hml0 hP hK
  obtain ⟨rfl, hZ, hh0⟩ := hP
  exact h p e s m below meth c s₁ Bd Bd.exec Bd.bytes hml0 (findClass_of_methodNamed Bd.named) (Stand.of_body Bd) (by rw [← hh0, Bd.state]; rfl) hh0 hZ hK _ rfl
end Own
section OwnS
variable {p : Program} {l : Launch} {e : Env} {R : Room} {s : State} {m : MethodId} {args : Array Value} {below : List Frame} {meth : Method} {c : Code} {T : State} {locs : List Loc} {cells slots : Nat}
theorem own_retW {Z : State} {EL : List (String × Nat)} {vm₁ : Vm} (X : Stand p l e R (s.setVm vm₁) m args below meth c T locs cells slots) {n : Nat} (hS : s.Since vm₁ n) (hn : n ≤ T.heap.size) {v : Option Value} {Q : Option Value → Heap → List Loc → Prop} {C S : Nat} {g : JFrame} (hv : meth.sig.returnType = none → v = none) (hlk : meth.locks = false)
    (st : ∀ fs, (∀ (f : JFrame) (acts : List Action), f.method = m → f.locked = none → f.entered = [] → (doReturn e (T.setTop f) acts v).1 = T.setFrames fs) → Steps p.tables e below (T.setTop g) (T.setFrames fs)) (hc : cells ≤ C) (hs : slots ≤ S) (hCH : CHr Z EL s.vm s.heap T.vm T.heap) (hQ : Q v T.heap locs) :
    own_Go p e below (fun o U' => ∃ v L, o = .returned v ∧ Q v U'.heap L ∧ CHr Z EL s.vm s.heap U'.vm U'.heap ∧ ReturnedEndW s o U' L C S) (T.setTop g) := by
  obtain ⟨fs, hr, hrun, hended, h1, h2, h3, h4⟩ := X.leaveW hS hn (v := v) hv hlk
  exact ⟨_, _, st fs hr, hrun, hended, _, _, rfl, hQ, hCH, h1, h2, h3, h4.mono hc hs⟩
theorem own_cS {Z : State} {EL : List (String × Nat)} {vm0 : Vm} {k0 : Nat} {own : String} {h : Heap} {pc : Nat} {Ls : Array Slot} {S rest : List Value} {Post : Outcome → State → Prop} {Q : Option Value → Heap → List Loc → Prop} {j n : Nat} (X : Stand p l e R (s.setVm vm0) m args below meth c T locs cells slots) (hS : s.Since vm0 k0) (hk : k0 ≤ T.heap.size) (hZ : Z.Warmed39 (s.setVm vm0).vm) (hown : (s.setVm vm0).vm.findClass own = some m.cls)
    (H : ∃ (v : Option Value) (vm₁ : Vm) (B : Pt), (s.setVm vm0).WarmedH vm₁ ∧ Stand p l e R ((s.setVm vm0).setVm B.U.vm) m args below meth c B.U B.locs B.cells B.slots ∧ (s.setVm vm0).Since B.U.vm B.U.heap.size ∧ T.heap.size ≤ B.U.heap.size ∧ (∃ L, Q v B.U.heap L ∧ B.locs = locs ++ L ∧ B.cells = cells + j ∧ B.slots = slots + n ∧ CHr Z EL vm0 h B.U.vm B.U.heap) ∧ Steps p.tables e below (T.setTop (mkF m pc Ls S)) (B.U.setTop (mkF m (pc + 3) Ls (v.toList ++ rest))))
    (k : ∀ v T' L, Stand p l e R (s.setVm T'.vm) m args below meth c T' (locs ++ L) (cells + j) (slots + n) → s.Since T'.vm T'.heap.size → Z.Warmed39 (s.setVm T'.vm).vm → (s.setVm T'.vm).vm.findClass own = some m.cls → Q v T'.heap L → CHr Z EL vm0 h T'.vm T'.heap → own_Go p e below Post (T'.setTop (mkF m (pc + 3) Ls (v.toList ++ rest)))) : own_Go p e below Post (T.setTop (mkF m pc Ls S)) := by
  obtain ⟨v, vm₁, ⟨T', L', c', n'⟩, -, X', hs, gr, ⟨L, hQ, e1, e2, e3, cr⟩, st⟩ := H
  dsimp only [Pt.U, Pt.locs, Pt.cells, Pt.slots] at X' e1 e2 e3 st hQ hs gr cr
  subst e1 e2 e3
  obtain ⟨q1, q2, q3, q4⟩ := rebS hS hk X' hs gr hZ hown
  exact own_Go.tr st (k v T' L q1 q2 q3 q4 hQ cr)
abbrev own_MS (EL : List (String × Nat)) (l : Launch) (y : MethodName) (b : ByteArray) (ml : Nat) (rt : Option FieldType) (ws : List Jvm.Cond) (R : Room) (Z : State) (h0 : Heap) (as : Array Value) (K : Program → Env → List Frame → State → Array Value → Prop) (Q : Option Value → Heap → List Loc → Prop) : Prop :=
  MetFree l y (head1 (Jvm.Cond.code y b ml rt :: ws) R) (fun a U => a = as ∧ Z.Warmed39 U.vm ∧ U.heap = h0 ∧ CHv Z EL U.vm h0) K (fun _ U o U' => ∃ v L, o = .returned v ∧ Q v U'.heap L ∧ CHr Z EL U.vm U.heap U'.vm U'.heap ∧ ReturnedEndW U o U' L R.cells R.slots)
theorem own_startS {EL : List (String × Nat)} {l : Launch} {y : MethodName} {b : ByteArray} {ml : Nat} {rt : Option FieldType} {ws : List Jvm.Cond} {R : Room} {Z : State} {h0 : Heap} {as : Array Value} {K : Program → Env → List Frame → State → Array Value → Prop} {Q : Option Value → Heap → List Loc → Prop} (hpn : plainFor y = true)
    (h : ∀ (p : Program) (e : Env) (s : State) (m : MethodId) (below : List Frame) (meth : Method) (c : Code) (s₁ : State), BodyLoose p l y (head1 (Jvm.Cond.code y b ml rt :: ws) R) b ml rt e s m as below meth c s₁ → p.tables.exec = Jvm.exec → c.code = b → c.maxLocals = ml → s.vm.findClass y.cls = some m.cls → Stand p l e R (s.setVm s.vm) m as below meth c s₁ [] 0 0 → s₁.heap = h0 → s.heap = h0 → Z.Warmed39 s.vm → CHv Z EL s.vm h0 → s.Since s.vm 0 → K p e below s as →
      ∀ Pst : Outcome → State → Prop, Pst = (fun o U' => ∃ v L, o = .returned v ∧ Q v U'.heap L ∧ CHr Z EL s.vm s.heap U'.vm U'.heap ∧ ReturnedEndW s o U' L R.cells R.slots) → own_Go p e below Pst (s₁.setTop (entryFrame m as ml))) : own_MS EL l y b ml rt ws R Z h0 as K Q := by
  refine MetFree.of_bodySF hpn hisR ?_
  intro p e s m args below meth c s₁ Bd hml0 hP hK
  obtain ⟨rfl, hZ, hh0, hCH⟩ := hP
  exact h p e s m below meth c s₁ Bd Bd.exec Bd.bytes hml0 (findClass_of_methodNamed Bd.named) (Stand.of_body Bd) (by rw [← hh0, Bd.state]; rfl) hh0 hZ hCH ((State.WarmedH.refl s).since 0) hK _ rfl
end OwnS
section OwnX
variable {p : Program} {e : Env} {m : MethodId} {below : List Frame} {c : Code} {T : State}
theorem own_x_aconstNull {pc : Nat} {Ls : Array Slot} {S : List Value} {Post : Outcome → State → Prop} (h : At T m c below) (hx : p.tables.exec = Jvm.exec) (hd : decode c.code pc = .ok (.aconst_null, 1)) (hr : own_Go p e below Post (T.setTop (mkF m (pc + 1) (Ls) (.null :: S)))) : own_Go p e below Post (T.setTop (mkF m pc Ls S)) := own_Go.of (fun t k => XS.aconstNull h hx rfl hd k) hr
theorem own_x_aload {pc : Nat} {Ls : Array Slot} {S : List Value} {Post : Outcome → State → Prop} (h : At T m c below) (hx : p.tables.exec = Jvm.exec) {k : Nat} {v : Value} (hd : decode c.code pc = .ok (.aload k, 2)) (hl : Ls[k]? = some (.val v)) (hv : v.isRef = true) (hr : own_Go p e below Post (T.setTop (mkF m (pc + 2) (Ls) (v :: S)))) : own_Go p e below Post (T.setTop (mkF m pc Ls S)) := own_Go.of (fun t k => XS.aload h hx rfl hd hl hv k) hr
theorem own_x_aloadN {pc : Nat} {Ls : Array Slot} {S : List Value} {Post : Outcome → State → Prop} (h : At T m c below) (hx : p.tables.exec = Jvm.exec) {k : Fin 4} {v : Value} (hd : decode c.code pc = .ok (.aload_n k, 1)) (hl : Ls[k.val]? = some (.val v)) (hv : v.isRef = true) (hr : own_Go p e below Post (T.setTop (mkF m (pc + 1) (Ls) (v :: S)))) : own_Go p e below Post (T.setTop (mkF m pc Ls S)) := own_Go.of (fun t k => XS.aloadN h hx rfl hd hl hv k) hr
theorem own_x_astore {pc : Nat} {Ls : Array Slot} {S : List Value} {Post : Outcome → State → Prop} (h : At T m c below) (hx : p.tables.exec = Jvm.exec) {k : Nat} {x : Value} {rest : List Value} {l' : Array Slot} (hd : decode c.code pc = .ok (.astore k, 2)) (hs : S = x :: rest) (hv : x.isRef = true) (hl : storeLocals Ls k x = some l') (hr : own_Go p e below Post (T.setTop (mkF m (pc + 2) (l') (rest)))) : own_Go p e below Post (T.setTop (mkF m pc Ls S)) := own_Go.of (fun t k => XS.astore h hx rfl hd hs hv hl k) hr
theorem own_x_astoreN {pc : Nat} {Ls : Array Slot} {S : List Value} {Post : Outcome → State → Prop} (h : At T m c below) (hx : p.tables.exec = Jvm.exec) {k : Fin 4} {x : Value} {rest : List Value} {l' : Array Slot} (hd : decode c.code pc = .ok (.astore_n k, 1)) (hs : S = x :: rest) (hv : x.isRef = true) (hl : storeLocals Ls k.val x = some l') (hr : own_Go p e below Post (T.setTop (mkF m (pc + 1) (l') (rest)))) : own_Go p e below Post (T.setTop (mkF m pc Ls S)) := own_Go.of (fun t k => XS.astoreN h hx rfl hd hs hv hl k) hr
theorem own_x_dup {pc : Nat} {Ls : Array Slot} {S : List Value} {Post : Outcome → State → Prop} (h : At T m c below) (hx : p.tables.exec = Jvm.exec) {x : Value} {rest : List Value} (hd : decode c.code pc = .ok (.dup, 1)) (hs : S = x :: rest) (hc : x.category = 1) (hr : own_Go p e below Post (T.setTop (mkF m (pc + 1) (Ls) (x :: x :: rest)))) : own_Go p e below Post (T.setTop (mkF m pc Ls S)) := own_Go.of (fun t k => XS.dup h hx rfl hd hs hc k) hr
theorem own_x_goto {pc : Nat} {Ls : Array Slot} {S : List Value} {Post : Outcome → State → Prop} (h : At T m c below) (hx : p.tables.exec = Jvm.exec) {o : Int} {pc0 pc' : Nat} (hpc : pc = pc0) (hd : decode c.code pc = .ok (.goto o, 3)) (ho : 0 ≤ (pc0 : Int) + o) (hp : ((pc0 : Int) + o).toNat = pc') (hr : own_Go p e below Post (T.setTop (mkF m (pc') (Ls) (S)))) : own_Go p e below Post (T.setTop (mkF m pc Ls S)) := own_Go.of (fun t k => XS.goto h hx rfl hpc hd ho hp k) hr
theorem own_x_i2c {pc : Nat} {Ls : Array Slot} {S : List Value} {Post : Outcome → State → Prop} (h : At T m c below) (hx : p.tables.exec = Jvm.exec) {v : Int32} {rest : List Value} (hd : decode c.code pc = .ok (.i2c, 1)) (hs : S = .int v :: rest) (hr : own_Go p e below Post (T.setTop (mkF m (pc + 1) (Ls) (.int (v.toUInt32.toUInt16.toUInt32.toInt32) :: rest)))) : own_Go p e below Post (T.setTop (mkF m pc Ls S)) := own_Go.of (fun t k => XS.i2c h hx rfl hd hs k) hr
theorem own_x_iand {pc : Nat} {Ls : Array Slot} {S : List Value} {Post : Outcome → State → Prop} (h : At T m c below) (hx : p.tables.exec = Jvm.exec) {x y : Int32} {rest : List Value} (hd : decode c.code pc = .ok (.iand, 1)) (hs : S = .int y :: .int x :: rest) (hr : own_Go p e below Post (T.setTop (mkF m (pc + 1) (Ls) (.int (x &&& y) :: rest)))) : own_Go p e below Post (T.setTop (mkF m pc Ls S)) := own_Go.of (fun t k => XS.iand h hx rfl hd hs k) hr
theorem own_x_icmpNo {pc : Nat} {Ls : Array Slot} {S : List Value} {Post : Outcome → State → Prop} (h : At T m c below) (hx : p.tables.exec = Jvm.exec) {cd : ClassFile.Cond} {o : Int} {x y : Int32} {rest : List Value} (hd : decode c.code pc = .ok (.if_icmp cd o, 3)) (hs : S = .int y :: .int x :: rest) (hc : if_icmp.holds cd x y = false) (hr : own_Go p e below Post (T.setTop (mkF m (pc + 3) (Ls) (rest)))) : own_Go p e below Post (T.setTop (mkF m pc Ls S)) := own_Go.of (fun t k => XS.icmpNo h hx rfl hd hs hc k) hr
theorem own_x_icmpYes {pc : Nat} {Ls : Array Slot} {S : List Value} {Post : Outcome → State → Prop} (h : At T m c below) (hx : p.tables.exec = Jvm.exec) {cd : ClassFile.Cond} {x y : Int32} {rest : List Value} {o : Int} {pc0 pc' : Nat} (hpc : pc = pc0) (hd : decode c.code pc = .ok (.if_icmp cd o, 3)) (hs : S = .int y :: .int x :: rest) (hc : if_icmp.holds cd x y = true) (ho : 0 ≤ (pc0 : Int) + o) (hp : ((pc0 : Int) + o).toNat = pc') (hr : own_Go p e below Post (T.setTop (mkF m (pc') (Ls) (rest)))) : own_Go p e below Post (T.setTop (mkF m pc Ls S)) := own_Go.of (fun t k => XS.icmpYes h hx rfl hpc hd hs hc ho hp k) hr
theorem own_x_iconst {pc : Nat} {Ls : Array Slot} {S : List Value} {Post : Outcome → State → Prop} (h : At T m c below) (hx : p.tables.exec = Jvm.exec) {i : Int} (hd : decode c.code pc = .ok (.iconst i, 1)) {z : Int32} (hz : (Int32.ofInt i) = z) (hr : own_Go p e below Post (T.setTop (mkF m (pc + 1) (Ls) (.int z :: S)))) : own_Go p e below Post (T.setTop (mkF m pc Ls S)) := by subst hz; exact own_Go.of (fun t k => XS.iconst h hx rfl hd k) hr
theorem own_x_ifNo {pc : Nat} {Ls : Array Slot} {S : List Value} {Post : Outcome → State → Prop} (h : At T m c below) (hx : p.tables.exec = Jvm.exec) {cd : ClassFile.Cond} {o : Int} {x : Int32} {rest : List Value} (hd : decode c.code pc = .ok (.ifCond cd o, 3)) (hs : S = .int x :: rest) (hc : ifCond.holds cd x = false) (hr : own_Go p e below Post (T.setTop (mkF m (pc + 3) (Ls) (rest)))) : own_Go p e below Post (T.setTop (mkF m pc Ls S)) := own_Go.of (fun t k => XS.ifNo h hx rfl hd hs hc k) hr
theorem own_x_ifYes {pc : Nat} {Ls : Array Slot} {S : List Value} {Post : Outcome → State → Prop} (h : At T m c below) (hx : p.tables.exec = Jvm.exec) {cd : ClassFile.Cond} {x : Int32} {rest : List Value} {o : Int} {pc0 pc' : Nat} (hpc : pc = pc0) (hd : decode c.code pc = .ok (.ifCond cd o, 3)) (hs : S = .int x :: rest) (hc : ifCond.holds cd x = true) (ho : 0 ≤ (pc0 : Int) + o) (hp : ((pc0 : Int) + o).toNat = pc') (hr : own_Go p e below Post (T.setTop (mkF m (pc') (Ls) (rest)))) : own_Go p e below Post (T.setTop (mkF m pc Ls S)) := own_Go.of (fun t k => XS.ifYes h hx rfl hpc hd hs hc ho hp k) hr
theorem own_x_ifnullNo {pc : Nat} {Ls : Array Slot} {S : List Value} {Post : Outcome → State → Prop} (h : At T m c below) (hx : p.tables.exec = Jvm.exec) {o : Int} {b : Addr} {rest : List Value} (hd : decode c.code pc = .ok (.ifnull o, 3)) (hs : S = .ref b :: rest) (hr : own_Go p e below Post (T.setTop (mkF m (pc + 3) (Ls) (rest)))) : own_Go p e below Post (T.setTop (mkF m pc Ls S)) := own_Go.of (fun t k => XS.ifnullNo h hx rfl hd hs k) hr
theorem own_x_iload {pc : Nat} {Ls : Array Slot} {S : List Value} {Post : Outcome → State → Prop} (h : At T m c below) (hx : p.tables.exec = Jvm.exec) {k : Nat} {v : Int32} (hd : decode c.code pc = .ok (.iload k, 2)) (hl : Ls[k]? = some (.val (.int v))) (hr : own_Go p e below Post (T.setTop (mkF m (pc + 2) (Ls) (.int v :: S)))) : own_Go p e below Post (T.setTop (mkF m pc Ls S)) := own_Go.of (fun t k => XS.iload h hx rfl hd hl k) hr
theorem own_x_iloadN {pc : Nat} {Ls : Array Slot} {S : List Value} {Post : Outcome → State → Prop} (h : At T m c below) (hx : p.tables.exec = Jvm.exec) {k : Fin 4} {v : Int32} (hd : decode c.code pc = .ok (.iload_n k, 1)) (hl : Ls[k.val]? = some (.val (.int v))) (hr : own_Go p e below Post (T.setTop (mkF m (pc + 1) (Ls) (.int v :: S)))) : own_Go p e below Post (T.setTop (mkF m pc Ls S)) := own_Go.of (fun t k => XS.iloadN h hx rfl hd hl k) hr
theorem own_x_ishr {pc : Nat} {Ls : Array Slot} {S : List Value} {Post : Outcome → State → Prop} (h : At T m c below) (hx : p.tables.exec = Jvm.exec) {x : Int32} {y : Int32} {rest : List Value} (hd : decode c.code pc = .ok (.ishr, 1)) (hs : S = .int y :: .int x :: rest) (hr : own_Go p e below Post (T.setTop (mkF m (pc + 1) (Ls) (.int (x >>> (y &&& 31)) :: rest)))) : own_Go p e below Post (T.setTop (mkF m pc Ls S)) := own_Go.of (fun t k => XS.ishr h hx rfl hd hs k) hr
theorem own_x_istore {pc : Nat} {Ls : Array Slot} {S : List Value} {Post : Outcome → State → Prop} (h : At T m c below) (hx : p.tables.exec = Jvm.exec) {k : Nat} {x : Int32} {rest : List Value} {l' : Array Slot} (hd : decode c.code pc = .ok (.istore k, 2)) (hs : S = .int x :: rest) (hl : storeLocals Ls k (.int x) = some l') (hr : own_Go p e below Post (T.setTop (mkF m (pc + 2) (l') (rest)))) : own_Go p e below Post (T.setTop (mkF m pc Ls S)) := own_Go.of (fun t k => XS.istore h hx rfl hd hs hl k) hr
theorem own_x_sipush {pc : Nat} {Ls : Array Slot} {S : List Value} {Post : Outcome → State → Prop} (h : At T m c below) (hx : p.tables.exec = Jvm.exec) {i : Int} (hd : decode c.code pc = .ok (.sipush i, 3)) {z : Int32} (hz : (Int16.ofInt i).toInt32 = z) (hr : own_Go p e below Post (T.setTop (mkF m (pc + 3) (Ls) (.int z :: S)))) : own_Go p e below Post (T.setTop (mkF m pc Ls S)) := by subst hz; exact own_Go.of (fun t k => XS.sipush h hx rfl hd k) hr
end OwnX
section OwnH
variable {p : Program} {l : Launch} {e : Env} {R : Room} {s : State} {m : MethodId} {args : Array Value} {below : List Frame} {meth : Method} {c : Code} {T : State} {locs : List Loc} {cells slots : Nat} {Z : State} {a0 : Array Value} {h : Heap} {Post : Outcome → State → Prop} {pc : Nat} {Ls : Array Slot} {S : List Value}
theorem own_h_getF (X : Stand p l e R s m args below meth c T locs cells slots) (hx : p.tables.exec = Jvm.exec) (hZ : Z.Warmed39 s.vm) {own R0 O n d host : String} {index : Nat} (hown : s.vm.findClass own = some m.cls) (w : (Cond.fieldLink own index R0 n d).before a0 Z = true ∨ (Cond.fieldLinkNest own index R0 n d host).before a0 Z = true) (via : Via Z R0 O n d) (eT : T.heap = h) {a : Addr} {v : Value} (F : Fld Z h a O n d v) {rest : List Value} (hs : S = .ref a :: rest) (hd : decode c.code pc = .ok (.getfield index, 3)) (k : ∀ T', Stand p l e R s m args below meth c T' locs cells slots → T'.heap = h → own_Go p e below Post (T'.setTop (mkF m (pc + 3) (Ls) (v :: rest)))) : own_Go p e below Post (T.setTop (mkF m pc Ls S)) := by
  obtain ⟨T', q0, q1, st⟩ := getF X hx hZ hown w via eT F (g := mkF m pc Ls S) rfl hs hd
  exact own_Go.of st (k T' @q0 @q1)
theorem own_h_getS2 (X : Stand p l e R s m args below meth c T locs cells slots) (hx : p.tables.exec = Jvm.exec) (hZ : Z.Warmed39 s.vm) {own R0 O n d host : String} {index : Nat} (hown : s.vm.findClass own = some m.cls) (w : (Cond.fieldLink own index R0 n d).before a0 Z = true ∨ (Cond.fieldLinkNest own index R0 n d host).before a0 Z = true) (via : Via Z R0 O n d) (eT : T.heap = h) {v : Value} (F : Sta Z h O n d v) (hd : decode c.code pc = .ok (.getstatic index, 3)) (k : ∀ T', Stand p l e R s m args below meth c T' locs cells slots → T'.heap = h → own_Go p e below Post (T'.setTop (mkF m (pc + 3) (Ls) (v :: S)))) : own_Go p e below Post (T.setTop (mkF m pc Ls S)) := by
  obtain ⟨T', q0, q1, st⟩ := getS2 X hx hZ hown w via eT F (g := mkF m pc Ls S) rfl hd
  exact own_Go.of st (k T' @q0 @q1)
theorem own_h_initO (X : Stand p l e R s m args below meth c T locs cells slots) (hx : p.tables.exec = Jvm.exec) (hZ : Z.Warmed39 s.vm) {own : String} {idx : Nat} (hown : s.vm.findClass own = some m.cls) (w1 : (Cond.methodLink own idx Lib.objectInit).before a0 Z = true) (w2 : (Cond.instanceMethod Lib.objectInit).before a0 Z = true) (w3 : (Cond.code Lib.objectInit ⟨#[0xb1]⟩ 1 none).before a0 Z = true) (eT : T.heap = h) (hsize : Ls.size = c.maxLocals) {a : Addr} {rest : List Value} (hs : S = .ref a :: rest) (hd : decode c.code pc = .ok (.invokespecial idx, 3)) (hf : 1 ≤ R.frames) {W : Nat} (hW : 2 * (mkF m pc Ls S).monitorRoom + (rest.map fun v => v.category).sum ≤ W) (hl : W + 12 ≤ R.locals) (k : ∀ T', Stand p l e R s m args below meth c T' locs cells slots → T'.heap = h → own_Go p e below Post (T'.setTop (mkF m (pc + 3) (Ls) (rest)))) : own_Go p e below Post (T.setTop (mkF m pc Ls S)) := by
  obtain ⟨T', q0, q1, st⟩ := initO X hx hZ hown w1 w2 w3 eT (g := mkF m pc Ls S) rfl hsize hs hd hf hW hl
  exact own_Go.of st (k T' @q0 @q1)
theorem own_h_newO (X : Stand p l e R s m args below meth c T locs cells slots) (hx : p.tables.exec = Jvm.exec) (hZ : Z.Warmed39 s.vm) {own C : String} {index n : Nat} (hown : s.vm.findClass own = some m.cls) (w : (Cond.classLink own index C).before a0 Z = true) (wi : (Cond.instantiable C n).before a0 Z = true) (wz : (Cond.initialized C).before a0 Z = true) (eT : T.heap = h) (hd : decode c.code pc = .ok (.new index, 3)) (hc : cells + 1 ≤ R.cells) (hl : slots + n ≤ R.slots) (k : ∀ T' h' (x : Addr), x = h.size → Stand p l e R s m args below meth c T' locs (cells + 1) (slots + n) → T'.heap = h' → Ext h h' → Exa Z h' x C → (∀ {O nm d : String} {ty : FieldType}, Laid Z a0 C O nm d → parseFieldDescriptor d = some ty → Fld Z h' x O nm d (defaultValue ty)) → (∃ cell : Cell, h'[x]? = some cell ∧ cell.vm = .none ∧ cell.monitor = {}) → own_Go p e below Post (T'.setTop (mkF m (pc + 3) (Ls) (.ref x :: S)))) : own_Go p e below Post (T.setTop (mkF m pc Ls S)) := by
  obtain ⟨T', h', q0, q1, q2, q3, q4, q5, st⟩ := newO X hx hZ hown w wi wz eT (g := mkF m pc Ls S) rfl hd hc hl
  exact own_Go.of st (k T' h' _ rfl @q0 @q1 @q2 @q3 @q4 @q5)
theorem own_h_newP (X : Stand p l e R s m args below meth c T locs cells slots) (hx : p.tables.exec = Jvm.exec) (hZ : Z.Warmed39 s.vm) {aty : ArrayType} (w : (Cond.arrayClass (newarray.typeOf aty)).before a0 Z = true) (eT : T.heap = h) (hd : decode c.code pc = .ok (.newarray aty, 2)) {n : Int32} {rest : List Value} (hs : S = .int n :: rest) (hn : ¬ n < 0) {cap : Nat} (hcap : n.toNatClampNeg ≤ cap) (hb : cap * 8 ≤ 536870912) (hc : cells + 1 ≤ R.cells) (hl : slots + cap ≤ R.slots) (k : ∀ T' h' cA (x : Addr), x = h.size → Stand p l e R s m args below meth c T' locs (cells + 1) (slots + cap) → T'.heap = h' → Ext h h' → Arr Z h' x (newA cA (newarray.typeOf aty) n) (newarray.typeOf aty) → own_Go p e below Post (T'.setTop (mkF m (pc + 2) (Ls) (.ref x :: rest)))) : own_Go p e below Post (T.setTop (mkF m pc Ls S)) := by
  obtain ⟨T', h', cA, q0, q1, q2, q3, st⟩ := newP X hx hZ w eT (g := mkF m pc Ls S) rfl hd hs hn hcap hb hc hl
  exact own_Go.of st (k T' h' cA _ rfl @q0 @q1 @q2 @q3)
theorem own_h_putF (X : Stand p l e R s m args below meth c T locs cells slots) (hx : p.tables.exec = Jvm.exec) (hZ : Z.Warmed39 s.vm) {own R0 O n d host C : String} {index kk : Nat} {ty : FieldType} (hown : s.vm.findClass own = some m.cls) (w : (Cond.fieldLink own index R0 n d).before a0 Z = true ∨ (Cond.fieldLinkNest own index R0 n d host).before a0 Z = true) (via : Via Z R0 O n d) (eT : T.heap = h) {a : Addr} {v old : Value} (F : Fld Z h a O n d old) (E : Exa Z h a C) (L : (Cond.lays C O n d).before a0 Z = true ∨ ((Cond.laysFinal C O n d).before a0 Z = true ∧ own = O ∧ meth.name = "<init>")) (wi : (Cond.instantiable C kk).before a0 Z = true) (hty : parseFieldDescriptor d = some ty) (hn : narrow ty v = v) (hf : fits ty v = true) {rest : List Value} (hs : S = v :: .ref a :: rest) (hd : decode c.code pc = .ok (.putfield index, 3)) (k : ∀ T' h', Stand p l e R s m args below meth c T' (locs ++ [⟨a, Jvm.RoadKit.slotOf Z O n d⟩]) cells slots → T'.heap = h' → Wr h h' a (Jvm.RoadKit.slotOf Z O n d) v → own_Go p e below Post (T'.setTop (mkF m (pc + 3) (Ls) (rest)))) : own_Go p e below Post (T.setTop (mkF m pc Ls S)) := by
  obtain ⟨T', h', q0, q1, q2, st⟩ := putF X hx hZ hown w via eT F E L wi hty hn hf (g := mkF m pc Ls S) rfl hs hd
  exact own_Go.of st (k T' h' @q0 @q1 @q2)
theorem own_h_putFN (X : Stand p l e R s m args below meth c T locs cells slots) (hx : p.tables.exec = Jvm.exec) (hZ : Z.Warmed39 s.vm) {own R0 O n d C : String} {index kk : Nat} {ty : FieldType} (hown : s.vm.findClass own = some m.cls) (w : (Cond.fieldLink own index R0 n d).before a0 Z = true) (via : Via Z R0 O n d) (eT : T.heap = h) {a : Addr} {v v' old : Value} (F : Fld Z h a O n d old) (E : Exa Z h a C) (L : (Cond.lays C O n d).before a0 Z = true ∨ ((Cond.laysFinal C O n d).before a0 Z = true ∧ own = O ∧ meth.name = "<init>")) (wi : (Cond.instantiable C kk).before a0 Z = true) (hty : parseFieldDescriptor d = some ty) (hn : narrow ty v = v') (hf : fits ty v' = true) {rest : List Value} (hs : S = v :: .ref a :: rest) (hd : decode c.code pc = .ok (.putfield index, 3)) (k : ∀ T' h', Stand p l e R s m args below meth c T' (locs ++ [⟨a, Jvm.RoadKit.slotOf Z O n d⟩]) cells slots → T'.heap = h' → Wr h h' a (Jvm.RoadKit.slotOf Z O n d) v' → own_Go p e below Post (T'.setTop (mkF m (pc + 3) (Ls) (rest)))) : own_Go p e below Post (T.setTop (mkF m pc Ls S)) := by
  obtain ⟨T', h', q0, q1, q2, st⟩ := putFN X hx hZ hown w via eT F E L wi hty hn hf (g := mkF m pc Ls S) rfl hs hd
  exact own_Go.of st (k T' h' @q0 @q1 @q2)
theorem own_h_stC (X : Stand p l e R s m args below meth c T locs cells slots) (hx : p.tables.exec = Jvm.exec) (hZ : Z.Warmed39 s.vm) (eT : T.heap = h) {a : Addr} {cl : Cell} (A : Arr Z h a cl .char) {j x : Int32} (hj : ¬ (j < 0 ∨ cl.slots.size ≤ j.toNatClampNeg)) {rest : List Value} (hs : S = .int x :: .int j :: .ref a :: rest) (hd : decode c.code pc = .ok (.castore, 1)) (k : ∀ T' h', Stand p l e R s m args below meth c T' (locs ++ [⟨a, j.toNatClampNeg⟩]) cells slots → T'.heap = h' → Wr h h' a j.toNatClampNeg (.int (nar .char x)) → own_Go p e below Post (T'.setTop (mkF m (pc + 1) (Ls) (rest)))) : own_Go p e below Post (T.setTop (mkF m pc Ls S)) := by
  obtain ⟨T', h', q0, q1, q2, st⟩ := stC X hx hZ eT A hj (g := mkF m pc Ls S) rfl hs hd
  exact own_Go.of st (k T' h' @q0 @q1 @q2)
theorem own_h_arC (X : Stand p l e R s m args below meth c T locs cells slots) (hx : p.tables.exec = Jvm.exec) (hZ : Z.Warmed39 s.vm) (eT : T.heap = h) {a : Addr} {k : ClassId} {N : Int32} {vs : List Value} {d : Value} (V : Arv Z h a k .char N vs d) (j : Int32) (i : Nat) (hj : ¬ j < 0 ∧ j < N) (hi : j.toNatClampNeg = i) (hl : i < vs.length) {x : Int32} {rest : List Value} (hs : S = .int x :: .int j :: .ref a :: rest) (hd : decode c.code pc = .ok (.castore, 1)) (kk : ∀ T' h', Stand p l e R s m args below meth c T' (locs ++ [⟨a, j.toNatClampNeg⟩]) cells slots → T'.heap = h' → Wr h h' a j.toNatClampNeg (.int (nar .char x)) → Arv Z h' a k .char N (vs.set i (.int (nar .char x))) d → own_Go p e below Post (T'.setTop (mkF m (pc + 1) Ls rest))) : own_Go p e below Post (T.setTop (mkF m pc Ls S)) := by
  obtain ⟨cl, Ar, q, S', P, H, G⟩ := V
  exact own_h_stC X hx hZ eT Ar (inb_of S' hj) hs hd fun T' h' X' e' W => kk T' h' X' e' W (Arv.set Ar q S' P H G (fits_nar_char _) W i hi hl)
end OwnH
abbrev own_H (a0 : Array Value) (Z : State) : Prop := ∀ d ∈ tables_1, d.before a0 Z = true
theorem own_mem (i : Nat) {d : Jvm.Cond} (h : tables_1[i]? = some d) : d ∈ tables_1 := List.mem_of_getElem? h
theorem own_g {a0 : Array Value} {Z : State} (hw : own_H a0 Z) (i : Nat) {d : Jvm.Cond} (h : tables_1[i]? = some d) : d.before a0 Z = true := hw _ (List.mem_of_getElem? h)
section OwnW
variable {a0 : Array Value} {Z : State}
theorem own_w0 (hw : own_H a0 Z) : (Jvm.Cond.methodLink "com/example/warrant_to_dial/warranttodial/server/OutcomeDonePinLaw" (13 : Nat) ({ cls := "com/example/warrant_to_dial/warranttodial/server/OutcomeDonePinLaw", name := "draw", desc := "(IIII)Ljava/lang/String;" } : Jvm.MethodName)).before a0 Z = true := hw _ (own_mem 0 rfl)
theorem own_w1 (hw : own_H a0 Z) : (Jvm.Cond.static ({ cls := "com/example/warrant_to_dial/warranttodial/server/OutcomeDonePinLaw", name := "draw", desc := "(IIII)Ljava/lang/String;" } : Jvm.MethodName)).before a0 Z = true := hw _ (own_mem 1 rfl)
theorem own_w2 (hw : own_H a0 Z) : (Jvm.Cond.initialized "com/example/warrant_to_dial/warranttodial/server/OutcomeDonePinLaw").before a0 Z = true := hw _ (own_mem 2 rfl)
theorem own_w3 (hw : own_H a0 Z) : (Jvm.Cond.code ({ cls := "com/example/warrant_to_dial/warranttodial/server/OutcomeDonePinLaw", name := "draw", desc := "(IIII)Ljava/lang/String;" } : Jvm.MethodName) method_2_code (9 : Nat) (Option.some (Jvm.ClassFile.FieldType.object "java/lang/String"))).before a0 Z = true := hw _ (own_mem 3 rfl)
theorem own_w4 (hw : own_H a0 Z) : (Jvm.Cond.constant "com/example/warrant_to_dial/warranttodial/server/OutcomeDonePinLaw" (7 : Nat) (2147483647 : Int32)).before a0 Z = true := hw _ (own_mem 4 rfl)
theorem own_w5 (hw : own_H a0 Z) : (Jvm.Cond.classLink "com/example/warrant_to_dial/warranttodial/server/OutcomeDonePinLaw" (8 : Nat) "java/lang/String").before a0 Z = true := hw _ (own_mem 5 rfl)
theorem own_w6 (hw : own_H a0 Z) : (Jvm.Cond.instantiable "java/lang/String" (4 : Nat)).before a0 Z = true := hw _ (own_mem 6 rfl)
theorem own_w7 (hw : own_H a0 Z) : (Jvm.Cond.initialized "java/lang/String").before a0 Z = true := hw _ (own_mem 7 rfl)
theorem own_w8 (hw : own_H a0 Z) : (Jvm.Cond.arrayClass Jvm.ClassFile.FieldType.char).before a0 Z = true := hw _ (own_mem 8 rfl)
theorem own_w9 (hw : own_H a0 Z) : (Jvm.Cond.methodLink "com/example/warrant_to_dial/warranttodial/server/OutcomeDonePinLaw" (10 : Nat) ({ cls := "java/lang/String", name := "<init>", desc := "([C)V" } : Jvm.MethodName)).before a0 Z = true := hw _ (own_mem 9 rfl)
theorem own_w10 (hw : own_H a0 Z) : (Jvm.Cond.instanceMethod ({ cls := "java/lang/String", name := "<init>", desc := "([C)V" } : Jvm.MethodName)).before a0 Z = true := hw _ (own_mem 10 rfl)
theorem own_w11 (hw : own_H a0 Z) : (Jvm.Cond.code ({ cls := "java/lang/String", name := "<init>", desc := "([C)V" } : Jvm.MethodName) jdk_42_method_3_code (2 : Nat) (Option.none : Option Jvm.ClassFile.FieldType)).before a0 Z = true := hw _ (own_mem 11 rfl)
theorem own_w12 (hw : own_H a0 Z) : (Jvm.Cond.methodLink "java/lang/String" (27 : Nat) ({ cls := "java/lang/String", name := "<init>", desc := "([CIILjava/lang/Void;)V" } : Jvm.MethodName)).before a0 Z = true := hw _ (own_mem 12 rfl)
theorem own_w13 (hw : own_H a0 Z) : (Jvm.Cond.instanceMethod ({ cls := "java/lang/String", name := "<init>", desc := "([CIILjava/lang/Void;)V" } : Jvm.MethodName)).before a0 Z = true := hw _ (own_mem 13 rfl)
theorem own_w15 (hw : own_H a0 Z) : (Jvm.Cond.code ({ cls := "java/lang/String", name := "<init>", desc := "([CIILjava/lang/Void;)V" } : Jvm.MethodName) jdk_42_method_149_code (6 : Nat) (Option.none : Option Jvm.ClassFile.FieldType)).before a0 Z = true := hw _ (own_mem 15 rfl)
theorem own_w16 (hw : own_H a0 Z) : (Jvm.Cond.methodLink "java/lang/String" (1 : Nat) ({ cls := "java/lang/Object", name := "<init>", desc := "()V" } : Jvm.MethodName)).before a0 Z = true := hw _ (own_mem 16 rfl)
theorem own_w17 (hw : own_H a0 Z) : (Jvm.Cond.instanceMethod ({ cls := "java/lang/Object", name := "<init>", desc := "()V" } : Jvm.MethodName)).before a0 Z = true := hw _ (own_mem 17 rfl)
theorem own_w18 (hw : own_H a0 Z) : (Jvm.Cond.code ({ cls := "java/lang/Object", name := "<init>", desc := "()V" } : Jvm.MethodName) object_method_1_code (1 : Nat) (Option.none : Option Jvm.ClassFile.FieldType)).before a0 Z = true := hw _ (own_mem 18 rfl)
theorem own_w19 (hw : own_H a0 Z) : (Jvm.Cond.stringLink "java/lang/String" (7 : Nat) "").before a0 Z = true := hw _ (own_mem 19 rfl)
theorem own_w21 (hw : own_H a0 Z) : (Jvm.Cond.laysFinal "java/lang/String" "java/lang/String" "value" "[B").before a0 Z = true := hw _ (own_mem 21 rfl)
theorem own_w22 (hw : own_H a0 Z) : (Jvm.Cond.laysFinal "java/lang/String" "java/lang/String" "coder" "B").before a0 Z = true := hw _ (own_mem 22 rfl)
theorem own_w25 (hw : own_H a0 Z) : (Jvm.Cond.fieldLink "java/lang/String" (9 : Nat) "java/lang/String" "value" "[B").before a0 Z = true := hw _ (own_mem 25 rfl)
theorem own_w26 (hw : own_H a0 Z) : (Jvm.Cond.fieldLink "java/lang/String" (15 : Nat) "java/lang/String" "coder" "B").before a0 Z = true := hw _ (own_mem 26 rfl)
theorem own_w27 (hw : own_H a0 Z) : (Jvm.Cond.methodLink "com/example/warrant_to_dial/warranttodial/server/OutcomeDonePinLaw" (19 : Nat) ({ cls := "com/example/warrant_to_dial/warranttodial/server/OperatorCommand$Outcome", name := "done", desc := "(Ljava/lang/String;)Lcom/example/warrant_to_dial/warranttodial/server/OperatorCommand$Outcome;" } : Jvm.MethodName)).before a0 Z = true := hw _ (own_mem 27 rfl)
theorem own_w28 (hw : own_H a0 Z) : (Jvm.Cond.static ({ cls := "com/example/warrant_to_dial/warranttodial/server/OperatorCommand$Outcome", name := "done", desc := "(Ljava/lang/String;)Lcom/example/warrant_to_dial/warranttodial/server/OperatorCommand$Outcome;" } : Jvm.MethodName)).before a0 Z = true := hw _ (own_mem 28 rfl)
theorem own_w29 (hw : own_H a0 Z) : (Jvm.Cond.initialized "com/example/warrant_to_dial/warranttodial/server/OperatorCommand$Outcome").before a0 Z = true := hw _ (own_mem 29 rfl)
theorem own_w30 (hw : own_H a0 Z) : (Jvm.Cond.code ({ cls := "com/example/warrant_to_dial/warranttodial/server/OperatorCommand$Outcome", name := "done", desc := "(Ljava/lang/String;)Lcom/example/warrant_to_dial/warranttodial/server/OperatorCommand$Outcome;" } : Jvm.MethodName) prog_63_method_2_code (1 : Nat) (Option.some (Jvm.ClassFile.FieldType.object "com/example/warrant_to_dial/warranttodial/server/OperatorCommand$Outcome"))).before a0 Z = true := hw _ (own_mem 30 rfl)
theorem own_w31 (hw : own_H a0 Z) : (Jvm.Cond.classLink "com/example/warrant_to_dial/warranttodial/server/OperatorCommand$Outcome" (8 : Nat) "com/example/warrant_to_dial/warranttodial/server/OperatorCommand$Outcome").before a0 Z = true := hw _ (own_mem 31 rfl)
theorem own_w32 (hw : own_H a0 Z) : (Jvm.Cond.instantiable "com/example/warrant_to_dial/warranttodial/server/OperatorCommand$Outcome" (5 : Nat)).before a0 Z = true := hw _ (own_mem 32 rfl)
theorem own_w33 (hw : own_H a0 Z) : (Jvm.Cond.stringLink "com/example/warrant_to_dial/warranttodial/server/OperatorCommand$Outcome" (30 : Nat) "").before a0 Z = true := hw _ (own_mem 33 rfl)
theorem own_w34 (hw : own_H a0 Z) : (Jvm.Cond.methodLink "com/example/warrant_to_dial/warranttodial/server/OperatorCommand$Outcome" (32 : Nat) ({ cls := "java/util/Optional", name := "empty", desc := "()Ljava/util/Optional;" } : Jvm.MethodName)).before a0 Z = true := hw _ (own_mem 34 rfl)
theorem own_w35 (hw : own_H a0 Z) : (Jvm.Cond.static ({ cls := "java/util/Optional", name := "empty", desc := "()Ljava/util/Optional;" } : Jvm.MethodName)).before a0 Z = true := hw _ (own_mem 35 rfl)
theorem own_w36 (hw : own_H a0 Z) : (Jvm.Cond.initialized "java/util/Optional").before a0 Z = true := hw _ (own_mem 36 rfl)
theorem own_w37 (hw : own_H a0 Z) : (Jvm.Cond.code ({ cls := "java/util/Optional", name := "empty", desc := "()Ljava/util/Optional;" } : Jvm.MethodName) jdk_32_method_1_code (1 : Nat) (Option.some (Jvm.ClassFile.FieldType.object "java/util/Optional"))).before a0 Z = true := hw _ (own_mem 37 rfl)
theorem own_w38 (hw : own_H a0 Z) : (Jvm.Cond.fieldLink "java/util/Optional" (1 : Nat) "java/util/Optional" "EMPTY" "Ljava/util/Optional;").before a0 Z = true := hw _ (own_mem 38 rfl)
theorem own_w39 (hw : own_H a0 Z) : (Jvm.Cond.methodLink "com/example/warrant_to_dial/warranttodial/server/OperatorCommand$Outcome" (38 : Nat) ({ cls := "com/example/warrant_to_dial/warranttodial/server/OperatorCommand$Outcome", name := "<init>", desc := "(ILjava/lang/String;ZLjava/lang/String;Ljava/util/Optional;)V" } : Jvm.MethodName)).before a0 Z = true := hw _ (own_mem 39 rfl)
theorem own_w40 (hw : own_H a0 Z) : (Jvm.Cond.instanceMethod ({ cls := "com/example/warrant_to_dial/warranttodial/server/OperatorCommand$Outcome", name := "<init>", desc := "(ILjava/lang/String;ZLjava/lang/String;Ljava/util/Optional;)V" } : Jvm.MethodName)).before a0 Z = true := hw _ (own_mem 40 rfl)
theorem own_w41 (hw : own_H a0 Z) : (Jvm.Cond.code ({ cls := "com/example/warrant_to_dial/warranttodial/server/OperatorCommand$Outcome", name := "<init>", desc := "(ILjava/lang/String;ZLjava/lang/String;Ljava/util/Optional;)V" } : Jvm.MethodName) prog_63_method_1_code (6 : Nat) (Option.none : Option Jvm.ClassFile.FieldType)).before a0 Z = true := hw _ (own_mem 41 rfl)
theorem own_w42 (hw : own_H a0 Z) : (Jvm.Cond.methodLink "com/example/warrant_to_dial/warranttodial/server/OperatorCommand$Outcome" (1 : Nat) ({ cls := "java/lang/Record", name := "<init>", desc := "()V" } : Jvm.MethodName)).before a0 Z = true := hw _ (own_mem 42 rfl)
theorem own_w43 (hw : own_H a0 Z) : (Jvm.Cond.instanceMethod ({ cls := "java/lang/Record", name := "<init>", desc := "()V" } : Jvm.MethodName)).before a0 Z = true := hw _ (own_mem 43 rfl)
theorem own_w45 (hw : own_H a0 Z) : (Jvm.Cond.initialized "java/lang/Record").before a0 Z = true := hw _ (own_mem 45 rfl)
theorem own_w46 (hw : own_H a0 Z) : (Jvm.Cond.code ({ cls := "java/lang/Record", name := "<init>", desc := "()V" } : Jvm.MethodName) jdk_30_method_1_code (1 : Nat) (Option.none : Option Jvm.ClassFile.FieldType)).before a0 Z = true := hw _ (own_mem 46 rfl)
theorem own_w47 (hw : own_H a0 Z) : (Jvm.Cond.methodLink "java/lang/Record" (1 : Nat) ({ cls := "java/lang/Object", name := "<init>", desc := "()V" } : Jvm.MethodName)).before a0 Z = true := hw _ (own_mem 47 rfl)
theorem own_w48 (hw : own_H a0 Z) : (Jvm.Cond.fieldLink "com/example/warrant_to_dial/warranttodial/server/OperatorCommand$Outcome" (7 : Nat) "com/example/warrant_to_dial/warranttodial/server/OperatorCommand$Outcome" "status" "I").before a0 Z = true := hw _ (own_mem 48 rfl)
theorem own_w49 (hw : own_H a0 Z) : (Jvm.Cond.laysFinal "com/example/warrant_to_dial/warranttodial/server/OperatorCommand$Outcome" "com/example/warrant_to_dial/warranttodial/server/OperatorCommand$Outcome" "status" "I").before a0 Z = true := hw _ (own_mem 49 rfl)
theorem own_w50 (hw : own_H a0 Z) : (Jvm.Cond.fieldLink "com/example/warrant_to_dial/warranttodial/server/OperatorCommand$Outcome" (13 : Nat) "com/example/warrant_to_dial/warranttodial/server/OperatorCommand$Outcome" "out" "Ljava/lang/String;").before a0 Z = true := hw _ (own_mem 50 rfl)
theorem own_w51 (hw : own_H a0 Z) : (Jvm.Cond.laysFinal "com/example/warrant_to_dial/warranttodial/server/OperatorCommand$Outcome" "com/example/warrant_to_dial/warranttodial/server/OperatorCommand$Outcome" "out" "Ljava/lang/String;").before a0 Z = true := hw _ (own_mem 51 rfl)
theorem own_w52 (hw : own_H a0 Z) : (Jvm.Cond.fieldLink "com/example/warrant_to_dial/warranttodial/server/OperatorCommand$Outcome" (17 : Nat) "com/example/warrant_to_dial/warranttodial/server/OperatorCommand$Outcome" "holdsSecret" "Z").before a0 Z = true := hw _ (own_mem 52 rfl)
theorem own_w53 (hw : own_H a0 Z) : (Jvm.Cond.laysFinal "com/example/warrant_to_dial/warranttodial/server/OperatorCommand$Outcome" "com/example/warrant_to_dial/warranttodial/server/OperatorCommand$Outcome" "holdsSecret" "Z").before a0 Z = true := hw _ (own_mem 53 rfl)
theorem own_w54 (hw : own_H a0 Z) : (Jvm.Cond.fieldLink "com/example/warrant_to_dial/warranttodial/server/OperatorCommand$Outcome" (21 : Nat) "com/example/warrant_to_dial/warranttodial/server/OperatorCommand$Outcome" "err" "Ljava/lang/String;").before a0 Z = true := hw _ (own_mem 54 rfl)
theorem own_w55 (hw : own_H a0 Z) : (Jvm.Cond.laysFinal "com/example/warrant_to_dial/warranttodial/server/OperatorCommand$Outcome" "com/example/warrant_to_dial/warranttodial/server/OperatorCommand$Outcome" "err" "Ljava/lang/String;").before a0 Z = true := hw _ (own_mem 55 rfl)
theorem own_w56 (hw : own_H a0 Z) : (Jvm.Cond.fieldLink "com/example/warrant_to_dial/warranttodial/server/OperatorCommand$Outcome" (24 : Nat) "com/example/warrant_to_dial/warranttodial/server/OperatorCommand$Outcome" "undo" "Ljava/util/Optional;").before a0 Z = true := hw _ (own_mem 56 rfl)
theorem own_w57 (hw : own_H a0 Z) : (Jvm.Cond.laysFinal "com/example/warrant_to_dial/warranttodial/server/OperatorCommand$Outcome" "com/example/warrant_to_dial/warranttodial/server/OperatorCommand$Outcome" "undo" "Ljava/util/Optional;").before a0 Z = true := hw _ (own_mem 57 rfl)
theorem own_w58 (hw : own_H a0 Z) : (Jvm.Cond.methodLink "com/example/warrant_to_dial/warranttodial/server/OutcomeDonePinLaw" (25 : Nat) ({ cls := "com/example/warrant_to_dial/warranttodial/server/OperatorCommand$Outcome", name := "status", desc := "()I" } : Jvm.MethodName)).before a0 Z = true := hw _ (own_mem 58 rfl)
theorem own_w59 (hw : own_H a0 Z) : (Jvm.Cond.declares ({ cls := "com/example/warrant_to_dial/warranttodial/server/OperatorCommand$Outcome", name := "status", desc := "()I" } : Jvm.MethodName)).before a0 Z = true := hw _ (own_mem 59 rfl)
theorem own_w60 (hw : own_H a0 Z) : (Jvm.Cond.instanceMethod ({ cls := "com/example/warrant_to_dial/warranttodial/server/OperatorCommand$Outcome", name := "status", desc := "()I" } : Jvm.MethodName)).before a0 Z = true := hw _ (own_mem 60 rfl)
theorem own_w61 (hw : own_H a0 Z) : (Jvm.Cond.selects "com/example/warrant_to_dial/warranttodial/server/OperatorCommand$Outcome" ({ cls := "com/example/warrant_to_dial/warranttodial/server/OperatorCommand$Outcome", name := "status", desc := "()I" } : Jvm.MethodName) ({ cls := "com/example/warrant_to_dial/warranttodial/server/OperatorCommand$Outcome", name := "status", desc := "()I" } : Jvm.MethodName)).before a0 Z = true := hw _ (own_mem 61 rfl)
theorem own_w62 (hw : own_H a0 Z) : (Jvm.Cond.code ({ cls := "com/example/warrant_to_dial/warranttodial/server/OperatorCommand$Outcome", name := "status", desc := "()I" } : Jvm.MethodName) prog_63_method_9_code (1 : Nat) (Option.some Jvm.ClassFile.FieldType.int)).before a0 Z = true := hw _ (own_mem 62 rfl)
theorem own_w63 (hw : own_H a0 Z) : (Jvm.Cond.methodLink "com/example/warrant_to_dial/warranttodial/server/OutcomeDonePinLaw" (29 : Nat) ({ cls := "com/example/warrant_to_dial/warranttodial/server/OperatorCommand$Outcome", name := "out", desc := "()Ljava/lang/String;" } : Jvm.MethodName)).before a0 Z = true := hw _ (own_mem 63 rfl)
theorem own_w64 (hw : own_H a0 Z) : (Jvm.Cond.declares ({ cls := "com/example/warrant_to_dial/warranttodial/server/OperatorCommand$Outcome", name := "out", desc := "()Ljava/lang/String;" } : Jvm.MethodName)).before a0 Z = true := hw _ (own_mem 64 rfl)
theorem own_w65 (hw : own_H a0 Z) : (Jvm.Cond.instanceMethod ({ cls := "com/example/warrant_to_dial/warranttodial/server/OperatorCommand$Outcome", name := "out", desc := "()Ljava/lang/String;" } : Jvm.MethodName)).before a0 Z = true := hw _ (own_mem 65 rfl)
theorem own_w66 (hw : own_H a0 Z) : (Jvm.Cond.selects "com/example/warrant_to_dial/warranttodial/server/OperatorCommand$Outcome" ({ cls := "com/example/warrant_to_dial/warranttodial/server/OperatorCommand$Outcome", name := "out", desc := "()Ljava/lang/String;" } : Jvm.MethodName) ({ cls := "com/example/warrant_to_dial/warranttodial/server/OperatorCommand$Outcome", name := "out", desc := "()Ljava/lang/String;" } : Jvm.MethodName)).before a0 Z = true := hw _ (own_mem 66 rfl)
theorem own_w67 (hw : own_H a0 Z) : (Jvm.Cond.code ({ cls := "com/example/warrant_to_dial/warranttodial/server/OperatorCommand$Outcome", name := "out", desc := "()Ljava/lang/String;" } : Jvm.MethodName) prog_63_method_10_code (1 : Nat) (Option.some (Jvm.ClassFile.FieldType.object "java/lang/String"))).before a0 Z = true := hw _ (own_mem 67 rfl)
theorem own_w68 (hw : own_H a0 Z) : (Jvm.Cond.methodLink "com/example/warrant_to_dial/warranttodial/server/OutcomeDonePinLaw" (33 : Nat) ({ cls := "java/lang/String", name := "length", desc := "()I" } : Jvm.MethodName)).before a0 Z = true := hw _ (own_mem 68 rfl)
theorem own_w69 (hw : own_H a0 Z) : (Jvm.Cond.declares ({ cls := "java/lang/String", name := "length", desc := "()I" } : Jvm.MethodName)).before a0 Z = true := hw _ (own_mem 69 rfl)
theorem own_w70 (hw : own_H a0 Z) : (Jvm.Cond.instanceMethod ({ cls := "java/lang/String", name := "length", desc := "()I" } : Jvm.MethodName)).before a0 Z = true := hw _ (own_mem 70 rfl)
theorem own_w71 (hw : own_H a0 Z) : (Jvm.Cond.selects "java/lang/String" ({ cls := "java/lang/String", name := "length", desc := "()I" } : Jvm.MethodName) ({ cls := "java/lang/String", name := "length", desc := "()I" } : Jvm.MethodName)).before a0 Z = true := hw _ (own_mem 71 rfl)
theorem own_w72 (hw : own_H a0 Z) : (Jvm.Cond.code ({ cls := "java/lang/String", name := "length", desc := "()I" } : Jvm.MethodName) jdk_42_method_54_code (1 : Nat) (Option.some Jvm.ClassFile.FieldType.int)).before a0 Z = true := hw _ (own_mem 72 rfl)
theorem own_w73 (hw : own_H a0 Z) : (Jvm.Cond.methodLink "java/lang/String" (335 : Nat) ({ cls := "java/lang/String", name := "coder", desc := "()B" } : Jvm.MethodName)).before a0 Z = true := hw _ (own_mem 73 rfl)
theorem own_w74 (hw : own_H a0 Z) : (Jvm.Cond.declares ({ cls := "java/lang/String", name := "coder", desc := "()B" } : Jvm.MethodName)).before a0 Z = true := hw _ (own_mem 74 rfl)
theorem own_w75 (hw : own_H a0 Z) : (Jvm.Cond.instanceMethod ({ cls := "java/lang/String", name := "coder", desc := "()B" } : Jvm.MethodName)).before a0 Z = true := hw _ (own_mem 75 rfl)
theorem own_w76 (hw : own_H a0 Z) : (Jvm.Cond.selects "java/lang/String" ({ cls := "java/lang/String", name := "coder", desc := "()B" } : Jvm.MethodName) ({ cls := "java/lang/String", name := "coder", desc := "()B" } : Jvm.MethodName)).before a0 Z = true := hw _ (own_mem 76 rfl)
theorem own_w77 (hw : own_H a0 Z) : (Jvm.Cond.code ({ cls := "java/lang/String", name := "coder", desc := "()B" } : Jvm.MethodName) jdk_42_method_152_code (1 : Nat) (Option.some Jvm.ClassFile.FieldType.byte)).before a0 Z = true := hw _ (own_mem 77 rfl)
theorem own_w78 (hw : own_H a0 Z) : (Jvm.Cond.fieldLink "java/lang/String" (38 : Nat) "java/lang/String" "COMPACT_STRINGS" "Z").before a0 Z = true := hw _ (own_mem 78 rfl)
theorem own_w79 (hw : own_H a0 Z) : (Jvm.Cond.methodLink "com/example/warrant_to_dial/warranttodial/server/OutcomeDonePinLaw" (36 : Nat) ({ cls := "java/lang/String", name := "equals", desc := "(Ljava/lang/Object;)Z" } : Jvm.MethodName)).before a0 Z = true := hw _ (own_mem 79 rfl)
theorem own_w80 (hw : own_H a0 Z) : (Jvm.Cond.declares ({ cls := "java/lang/String", name := "equals", desc := "(Ljava/lang/Object;)Z" } : Jvm.MethodName)).before a0 Z = true := hw _ (own_mem 80 rfl)
theorem own_w81 (hw : own_H a0 Z) : (Jvm.Cond.instanceMethod ({ cls := "java/lang/String", name := "equals", desc := "(Ljava/lang/Object;)Z" } : Jvm.MethodName)).before a0 Z = true := hw _ (own_mem 81 rfl)
theorem own_w82 (hw : own_H a0 Z) : (Jvm.Cond.selects "java/lang/String" ({ cls := "java/lang/String", name := "equals", desc := "(Ljava/lang/Object;)Z" } : Jvm.MethodName) ({ cls := "java/lang/String", name := "equals", desc := "(Ljava/lang/Object;)Z" } : Jvm.MethodName)).before a0 Z = true := hw _ (own_mem 82 rfl)
theorem own_w83 (hw : own_H a0 Z) : (Jvm.Cond.code ({ cls := "java/lang/String", name := "equals", desc := "(Ljava/lang/Object;)Z" } : Jvm.MethodName) jdk_42_method_66_code (3 : Nat) (Option.some Jvm.ClassFile.FieldType.boolean)).before a0 Z = true := hw _ (own_mem 83 rfl)
theorem own_w84 (hw : own_H a0 Z) : (Jvm.Cond.methodLink "com/example/warrant_to_dial/warranttodial/server/OutcomeDonePinLaw" (40 : Nat) ({ cls := "com/example/warrant_to_dial/warranttodial/server/OperatorCommand$Outcome", name := "holdsSecret", desc := "()Z" } : Jvm.MethodName)).before a0 Z = true := hw _ (own_mem 84 rfl)
theorem own_w85 (hw : own_H a0 Z) : (Jvm.Cond.declares ({ cls := "com/example/warrant_to_dial/warranttodial/server/OperatorCommand$Outcome", name := "holdsSecret", desc := "()Z" } : Jvm.MethodName)).before a0 Z = true := hw _ (own_mem 85 rfl)
theorem own_w86 (hw : own_H a0 Z) : (Jvm.Cond.instanceMethod ({ cls := "com/example/warrant_to_dial/warranttodial/server/OperatorCommand$Outcome", name := "holdsSecret", desc := "()Z" } : Jvm.MethodName)).before a0 Z = true := hw _ (own_mem 86 rfl)
theorem own_w87 (hw : own_H a0 Z) : (Jvm.Cond.selects "com/example/warrant_to_dial/warranttodial/server/OperatorCommand$Outcome" ({ cls := "com/example/warrant_to_dial/warranttodial/server/OperatorCommand$Outcome", name := "holdsSecret", desc := "()Z" } : Jvm.MethodName) ({ cls := "com/example/warrant_to_dial/warranttodial/server/OperatorCommand$Outcome", name := "holdsSecret", desc := "()Z" } : Jvm.MethodName)).before a0 Z = true := hw _ (own_mem 87 rfl)
theorem own_w88 (hw : own_H a0 Z) : (Jvm.Cond.code ({ cls := "com/example/warrant_to_dial/warranttodial/server/OperatorCommand$Outcome", name := "holdsSecret", desc := "()Z" } : Jvm.MethodName) prog_63_method_11_code (1 : Nat) (Option.some Jvm.ClassFile.FieldType.boolean)).before a0 Z = true := hw _ (own_mem 88 rfl)
theorem own_w89 (hw : own_H a0 Z) : (Jvm.Cond.methodLink "com/example/warrant_to_dial/warranttodial/server/OutcomeDonePinLaw" (44 : Nat) ({ cls := "com/example/warrant_to_dial/warranttodial/server/OperatorCommand$Outcome", name := "err", desc := "()Ljava/lang/String;" } : Jvm.MethodName)).before a0 Z = true := hw _ (own_mem 89 rfl)
theorem own_w90 (hw : own_H a0 Z) : (Jvm.Cond.declares ({ cls := "com/example/warrant_to_dial/warranttodial/server/OperatorCommand$Outcome", name := "err", desc := "()Ljava/lang/String;" } : Jvm.MethodName)).before a0 Z = true := hw _ (own_mem 90 rfl)
theorem own_w91 (hw : own_H a0 Z) : (Jvm.Cond.instanceMethod ({ cls := "com/example/warrant_to_dial/warranttodial/server/OperatorCommand$Outcome", name := "err", desc := "()Ljava/lang/String;" } : Jvm.MethodName)).before a0 Z = true := hw _ (own_mem 91 rfl)
theorem own_w92 (hw : own_H a0 Z) : (Jvm.Cond.selects "com/example/warrant_to_dial/warranttodial/server/OperatorCommand$Outcome" ({ cls := "com/example/warrant_to_dial/warranttodial/server/OperatorCommand$Outcome", name := "err", desc := "()Ljava/lang/String;" } : Jvm.MethodName) ({ cls := "com/example/warrant_to_dial/warranttodial/server/OperatorCommand$Outcome", name := "err", desc := "()Ljava/lang/String;" } : Jvm.MethodName)).before a0 Z = true := hw _ (own_mem 92 rfl)
theorem own_w93 (hw : own_H a0 Z) : (Jvm.Cond.code ({ cls := "com/example/warrant_to_dial/warranttodial/server/OperatorCommand$Outcome", name := "err", desc := "()Ljava/lang/String;" } : Jvm.MethodName) prog_63_method_12_code (1 : Nat) (Option.some (Jvm.ClassFile.FieldType.object "java/lang/String"))).before a0 Z = true := hw _ (own_mem 93 rfl)
theorem own_w94 (hw : own_H a0 Z) : (Jvm.Cond.methodLink "com/example/warrant_to_dial/warranttodial/server/OutcomeDonePinLaw" (47 : Nat) ({ cls := "java/lang/String", name := "isEmpty", desc := "()Z" } : Jvm.MethodName)).before a0 Z = true := hw _ (own_mem 94 rfl)
theorem own_w95 (hw : own_H a0 Z) : (Jvm.Cond.declares ({ cls := "java/lang/String", name := "isEmpty", desc := "()Z" } : Jvm.MethodName)).before a0 Z = true := hw _ (own_mem 95 rfl)
theorem own_w96 (hw : own_H a0 Z) : (Jvm.Cond.instanceMethod ({ cls := "java/lang/String", name := "isEmpty", desc := "()Z" } : Jvm.MethodName)).before a0 Z = true := hw _ (own_mem 96 rfl)
theorem own_w97 (hw : own_H a0 Z) : (Jvm.Cond.selects "java/lang/String" ({ cls := "java/lang/String", name := "isEmpty", desc := "()Z" } : Jvm.MethodName) ({ cls := "java/lang/String", name := "isEmpty", desc := "()Z" } : Jvm.MethodName)).before a0 Z = true := hw _ (own_mem 97 rfl)
theorem own_w98 (hw : own_H a0 Z) : (Jvm.Cond.code ({ cls := "java/lang/String", name := "isEmpty", desc := "()Z" } : Jvm.MethodName) jdk_42_method_55_code (1 : Nat) (Option.some Jvm.ClassFile.FieldType.boolean)).before a0 Z = true := hw _ (own_mem 98 rfl)
end OwnW
theorem own_and255 (x : Int32) : ¬ (nar .char ((x &&& (255 : Int32)).toUInt32.toUInt16.toUInt32.toInt32)) < 0 ∧ ¬ (255 : Int32) < (nar .char ((x &&& (255 : Int32)).toUInt32.toUInt16.toUInt32.toInt32)) := by
  rw [i2c_mask]
  have e : nar .char (x &&& 255) = x &&& 255 := i2c_mask x
  rw [e]
  have h := c_and x (255 : Int32) (by decide)
  have e255 : (255 : Int32).toInt = 255 := by decide
  constructor
  · intro q; rw [Int32.lt_iff_toInt_lt] at q; have : (0 : Int32).toInt = 0 := by decide
    omega
  · intro q; rw [Int32.lt_iff_toInt_lt] at q; omega
theorem own_words (Z : State) (a0 : Array Value) (hw : own_H a0 Z) : ∀ d ∈ StrChars.Road.words, d.before a0 Z = true := fun d hd => hw d ((by decide +kernel : ∀ d ∈ StrChars.Road.words, d ∈ tables_1) d hd)
def own_EL : List (String × Nat) := [("com/example/warrant_to_dial/warranttodial/server/OperatorCommand$Outcome", 30), ("java/lang/String", 7)]
theorem own_tx_0 : ∀ c ∈ "".toList, c.toNat < 256 := by decide +kernel
theorem own_txt_0 : (∀ c ∈ "".toList, c.toNat < 256) ∧ "".toList.map (fun c => Value.int (Jvm.Lit.byteI c.toNat.toUInt16)) = [] := ⟨own_tx_0, by decide +kernel⟩
theorem own_hEL (Z : State) (a0 : Array Value) (hw : own_H a0 Z) : EW Z a0 own_EL := (EW.cons (own_w33 hw) own_tx_0 (EW.cons (own_w19 hw) own_tx_0 EW.nil))
theorem own_wS (Z : State) (a0 : Array Value) (hw : own_H a0 Z) : ∀ a ∈ Bundle.stringAtoms, a.before a0 Z = true := fun d hd => hw d ((by decide +kernel : ∀ d ∈ Bundle.stringAtoms, d ∈ tables_1) d hd)
/-- a String whose value is null is no booked literal's cell -/
theorem own_safe_blank {Z : State} {EL : List (String × Nat)} {vm : Vm} {h : Heap} {x : Addr} (hal : Z.vm.Alike vm) (E : Exa Z h x "java/lang/String") (F : Fld Z h x "java/lang/String" "value" "[B" .null) : Safe Z EL vm h x := fun B => by
  obtain ⟨pp, -, u, a, -, q, -, S, hy⟩ := B
  rcases hy with rfl | rfl
  · obtain ⟨cell, cf, k, i, f, h1, h2, h3, h4, h5, h6, h7⟩ := F
    cases (show h[q.sa]? = some q.sC from S.ha).symm.trans h1
    obtain ⟨cS, ⟨⟨-, -, -, ⟨c1, k1, i1, f1, -⟩, -, -, -, v1, -⟩, -⟩, -⟩ := S
    obtain ⟨k3, e3, -⟩ := State.fieldFound?_setVm (s := Z) hal h2
    have e4 := (show (Wst Z vm h).fieldFound? _ _ _ = _ from e3).symm.trans f1
    simp only [Option.some.injEq, Prod.mk.injEq] at e4
    rw [← e4.2.2.2, h7] at v1
    simp at v1
  · obtain ⟨cell, k, e1, e2, e3, -, -⟩ := E
    cases (show h[q.sd]? = some q.SA from S.hd).symm.trans e1
    obtain ⟨cS, -, -, f, -⟩ := S
    have f' : vm.findClass "[B" = some q.SA.cls := f
    rw [hal.findClass] at f'
    obtain ⟨k1, q1, q2⟩ := Vm.findClass_spec f'
    obtain ⟨k2, q3, q4⟩ := Vm.findClass_spec e2
    cases q1.symm.trans q3
    exact absurd (q2.symm.trans q4) (by decide)
theorem own_d3_0 : decode jdk_42_method_149_code 0 = .ok (.aload_n 0, 1) := by decide +kernel
theorem own_d3_1 : decode jdk_42_method_149_code 1 = .ok (.invokespecial 1, 3) := by decide +kernel
theorem own_d3_4 : decode jdk_42_method_149_code 4 = .ok (.iload_n 3, 1) := by decide +kernel
theorem own_d3_5 : decode jdk_42_method_149_code 5 = .ok (.ifCond .ne 22, 3) := by decide +kernel
theorem own_d3_8 : decode jdk_42_method_149_code 8 = .ok (.aload_n 0, 1) := by decide +kernel
theorem own_d3_9 : decode jdk_42_method_149_code 9 = .ok (.ldc 7, 2) := by decide +kernel
theorem own_d3_11 : decode jdk_42_method_149_code 11 = .ok (.getfield 9, 3) := by decide +kernel
theorem own_d3_14 : decode jdk_42_method_149_code 14 = .ok (.putfield 9, 3) := by decide +kernel
theorem own_d3_17 : decode jdk_42_method_149_code 17 = .ok (.aload_n 0, 1) := by decide +kernel
theorem own_d3_18 : decode jdk_42_method_149_code 18 = .ok (.ldc 7, 2) := by decide +kernel
theorem own_d3_20 : decode jdk_42_method_149_code 20 = .ok (.getfield 15, 3) := by decide +kernel
theorem own_d3_23 : decode jdk_42_method_149_code 23 = .ok (.putfield 15, 3) := by decide +kernel
theorem own_d3_26 : decode jdk_42_method_149_code 26 = .ok (.return_, 1) := by decide +kernel
theorem own_pn_java_lang_String : plainName "java/lang/String" = true := by first | (simp [plainName, overriddenIn]; done) | decide +kernel
theorem own_ef_RRIIN_6 (m : MethodId) (x0 : Addr) (x1 : Addr) (x2 : Int32) (x3 : Int32) : entryFrame m #[(.ref x0), (.ref x1), (.int x2), (.int x3), .null] 6 = mkF m 0 #[.val (.ref x0), .val (.ref x1), .val (.int x2), .val (.int x3), .val .null, .unset] [] := by first | (simp [entryFrame, mkF, argsToLocals, Value.category]; done) | rfl
def Q_i4z (Z : State) (a1 : Addr) (a2 : Addr) (h0 : Heap) (n0 : Nat) (v : Option Value) (h : Heap) (L : List Loc) : Prop := v = none ∧ Fr n0 L ∧ Keep h0 h [a1] ∧ Exa Z h a1 "java/lang/String" ∧ Fld Z h a1 "java/lang/String" "coder" "B" (.int 0) ∧ ∃ t kb, Fld Z h a1 "java/lang/String" "value" "[B" (.ref t) ∧ Arv Z h t kb .byte (0 : Int32) [] (.int 0)
theorem rm_i4z (l : Launch) (Z : State) (a0 : Array Value) (hw : own_H a0 Z) (ws : List Jvm.Cond) (a1 : Addr) (a2 : Addr) (h0 : Heap) (n0 : Nat) (Z0 : n0 ≤ h0.size) (E1 : Exa Z h0 a1 "java/lang/String") (F1 : Fld Z h0 a1 "java/lang/String" "value" "[B" .null) (F2 : Fld Z h0 a1 "java/lang/String" "coder" "B" (.int 0)) (g1 : n0 ≤ a1) : own_MS own_EL l (⟨"java/lang/String", "<init>", "([CIILjava/lang/Void;)V"⟩ : MethodName) jdk_42_method_149_code 6 none ws ({ frames := 1, cells := 4, slots := 8, locals := 12 } : Room) Z h0 #[(.ref a1), (.ref a2), (.int (0 : Int32)), (.int (0 : Int32)), .null] (fun _ _ _ _ _ => True) (Q_i4z Z a1 a2 h0 n0) := by
  refine own_startS (plainFor_of_name own_pn_java_lang_String) fun p e s m below meth c s₁ Bd hx hby hml hown0 X0 e0 hh0 hZ hCH0 hS0 hK Pst hPst => ?_
  have hown : s.vm.findClass "java/lang/String" = some m.cls := hown0
  have hnm := (name_of_methodNamed Bd.named Bd.method).1
  have N0 := Fr.nil n0
  have hk0 : 0 ≤ h0.size := Nat.zero_le _
  have hEL := own_hEL Z a0 hw
  rw [own_ef_RRIIN_6 m a1 a2 (0 : Int32) (0 : Int32)]
  have sf1 : Safe Z own_EL s.vm h0 a1 := own_safe_blank hZ.alike E1 F1
  refine own_x_aloadN X0.here hx (hb hby own_d3_0) rfl rfl ?_
  refine own_h_initO X0 hx hZ hown (own_w16 hw) (own_w17 hw) (own_w18 hw) e0 (by rw [hml]; rfl) rfl (hb hby own_d3_1) (by decide) (W := 0) (by show 2 * 0 + _ ≤ _; exact Nat.le_of_eq rfl) (by decide) fun T101 X101 e101 => ?_
  refine own_x_iloadN X101.here hx (hb hby own_d3_4) rfl ?_
  refine own_x_ifNo X101.here hx (hb hby own_d3_5) rfl ((if0 _ _).trans (teq rfl).2) ?_
  refine own_x_aloadN X101.here hx (hb hby own_d3_8) rfl rfl ?_
  obtain ⟨a102, T102, h102, j102, b102, k102, X102, e102, E102, hS102, hk102, hZ102, hown102, A102, C102, V102, K102, la102, lb102, cr102, lit102, sn102, st102⟩ := ldcCH X101 hx hZ hown (own_w19 hw) (own_wS Z a0 hw) e101 hS0 hk0 hEL (List.mem_of_getElem? (i := 1) rfl) hCH0 (vs := []) (z := (0 : Int32)) own_txt_0 (by decide) rfl (g := (mkF m 9 #[.val (.ref a1), .val (.ref a2), .val (.int (0 : Int32)), .val (.int (0 : Int32)), .val .null, .unset] [(.ref a1)])) rfl (hb hby own_d3_9) (n := 0) (by decide) (by decide) (by decide) (by decide)
  refine own_Go.of st102 ?_
  have c103 := cr102.1
  have c104 := (CHr.trans (CHr.refl hCH0) cr102)
  have c105 := (cr102.safe E1.lt sf1)
  have nl_a1_102 := sn102 _ c105
  show own_Go p e below Pst (T102.setTop (mkF m 11 #[.val (.ref a1), .val (.ref a2), .val (.int (0 : Int32)), .val (.int (0 : Int32)), .val .null, .unset] [(.ref a102), (.ref a1)]))
  refine own_h_getF X102 hx hZ102 hown102 (host := "") (Or.inl (own_w25 hw)) Via.refl e102 V102 rfl (hb hby own_d3_11) fun T106 X106 e106 => ?_
  have c107 := (E1.ext E102)
  have c108 := (F1.ext E102)
  refine own_h_putF X106 hx hZ102 hown102 (host := "") (Or.inl (own_w25 hw)) Via.refl e106 c108 c107 (Or.inr ⟨(own_w21 hw), rfl, hnm⟩) (own_w6 hw) (ty := (.array .byte)) (by decide) rfl rfl rfl (hb hby own_d3_14) fun T109 h109 X109 e109 W109 => ?_
  have c110 := (CHv.wr W109 c105 c103)
  have c111 := (CHr.trans c104 (CHr.wr W109 c105 c103))
  have c112 := (Nat.le_trans hk102 (Keep.of_wr W109).1)
  have Fw109 := Fld.same W109 c108
  have N109 := Fr.snoc X109 N0 g1
  refine own_x_aloadN X109.here hx (hb hby own_d3_17) rfl rfl ?_
  have c114 := (c107.wr W109)
  obtain ⟨a113, T113, h113, j113, b113, k113, X113, e113, E113, hS113, hk113, hZ113, hown113, A113, C113, V113, K113, la113, lb113, cr113, lit113, sn113, st113⟩ := ldcCH X109 hx hZ102 hown102 (own_w19 hw) (own_wS Z a0 hw) e109 hS102 c112 hEL (List.mem_of_getElem? (i := 1) rfl) c110 (vs := []) (z := (0 : Int32)) own_txt_0 (by decide) rfl (g := (mkF m 18 #[.val (.ref a1), .val (.ref a2), .val (.int (0 : Int32)), .val (.int (0 : Int32)), .val .null, .unset] [(.ref a1)])) rfl (hb hby own_d3_18) (n := 0) (by decide) (by decide) (by decide) (by decide)
  refine own_Go.of st113 ?_
  have c115 := cr113.1
  have c116 := (CHr.trans c111 cr113)
  have c117 := (cr113.safe c114.lt (Safe.wr W109 c105 c103 c105))
  have nl_a1_113 := sn113 _ c117
  show own_Go p e below Pst (T113.setTop (mkF m 20 #[.val (.ref a1), .val (.ref a2), .val (.int (0 : Int32)), .val (.int (0 : Int32)), .val .null, .unset] [(.ref a113), (.ref a1)]))
  refine own_h_getF X113 hx hZ113 hown113 (host := "") (Or.inl (own_w26 hw)) Via.refl e113 C113 rfl (hb hby own_d3_20) fun T118 X118 e118 => ?_
  have c119 := (c114.ext E113)
  have c120 := (((F2.ext E102).other W109 (Or.inr (slot_ne (Or.inr (own_w22 hw)) (Or.inr (own_w21 hw)) (by decide) (t := .byte) (t' := (.array .byte)) (by decide) (by decide)))).ext E113)
  refine own_h_putFN X118 hx hZ113 hown113 (own_w26 hw) Via.refl e118 c120 c119 (Or.inr ⟨(own_w22 hw), rfl, hnm⟩) (own_w6 hw) (ty := .byte) (v' := (.int (0 : Int32))) (by decide) rfl rfl rfl (hb hby own_d3_23) fun T121 h121 X121 e121 W121 => ?_
  have c122 := (CHv.wr W121 c117 c115)
  have c123 := (CHr.trans c116 (CHr.wr W121 c117 c115))
  have c124 := (Nat.le_trans hk113 (Keep.of_wr W121).1)
  have Fw121 := Fld.same W121 c120
  have N121 := Fr.snoc X121 N109 g1
  have c125 := (((((Keep.refl h0 [a1]).ext E102).wr W109 (Or.inl (List.mem_of_getElem? (i := 0) rfl))).ext E113).wr W121 (Or.inl (List.mem_of_getElem? (i := 0) rfl)))
  have c126 := (c119.wr W121)
  have c127 := ((Fw109.ext E113).other W121 (Or.inr (slot_ne (Or.inr (own_w21 hw)) (Or.inr (own_w22 hw)) (by decide) (t := (.array .byte)) (t' := .byte) (by decide) (by decide))))
  have c128 := (((K102.other W109 (Ne.symm nl_a1_102.2)).ext E113).other W121 (Ne.symm nl_a1_102.2))
  rw [hPst]
  exact own_retW X121 hS113 (by rw [e121]; exact c124) (v := none) (Q := Q_i4z Z a1 a2 h0 n0) (fun _ => rfl) Bd.notSynchronized (fun fs hr => X121.returnOut hx Bd.returns (hb hby own_d3_26) hr) (by decide) (by decide) (by rw [hh0, e121]; exact CHr.trans c123 (CHv.at X121 hZ113 hEL c122)) (by rw [e121]; exact ⟨rfl, N121, c125, c126, Fw121, _, _, c127, c128⟩)
theorem own_d2_0 : decode jdk_42_method_3_code 0 = .ok (.aload_n 0, 1) := by decide +kernel
theorem own_d2_1 : decode jdk_42_method_3_code 1 = .ok (.aload_n 1, 1) := by decide +kernel
theorem own_d2_2 : decode jdk_42_method_3_code 2 = .ok (.iconst 0, 1) := by decide +kernel
theorem own_d2_3 : decode jdk_42_method_3_code 3 = .ok (.aload_n 1, 1) := by decide +kernel
theorem own_d2_4 : decode jdk_42_method_3_code 4 = .ok (.arraylength, 1) := by decide +kernel
theorem own_d2_5 : decode jdk_42_method_3_code 5 = .ok (.aconst_null, 1) := by decide +kernel
theorem own_d2_6 : decode jdk_42_method_3_code 6 = .ok (.invokespecial 27, 3) := by decide +kernel
theorem own_pd0 : parseMethodDescriptor "([CIILjava/lang/Void;)V" = some ⟨[(.array .char), .int, .int, (.object "java/lang/Void")], none⟩ := by decide +kernel
theorem own_d2_9 : decode jdk_42_method_3_code 9 = .ok (.return_, 1) := by decide +kernel
theorem own_ef_RR_2 (m : MethodId) (x0 : Addr) (x1 : Addr) : entryFrame m #[(.ref x0), (.ref x1)] 2 = mkF m 0 #[.val (.ref x0), .val (.ref x1)] [] := by first | (simp [entryFrame, mkF, argsToLocals, Value.category]; done) | rfl
def Q_i1z (Z : State) (a1 : Addr) (a2 : Addr) (kc : ClassId) (vs : List Value) (dv : Value) (h0 : Heap) (n0 : Nat) (v : Option Value) (h : Heap) (L : List Loc) : Prop := v = none ∧ Fr n0 L ∧ Keep h0 h [a1] ∧ Exa Z h a1 "java/lang/String" ∧ Fld Z h a1 "java/lang/String" "coder" "B" (.int 0) ∧ ∃ t kb, Fld Z h a1 "java/lang/String" "value" "[B" (.ref t) ∧ Arv Z h t kb .byte (0 : Int32) [] (.int 0)
theorem rm_i1z (l : Launch) (Z : State) (a0 : Array Value) (hw : own_H a0 Z) (ws : List Jvm.Cond) (a1 : Addr) (a2 : Addr) (kc : ClassId) (vs : List Value) (dv : Value) (h0 : Heap) (n0 : Nat) (Z0 : n0 ≤ h0.size) (E1 : Exa Z h0 a1 "java/lang/String") (F1 : Fld Z h0 a1 "java/lang/String" "value" "[B" .null) (F2 : Fld Z h0 a1 "java/lang/String" "coder" "B" (.int 0)) (g1 : n0 ≤ a1) (A1 : Arv Z h0 a2 kc .char (0 : Int32) vs dv) : own_MS own_EL l (⟨"java/lang/String", "<init>", "([C)V"⟩ : MethodName) jdk_42_method_3_code 2 none ws ({ frames := 2, cells := 4, slots := 8, locals := 29 } : Room) Z h0 #[(.ref a1), (.ref a2)] (fun _ _ _ _ _ => True) (Q_i1z Z a1 a2 kc vs dv h0 n0) := by
  refine own_startS (plainFor_of_name own_pn_java_lang_String) fun p e s m below meth c s₁ Bd hx hby hml hown0 X0 e0 hh0 hZ hCH0 hS0 hK Pst hPst => ?_
  have hown : s.vm.findClass "java/lang/String" = some m.cls := hown0
  have hnm := (name_of_methodNamed Bd.named Bd.method).1
  have N0 := Fr.nil n0
  have hk0 : 0 ≤ h0.size := Nat.zero_le _
  have hEL := own_hEL Z a0 hw
  rw [own_ef_RR_2 m a1 a2]
  have sf1 : Safe Z own_EL s.vm h0 a1 := own_safe_blank hZ.alike E1 F1
  refine own_x_aloadN X0.here hx (hb hby own_d2_0) rfl rfl ?_
  refine own_x_aloadN X0.here hx (hb hby own_d2_1) rfl rfl ?_
  refine own_x_iconst X0.here hx (hb hby own_d2_2) (z := (0 : Int32)) rfl ?_
  refine own_x_aloadN X0.here hx (hb hby own_d2_3) rfl rfl ?_
  obtain ⟨cl101, Ar101, -, S101, P101, -, -⟩ := A1
  refine own_Go.of (S' := s₁.setTop (mkF m 5 #[.val (.ref a1), .val (.ref a2)] [(.int (0 : Int32)), (.int (0 : Int32)), (.ref a2), (.ref a1)])) (fun tgt kst => X0.arraylength hx (by rw [e0]; exact Ar101.1) (State.isArrayOf_alike hZ.alike Ar101.2.1) (g := (mkF m 4 #[.val (.ref a1), .val (.ref a2)] [(.ref a2), (.int (0 : Int32)), (.ref a2), (.ref a1)])) rfl rfl (hb hby own_d2_4) _ (by rw [len_of S101 P101]; exact kst)) ?_
  refine own_x_aconstNull X0.here hx (hb hby own_d2_5) ?_
  refine own_cS X0 hS0 (by rw [e0]; exact hk0) hZ hown (X0.specialBackS hx (y := (⟨"java/lang/String", "<init>", "([CIILjava/lang/Void;)V"⟩ : MethodName)) rfl hown (mvT hZ (own_w12 hw)) (mvT hZ (own_w13 hw)) (mvT hZ (own_w15 hw)) (by decide) (backOfSH (W := 0) (rm_i4z l Z a0 hw [] a1 a2 h0 n0 Z0 E1 F1 F2 g1) hZ (own_w15 hw) (own_w7 hw) (by decide) (by decide) hEL hCH0) (g := (mkF m 6 #[.val (.ref a1), .val (.ref a2)] [.null, (.int (0 : Int32)), (.int (0 : Int32)), (.ref a2), (.ref a1)])) rfl (by rw [hml]; rfl) (Steps.refl _) (a := a1) (argsL := [(.ref a2), (.int (0 : Int32)), (.int (0 : Int32)), .null]) (rest := []) (lenOf own_pd0 rfl) rfl (by show 2 * 0 + _ ≤ _; exact Nat.le_of_eq rfl) (hb hby own_d2_6) (fun _ _ => ⟨rfl, e0, (by decide : 0 + 4 ≤ _), (by decide : 0 + 8 ≤ _)⟩)) fun v102 T102 L102 X102 hS102 hZ102 hown102 hQ102 cr102 => ?_
  obtain ⟨rfl, Nq102, K102, A102, C102, t102, kb102, V102, B102⟩ := hQ102
  have N102 := Fr.app N0 Nq102
  have c103 := cr102.1
  have c104 := (CHr.trans (CHr.refl hCH0) cr102)
  have c105 := (Nat.le_trans hk0 K102.1)
  show own_Go p e below Pst (T102.setTop (mkF m 9 #[.val (.ref a1), .val (.ref a2)] []))
  have c106 := (Keep.trans (Keep.refl h0 [a1]) K102 (allS (Or.inl (List.mem_of_getElem? (i := 0) rfl)) all0))
  rw [hPst]
  exact own_retW X102 hS102 (Nat.le_refl _) (v := none) (Q := Q_i1z Z a1 a2 kc vs dv h0 n0) (fun _ => rfl) Bd.notSynchronized (fun fs hr => X102.returnOut hx Bd.returns (hb hby own_d2_9) hr) (by decide) (by decide) (by rw [hh0]; exact CHr.trans c104 (CHv.at X102 hZ102 hEL c103)) ⟨rfl, N102, c106, A102, C102, _, _, V102, B102⟩
theorem own_d12_0 : decode jdk_42_method_152_code 0 = .ok (.getstatic 38, 3) := by decide +kernel
theorem own_d12_3 : decode jdk_42_method_152_code 3 = .ok (.ifCond .eq 10, 3) := by decide +kernel
theorem own_d12_6 : decode jdk_42_method_152_code 6 = .ok (.aload_n 0, 1) := by decide +kernel
theorem own_d12_7 : decode jdk_42_method_152_code 7 = .ok (.getfield 15, 3) := by decide +kernel
theorem own_d12_10 : decode jdk_42_method_152_code 10 = .ok (.goto 4, 3) := by decide +kernel
theorem own_d12_14 : decode jdk_42_method_152_code 14 = .ok (.ireturn, 1) := by decide +kernel
theorem own_ef_R_1 (m : MethodId) (x0 : Addr) : entryFrame m #[(.ref x0)] 1 = mkF m 0 #[.val (.ref x0)] [] := by first | (simp [entryFrame, mkF, argsToLocals, Value.category]; done) | rfl
def Q_cod (Z : State) (z : Int32) (a1 : Addr) (cd : Int32) (h0 : Heap) (n0 : Nat) (v : Option Value) (h : Heap) (L : List Loc) : Prop := v = some (.int (nar .byte cd)) ∧ Fr n0 L ∧ h = h0
theorem rm_cod (l : Launch) (Z : State) (a0 : Array Value) (hw : own_H a0 Z) (ws : List Jvm.Cond) (z : Int32) (a1 : Addr) (cd : Int32) (h0 : Heap) (n0 : Nat) (Z0 : n0 ≤ h0.size) (O : Old Z n0 h0) (SC : Sta Z Z.heap "java/lang/String" "COMPACT_STRINGS" "Z" (.int z)) (hz : ¬ z = 0) (F1 : Fld Z h0 a1 "java/lang/String" "coder" "B" (.int cd)) : own_MP l (⟨"java/lang/String", "coder", "()B"⟩ : MethodName) jdk_42_method_152_code 1 (some .byte) ws ({ frames := 0, cells := 0, slots := 0, locals := 0 } : Room) Z h0 #[(.ref a1)] (fun _ _ _ _ _ => True) (Q_cod Z z a1 cd h0 n0) := by
  refine own_startP (plainFor_of_name own_pn_java_lang_String) fun p e s m below meth c s₁ Bd hx hby hml hown0 X0 e0 hh0 hZ hK Pst hPst => ?_
  have hown : s.vm.findClass "java/lang/String" = some m.cls := hown0
  have hnm := (name_of_methodNamed Bd.named Bd.method).1
  have N0 := Fr.nil n0
  rw [own_ef_R_1 m a1]
  refine own_h_getS2 X0 hx hZ hown (host := "") (Or.inl (own_w78 hw)) Via.refl e0 (SC.ext O.2) (hb hby own_d12_0) fun T101 X101 e101 => ?_
  refine own_x_ifNo X101.here hx (hb hby own_d12_3) rfl ((if0 _ _).trans (feq hz).1) ?_
  refine own_x_aloadN X101.here hx (hb hby own_d12_6) rfl rfl ?_
  refine own_h_getF X101 hx hZ hown (host := "") (Or.inl (own_w26 hw)) Via.refl e101 F1 rfl (hb hby own_d12_7) fun T102 X102 e102 => ?_
  refine own_x_goto X102.here hx (pc0 := 10) (pc' := 14) rfl (hb hby own_d12_10) (by decide) (by decide) ?_
  rw [hPst]
  exact own_retP X102 (v := (some (.int (nar .byte cd)))) (Q := Q_cod Z z a1 cd h0 n0) (fun h => by rw [Bd.returns] at h; cases h) Bd.notSynchronized (fun fs hr => retN X102 hx (t := .byte) Bd.returns (by simp) (hb hby own_d12_14) hr) (by decide) (by decide) (by rw [e102]; exact ⟨rfl, N0, rfl⟩)
theorem own_d11_0 : decode jdk_42_method_54_code 0 = .ok (.aload_n 0, 1) := by decide +kernel
theorem own_d11_1 : decode jdk_42_method_54_code 1 = .ok (.getfield 9, 3) := by decide +kernel
theorem own_d11_4 : decode jdk_42_method_54_code 4 = .ok (.arraylength, 1) := by decide +kernel
theorem own_d11_5 : decode jdk_42_method_54_code 5 = .ok (.aload_n 0, 1) := by decide +kernel
theorem own_d11_6 : decode jdk_42_method_54_code 6 = .ok (.invokevirtual 335, 3) := by decide +kernel
theorem own_pd1 : parseMethodDescriptor "()B" = some ⟨[], some .byte⟩ := by decide +kernel
theorem own_d11_9 : decode jdk_42_method_54_code 9 = .ok (.ishr, 1) := by decide +kernel
theorem own_d11_10 : decode jdk_42_method_54_code 10 = .ok (.ireturn, 1) := by decide +kernel
def Q_len (Z : State) (z : Int32) (a1 t : Addr) (kb : ClassId) (cd N : Int32) (vs : List Value) (dv : Value) (h0 : Heap) (n0 : Nat) (v : Option Value) (h : Heap) (L : List Loc) : Prop := v = some (.int (N >>> (nar .byte cd &&& 31))) ∧ Fr n0 L ∧ h = h0
theorem rm_len (l : Launch) (Z : State) (a0 : Array Value) (hw : own_H a0 Z) (ws : List Jvm.Cond) (z : Int32) (a1 t : Addr) (kb : ClassId) (cd N : Int32) (vs : List Value) (dv : Value) (h0 : Heap) (n0 : Nat) (Z0 : n0 ≤ h0.size) (O : Old Z n0 h0) (SC : Sta Z Z.heap "java/lang/String" "COMPACT_STRINGS" "Z" (.int z)) (hz : ¬ z = 0) (E1 : Exa Z h0 a1 "java/lang/String") (F1 : Fld Z h0 a1 "java/lang/String" "coder" "B" (.int cd)) (F2 : Fld Z h0 a1 "java/lang/String" "value" "[B" (.ref t)) (A1 : Arv Z h0 t kb .byte N vs dv) : own_MP l (⟨"java/lang/String", "length", "()I"⟩ : MethodName) jdk_42_method_54_code 1 (some .int) ws ({ frames := 1, cells := 0, slots := 0, locals := 13 } : Room) Z h0 #[(.ref a1)] (fun _ _ _ _ _ => True) (Q_len Z z a1 t kb cd N vs dv h0 n0) := by
  refine own_startP (plainFor_of_name own_pn_java_lang_String) fun p e s m below meth c s₁ Bd hx hby hml hown0 X0 e0 hh0 hZ hK Pst hPst => ?_
  have hown : s.vm.findClass "java/lang/String" = some m.cls := hown0
  have hnm := (name_of_methodNamed Bd.named Bd.method).1
  have N0 := Fr.nil n0
  rw [own_ef_R_1 m a1]
  refine own_x_aloadN X0.here hx (hb hby own_d11_0) rfl rfl ?_
  refine own_h_getF X0 hx hZ hown (host := "") (Or.inl (own_w25 hw)) Via.refl e0 F2 rfl (hb hby own_d11_1) fun T101 X101 e101 => ?_
  obtain ⟨cl102, Ar102, -, S102, P102, -, -⟩ := A1
  refine own_Go.of (S' := T101.setTop (mkF m 5 #[.val (.ref a1)] [(.int N)])) (fun tgt kst => X101.arraylength hx (by rw [e101]; exact Ar102.1) (State.isArrayOf_alike hZ.alike Ar102.2.1) (g := (mkF m 4 #[.val (.ref a1)] [(.ref t)])) rfl rfl (hb hby own_d11_4) _ (by rw [len_of S102 P102]; exact kst)) ?_
  refine own_x_aloadN X101.here hx (hb hby own_d11_5) rfl rfl ?_
  obtain ⟨cq103, kq103, q103a, q103b, q103c⟩ := isOf hZ e101 E1
  refine own_cP X101 (X101.virtualBack hx (y := (⟨"java/lang/String", "coder", "()B"⟩ : MethodName)) (z := (⟨"java/lang/String", "coder", "()B"⟩ : MethodName)) hown (mvT hZ (own_w73 hw)) (mvT hZ (own_w74 hw)) (notFace_of_selects (args := #[]) (mvT hZ (own_w76 hw))) (mvT hZ (own_w76 hw)) (mvT hZ (own_w75 hw)) (by decide) (backOf (W := 1) (rm_cod l Z a0 hw [] z a1 cd h0 n0 Z0 O SC hz F1) hZ (own_w77 hw) (own_w7 hw) (by decide) (by decide)) q103a q103c (g := (mkF m 6 #[.val (.ref a1)] [(.ref a1), (.int N)])) rfl (by rw [hml]; rfl) (Steps.refl _) (argsL := []) (rest := [(.int N)]) (lenOf own_pd1 rfl) rfl (by show 2 * 0 + _ ≤ _; exact Nat.le_of_eq rfl) (hb hby own_d11_6) (fun _ _ => ⟨rfl, e101, (by decide : 0 + 0 ≤ _), (by decide : 0 + 0 ≤ _)⟩)) fun v103 T103 L103 X103 hQ103 => ?_
  obtain ⟨rfl, Nq103, e103⟩ := hQ103
  have N103 := Fr.app N0 Nq103
  show own_Go p e below Pst (T103.setTop (mkF m 9 #[.val (.ref a1)] [(.int (nar .byte cd)), (.int N)]))
  refine own_x_ishr X103.here hx (hb hby own_d11_9) rfl ?_
  rw [hPst]
  exact own_retP X103 (v := (some (.int (N >>> ((nar .byte cd) &&& 31))))) (Q := Q_len Z z a1 t kb cd N vs dv h0 n0) (fun h => by rw [Bd.returns] at h; cases h) Bd.notSynchronized (fun fs hr => own_retI X103 hx Bd.returns (hb hby own_d11_10) hr) (by decide) (by decide) (by rw [e103]; exact ⟨rfl, N103, rfl⟩)
theorem own_d16_0 : decode jdk_42_method_55_code 0 = .ok (.aload_n 0, 1) := by decide +kernel
theorem own_d16_1 : decode jdk_42_method_55_code 1 = .ok (.getfield 9, 3) := by decide +kernel
theorem own_d16_4 : decode jdk_42_method_55_code 4 = .ok (.arraylength, 1) := by decide +kernel
theorem own_d16_5 : decode jdk_42_method_55_code 5 = .ok (.ifCond .ne 7, 3) := by decide +kernel
theorem own_d16_8 : decode jdk_42_method_55_code 8 = .ok (.iconst 1, 1) := by decide +kernel
theorem own_d16_9 : decode jdk_42_method_55_code 9 = .ok (.goto 4, 3) := by decide +kernel
theorem own_d16_13 : decode jdk_42_method_55_code 13 = .ok (.ireturn, 1) := by decide +kernel
def Q_emp (Z : State) (a1 t : Addr) (kb : ClassId) (vs : List Value) (dv : Value) (h0 : Heap) (n0 : Nat) (v : Option Value) (h : Heap) (L : List Loc) : Prop := v = some (.int 1) ∧ Fr n0 L ∧ h = h0
theorem rm_emp (l : Launch) (Z : State) (a0 : Array Value) (hw : own_H a0 Z) (ws : List Jvm.Cond) (a1 t : Addr) (kb : ClassId) (vs : List Value) (dv : Value) (h0 : Heap) (n0 : Nat) (Z0 : n0 ≤ h0.size) (F2 : Fld Z h0 a1 "java/lang/String" "value" "[B" (.ref t)) (A1 : Arv Z h0 t kb .byte (0 : Int32) vs dv) : own_MP l (⟨"java/lang/String", "isEmpty", "()Z"⟩ : MethodName) jdk_42_method_55_code 1 (some .boolean) ws ({ frames := 0, cells := 0, slots := 0, locals := 0 } : Room) Z h0 #[(.ref a1)] (fun _ _ _ _ _ => True) (Q_emp Z a1 t kb vs dv h0 n0) := by
  refine own_startP (plainFor_of_name own_pn_java_lang_String) fun p e s m below meth c s₁ Bd hx hby hml hown0 X0 e0 hh0 hZ hK Pst hPst => ?_
  have hown : s.vm.findClass "java/lang/String" = some m.cls := hown0
  have hnm := (name_of_methodNamed Bd.named Bd.method).1
  have N0 := Fr.nil n0
  rw [own_ef_R_1 m a1]
  refine own_x_aloadN X0.here hx (hb hby own_d16_0) rfl rfl ?_
  refine own_h_getF X0 hx hZ hown (host := "") (Or.inl (own_w25 hw)) Via.refl e0 F2 rfl (hb hby own_d16_1) fun T101 X101 e101 => ?_
  obtain ⟨cl102, Ar102, -, S102, P102, -, -⟩ := A1
  refine own_Go.of (S' := T101.setTop (mkF m 5 #[.val (.ref a1)] [(.int (0 : Int32))])) (fun tgt kst => X101.arraylength hx (by rw [e101]; exact Ar102.1) (State.isArrayOf_alike hZ.alike Ar102.2.1) (g := (mkF m 4 #[.val (.ref a1)] [(.ref t)])) rfl rfl (hb hby own_d16_4) _ (by rw [len_of S102 P102]; exact kst)) ?_
  refine own_x_ifNo X101.here hx (hb hby own_d16_5) rfl ((if0 _ _).trans (teq rfl).2) ?_
  refine own_x_iconst X101.here hx (hb hby own_d16_8) (z := (1 : Int32)) rfl ?_
  refine own_x_goto X101.here hx (pc0 := 9) (pc' := 13) rfl (hb hby own_d16_9) (by decide) (by decide) ?_
  rw [hPst]
  exact own_retP X101 (v := (some (.int (nar .boolean (1 : Int32))))) (Q := Q_emp Z a1 t kb vs dv h0 n0) (fun h => by rw [Bd.returns] at h; cases h) Bd.notSynchronized (fun fs hr => retN X101 hx (t := .boolean) Bd.returns (by simp) (hb hby own_d16_13) hr) (by decide) (by decide) (by rw [e101]; exact ⟨rfl, N0, rfl⟩)
theorem own_d13_0 : decode jdk_42_method_66_code 0 = .ok (.aload_n 0, 1) := by decide +kernel
theorem own_d13_1 : decode jdk_42_method_66_code 1 = .ok (.aload_n 1, 1) := by decide +kernel
theorem own_d13_2 : decode jdk_42_method_66_code 2 = .ok (.if_acmp .ne 5, 3) := by decide +kernel
theorem own_d13_5 : decode jdk_42_method_66_code 5 = .ok (.iconst 1, 1) := by decide +kernel
theorem own_d13_6 : decode jdk_42_method_66_code 6 = .ok (.ireturn, 1) := by decide +kernel
theorem own_ef_RR_3 (m : MethodId) (x0 : Addr) (x1 : Addr) : entryFrame m #[(.ref x0), (.ref x1)] 3 = mkF m 0 #[.val (.ref x0), .val (.ref x1), .unset] [] := by first | (simp [entryFrame, mkF, argsToLocals, Value.category]; done) | rfl
def Q_eqs (Z : State) (a1 : Addr) (h0 : Heap) (n0 : Nat) (v : Option Value) (h : Heap) (L : List Loc) : Prop := v = some (.int 1) ∧ Fr n0 L ∧ h = h0
theorem rm_eqs (l : Launch) (Z : State) (a0 : Array Value) (hw : own_H a0 Z) (ws : List Jvm.Cond) (a1 : Addr) (h0 : Heap) (n0 : Nat) (Z0 : n0 ≤ h0.size) : own_MP l (⟨"java/lang/String", "equals", "(Ljava/lang/Object;)Z"⟩ : MethodName) jdk_42_method_66_code 3 (some .boolean) ws ({ frames := 0, cells := 0, slots := 0, locals := 0 } : Room) Z h0 #[(.ref a1), (.ref a1)] (fun _ _ _ _ _ => True) (Q_eqs Z a1 h0 n0) := by
  refine own_startP (plainFor_of_name own_pn_java_lang_String) fun p e s m below meth c s₁ Bd hx hby hml hown0 X0 e0 hh0 hZ hK Pst hPst => ?_
  have hown : s.vm.findClass "java/lang/String" = some m.cls := hown0
  have hnm := (name_of_methodNamed Bd.named Bd.method).1
  have N0 := Fr.nil n0
  rw [own_ef_RR_3 m a1 a1]
  refine own_x_aloadN X0.here hx (hb hby own_d13_0) rfl rfl ?_
  refine own_x_aloadN X0.here hx (hb hby own_d13_1) rfl rfl ?_
  refine own_Go.of (S' := s₁.setTop (mkF m 5 #[.val (.ref a1), .val (.ref a1), .unset] [])) (fun tgt kst => Jvm.RoadKit.acmp (g := (mkF m 2 #[.val (.ref a1), .val (.ref a1), .unset] [(.ref a1), (.ref a1)])) X0 hx rfl rfl rfl (pc0 := 2) (pc' := 5) (same := true) rfl (hb hby own_d13_2) rfl (decide_eq_true rfl) (by decide) (by decide) kst) ?_
  refine own_x_iconst X0.here hx (hb hby own_d13_5) (z := (1 : Int32)) rfl ?_
  rw [hPst]
  exact own_retP X0 (v := (some (.int (nar .boolean (1 : Int32))))) (Q := Q_eqs Z a1 h0 n0) (fun h => by rw [Bd.returns] at h; cases h) Bd.notSynchronized (fun fs hr => retN X0 hx (t := .boolean) Bd.returns (by simp) (hb hby own_d13_6) hr) (by decide) (by decide) (by rw [e0]; exact ⟨rfl, N0, rfl⟩)
theorem own_d8_0 : decode jdk_30_method_1_code 0 = .ok (.aload_n 0, 1) := by decide +kernel
theorem own_d8_1 : decode jdk_30_method_1_code 1 = .ok (.invokespecial 1, 3) := by decide +kernel
theorem own_d8_4 : decode jdk_30_method_1_code 4 = .ok (.return_, 1) := by decide +kernel
theorem own_pn_java_lang_Record : plainName "java/lang/Record" = true := by first | (simp [plainName, overriddenIn]; done) | decide +kernel
def Q_rec (Z : State) (a1 : Addr) (h0 : Heap) (n0 : Nat) (v : Option Value) (h : Heap) (L : List Loc) : Prop := v = none ∧ Fr n0 L ∧ h = h0
theorem rm_rec (l : Launch) (Z : State) (a0 : Array Value) (hw : own_H a0 Z) (ws : List Jvm.Cond) (a1 : Addr) (h0 : Heap) (n0 : Nat) (Z0 : n0 ≤ h0.size) : own_MP l (⟨"java/lang/Record", "<init>", "()V"⟩ : MethodName) jdk_30_method_1_code 1 none ws ({ frames := 1, cells := 0, slots := 0, locals := 12 } : Room) Z h0 #[(.ref a1)] (fun _ _ _ _ _ => True) (Q_rec Z a1 h0 n0) := by
  refine own_startP (plainFor_of_name own_pn_java_lang_Record) fun p e s m below meth c s₁ Bd hx hby hml hown0 X0 e0 hh0 hZ hK Pst hPst => ?_
  have hown : s.vm.findClass "java/lang/Record" = some m.cls := hown0
  have hnm := (name_of_methodNamed Bd.named Bd.method).1
  have N0 := Fr.nil n0
  rw [own_ef_R_1 m a1]
  refine own_x_aloadN X0.here hx (hb hby own_d8_0) rfl rfl ?_
  refine own_h_initO X0 hx hZ hown (own_w47 hw) (own_w17 hw) (own_w18 hw) e0 (by rw [hml]; rfl) rfl (hb hby own_d8_1) (by decide) (W := 0) (by show 2 * 0 + _ ≤ _; exact Nat.le_of_eq rfl) (by decide) fun T101 X101 e101 => ?_
  rw [hPst]
  exact own_retP X101 (v := none) (Q := Q_rec Z a1 h0 n0) (fun _ => rfl) Bd.notSynchronized (fun fs hr => X101.returnOut hx Bd.returns (hb hby own_d8_4) hr) (by decide) (by decide) (by rw [e101]; exact ⟨rfl, N0, rfl⟩)
theorem own_d9_0 : decode prog_63_method_9_code 0 = .ok (.aload_n 0, 1) := by decide +kernel
theorem own_d9_1 : decode prog_63_method_9_code 1 = .ok (.getfield 7, 3) := by decide +kernel
theorem own_d9_4 : decode prog_63_method_9_code 4 = .ok (.ireturn, 1) := by decide +kernel
theorem own_pn_com_example_warrant_to_dial_warranttodial_server_OperatorCommand_Outcome : plainName "com/example/warrant_to_dial/warranttodial/server/OperatorCommand$Outcome" = true := by first | (simp [plainName, overriddenIn]; done) | decide +kernel
def Q_status (Z : State) (a1 : Addr) (u : Int32) (h0 : Heap) (n0 : Nat) (v : Option Value) (h : Heap) (L : List Loc) : Prop := v = some (.int u) ∧ Fr n0 L ∧ h = h0
theorem rm_status (l : Launch) (Z : State) (a0 : Array Value) (hw : own_H a0 Z) (ws : List Jvm.Cond) (a1 : Addr) (u : Int32) (h0 : Heap) (n0 : Nat) (Z0 : n0 ≤ h0.size) (F1 : Fld Z h0 a1 "com/example/warrant_to_dial/warranttodial/server/OperatorCommand$Outcome" "status" "I" (.int u)) : own_MP l (⟨"com/example/warrant_to_dial/warranttodial/server/OperatorCommand$Outcome", "status", "()I"⟩ : MethodName) prog_63_method_9_code 1 (some .int) ws ({ frames := 0, cells := 0, slots := 0, locals := 0 } : Room) Z h0 #[(.ref a1)] (fun _ _ _ _ _ => True) (Q_status Z a1 u h0 n0) := by
  refine own_startP (plainFor_of_name own_pn_com_example_warrant_to_dial_warranttodial_server_OperatorCommand_Outcome) fun p e s m below meth c s₁ Bd hx hby hml hown0 X0 e0 hh0 hZ hK Pst hPst => ?_
  have hown : s.vm.findClass "com/example/warrant_to_dial/warranttodial/server/OperatorCommand$Outcome" = some m.cls := hown0
  have hnm := (name_of_methodNamed Bd.named Bd.method).1
  have N0 := Fr.nil n0
  rw [own_ef_R_1 m a1]
  refine own_x_aloadN X0.here hx (hb hby own_d9_0) rfl rfl ?_
  refine own_h_getF X0 hx hZ hown (host := "") (Or.inl (own_w48 hw)) Via.refl e0 F1 rfl (hb hby own_d9_1) fun T101 X101 e101 => ?_
  rw [hPst]
  exact own_retP X101 (v := (some (.int u))) (Q := Q_status Z a1 u h0 n0) (fun h => by rw [Bd.returns] at h; cases h) Bd.notSynchronized (fun fs hr => own_retI X101 hx Bd.returns (hb hby own_d9_4) hr) (by decide) (by decide) (by rw [e101]; exact ⟨rfl, N0, rfl⟩)
theorem own_d10_0 : decode prog_63_method_10_code 0 = .ok (.aload_n 0, 1) := by decide +kernel
theorem own_d10_1 : decode prog_63_method_10_code 1 = .ok (.getfield 13, 3) := by decide +kernel
theorem own_d10_4 : decode prog_63_method_10_code 4 = .ok (.areturn, 1) := by decide +kernel
def Q_out (Z : State) (a1 : Addr) (u : Addr) (h0 : Heap) (n0 : Nat) (v : Option Value) (h : Heap) (L : List Loc) : Prop := v = some (.ref u) ∧ Fr n0 L ∧ h = h0
theorem rm_out (l : Launch) (Z : State) (a0 : Array Value) (hw : own_H a0 Z) (ws : List Jvm.Cond) (a1 : Addr) (u : Addr) (h0 : Heap) (n0 : Nat) (Z0 : n0 ≤ h0.size) (F1 : Fld Z h0 a1 "com/example/warrant_to_dial/warranttodial/server/OperatorCommand$Outcome" "out" "Ljava/lang/String;" (.ref u)) : own_MP l (⟨"com/example/warrant_to_dial/warranttodial/server/OperatorCommand$Outcome", "out", "()Ljava/lang/String;"⟩ : MethodName) prog_63_method_10_code 1 (some (.object "java/lang/String")) ws ({ frames := 0, cells := 0, slots := 0, locals := 0 } : Room) Z h0 #[(.ref a1)] (fun _ _ _ _ _ => True) (Q_out Z a1 u h0 n0) := by
  refine own_startP (plainFor_of_name own_pn_com_example_warrant_to_dial_warranttodial_server_OperatorCommand_Outcome) fun p e s m below meth c s₁ Bd hx hby hml hown0 X0 e0 hh0 hZ hK Pst hPst => ?_
  have hown : s.vm.findClass "com/example/warrant_to_dial/warranttodial/server/OperatorCommand$Outcome" = some m.cls := hown0
  have hnm := (name_of_methodNamed Bd.named Bd.method).1
  have N0 := Fr.nil n0
  rw [own_ef_R_1 m a1]
  refine own_x_aloadN X0.here hx (hb hby own_d10_0) rfl rfl ?_
  refine own_h_getF X0 hx hZ hown (host := "") (Or.inl (own_w50 hw)) Via.refl e0 F1 rfl (hb hby own_d10_1) fun T101 X101 e101 => ?_
  rw [hPst]
  exact own_retP X101 (v := (some (.ref u))) (Q := Q_out Z a1 u h0 n0) (fun h => by rw [Bd.returns] at h; cases h) Bd.notSynchronized (fun fs hr => retOut X101 hx Bd.returns rfl (Or.inr (Or.inr (Or.inr (Or.inr ⟨rfl, rfl, rfl⟩)))) (hb hby own_d10_4) hr) (by decide) (by decide) (by rw [e101]; exact ⟨rfl, N0, rfl⟩)
theorem own_d14_0 : decode prog_63_method_11_code 0 = .ok (.aload_n 0, 1) := by decide +kernel
theorem own_d14_1 : decode prog_63_method_11_code 1 = .ok (.getfield 17, 3) := by decide +kernel
theorem own_d14_4 : decode prog_63_method_11_code 4 = .ok (.ireturn, 1) := by decide +kernel
def Q_hs (Z : State) (a1 : Addr) (u : Int32) (h0 : Heap) (n0 : Nat) (v : Option Value) (h : Heap) (L : List Loc) : Prop := v = some (.int (nar .boolean u)) ∧ Fr n0 L ∧ h = h0
theorem rm_hs (l : Launch) (Z : State) (a0 : Array Value) (hw : own_H a0 Z) (ws : List Jvm.Cond) (a1 : Addr) (u : Int32) (h0 : Heap) (n0 : Nat) (Z0 : n0 ≤ h0.size) (F1 : Fld Z h0 a1 "com/example/warrant_to_dial/warranttodial/server/OperatorCommand$Outcome" "holdsSecret" "Z" (.int u)) : own_MP l (⟨"com/example/warrant_to_dial/warranttodial/server/OperatorCommand$Outcome", "holdsSecret", "()Z"⟩ : MethodName) prog_63_method_11_code 1 (some .boolean) ws ({ frames := 0, cells := 0, slots := 0, locals := 0 } : Room) Z h0 #[(.ref a1)] (fun _ _ _ _ _ => True) (Q_hs Z a1 u h0 n0) := by
  refine own_startP (plainFor_of_name own_pn_com_example_warrant_to_dial_warranttodial_server_OperatorCommand_Outcome) fun p e s m below meth c s₁ Bd hx hby hml hown0 X0 e0 hh0 hZ hK Pst hPst => ?_
  have hown : s.vm.findClass "com/example/warrant_to_dial/warranttodial/server/OperatorCommand$Outcome" = some m.cls := hown0
  have hnm := (name_of_methodNamed Bd.named Bd.method).1
  have N0 := Fr.nil n0
  rw [own_ef_R_1 m a1]
  refine own_x_aloadN X0.here hx (hb hby own_d14_0) rfl rfl ?_
  refine own_h_getF X0 hx hZ hown (host := "") (Or.inl (own_w52 hw)) Via.refl e0 F1 rfl (hb hby own_d14_1) fun T101 X101 e101 => ?_
  rw [hPst]
  exact own_retP X101 (v := (some (.int (nar .boolean u)))) (Q := Q_hs Z a1 u h0 n0) (fun h => by rw [Bd.returns] at h; cases h) Bd.notSynchronized (fun fs hr => retN X101 hx (t := .boolean) Bd.returns (by simp) (hb hby own_d14_4) hr) (by decide) (by decide) (by rw [e101]; exact ⟨rfl, N0, rfl⟩)
theorem own_d15_0 : decode prog_63_method_12_code 0 = .ok (.aload_n 0, 1) := by decide +kernel
theorem own_d15_1 : decode prog_63_method_12_code 1 = .ok (.getfield 21, 3) := by decide +kernel
theorem own_d15_4 : decode prog_63_method_12_code 4 = .ok (.areturn, 1) := by decide +kernel
def Q_err (Z : State) (a1 : Addr) (u : Addr) (h0 : Heap) (n0 : Nat) (v : Option Value) (h : Heap) (L : List Loc) : Prop := v = some (.ref u) ∧ Fr n0 L ∧ h = h0
theorem rm_err (l : Launch) (Z : State) (a0 : Array Value) (hw : own_H a0 Z) (ws : List Jvm.Cond) (a1 : Addr) (u : Addr) (h0 : Heap) (n0 : Nat) (Z0 : n0 ≤ h0.size) (F1 : Fld Z h0 a1 "com/example/warrant_to_dial/warranttodial/server/OperatorCommand$Outcome" "err" "Ljava/lang/String;" (.ref u)) : own_MP l (⟨"com/example/warrant_to_dial/warranttodial/server/OperatorCommand$Outcome", "err", "()Ljava/lang/String;"⟩ : MethodName) prog_63_method_12_code 1 (some (.object "java/lang/String")) ws ({ frames := 0, cells := 0, slots := 0, locals := 0 } : Room) Z h0 #[(.ref a1)] (fun _ _ _ _ _ => True) (Q_err Z a1 u h0 n0) := by
  refine own_startP (plainFor_of_name own_pn_com_example_warrant_to_dial_warranttodial_server_OperatorCommand_Outcome) fun p e s m below meth c s₁ Bd hx hby hml hown0 X0 e0 hh0 hZ hK Pst hPst => ?_
  have hown : s.vm.findClass "com/example/warrant_to_dial/warranttodial/server/OperatorCommand$Outcome" = some m.cls := hown0
  have hnm := (name_of_methodNamed Bd.named Bd.method).1
  have N0 := Fr.nil n0
  rw [own_ef_R_1 m a1]
  refine own_x_aloadN X0.here hx (hb hby own_d15_0) rfl rfl ?_
  refine own_h_getF X0 hx hZ hown (host := "") (Or.inl (own_w54 hw)) Via.refl e0 F1 rfl (hb hby own_d15_1) fun T101 X101 e101 => ?_
  rw [hPst]
  exact own_retP X101 (v := (some (.ref u))) (Q := Q_err Z a1 u h0 n0) (fun h => by rw [Bd.returns] at h; cases h) Bd.notSynchronized (fun fs hr => retOut X101 hx Bd.returns rfl (Or.inr (Or.inr (Or.inr (Or.inr ⟨rfl, rfl, rfl⟩)))) (hb hby own_d15_4) hr) (by decide) (by decide) (by rw [e101]; exact ⟨rfl, N0, rfl⟩)
theorem own_d6_0 : decode jdk_32_method_1_code 0 = .ok (.getstatic 1, 3) := by decide +kernel
theorem own_d6_3 : decode jdk_32_method_1_code 3 = .ok (.astore_n 0, 1) := by decide +kernel
theorem own_d6_4 : decode jdk_32_method_1_code 4 = .ok (.aload_n 0, 1) := by decide +kernel
theorem own_d6_5 : decode jdk_32_method_1_code 5 = .ok (.areturn, 1) := by decide +kernel
theorem own_pn_java_util_Optional : plainName "java/util/Optional" = true := by first | (simp [plainName, overriddenIn]; done) | decide +kernel
theorem own_ef__1 (m : MethodId)  : entryFrame m #[] 1 = mkF m 0 #[.unset] [] := by first | (simp [entryFrame, mkF, argsToLocals, Value.category]; done) | rfl
def Q_oe (Z : State) (o : Addr) (h0 : Heap) (n0 : Nat) (v : Option Value) (h : Heap) (L : List Loc) : Prop := v = some (.ref o) ∧ Fr n0 L ∧ h = h0
theorem rm_oe (l : Launch) (Z : State) (a0 : Array Value) (hw : own_H a0 Z) (ws : List Jvm.Cond) (o : Addr) (h0 : Heap) (n0 : Nat) (Z0 : n0 ≤ h0.size) (O : Old Z n0 h0) (SE : Sta Z Z.heap "java/util/Optional" "EMPTY" "Ljava/util/Optional;" (.ref o)) : own_MP l (⟨"java/util/Optional", "empty", "()Ljava/util/Optional;"⟩ : MethodName) jdk_32_method_1_code 1 (some (.object "java/util/Optional")) ws ({ frames := 0, cells := 0, slots := 0, locals := 0 } : Room) Z h0 #[] (fun _ _ _ _ _ => True) (Q_oe Z o h0 n0) := by
  refine own_startP (plainFor_of_name own_pn_java_util_Optional) fun p e s m below meth c s₁ Bd hx hby hml hown0 X0 e0 hh0 hZ hK Pst hPst => ?_
  have hown : s.vm.findClass "java/util/Optional" = some m.cls := hown0
  have hnm := (name_of_methodNamed Bd.named Bd.method).1
  have N0 := Fr.nil n0
  rw [own_ef__1 m ]
  refine own_h_getS2 X0 hx hZ hown (host := "") (Or.inl (own_w38 hw)) Via.refl e0 (SE.ext O.2) (hb hby own_d6_0) fun T101 X101 e101 => ?_
  refine own_x_astoreN X101.here hx (hb hby own_d6_3) rfl rfl (l' := #[.val (.ref o)]) rfl ?_
  refine own_x_aloadN X101.here hx (hb hby own_d6_4) rfl rfl ?_
  rw [hPst]
  exact own_retP X101 (v := (some (.ref o))) (Q := Q_oe Z o h0 n0) (fun h => by rw [Bd.returns] at h; cases h) Bd.notSynchronized (fun fs hr => retOut X101 hx Bd.returns rfl (Or.inr (Or.inr (Or.inr (Or.inr ⟨rfl, rfl, rfl⟩)))) (hb hby own_d6_5) hr) (by decide) (by decide) (by rw [e101]; exact ⟨rfl, N0, rfl⟩)
theorem own_d7_0 : decode prog_63_method_1_code 0 = .ok (.aload_n 0, 1) := by decide +kernel
theorem own_d7_1 : decode prog_63_method_1_code 1 = .ok (.invokespecial 1, 3) := by decide +kernel
theorem own_pd2 : parseMethodDescriptor "()V" = some ⟨[], none⟩ := by decide +kernel
theorem own_d7_4 : decode prog_63_method_1_code 4 = .ok (.aload_n 0, 1) := by decide +kernel
theorem own_d7_5 : decode prog_63_method_1_code 5 = .ok (.iload_n 1, 1) := by decide +kernel
theorem own_d7_6 : decode prog_63_method_1_code 6 = .ok (.putfield 7, 3) := by decide +kernel
theorem own_d7_9 : decode prog_63_method_1_code 9 = .ok (.aload_n 0, 1) := by decide +kernel
theorem own_d7_10 : decode prog_63_method_1_code 10 = .ok (.aload_n 2, 1) := by decide +kernel
theorem own_d7_11 : decode prog_63_method_1_code 11 = .ok (.putfield 13, 3) := by decide +kernel
theorem own_d7_14 : decode prog_63_method_1_code 14 = .ok (.aload_n 0, 1) := by decide +kernel
theorem own_d7_15 : decode prog_63_method_1_code 15 = .ok (.iload_n 3, 1) := by decide +kernel
theorem own_d7_16 : decode prog_63_method_1_code 16 = .ok (.putfield 17, 3) := by decide +kernel
theorem own_d7_19 : decode prog_63_method_1_code 19 = .ok (.aload_n 0, 1) := by decide +kernel
theorem own_d7_20 : decode prog_63_method_1_code 20 = .ok (.aload 4, 2) := by decide +kernel
theorem own_d7_22 : decode prog_63_method_1_code 22 = .ok (.putfield 21, 3) := by decide +kernel
theorem own_d7_25 : decode prog_63_method_1_code 25 = .ok (.aload_n 0, 1) := by decide +kernel
theorem own_d7_26 : decode prog_63_method_1_code 26 = .ok (.aload 5, 2) := by decide +kernel
theorem own_d7_28 : decode prog_63_method_1_code 28 = .ok (.putfield 24, 3) := by decide +kernel
theorem own_d7_31 : decode prog_63_method_1_code 31 = .ok (.return_, 1) := by decide +kernel
theorem own_ef_RIRIRR_6 (m : MethodId) (x0 : Addr) (x1 : Int32) (x2 : Addr) (x3 : Int32) (x4 : Addr) (x5 : Addr) : entryFrame m #[(.ref x0), (.int x1), (.ref x2), (.int x3), (.ref x4), (.ref x5)] 6 = mkF m 0 #[.val (.ref x0), .val (.int x1), .val (.ref x2), .val (.int x3), .val (.ref x4), .val (.ref x5)] [] := by first | (simp [entryFrame, mkF, argsToLocals, Value.category]; done) | rfl
def Q_oi (Z : State) (a1 a2 a3 a4 : Addr) (u1 u2 u3 u4 u5 : Value) (h0 : Heap) (n0 : Nat) (v : Option Value) (h : Heap) (L : List Loc) : Prop := v = none ∧ Fr n0 L ∧ Keep h0 h [a1] ∧ Fld Z h a1 "com/example/warrant_to_dial/warranttodial/server/OperatorCommand$Outcome" "status" "I" (.int (0 : Int32)) ∧ Fld Z h a1 "com/example/warrant_to_dial/warranttodial/server/OperatorCommand$Outcome" "out" "Ljava/lang/String;" (.ref a2) ∧ Fld Z h a1 "com/example/warrant_to_dial/warranttodial/server/OperatorCommand$Outcome" "holdsSecret" "Z" (.int (0 : Int32)) ∧ Fld Z h a1 "com/example/warrant_to_dial/warranttodial/server/OperatorCommand$Outcome" "err" "Ljava/lang/String;" (.ref a3)
theorem rm_oi (l : Launch) (Z : State) (a0 : Array Value) (hw : own_H a0 Z) (ws : List Jvm.Cond) (a1 a2 a3 a4 : Addr) (u1 u2 u3 u4 u5 : Value) (h0 : Heap) (n0 : Nat) (Z0 : n0 ≤ h0.size) (E1 : Exa Z h0 a1 "com/example/warrant_to_dial/warranttodial/server/OperatorCommand$Outcome") (g1 : n0 ≤ a1) (F1 : Fld Z h0 a1 "com/example/warrant_to_dial/warranttodial/server/OperatorCommand$Outcome" "status" "I" u1) (F2 : Fld Z h0 a1 "com/example/warrant_to_dial/warranttodial/server/OperatorCommand$Outcome" "out" "Ljava/lang/String;" u2) (F3 : Fld Z h0 a1 "com/example/warrant_to_dial/warranttodial/server/OperatorCommand$Outcome" "holdsSecret" "Z" u3) (F4 : Fld Z h0 a1 "com/example/warrant_to_dial/warranttodial/server/OperatorCommand$Outcome" "err" "Ljava/lang/String;" u4) (F5 : Fld Z h0 a1 "com/example/warrant_to_dial/warranttodial/server/OperatorCommand$Outcome" "undo" "Ljava/util/Optional;" u5) : own_MP l (⟨"com/example/warrant_to_dial/warranttodial/server/OperatorCommand$Outcome", "<init>", "(ILjava/lang/String;ZLjava/lang/String;Ljava/util/Optional;)V"⟩ : MethodName) prog_63_method_1_code 6 none ws ({ frames := 2, cells := 0, slots := 0, locals := 24 } : Room) Z h0 #[(.ref a1), (.int (0 : Int32)), (.ref a2), (.int (0 : Int32)), (.ref a3), (.ref a4)] (fun _ _ _ _ _ => True) (Q_oi Z a1 a2 a3 a4 u1 u2 u3 u4 u5 h0 n0) := by
  refine own_startP (plainFor_of_name own_pn_com_example_warrant_to_dial_warranttodial_server_OperatorCommand_Outcome) fun p e s m below meth c s₁ Bd hx hby hml hown0 X0 e0 hh0 hZ hK Pst hPst => ?_
  have hown : s.vm.findClass "com/example/warrant_to_dial/warranttodial/server/OperatorCommand$Outcome" = some m.cls := hown0
  have hnm := (name_of_methodNamed Bd.named Bd.method).1
  have N0 := Fr.nil n0
  rw [own_ef_RIRIRR_6 m a1 (0 : Int32) a2 (0 : Int32) a3 a4]
  refine own_x_aloadN X0.here hx (hb hby own_d7_0) rfl rfl ?_
  refine own_cP X0 (X0.specialBack hx (y := (⟨"java/lang/Record", "<init>", "()V"⟩ : MethodName)) rfl hown (mvT hZ (own_w42 hw)) (mvT hZ (own_w43 hw)) (mvT hZ (own_w46 hw)) (by decide) (backOf (W := 0) (rm_rec l Z a0 hw [] a1 h0 n0 Z0 ) hZ (own_w46 hw) (own_w45 hw) (by decide) (by decide)) (g := (mkF m 1 #[.val (.ref a1), .val (.int (0 : Int32)), .val (.ref a2), .val (.int (0 : Int32)), .val (.ref a3), .val (.ref a4)] [(.ref a1)])) rfl (by rw [hml]; rfl) (Steps.refl _) (a := a1) (argsL := []) (rest := []) (lenOf own_pd2 rfl) rfl (by show 2 * 0 + _ ≤ _; exact Nat.le_of_eq rfl) (hb hby own_d7_1) (fun _ _ => ⟨rfl, e0, (by decide : 0 + 0 ≤ _), (by decide : 0 + 0 ≤ _)⟩)) fun v101 T101 L101 X101 hQ101 => ?_
  obtain ⟨rfl, Nq101, e101⟩ := hQ101
  have N101 := Fr.app N0 Nq101
  show own_Go p e below Pst (T101.setTop (mkF m 4 #[.val (.ref a1), .val (.int (0 : Int32)), .val (.ref a2), .val (.int (0 : Int32)), .val (.ref a3), .val (.ref a4)] []))
  refine own_x_aloadN X101.here hx (hb hby own_d7_4) rfl rfl ?_
  refine own_x_iloadN X101.here hx (hb hby own_d7_5) rfl ?_
  refine own_h_putF X101 hx hZ hown (host := "") (Or.inl (own_w48 hw)) Via.refl e101 F1 E1 (Or.inr ⟨(own_w49 hw), rfl, hnm⟩) (own_w32 hw) (ty := .int) (by decide) rfl rfl rfl (hb hby own_d7_6) fun T102 h102 X102 e102 W102 => ?_
  have Fw102 := Fld.same W102 F1
  have N102 := Fr.snoc X102 N101 g1
  refine own_x_aloadN X102.here hx (hb hby own_d7_9) rfl rfl ?_
  refine own_x_aloadN X102.here hx (hb hby own_d7_10) rfl rfl ?_
  have c103 := (E1.wr W102)
  have c104 := (F2.other W102 (Or.inr (slot_ne (Or.inr (own_w51 hw)) (Or.inr (own_w49 hw)) (by decide) (t := (.object "java/lang/String")) (t' := .int) (by decide) (by decide))))
  refine own_h_putF X102 hx hZ hown (host := "") (Or.inl (own_w50 hw)) Via.refl e102 c104 c103 (Or.inr ⟨(own_w51 hw), rfl, hnm⟩) (own_w32 hw) (ty := (.object "java/lang/String")) (by decide) rfl rfl rfl (hb hby own_d7_11) fun T105 h105 X105 e105 W105 => ?_
  have Fw105 := Fld.same W105 c104
  have N105 := Fr.snoc X105 N102 g1
  refine own_x_aloadN X105.here hx (hb hby own_d7_14) rfl rfl ?_
  refine own_x_iloadN X105.here hx (hb hby own_d7_15) rfl ?_
  have c106 := (c103.wr W105)
  have c107 := ((F3.other W102 (Or.inr (slot_ne (Or.inr (own_w53 hw)) (Or.inr (own_w49 hw)) (by decide) (t := .boolean) (t' := .int) (by decide) (by decide)))).other W105 (Or.inr (slot_ne (Or.inr (own_w53 hw)) (Or.inr (own_w51 hw)) (by decide) (t := .boolean) (t' := (.object "java/lang/String")) (by decide) (by decide))))
  refine own_h_putFN X105 hx hZ hown (own_w52 hw) Via.refl e105 c107 c106 (Or.inr ⟨(own_w53 hw), rfl, hnm⟩) (own_w32 hw) (ty := .boolean) (v' := (.int (0 : Int32))) (by decide) rfl rfl rfl (hb hby own_d7_16) fun T108 h108 X108 e108 W108 => ?_
  have Fw108 := Fld.same W108 c107
  have N108 := Fr.snoc X108 N105 g1
  refine own_x_aloadN X108.here hx (hb hby own_d7_19) rfl rfl ?_
  refine own_x_aload X108.here hx (hb hby own_d7_20) rfl rfl ?_
  have c109 := (c106.wr W108)
  have c110 := (((F4.other W102 (Or.inr (slot_ne (Or.inr (own_w55 hw)) (Or.inr (own_w49 hw)) (by decide) (t := (.object "java/lang/String")) (t' := .int) (by decide) (by decide)))).other W105 (Or.inr (slot_ne (Or.inr (own_w55 hw)) (Or.inr (own_w51 hw)) (by decide) (t := (.object "java/lang/String")) (t' := (.object "java/lang/String")) (by decide) (by decide)))).other W108 (Or.inr (slot_ne (Or.inr (own_w55 hw)) (Or.inr (own_w53 hw)) (by decide) (t := (.object "java/lang/String")) (t' := .boolean) (by decide) (by decide))))
  refine own_h_putF X108 hx hZ hown (host := "") (Or.inl (own_w54 hw)) Via.refl e108 c110 c109 (Or.inr ⟨(own_w55 hw), rfl, hnm⟩) (own_w32 hw) (ty := (.object "java/lang/String")) (by decide) rfl rfl rfl (hb hby own_d7_22) fun T111 h111 X111 e111 W111 => ?_
  have Fw111 := Fld.same W111 c110
  have N111 := Fr.snoc X111 N108 g1
  refine own_x_aloadN X111.here hx (hb hby own_d7_25) rfl rfl ?_
  refine own_x_aload X111.here hx (hb hby own_d7_26) rfl rfl ?_
  have c112 := (c109.wr W111)
  have c113 := ((((F5.other W102 (Or.inr (slot_ne (Or.inr (own_w57 hw)) (Or.inr (own_w49 hw)) (by decide) (t := (.object "java/util/Optional")) (t' := .int) (by decide) (by decide)))).other W105 (Or.inr (slot_ne (Or.inr (own_w57 hw)) (Or.inr (own_w51 hw)) (by decide) (t := (.object "java/util/Optional")) (t' := (.object "java/lang/String")) (by decide) (by decide)))).other W108 (Or.inr (slot_ne (Or.inr (own_w57 hw)) (Or.inr (own_w53 hw)) (by decide) (t := (.object "java/util/Optional")) (t' := .boolean) (by decide) (by decide)))).other W111 (Or.inr (slot_ne (Or.inr (own_w57 hw)) (Or.inr (own_w55 hw)) (by decide) (t := (.object "java/util/Optional")) (t' := (.object "java/lang/String")) (by decide) (by decide))))
  refine own_h_putF X111 hx hZ hown (host := "") (Or.inl (own_w56 hw)) Via.refl e111 c113 c112 (Or.inr ⟨(own_w57 hw), rfl, hnm⟩) (own_w32 hw) (ty := (.object "java/util/Optional")) (by decide) rfl rfl rfl (hb hby own_d7_28) fun T114 h114 X114 e114 W114 => ?_
  have Fw114 := Fld.same W114 c113
  have N114 := Fr.snoc X114 N111 g1
  have c115 := ((((((Keep.refl h0 [a1]).wr W102 (Or.inl (List.mem_of_getElem? (i := 0) rfl))).wr W105 (Or.inl (List.mem_of_getElem? (i := 0) rfl))).wr W108 (Or.inl (List.mem_of_getElem? (i := 0) rfl))).wr W111 (Or.inl (List.mem_of_getElem? (i := 0) rfl))).wr W114 (Or.inl (List.mem_of_getElem? (i := 0) rfl)))
  have c116 := ((((Fw102.other W105 (Or.inr (slot_ne (Or.inr (own_w49 hw)) (Or.inr (own_w51 hw)) (by decide) (t := .int) (t' := (.object "java/lang/String")) (by decide) (by decide)))).other W108 (Or.inr (slot_ne (Or.inr (own_w49 hw)) (Or.inr (own_w53 hw)) (by decide) (t := .int) (t' := .boolean) (by decide) (by decide)))).other W111 (Or.inr (slot_ne (Or.inr (own_w49 hw)) (Or.inr (own_w55 hw)) (by decide) (t := .int) (t' := (.object "java/lang/String")) (by decide) (by decide)))).other W114 (Or.inr (slot_ne (Or.inr (own_w49 hw)) (Or.inr (own_w57 hw)) (by decide) (t := .int) (t' := (.object "java/util/Optional")) (by decide) (by decide))))
  have c117 := (((Fw105.other W108 (Or.inr (slot_ne (Or.inr (own_w51 hw)) (Or.inr (own_w53 hw)) (by decide) (t := (.object "java/lang/String")) (t' := .boolean) (by decide) (by decide)))).other W111 (Or.inr (slot_ne (Or.inr (own_w51 hw)) (Or.inr (own_w55 hw)) (by decide) (t := (.object "java/lang/String")) (t' := (.object "java/lang/String")) (by decide) (by decide)))).other W114 (Or.inr (slot_ne (Or.inr (own_w51 hw)) (Or.inr (own_w57 hw)) (by decide) (t := (.object "java/lang/String")) (t' := (.object "java/util/Optional")) (by decide) (by decide))))
  have c118 := ((Fw108.other W111 (Or.inr (slot_ne (Or.inr (own_w53 hw)) (Or.inr (own_w55 hw)) (by decide) (t := .boolean) (t' := (.object "java/lang/String")) (by decide) (by decide)))).other W114 (Or.inr (slot_ne (Or.inr (own_w53 hw)) (Or.inr (own_w57 hw)) (by decide) (t := .boolean) (t' := (.object "java/util/Optional")) (by decide) (by decide))))
  have c119 := (Fw111.other W114 (Or.inr (slot_ne (Or.inr (own_w55 hw)) (Or.inr (own_w57 hw)) (by decide) (t := (.object "java/lang/String")) (t' := (.object "java/util/Optional")) (by decide) (by decide))))
  rw [hPst]
  exact own_retP X114 (v := none) (Q := Q_oi Z a1 a2 a3 a4 u1 u2 u3 u4 u5 h0 n0) (fun _ => rfl) Bd.notSynchronized (fun fs hr => X114.returnOut hx Bd.returns (hb hby own_d7_31) hr) (by decide) (by decide) (by rw [e114]; exact ⟨rfl, N114, c115, c116, c117, c118, c119⟩)
theorem own_d5_0 : decode prog_63_method_2_code 0 = .ok (.new 8, 3) := by decide +kernel
theorem own_d5_3 : decode prog_63_method_2_code 3 = .ok (.dup, 1) := by decide +kernel
theorem own_d5_4 : decode prog_63_method_2_code 4 = .ok (.iconst 0, 1) := by decide +kernel
theorem own_d5_5 : decode prog_63_method_2_code 5 = .ok (.aload_n 0, 1) := by decide +kernel
theorem own_d5_6 : decode prog_63_method_2_code 6 = .ok (.iconst 0, 1) := by decide +kernel
theorem own_d5_7 : decode prog_63_method_2_code 7 = .ok (.ldc 30, 2) := by decide +kernel
theorem own_d5_9 : decode prog_63_method_2_code 9 = .ok (.invokestatic 32, 3) := by decide +kernel
theorem own_pd3 : parseMethodDescriptor "()Ljava/util/Optional;" = some ⟨[], some (.object "java/util/Optional")⟩ := by decide +kernel
theorem own_d5_12 : decode prog_63_method_2_code 12 = .ok (.invokespecial 38, 3) := by decide +kernel
theorem own_pd4 : parseMethodDescriptor "(ILjava/lang/String;ZLjava/lang/String;Ljava/util/Optional;)V" = some ⟨[.int, (.object "java/lang/String"), .boolean, (.object "java/lang/String"), (.object "java/util/Optional")], none⟩ := by decide +kernel
theorem own_d5_15 : decode prog_63_method_2_code 15 = .ok (.areturn, 1) := by decide +kernel
def Q_done (Z : State) (o a1 : Addr) (h0 : Heap) (n0 : Nat) (v : Option Value) (h : Heap) (L : List Loc) : Prop := ∃ x : Addr, v = some (.ref x) ∧ Fr n0 L ∧ Keep h0 h [] ∧ h0.size ≤ x ∧ Exa Z h x "com/example/warrant_to_dial/warranttodial/server/OperatorCommand$Outcome" ∧ Fld Z h x "com/example/warrant_to_dial/warranttodial/server/OperatorCommand$Outcome" "status" "I" (.int (0 : Int32)) ∧ Fld Z h x "com/example/warrant_to_dial/warranttodial/server/OperatorCommand$Outcome" "out" "Ljava/lang/String;" (.ref a1) ∧ Fld Z h x "com/example/warrant_to_dial/warranttodial/server/OperatorCommand$Outcome" "holdsSecret" "Z" (.int (0 : Int32)) ∧ ∃ (er t : Addr) (kb : ClassId), Fld Z h x "com/example/warrant_to_dial/warranttodial/server/OperatorCommand$Outcome" "err" "Ljava/lang/String;" (.ref er) ∧ Exa Z h er "java/lang/String" ∧ Fld Z h er "java/lang/String" "value" "[B" (.ref t) ∧ Arv Z h t kb .byte (0 : Int32) [] (.int 0)
theorem rm_done (l : Launch) (Z : State) (a0 : Array Value) (hw : own_H a0 Z) (ws : List Jvm.Cond) (o a1 : Addr) (h0 : Heap) (n0 : Nat) (Z0 : n0 ≤ h0.size) (O : Old Z n0 h0) (SE : Sta Z Z.heap "java/util/Optional" "EMPTY" "Ljava/util/Optional;" (.ref o)) : own_MS own_EL l (⟨"com/example/warrant_to_dial/warranttodial/server/OperatorCommand$Outcome", "done", "(Ljava/lang/String;)Lcom/example/warrant_to_dial/warranttodial/server/OperatorCommand$Outcome;"⟩ : MethodName) prog_63_method_2_code 1 (some (.object "com/example/warrant_to_dial/warranttodial/server/OperatorCommand$Outcome")) ws ({ frames := 3, cells := 3, slots := 9, locals := 60 } : Room) Z h0 #[(.ref a1)] (fun _ _ _ _ _ => True) (Q_done Z o a1 h0 n0) := by
  refine own_startS (plainFor_of_name own_pn_com_example_warrant_to_dial_warranttodial_server_OperatorCommand_Outcome) fun p e s m below meth c s₁ Bd hx hby hml hown0 X0 e0 hh0 hZ hCH0 hS0 hK Pst hPst => ?_
  have hown : s.vm.findClass "com/example/warrant_to_dial/warranttodial/server/OperatorCommand$Outcome" = some m.cls := hown0
  have hnm := (name_of_methodNamed Bd.named Bd.method).1
  have N0 := Fr.nil n0
  have hk0 : 0 ≤ h0.size := Nat.zero_le _
  have hEL := own_hEL Z a0 hw
  rw [own_ef_R_1 m a1]
  refine own_h_newO X0 hx hZ hown (own_w31 hw) (own_w32 hw) (own_w29 hw) e0 (hb hby own_d5_0) (by decide) (by decide) fun T101 h101 b101 g101 X101 e101 E101 A101 D101 U101 => ?_
  have gn_b101 : n0 ≤ b101 := Nat.le_trans Z0 (Nat.le_of_eq g101.symm)
  have sz_b101 : h0.size ≤ b101 := Nat.le_trans (Keep.refl h0 []).1 (Nat.le_of_eq g101.symm)
  have sf_b101 := Safe.ext E101 hCH0 (Safe.new (Nat.le_of_eq g101.symm))
  have c102 := (CHv.ext E101 hCH0)
  have c103 := (CHr.trans (CHr.refl hCH0) (CHr.ext E101 hCH0))
  have c104 := (Nat.le_trans hk0 E101.1)
  have f101_status : Fld Z h101 b101 "com/example/warrant_to_dial/warranttodial/server/OperatorCommand$Outcome" "status" "I" (.int (0 : Int32)) := D101 (Or.inr (own_w49 hw)) (ty := .int) (by decide)
  have f101_out : Fld Z h101 b101 "com/example/warrant_to_dial/warranttodial/server/OperatorCommand$Outcome" "out" "Ljava/lang/String;" .null := D101 (Or.inr (own_w51 hw)) (ty := (.object "java/lang/String")) (by decide)
  have f101_holdsSecret : Fld Z h101 b101 "com/example/warrant_to_dial/warranttodial/server/OperatorCommand$Outcome" "holdsSecret" "Z" (.int (0 : Int32)) := D101 (Or.inr (own_w53 hw)) (ty := .boolean) (by decide)
  have f101_err : Fld Z h101 b101 "com/example/warrant_to_dial/warranttodial/server/OperatorCommand$Outcome" "err" "Ljava/lang/String;" .null := D101 (Or.inr (own_w55 hw)) (ty := (.object "java/lang/String")) (by decide)
  have f101_undo : Fld Z h101 b101 "com/example/warrant_to_dial/warranttodial/server/OperatorCommand$Outcome" "undo" "Ljava/util/Optional;" .null := D101 (Or.inr (own_w57 hw)) (ty := (.object "java/util/Optional")) (by decide)
  refine own_x_dup X101.here hx (hb hby own_d5_3) rfl rfl ?_
  refine own_x_iconst X101.here hx (hb hby own_d5_4) (z := (0 : Int32)) rfl ?_
  refine own_x_aloadN X101.here hx (hb hby own_d5_5) rfl rfl ?_
  refine own_x_iconst X101.here hx (hb hby own_d5_6) (z := (0 : Int32)) rfl ?_
  obtain ⟨a105, T105, h105, j105, b105, k105, X105, e105, E105, hS105, hk105, hZ105, hown105, A105, C105, V105, K105, la105, lb105, cr105, lit105, sn105, st105⟩ := ldcCH X101 hx hZ hown (own_w33 hw) (own_wS Z a0 hw) e101 hS0 c104 hEL (List.mem_of_getElem? (i := 0) rfl) c102 (vs := []) (z := (0 : Int32)) own_txt_0 (by decide) rfl (g := (mkF m 7 #[.val (.ref a1)] [(.int (0 : Int32)), (.ref a1), (.int (0 : Int32)), (.ref b101), (.ref b101)])) rfl (hb hby own_d5_7) (n := 0) (by decide) (by decide) (by decide) (by decide)
  refine own_Go.of st105 ?_
  have c106 := cr105.1
  have c107 := (CHr.trans c103 cr105)
  have c108 := (cr105.safe A101.lt sf_b101)
  have nl_b101_105 := sn105 _ c108
  show own_Go p e below Pst (T105.setTop (mkF m 9 #[.val (.ref a1)] [(.ref a105), (.int (0 : Int32)), (.ref a1), (.int (0 : Int32)), (.ref b101), (.ref b101)]))
  have c109 := ((O.ext E101).ext E105)
  have c111 := (Nat.le_trans (Nat.le_trans Z0 E101.1) E105.1)
  refine own_cF X105 (Jvm.LawKit.callS X105 hx (y := (⟨"java/util/Optional", "empty", "()Ljava/util/Optional;"⟩ : MethodName)) hown105 (mvT hZ105 (own_w34 hw)) (mvT hZ105 (own_w35 hw)) (mvT hZ105 (own_w36 hw)) (mvT hZ105 (own_w37 hw)) (by decide) (backOf (W := 6) (rm_oe l Z a0 hw [] o h105 n0 c111 c109 SE) hZ105 (own_w37 hw) (own_w36 hw) (by decide) (by decide)) (g := (mkF m 9 #[.val (.ref a1)] [(.ref a105), (.int (0 : Int32)), (.ref a1), (.int (0 : Int32)), (.ref b101), (.ref b101)])) rfl (by rw [hml]; rfl) (argsL := []) (rest := [(.ref a105), (.int (0 : Int32)), (.ref a1), (.int (0 : Int32)), (.ref b101), (.ref b101)]) (lenOf own_pd3 rfl) rfl (by show 2 * 0 + _ ≤ _; exact Nat.le_of_eq rfl) (hb hby own_d5_9) (fun _ _ => ⟨rfl, e105, (by decide : 3 + 0 ≤ _), (by decide : 9 + 0 ≤ _)⟩)) fun v110 T110 L110 X110 hQ110 => ?_
  obtain ⟨rfl, Nq110, e110⟩ := hQ110
  have N110 := Fr.app N0 Nq110
  show own_Go p e below Pst (T110.setTop (mkF m 12 #[.val (.ref a1)] [(.ref o), (.ref a105), (.int (0 : Int32)), (.ref a1), (.int (0 : Int32)), (.ref b101), (.ref b101)]))
  have c112 := (A101.ext E105)
  have c113 := (f101_status.ext E105)
  have c114 := (f101_out.ext E105)
  have c115 := (f101_holdsSecret.ext E105)
  have c116 := (f101_err.ext E105)
  have c117 := (f101_undo.ext E105)
  refine own_cP X110 (X110.specialBack hx (y := (⟨"com/example/warrant_to_dial/warranttodial/server/OperatorCommand$Outcome", "<init>", "(ILjava/lang/String;ZLjava/lang/String;Ljava/util/Optional;)V"⟩ : MethodName)) rfl hown105 (mvT hZ105 (own_w39 hw)) (mvT hZ105 (own_w40 hw)) (mvT hZ105 (own_w41 hw)) (by decide) (backOf (W := 1) (rm_oi l Z a0 hw [] b101 a1 a105 o (.int 0) .null (.int 0) .null .null h105 n0 c111 c112 gn_b101 c113 c114 c115 c116 c117) hZ105 (own_w41 hw) (own_w29 hw) (by decide) (by decide)) (g := (mkF m 12 #[.val (.ref a1)] [(.ref o), (.ref a105), (.int (0 : Int32)), (.ref a1), (.int (0 : Int32)), (.ref b101), (.ref b101)])) rfl (by rw [hml]; rfl) (Steps.refl _) (a := b101) (argsL := [(.int (0 : Int32)), (.ref a1), (.int (0 : Int32)), (.ref a105), (.ref o)]) (rest := [(.ref b101)]) (lenOf own_pd4 rfl) rfl (by show 2 * 0 + _ ≤ _; exact Nat.le_of_eq rfl) (hb hby own_d5_12) (fun _ _ => ⟨rfl, e110, (by decide : 3 + 0 ≤ _), (by decide : 9 + 0 ≤ _)⟩)) fun v118 T118 L118 X118 hQ118 => ?_
  obtain ⟨rfl, Nq118, K118, G1118, G2118, G3118, G4118⟩ := hQ118
  have N118 := Fr.app N110 Nq118
  have c119 := (CHv.keep K118 (sfS c108 sf0) c106)
  have c120 := (CHr.trans c107 (CHr.keep K118 (sfS c108 sf0) c106))
  have c121 := (Nat.le_trans hk105 K118.1)
  show own_Go p e below Pst (T118.setTop (mkF m 15 #[.val (.ref a1)] [(.ref b101)]))
  have c122 := (Keep.trans (((Keep.refl h0 []).ext E101).ext E105) K118 (allS (Or.inr sz_b101) all0))
  have c123 := (c112.keep K118)
  have c124 := (A105.keep K118)
  have c125 := (V105.keep K118 (ninS (Ne.symm nl_b101_105.1) nin0))
  have c126 := (K105.keep K118 (ninS (Ne.symm nl_b101_105.2) nin0))
  rw [hPst]
  exact own_retW X118 hS105 c121 (v := (some (.ref b101))) (Q := Q_done Z o a1 h0 n0) (fun h => by rw [Bd.returns] at h; cases h) Bd.notSynchronized (fun fs hr => retOut X118 hx Bd.returns rfl (Or.inr (Or.inr (Or.inr (Or.inr ⟨rfl, rfl, rfl⟩)))) (hb hby own_d5_15) hr) (by decide) (by decide) (by rw [hh0]; exact CHr.trans c120 (CHv.at X118 hZ105 hEL c119)) ⟨_, rfl, N118, c122, sz_b101, c123, G1118, G2118, G3118, _, _, _, G4118, c124, c125, c126⟩
theorem own_d1_0 : decode method_2_code 0 = .ok (.iload_n 0, 1) := by decide +kernel
theorem own_d1_1 : decode method_2_code 1 = .ok (.ldc 7, 2) := by decide +kernel
theorem own_d1_3 : decode method_2_code 3 = .ok (.iand, 1) := by decide +kernel
theorem own_d1_4 : decode method_2_code 4 = .ok (.iconst 4, 1) := by decide +kernel
theorem own_d1_5 : decode method_2_code 5 = .ok (.irem, 1) := by decide +kernel
theorem own_d1_6 : decode method_2_code 6 = .ok (.istore 4, 2) := by decide +kernel
theorem own_d1_8 : decode method_2_code 8 = .ok (.iload_n 1, 1) := by decide +kernel
theorem own_d1_9 : decode method_2_code 9 = .ok (.sipush 255, 3) := by decide +kernel
theorem own_d1_12 : decode method_2_code 12 = .ok (.iand, 1) := by decide +kernel
theorem own_d1_13 : decode method_2_code 13 = .ok (.i2c, 1) := by decide +kernel
theorem own_d1_14 : decode method_2_code 14 = .ok (.istore 5, 2) := by decide +kernel
theorem own_d1_16 : decode method_2_code 16 = .ok (.iload_n 2, 1) := by decide +kernel
theorem own_d1_17 : decode method_2_code 17 = .ok (.sipush 255, 3) := by decide +kernel
theorem own_d1_20 : decode method_2_code 20 = .ok (.iand, 1) := by decide +kernel
theorem own_d1_21 : decode method_2_code 21 = .ok (.i2c, 1) := by decide +kernel
theorem own_d1_22 : decode method_2_code 22 = .ok (.istore 6, 2) := by decide +kernel
theorem own_d1_24 : decode method_2_code 24 = .ok (.iload_n 3, 1) := by decide +kernel
theorem own_d1_25 : decode method_2_code 25 = .ok (.sipush 255, 3) := by decide +kernel
theorem own_d1_28 : decode method_2_code 28 = .ok (.iand, 1) := by decide +kernel
theorem own_d1_29 : decode method_2_code 29 = .ok (.i2c, 1) := by decide +kernel
theorem own_d1_30 : decode method_2_code 30 = .ok (.istore 7, 2) := by decide +kernel
theorem own_d1_32 : decode method_2_code 32 = .ok (.iload 4, 2) := by decide +kernel
theorem own_d1_34 : decode method_2_code 34 = .ok (.ifCond .ne 14, 3) := by decide +kernel
theorem own_d1_37 : decode method_2_code 37 = .ok (.new 8, 3) := by decide +kernel
theorem own_d1_40 : decode method_2_code 40 = .ok (.dup, 1) := by decide +kernel
theorem own_d1_41 : decode method_2_code 41 = .ok (.iconst 0, 1) := by decide +kernel
theorem own_d1_42 : decode method_2_code 42 = .ok (.newarray .char, 2) := by decide +kernel
theorem own_d1_44 : decode method_2_code 44 = .ok (.invokespecial 10, 3) := by decide +kernel
theorem own_pd5 : parseMethodDescriptor "([C)V" = some ⟨[(.array .char)], none⟩ := by decide +kernel
theorem own_d1_47 : decode method_2_code 47 = .ok (.areturn, 1) := by decide +kernel
theorem own_d1_48 : decode method_2_code 48 = .ok (.iload 4, 2) := by decide +kernel
theorem own_d1_50 : decode method_2_code 50 = .ok (.iconst 1, 1) := by decide +kernel
theorem own_d1_51 : decode method_2_code 51 = .ok (.if_icmp .ne 24, 3) := by decide +kernel
theorem own_d1_54 : decode method_2_code 54 = .ok (.iconst 1, 1) := by decide +kernel
theorem own_d1_55 : decode method_2_code 55 = .ok (.newarray .char, 2) := by decide +kernel
theorem own_d1_57 : decode method_2_code 57 = .ok (.astore 8, 2) := by decide +kernel
theorem own_d1_59 : decode method_2_code 59 = .ok (.aload 8, 2) := by decide +kernel
theorem own_d1_61 : decode method_2_code 61 = .ok (.iconst 0, 1) := by decide +kernel
theorem own_d1_62 : decode method_2_code 62 = .ok (.iload 5, 2) := by decide +kernel
theorem own_d1_64 : decode method_2_code 64 = .ok (.castore, 1) := by decide +kernel
theorem own_d1_65 : decode method_2_code 65 = .ok (.new 8, 3) := by decide +kernel
theorem own_d1_68 : decode method_2_code 68 = .ok (.dup, 1) := by decide +kernel
theorem own_d1_69 : decode method_2_code 69 = .ok (.aload 8, 2) := by decide +kernel
theorem own_d1_71 : decode method_2_code 71 = .ok (.invokespecial 10, 3) := by decide +kernel
theorem own_d1_74 : decode method_2_code 74 = .ok (.areturn, 1) := by decide +kernel
theorem own_d1_75 : decode method_2_code 75 = .ok (.iload 4, 2) := by decide +kernel
theorem own_d1_77 : decode method_2_code 77 = .ok (.iconst 2, 1) := by decide +kernel
theorem own_d1_78 : decode method_2_code 78 = .ok (.if_icmp .ne 30, 3) := by decide +kernel
theorem own_d1_81 : decode method_2_code 81 = .ok (.iconst 2, 1) := by decide +kernel
theorem own_d1_82 : decode method_2_code 82 = .ok (.newarray .char, 2) := by decide +kernel
theorem own_d1_84 : decode method_2_code 84 = .ok (.astore 8, 2) := by decide +kernel
theorem own_d1_86 : decode method_2_code 86 = .ok (.aload 8, 2) := by decide +kernel
theorem own_d1_88 : decode method_2_code 88 = .ok (.iconst 0, 1) := by decide +kernel
theorem own_d1_89 : decode method_2_code 89 = .ok (.iload 5, 2) := by decide +kernel
theorem own_d1_91 : decode method_2_code 91 = .ok (.castore, 1) := by decide +kernel
theorem own_d1_92 : decode method_2_code 92 = .ok (.aload 8, 2) := by decide +kernel
theorem own_d1_94 : decode method_2_code 94 = .ok (.iconst 1, 1) := by decide +kernel
theorem own_d1_95 : decode method_2_code 95 = .ok (.iload 6, 2) := by decide +kernel
theorem own_d1_97 : decode method_2_code 97 = .ok (.castore, 1) := by decide +kernel
theorem own_d1_98 : decode method_2_code 98 = .ok (.new 8, 3) := by decide +kernel
theorem own_d1_101 : decode method_2_code 101 = .ok (.dup, 1) := by decide +kernel
theorem own_d1_102 : decode method_2_code 102 = .ok (.aload 8, 2) := by decide +kernel
theorem own_d1_104 : decode method_2_code 104 = .ok (.invokespecial 10, 3) := by decide +kernel
theorem own_d1_107 : decode method_2_code 107 = .ok (.areturn, 1) := by decide +kernel
theorem own_d1_108 : decode method_2_code 108 = .ok (.iconst 3, 1) := by decide +kernel
theorem own_d1_109 : decode method_2_code 109 = .ok (.newarray .char, 2) := by decide +kernel
theorem own_d1_111 : decode method_2_code 111 = .ok (.astore 8, 2) := by decide +kernel
theorem own_d1_113 : decode method_2_code 113 = .ok (.aload 8, 2) := by decide +kernel
theorem own_d1_115 : decode method_2_code 115 = .ok (.iconst 0, 1) := by decide +kernel
theorem own_d1_116 : decode method_2_code 116 = .ok (.iload 5, 2) := by decide +kernel
theorem own_d1_118 : decode method_2_code 118 = .ok (.castore, 1) := by decide +kernel
theorem own_d1_119 : decode method_2_code 119 = .ok (.aload 8, 2) := by decide +kernel
theorem own_d1_121 : decode method_2_code 121 = .ok (.iconst 1, 1) := by decide +kernel
theorem own_d1_122 : decode method_2_code 122 = .ok (.iload 6, 2) := by decide +kernel
theorem own_d1_124 : decode method_2_code 124 = .ok (.castore, 1) := by decide +kernel
theorem own_d1_125 : decode method_2_code 125 = .ok (.aload 8, 2) := by decide +kernel
theorem own_d1_127 : decode method_2_code 127 = .ok (.iconst 2, 1) := by decide +kernel
theorem own_d1_128 : decode method_2_code 128 = .ok (.iload 7, 2) := by decide +kernel
theorem own_d1_130 : decode method_2_code 130 = .ok (.castore, 1) := by decide +kernel
theorem own_d1_131 : decode method_2_code 131 = .ok (.new 8, 3) := by decide +kernel
theorem own_d1_134 : decode method_2_code 134 = .ok (.dup, 1) := by decide +kernel
theorem own_d1_135 : decode method_2_code 135 = .ok (.aload 8, 2) := by decide +kernel
theorem own_d1_137 : decode method_2_code 137 = .ok (.invokespecial 10, 3) := by decide +kernel
theorem own_d1_140 : decode method_2_code 140 = .ok (.areturn, 1) := by decide +kernel
theorem own_pn_com_example_warrant_to_dial_warranttodial_server_OutcomeDonePinLaw : plainName "com/example/warrant_to_dial/warranttodial/server/OutcomeDonePinLaw" = true := by first | (simp [plainName, overriddenIn]; done) | decide +kernel
theorem own_ef_IIII_9 (m : MethodId) (x0 : Int32) (x1 : Int32) (x2 : Int32) (x3 : Int32) : entryFrame m #[(.int x0), (.int x1), (.int x2), (.int x3)] 9 = mkF m 0 #[.val (.int x0), .val (.int x1), .val (.int x2), .val (.int x3), .unset, .unset, .unset, .unset, .unset] [] := by first | (simp [entryFrame, mkF, argsToLocals, Value.category]; done) | rfl
def Q_draw (Z : State) (z p1 p2 p3 p4 : Int32) (h0 : Heap) (n0 : Nat) (v : Option Value) (h : Heap) (L : List Loc) : Prop := ∃ x : Addr, v = some (.ref x) ∧ Fr n0 L ∧ Keep h0 h [] ∧ h0.size ≤ x ∧ Exa Z h x "java/lang/String" ∧ Fld Z h x "java/lang/String" "coder" "B" (.int 0) ∧ ∃ (t : Addr) (kb : ClassId) (N : Int32) (vs : List Value), Fld Z h x "java/lang/String" "value" "[B" (.ref t) ∧ Arv Z h t kb .byte N vs (.int 0)
theorem rm_draw (l : Launch) (Z : State) (a0 : Array Value) (hw : own_H a0 Z) (ws : List Jvm.Cond) (z p1 p2 p3 p4 : Int32) (h0 : Heap) (n0 : Nat) (Z0 : n0 ≤ h0.size) (O : Old Z n0 h0) (SC : Sta Z Z.heap "java/lang/String" "COMPACT_STRINGS" "Z" (.int z)) (hz : ¬ z = 0) : own_MS own_EL l (⟨"com/example/warrant_to_dial/warranttodial/server/OutcomeDonePinLaw", "draw", "(IIII)Ljava/lang/String;"⟩ : MethodName) method_2_code 9 (some (.object "java/lang/String")) ws ({ frames := 4, cells := 6, slots := 12, locals := 70 } : Room) Z h0 #[(.int p1), (.int p2), (.int p3), (.int p4)] (fun _ _ _ _ _ => True) (Q_draw Z z p1 p2 p3 p4 h0 n0) := by
  refine own_startS (plainFor_of_name own_pn_com_example_warrant_to_dial_warranttodial_server_OutcomeDonePinLaw) fun p e s m below meth c s₁ Bd hx hby hml hown0 X0 e0 hh0 hZ hCH0 hS0 hK Pst hPst => ?_
  have hown : s.vm.findClass "com/example/warrant_to_dial/warranttodial/server/OutcomeDonePinLaw" = some m.cls := hown0
  have hnm := (name_of_methodNamed Bd.named Bd.method).1
  have N0 := Fr.nil n0
  have hk0 : 0 ≤ h0.size := Nat.zero_le _
  have hEL := own_hEL Z a0 hw
  rw [own_ef_IIII_9 m p1 p2 p3 p4]
  refine own_x_iloadN X0.here hx (hb hby own_d1_0) rfl ?_
  refine own_Go.of (S' := s₁.setTop (mkF m 3 #[.val (.int p1), .val (.int p2), .val (.int p3), .val (.int p4), .unset, .unset, .unset, .unset, .unset] [(.int (2147483647 : Int32)), (.int p1)])) (fun tgt kst => X0.ldcInt hx hown (mvT hZ (own_w4 hw)) (g := (mkF m 1 #[.val (.int p1), .val (.int p2), .val (.int p3), .val (.int p4), .unset, .unset, .unset, .unset, .unset] [(.int p1)])) rfl (hb hby own_d1_1) _ kst) ?_
  refine own_x_iand X0.here hx (hb hby own_d1_3) rfl ?_
  refine own_x_iconst X0.here hx (hb hby own_d1_4) (z := (4 : Int32)) rfl ?_
  refine own_Go.of (S' := s₁.setTop (mkF m 6 #[.val (.int p1), .val (.int p2), .val (.int p3), .val (.int p4), .unset, .unset, .unset, .unset, .unset] [(.int ((p1 &&& (2147483647 : Int32)) % (4 : Int32)))])) (fun tgt kst => iremM X0 hx rfl (hb hby own_d1_5) rfl (by decide) kst) ?_
  refine own_x_istore X0.here hx (hb hby own_d1_6) rfl (l' := #[.val (.int p1), .val (.int p2), .val (.int p3), .val (.int p4), .val (.int ((p1 &&& (2147483647 : Int32)) % (4 : Int32))), .unset, .unset, .unset, .unset]) rfl ?_
  refine own_x_iloadN X0.here hx (hb hby own_d1_8) rfl ?_
  refine own_x_sipush X0.here hx (hb hby own_d1_9) (z := (255 : Int32)) rfl ?_
  refine own_x_iand X0.here hx (hb hby own_d1_12) rfl ?_
  refine own_x_i2c X0.here hx (hb hby own_d1_13) rfl ?_
  refine own_x_istore X0.here hx (hb hby own_d1_14) rfl (l' := #[.val (.int p1), .val (.int p2), .val (.int p3), .val (.int p4), .val (.int ((p1 &&& (2147483647 : Int32)) % (4 : Int32))), .val (.int ((p2 &&& (255 : Int32)).toUInt32.toUInt16.toUInt32.toInt32)), .unset, .unset, .unset]) rfl ?_
  refine own_x_iloadN X0.here hx (hb hby own_d1_16) rfl ?_
  refine own_x_sipush X0.here hx (hb hby own_d1_17) (z := (255 : Int32)) rfl ?_
  refine own_x_iand X0.here hx (hb hby own_d1_20) rfl ?_
  refine own_x_i2c X0.here hx (hb hby own_d1_21) rfl ?_
  refine own_x_istore X0.here hx (hb hby own_d1_22) rfl (l' := #[.val (.int p1), .val (.int p2), .val (.int p3), .val (.int p4), .val (.int ((p1 &&& (2147483647 : Int32)) % (4 : Int32))), .val (.int ((p2 &&& (255 : Int32)).toUInt32.toUInt16.toUInt32.toInt32)), .val (.int ((p3 &&& (255 : Int32)).toUInt32.toUInt16.toUInt32.toInt32)), .unset, .unset]) rfl ?_
  refine own_x_iloadN X0.here hx (hb hby own_d1_24) rfl ?_
  refine own_x_sipush X0.here hx (hb hby own_d1_25) (z := (255 : Int32)) rfl ?_
  refine own_x_iand X0.here hx (hb hby own_d1_28) rfl ?_
  refine own_x_i2c X0.here hx (hb hby own_d1_29) rfl ?_
  refine own_x_istore X0.here hx (hb hby own_d1_30) rfl (l' := #[.val (.int p1), .val (.int p2), .val (.int p3), .val (.int p4), .val (.int ((p1 &&& (2147483647 : Int32)) % (4 : Int32))), .val (.int ((p2 &&& (255 : Int32)).toUInt32.toUInt16.toUInt32.toInt32)), .val (.int ((p3 &&& (255 : Int32)).toUInt32.toUInt16.toUInt32.toInt32)), .val (.int ((p4 &&& (255 : Int32)).toUInt32.toUInt16.toUInt32.toInt32)), .unset]) rfl ?_
  refine own_x_iload X0.here hx (hb hby own_d1_32) rfl ?_
  by_cases hn0 : ((p1 &&& (2147483647 : Int32)) % (4 : Int32)) = (0 : Int32)
  · refine own_x_ifNo X0.here hx (hb hby own_d1_34) rfl ((if0 _ _).trans (teq hn0).2) ?_
    refine own_h_newO X0 hx hZ hown (own_w5 hw) (own_w6 hw) (own_w7 hw) e0 (hb hby own_d1_37) (by decide) (by decide) fun T101 h101 b101 g101 X101 e101 E101 A101 D101 U101 => ?_
    have gn_b101 : n0 ≤ b101 := Nat.le_trans Z0 (Nat.le_of_eq g101.symm)
    have sz_b101 : h0.size ≤ b101 := Nat.le_trans (Keep.refl h0 []).1 (Nat.le_of_eq g101.symm)
    have sf_b101 := Safe.ext E101 hCH0 (Safe.new (Nat.le_of_eq g101.symm))
    have c102 := (CHv.ext E101 hCH0)
    have c103 := (CHr.trans (CHr.refl hCH0) (CHr.ext E101 hCH0))
    have c104 := (Nat.le_trans hk0 E101.1)
    have f101_value : Fld Z h101 b101 "java/lang/String" "value" "[B" .null := D101 (Or.inr (own_w21 hw)) (ty := (.array .byte)) (by decide)
    have f101_coder : Fld Z h101 b101 "java/lang/String" "coder" "B" (.int (0 : Int32)) := D101 (Or.inr (own_w22 hw)) (ty := .byte) (by decide)
    refine own_x_dup X101.here hx (hb hby own_d1_40) rfl rfl ?_
    refine own_x_iconst X101.here hx (hb hby own_d1_41) (z := (0 : Int32)) rfl ?_
    have c106 := (Nat.le_trans Z0 E101.1)
    have c107 := ((Keep.refl h0 []).ext E101)
    refine own_h_newP (aty := .char) X101 hx hZ (own_w8 hw) e101 (hb hby own_d1_42) rfl (by decide) (cap := 0) (by decide) (by decide) (by decide) (by decide) fun T105 h105 k105 b105 g105 X105 e105 E105 A105 => ?_
    have ne_b101_b105 : b101 ≠ b105 := Nat.ne_of_lt (Nat.lt_of_lt_of_le A101.lt (Nat.le_of_eq g105.symm))
    have gn_b105 : n0 ≤ b105 := Nat.le_trans c106 (Nat.le_of_eq g105.symm)
    have sz_b105 : h0.size ≤ b105 := Nat.le_trans c107.1 (Nat.le_of_eq g105.symm)
    have sf_b105 := Safe.ext E105 c102 (Safe.new (Nat.le_of_eq g105.symm))
    have c108 := (CHv.ext E105 c102)
    have c109 := (CHr.trans c103 (CHr.ext E105 c102))
    have c110 := (Nat.le_trans c104 E105.1)
    have V105 : Arv Z h105 b105 k105 .char (0 : Int32) [] (.int (0 : Int32)) := Arv.new A105 (by decide)
    have c111 := (A101.ext E105)
    have c112 := (f101_value.ext E105)
    have c113 := (f101_coder.ext E105)
    have c115 := (Nat.le_trans c106 E105.1)
    refine own_cS X105 hS0 (by rw [e105]; exact c110) hZ hown (X105.specialBackS hx (y := (⟨"java/lang/String", "<init>", "([C)V"⟩ : MethodName)) rfl hown (mvT hZ (own_w9 hw)) (mvT hZ (own_w10 hw)) (mvT hZ (own_w11 hw)) (by decide) (backOfSH (W := 1) (rm_i1z l Z a0 hw [] b101 b105 k105 [] (.int (0 : Int32)) h105 n0 c115 c111 c112 c113 gn_b101 V105) hZ (own_w11 hw) (own_w7 hw) (by decide) (by decide) hEL c108) (g := (mkF m 44 #[.val (.int p1), .val (.int p2), .val (.int p3), .val (.int p4), .val (.int ((p1 &&& (2147483647 : Int32)) % (4 : Int32))), .val (.int ((p2 &&& (255 : Int32)).toUInt32.toUInt16.toUInt32.toInt32)), .val (.int ((p3 &&& (255 : Int32)).toUInt32.toUInt16.toUInt32.toInt32)), .val (.int ((p4 &&& (255 : Int32)).toUInt32.toUInt16.toUInt32.toInt32)), .unset] [(.ref b105), (.ref b101), (.ref b101)])) rfl (by rw [hml]; rfl) (Steps.refl _) (a := b101) (argsL := [(.ref b105)]) (rest := [(.ref b101)]) (lenOf own_pd5 rfl) rfl (by show 2 * 0 + _ ≤ _; exact Nat.le_of_eq rfl) (hb hby own_d1_44) (fun _ _ => ⟨rfl, e105, (by decide : 2 + 4 ≤ _), (by decide : 4 + 8 ≤ _)⟩)) fun v114 T114 L114 X114 hS114 hZ114 hown114 hQ114 cr114 => ?_
    obtain ⟨rfl, Nq114, K114, A114, C114, t114, kb114, V114, B114⟩ := hQ114
    have N114 := Fr.app N0 Nq114
    have c116 := cr114.1
    have c117 := (CHr.trans c109 cr114)
    have c118 := (Nat.le_trans c110 K114.1)
    show own_Go p e below Pst (T114.setTop (mkF m 47 #[.val (.int p1), .val (.int p2), .val (.int p3), .val (.int p4), .val (.int ((p1 &&& (2147483647 : Int32)) % (4 : Int32))), .val (.int ((p2 &&& (255 : Int32)).toUInt32.toUInt16.toUInt32.toInt32)), .val (.int ((p3 &&& (255 : Int32)).toUInt32.toUInt16.toUInt32.toInt32)), .val (.int ((p4 &&& (255 : Int32)).toUInt32.toUInt16.toUInt32.toInt32)), .unset] [(.ref b101)]))
    have c119 := (Keep.trans (c107.ext E105) K114 (allS (Or.inr sz_b101) all0))
    rw [hPst]
    exact own_retW X114 hS114 (Nat.le_refl _) (v := (some (.ref b101))) (Q := Q_draw Z z p1 p2 p3 p4 h0 n0) (fun h => by rw [Bd.returns] at h; cases h) Bd.notSynchronized (fun fs hr => retOut X114 hx Bd.returns rfl (Or.inr (Or.inr (Or.inr (Or.inr ⟨rfl, rfl, rfl⟩)))) (hb hby own_d1_47) hr) (by decide) (by decide) (by rw [hh0]; exact CHr.trans c117 (CHv.at X114 hZ114 hEL c116)) ⟨_, rfl, N114, c119, sz_b101, A114, C114, _, _, _, _, V114, B114⟩
  · refine own_x_ifYes X0.here hx (pc0 := 34) (pc' := 48) rfl (hb hby own_d1_34) rfl ((if0 _ _).trans (feq hn0).2) (by decide) (by decide) ?_
    refine own_x_iload X0.here hx (hb hby own_d1_48) rfl ?_
    refine own_x_iconst X0.here hx (hb hby own_d1_50) (z := (1 : Int32)) rfl ?_
    by_cases hn1 : ((p1 &&& (2147483647 : Int32)) % (4 : Int32)) = (1 : Int32)
    · refine own_x_icmpNo X0.here hx (hb hby own_d1_51) rfl (teq hn1).2 ?_
      refine own_x_iconst X0.here hx (hb hby own_d1_54) (z := (1 : Int32)) rfl ?_
      refine own_h_newP (aty := .char) X0 hx hZ (own_w8 hw) e0 (hb hby own_d1_55) rfl (by decide) (cap := 1) (by decide) (by decide) (by decide) (by decide) fun T120 h120 k120 b120 g120 X120 e120 E120 A120 => ?_
      have gn_b120 : n0 ≤ b120 := Nat.le_trans Z0 (Nat.le_of_eq g120.symm)
      have sz_b120 : h0.size ≤ b120 := Nat.le_trans (Keep.refl h0 []).1 (Nat.le_of_eq g120.symm)
      have sf_b120 := Safe.ext E120 hCH0 (Safe.new (Nat.le_of_eq g120.symm))
      have c121 := (CHv.ext E120 hCH0)
      have c122 := (CHr.trans (CHr.refl hCH0) (CHr.ext E120 hCH0))
      have c123 := (Nat.le_trans hk0 E120.1)
      have V120 : Arv Z h120 b120 k120 .char (1 : Int32) [(.int (0 : Int32))] (.int (0 : Int32)) := (Arv.new A120 (by decide)).pad (pad_rep [] (.int (0 : Int32)) 1)
      refine own_x_astore X120.here hx (hb hby own_d1_57) rfl rfl (l' := #[.val (.int p1), .val (.int p2), .val (.int p3), .val (.int p4), .val (.int ((p1 &&& (2147483647 : Int32)) % (4 : Int32))), .val (.int ((p2 &&& (255 : Int32)).toUInt32.toUInt16.toUInt32.toInt32)), .val (.int ((p3 &&& (255 : Int32)).toUInt32.toUInt16.toUInt32.toInt32)), .val (.int ((p4 &&& (255 : Int32)).toUInt32.toUInt16.toUInt32.toInt32)), .val (.ref b120)]) rfl ?_
      refine own_x_aload X120.here hx (hb hby own_d1_59) rfl rfl ?_
      refine own_x_iconst X120.here hx (hb hby own_d1_61) (z := (0 : Int32)) rfl ?_
      refine own_x_iload X120.here hx (hb hby own_d1_62) rfl ?_
      refine own_h_arC X120 hx hZ e120 V120 (0 : Int32) 0 ⟨by decide, by decide⟩ rfl (Nat.le_of_ble_eq_true rfl) rfl (hb hby own_d1_64) fun T124 h124 X124 e124 W124 V124 => ?_
      have c125 := (CHv.wr W124 sf_b120 c121)
      have c126 := (CHr.trans c122 (CHr.wr W124 sf_b120 c121))
      have c127 := (Nat.le_trans c123 (Keep.of_wr W124).1)
      have N124 := Fr.snoc X124 N0 gn_b120
      have c129 := (Nat.le_trans (Nat.le_trans Z0 E120.1) (Keep.of_wr W124).1)
      have c130 := (((Keep.refl h0 []).ext E120).wr W124 (Or.inr sz_b120))
      refine own_h_newO X124 hx hZ hown (own_w5 hw) (own_w6 hw) (own_w7 hw) e124 (hb hby own_d1_65) (by decide) (by decide) fun T128 h128 b128 g128 X128 e128 E128 A128 D128 U128 => ?_
      have ne_b120_b128 : b120 ≠ b128 := Nat.ne_of_lt (Nat.lt_of_lt_of_le V124.lt (Nat.le_of_eq g128.symm))
      have gn_b128 : n0 ≤ b128 := Nat.le_trans c129 (Nat.le_of_eq g128.symm)
      have sz_b128 : h0.size ≤ b128 := Nat.le_trans c130.1 (Nat.le_of_eq g128.symm)
      have sf_b128 := Safe.ext E128 c125 (Safe.new (Nat.le_of_eq g128.symm))
      have c131 := (CHv.ext E128 c125)
      have c132 := (CHr.trans c126 (CHr.ext E128 c125))
      have c133 := (Nat.le_trans c127 E128.1)
      have f128_value : Fld Z h128 b128 "java/lang/String" "value" "[B" .null := D128 (Or.inr (own_w21 hw)) (ty := (.array .byte)) (by decide)
      have f128_coder : Fld Z h128 b128 "java/lang/String" "coder" "B" (.int (0 : Int32)) := D128 (Or.inr (own_w22 hw)) (ty := .byte) (by decide)
      refine own_x_dup X128.here hx (hb hby own_d1_68) rfl rfl ?_
      refine own_x_aload X128.here hx (hb hby own_d1_69) rfl rfl ?_
      have hp134 : ∀ c ∈ ([(nar .char ((p2 &&& (255 : Int32)).toUInt32.toUInt16.toUInt32.toInt32))] : List Int32), ¬ c < 0 ∧ ¬ (255 : Int32) < c := by
        intro c hc
        simp only [List.mem_cons, List.not_mem_nil, or_false] at hc
        rcases hc with rfl <;> exact own_and255 _
      have c134 := (Nat.le_trans c129 E128.1)
      have c135 := (V124.ext E128)
      have c136 := (((O.ext E120).wr W124 gn_b120).ext E128)
      refine own_cP X128 (X128.specialBack hx (y := (⟨"java/lang/String", "<init>", "([C)V"⟩ : MethodName)) rfl hown (mvT hZ (own_w9 hw)) (mvT hZ (own_w10 hw)) (mvT hZ (own_w11 hw)) (by decide) (StrChars.Road.backV (W := 1) hZ (own_words Z a0 hw) (kI := 4) (own_w6 hw) (cs := [(nar .char ((p2 &&& (255 : Int32)).toUInt32.toUInt16.toUInt32.toInt32))]) (bs := ([(nar .char ((p2 &&& (255 : Int32)).toUInt32.toUInt16.toUInt32.toInt32))] : List Int32).map (fun c => c.toInt8.toInt32)) (n := 1) gn_b128 c134 A128 f128_value f128_coder c135 (SC.ext c136.2) hz rfl rfl (by decide) (by decide) hp134 rfl (by decide) (by decide)) (g := (mkF m 71 #[.val (.int p1), .val (.int p2), .val (.int p3), .val (.int p4), .val (.int ((p1 &&& (2147483647 : Int32)) % (4 : Int32))), .val (.int ((p2 &&& (255 : Int32)).toUInt32.toUInt16.toUInt32.toInt32)), .val (.int ((p3 &&& (255 : Int32)).toUInt32.toUInt16.toUInt32.toInt32)), .val (.int ((p4 &&& (255 : Int32)).toUInt32.toUInt16.toUInt32.toInt32)), .val (.ref b120)] [(.ref b120), (.ref b128), (.ref b128)])) rfl (by rw [hml]; rfl) (Steps.refl _) (a := b128) (argsL := [(.ref b120)]) (rest := [(.ref b128)]) (lenOf own_pd5 rfl) rfl (by show 2 * 0 + _ ≤ _; exact Nat.le_of_eq rfl) (hb hby own_d1_71) (fun _ _ => ⟨rfl, e128, (by decide : 2 + 1 ≤ _), (by decide : 5 + 1 ≤ _)⟩)) fun v137 T137 L137 X137 hQ137 => ?_
      obtain ⟨rfl, Nq137, K137, A137, C137, t137, kb137, -, -, -, V137, B137⟩ := hQ137
      have N137 := Fr.app N124 Nq137
      have c138 := (CHv.keep K137 (sfS sf_b128 sf0) c131)
      have c139 := (CHr.trans c132 (CHr.keep K137 (sfS sf_b128 sf0) c131))
      have c140 := (Nat.le_trans c133 K137.1)
      show own_Go p e below Pst (T137.setTop (mkF m 74 #[.val (.int p1), .val (.int p2), .val (.int p3), .val (.int p4), .val (.int ((p1 &&& (2147483647 : Int32)) % (4 : Int32))), .val (.int ((p2 &&& (255 : Int32)).toUInt32.toUInt16.toUInt32.toInt32)), .val (.int ((p3 &&& (255 : Int32)).toUInt32.toUInt16.toUInt32.toInt32)), .val (.int ((p4 &&& (255 : Int32)).toUInt32.toUInt16.toUInt32.toInt32)), .val (.ref b120)] [(.ref b128)]))
      have c141 := (Keep.trans (c130.ext E128) K137 (allS (Or.inr sz_b128) all0))
      rw [hPst]
      exact own_retW X137 hS0 c140 (v := (some (.ref b128))) (Q := Q_draw Z z p1 p2 p3 p4 h0 n0) (fun h => by rw [Bd.returns] at h; cases h) Bd.notSynchronized (fun fs hr => retOut X137 hx Bd.returns rfl (Or.inr (Or.inr (Or.inr (Or.inr ⟨rfl, rfl, rfl⟩)))) (hb hby own_d1_74) hr) (by decide) (by decide) (by rw [hh0]; exact CHr.trans c139 (CHv.at X137 hZ hEL c138)) ⟨_, rfl, N137, c141, sz_b128, A137, C137, _, _, _, _, V137, B137⟩
    · refine own_x_icmpYes X0.here hx (pc0 := 51) (pc' := 75) rfl (hb hby own_d1_51) rfl (feq hn1).2 (by decide) (by decide) ?_
      refine own_x_iload X0.here hx (hb hby own_d1_75) rfl ?_
      refine own_x_iconst X0.here hx (hb hby own_d1_77) (z := (2 : Int32)) rfl ?_
      by_cases hn2 : ((p1 &&& (2147483647 : Int32)) % (4 : Int32)) = (2 : Int32)
      · refine own_x_icmpNo X0.here hx (hb hby own_d1_78) rfl (teq hn2).2 ?_
        refine own_x_iconst X0.here hx (hb hby own_d1_81) (z := (2 : Int32)) rfl ?_
        refine own_h_newP (aty := .char) X0 hx hZ (own_w8 hw) e0 (hb hby own_d1_82) rfl (by decide) (cap := 2) (by decide) (by decide) (by decide) (by decide) fun T142 h142 k142 b142 g142 X142 e142 E142 A142 => ?_
        have gn_b142 : n0 ≤ b142 := Nat.le_trans Z0 (Nat.le_of_eq g142.symm)
        have sz_b142 : h0.size ≤ b142 := Nat.le_trans (Keep.refl h0 []).1 (Nat.le_of_eq g142.symm)
        have sf_b142 := Safe.ext E142 hCH0 (Safe.new (Nat.le_of_eq g142.symm))
        have c143 := (CHv.ext E142 hCH0)
        have c144 := (CHr.trans (CHr.refl hCH0) (CHr.ext E142 hCH0))
        have c145 := (Nat.le_trans hk0 E142.1)
        have V142 : Arv Z h142 b142 k142 .char (2 : Int32) [(.int (0 : Int32)), (.int (0 : Int32))] (.int (0 : Int32)) := (Arv.new A142 (by decide)).pad (pad_rep [] (.int (0 : Int32)) 2)
        refine own_x_astore X142.here hx (hb hby own_d1_84) rfl rfl (l' := #[.val (.int p1), .val (.int p2), .val (.int p3), .val (.int p4), .val (.int ((p1 &&& (2147483647 : Int32)) % (4 : Int32))), .val (.int ((p2 &&& (255 : Int32)).toUInt32.toUInt16.toUInt32.toInt32)), .val (.int ((p3 &&& (255 : Int32)).toUInt32.toUInt16.toUInt32.toInt32)), .val (.int ((p4 &&& (255 : Int32)).toUInt32.toUInt16.toUInt32.toInt32)), .val (.ref b142)]) rfl ?_
        refine own_x_aload X142.here hx (hb hby own_d1_86) rfl rfl ?_
        refine own_x_iconst X142.here hx (hb hby own_d1_88) (z := (0 : Int32)) rfl ?_
        refine own_x_iload X142.here hx (hb hby own_d1_89) rfl ?_
        refine own_h_arC X142 hx hZ e142 V142 (0 : Int32) 0 ⟨by decide, by decide⟩ rfl (Nat.le_of_ble_eq_true rfl) rfl (hb hby own_d1_91) fun T146 h146 X146 e146 W146 V146 => ?_
        have c147 := (CHv.wr W146 sf_b142 c143)
        have c148 := (CHr.trans c144 (CHr.wr W146 sf_b142 c143))
        have c149 := (Nat.le_trans c145 (Keep.of_wr W146).1)
        have N146 := Fr.snoc X146 N0 gn_b142
        refine own_x_aload X146.here hx (hb hby own_d1_92) rfl rfl ?_
        refine own_x_iconst X146.here hx (hb hby own_d1_94) (z := (1 : Int32)) rfl ?_
        refine own_x_iload X146.here hx (hb hby own_d1_95) rfl ?_
        refine own_h_arC X146 hx hZ e146 V146 (1 : Int32) 1 ⟨by decide, by decide⟩ rfl (Nat.le_of_ble_eq_true rfl) rfl (hb hby own_d1_97) fun T150 h150 X150 e150 W150 V150 => ?_
        have c151 := (Safe.wr W146 sf_b142 c143 sf_b142)
        have c152 := (CHv.wr W150 c151 c147)
        have c153 := (CHr.trans c148 (CHr.wr W150 c151 c147))
        have c154 := (Nat.le_trans c149 (Keep.of_wr W150).1)
        have N150 := Fr.snoc X150 N146 gn_b142
        have c156 := (Nat.le_trans (Nat.le_trans (Nat.le_trans Z0 E142.1) (Keep.of_wr W146).1) (Keep.of_wr W150).1)
        have c157 := ((((Keep.refl h0 []).ext E142).wr W146 (Or.inr sz_b142)).wr W150 (Or.inr sz_b142))
        refine own_h_newO X150 hx hZ hown (own_w5 hw) (own_w6 hw) (own_w7 hw) e150 (hb hby own_d1_98) (by decide) (by decide) fun T155 h155 b155 g155 X155 e155 E155 A155 D155 U155 => ?_
        have ne_b142_b155 : b142 ≠ b155 := Nat.ne_of_lt (Nat.lt_of_lt_of_le V150.lt (Nat.le_of_eq g155.symm))
        have gn_b155 : n0 ≤ b155 := Nat.le_trans c156 (Nat.le_of_eq g155.symm)
        have sz_b155 : h0.size ≤ b155 := Nat.le_trans c157.1 (Nat.le_of_eq g155.symm)
        have sf_b155 := Safe.ext E155 c152 (Safe.new (Nat.le_of_eq g155.symm))
        have c158 := (CHv.ext E155 c152)
        have c159 := (CHr.trans c153 (CHr.ext E155 c152))
        have c160 := (Nat.le_trans c154 E155.1)
        have f155_value : Fld Z h155 b155 "java/lang/String" "value" "[B" .null := D155 (Or.inr (own_w21 hw)) (ty := (.array .byte)) (by decide)
        have f155_coder : Fld Z h155 b155 "java/lang/String" "coder" "B" (.int (0 : Int32)) := D155 (Or.inr (own_w22 hw)) (ty := .byte) (by decide)
        refine own_x_dup X155.here hx (hb hby own_d1_101) rfl rfl ?_
        refine own_x_aload X155.here hx (hb hby own_d1_102) rfl rfl ?_
        have hp161 : ∀ c ∈ ([(nar .char ((p2 &&& (255 : Int32)).toUInt32.toUInt16.toUInt32.toInt32)), (nar .char ((p3 &&& (255 : Int32)).toUInt32.toUInt16.toUInt32.toInt32))] : List Int32), ¬ c < 0 ∧ ¬ (255 : Int32) < c := by
          intro c hc
          simp only [List.mem_cons, List.not_mem_nil, or_false] at hc
          rcases hc with rfl | rfl <;> exact own_and255 _
        have c161 := (Nat.le_trans c156 E155.1)
        have c162 := (V150.ext E155)
        have c163 := ((((O.ext E142).wr W146 gn_b142).wr W150 gn_b142).ext E155)
        refine own_cP X155 (X155.specialBack hx (y := (⟨"java/lang/String", "<init>", "([C)V"⟩ : MethodName)) rfl hown (mvT hZ (own_w9 hw)) (mvT hZ (own_w10 hw)) (mvT hZ (own_w11 hw)) (by decide) (StrChars.Road.backV (W := 1) hZ (own_words Z a0 hw) (kI := 4) (own_w6 hw) (cs := [(nar .char ((p2 &&& (255 : Int32)).toUInt32.toUInt16.toUInt32.toInt32)), (nar .char ((p3 &&& (255 : Int32)).toUInt32.toUInt16.toUInt32.toInt32))]) (bs := ([(nar .char ((p2 &&& (255 : Int32)).toUInt32.toUInt16.toUInt32.toInt32)), (nar .char ((p3 &&& (255 : Int32)).toUInt32.toUInt16.toUInt32.toInt32))] : List Int32).map (fun c => c.toInt8.toInt32)) (n := 2) gn_b155 c161 A155 f155_value f155_coder c162 (SC.ext c163.2) hz rfl rfl (by decide) (by decide) hp161 rfl (by decide) (by decide)) (g := (mkF m 104 #[.val (.int p1), .val (.int p2), .val (.int p3), .val (.int p4), .val (.int ((p1 &&& (2147483647 : Int32)) % (4 : Int32))), .val (.int ((p2 &&& (255 : Int32)).toUInt32.toUInt16.toUInt32.toInt32)), .val (.int ((p3 &&& (255 : Int32)).toUInt32.toUInt16.toUInt32.toInt32)), .val (.int ((p4 &&& (255 : Int32)).toUInt32.toUInt16.toUInt32.toInt32)), .val (.ref b142)] [(.ref b142), (.ref b155), (.ref b155)])) rfl (by rw [hml]; rfl) (Steps.refl _) (a := b155) (argsL := [(.ref b142)]) (rest := [(.ref b155)]) (lenOf own_pd5 rfl) rfl (by show 2 * 0 + _ ≤ _; exact Nat.le_of_eq rfl) (hb hby own_d1_104) (fun _ _ => ⟨rfl, e155, (by decide : 2 + 1 ≤ _), (by decide : 6 + 2 ≤ _)⟩)) fun v164 T164 L164 X164 hQ164 => ?_
        obtain ⟨rfl, Nq164, K164, A164, C164, t164, kb164, -, -, -, V164, B164⟩ := hQ164
        have N164 := Fr.app N150 Nq164
        have c165 := (CHv.keep K164 (sfS sf_b155 sf0) c158)
        have c166 := (CHr.trans c159 (CHr.keep K164 (sfS sf_b155 sf0) c158))
        have c167 := (Nat.le_trans c160 K164.1)
        show own_Go p e below Pst (T164.setTop (mkF m 107 #[.val (.int p1), .val (.int p2), .val (.int p3), .val (.int p4), .val (.int ((p1 &&& (2147483647 : Int32)) % (4 : Int32))), .val (.int ((p2 &&& (255 : Int32)).toUInt32.toUInt16.toUInt32.toInt32)), .val (.int ((p3 &&& (255 : Int32)).toUInt32.toUInt16.toUInt32.toInt32)), .val (.int ((p4 &&& (255 : Int32)).toUInt32.toUInt16.toUInt32.toInt32)), .val (.ref b142)] [(.ref b155)]))
        have c168 := (Keep.trans (c157.ext E155) K164 (allS (Or.inr sz_b155) all0))
        rw [hPst]
        exact own_retW X164 hS0 c167 (v := (some (.ref b155))) (Q := Q_draw Z z p1 p2 p3 p4 h0 n0) (fun h => by rw [Bd.returns] at h; cases h) Bd.notSynchronized (fun fs hr => retOut X164 hx Bd.returns rfl (Or.inr (Or.inr (Or.inr (Or.inr ⟨rfl, rfl, rfl⟩)))) (hb hby own_d1_107) hr) (by decide) (by decide) (by rw [hh0]; exact CHr.trans c166 (CHv.at X164 hZ hEL c165)) ⟨_, rfl, N164, c168, sz_b155, A164, C164, _, _, _, _, V164, B164⟩
      · refine own_x_icmpYes X0.here hx (pc0 := 78) (pc' := 108) rfl (hb hby own_d1_78) rfl (feq hn2).2 (by decide) (by decide) ?_
        refine own_x_iconst X0.here hx (hb hby own_d1_108) (z := (3 : Int32)) rfl ?_
        refine own_h_newP (aty := .char) X0 hx hZ (own_w8 hw) e0 (hb hby own_d1_109) rfl (by decide) (cap := 3) (by decide) (by decide) (by decide) (by decide) fun T169 h169 k169 b169 g169 X169 e169 E169 A169 => ?_
        have gn_b169 : n0 ≤ b169 := Nat.le_trans Z0 (Nat.le_of_eq g169.symm)
        have sz_b169 : h0.size ≤ b169 := Nat.le_trans (Keep.refl h0 []).1 (Nat.le_of_eq g169.symm)
        have sf_b169 := Safe.ext E169 hCH0 (Safe.new (Nat.le_of_eq g169.symm))
        have c170 := (CHv.ext E169 hCH0)
        have c171 := (CHr.trans (CHr.refl hCH0) (CHr.ext E169 hCH0))
        have c172 := (Nat.le_trans hk0 E169.1)
        have V169 : Arv Z h169 b169 k169 .char (3 : Int32) [(.int (0 : Int32)), (.int (0 : Int32)), (.int (0 : Int32))] (.int (0 : Int32)) := (Arv.new A169 (by decide)).pad (pad_rep [] (.int (0 : Int32)) 3)
        refine own_x_astore X169.here hx (hb hby own_d1_111) rfl rfl (l' := #[.val (.int p1), .val (.int p2), .val (.int p3), .val (.int p4), .val (.int ((p1 &&& (2147483647 : Int32)) % (4 : Int32))), .val (.int ((p2 &&& (255 : Int32)).toUInt32.toUInt16.toUInt32.toInt32)), .val (.int ((p3 &&& (255 : Int32)).toUInt32.toUInt16.toUInt32.toInt32)), .val (.int ((p4 &&& (255 : Int32)).toUInt32.toUInt16.toUInt32.toInt32)), .val (.ref b169)]) rfl ?_
        refine own_x_aload X169.here hx (hb hby own_d1_113) rfl rfl ?_
        refine own_x_iconst X169.here hx (hb hby own_d1_115) (z := (0 : Int32)) rfl ?_
        refine own_x_iload X169.here hx (hb hby own_d1_116) rfl ?_
        refine own_h_arC X169 hx hZ e169 V169 (0 : Int32) 0 ⟨by decide, by decide⟩ rfl (Nat.le_of_ble_eq_true rfl) rfl (hb hby own_d1_118) fun T173 h173 X173 e173 W173 V173 => ?_
        have c174 := (CHv.wr W173 sf_b169 c170)
        have c175 := (CHr.trans c171 (CHr.wr W173 sf_b169 c170))
        have c176 := (Nat.le_trans c172 (Keep.of_wr W173).1)
        have N173 := Fr.snoc X173 N0 gn_b169
        refine own_x_aload X173.here hx (hb hby own_d1_119) rfl rfl ?_
        refine own_x_iconst X173.here hx (hb hby own_d1_121) (z := (1 : Int32)) rfl ?_
        refine own_x_iload X173.here hx (hb hby own_d1_122) rfl ?_
        refine own_h_arC X173 hx hZ e173 V173 (1 : Int32) 1 ⟨by decide, by decide⟩ rfl (Nat.le_of_ble_eq_true rfl) rfl (hb hby own_d1_124) fun T177 h177 X177 e177 W177 V177 => ?_
        have c178 := (Safe.wr W173 sf_b169 c170 sf_b169)
        have c179 := (CHv.wr W177 c178 c174)
        have c180 := (CHr.trans c175 (CHr.wr W177 c178 c174))
        have c181 := (Nat.le_trans c176 (Keep.of_wr W177).1)
        have N177 := Fr.snoc X177 N173 gn_b169
        refine own_x_aload X177.here hx (hb hby own_d1_125) rfl rfl ?_
        refine own_x_iconst X177.here hx (hb hby own_d1_127) (z := (2 : Int32)) rfl ?_
        refine own_x_iload X177.here hx (hb hby own_d1_128) rfl ?_
        refine own_h_arC X177 hx hZ e177 V177 (2 : Int32) 2 ⟨by decide, by decide⟩ rfl (Nat.le_of_ble_eq_true rfl) rfl (hb hby own_d1_130) fun T182 h182 X182 e182 W182 V182 => ?_
        have c183 := (Safe.wr W177 c178 c174 c178)
        have c184 := (CHv.wr W182 c183 c179)
        have c185 := (CHr.trans c180 (CHr.wr W182 c183 c179))
        have c186 := (Nat.le_trans c181 (Keep.of_wr W182).1)
        have N182 := Fr.snoc X182 N177 gn_b169
        have c188 := (Nat.le_trans (Nat.le_trans (Nat.le_trans (Nat.le_trans Z0 E169.1) (Keep.of_wr W173).1) (Keep.of_wr W177).1) (Keep.of_wr W182).1)
        have c189 := (((((Keep.refl h0 []).ext E169).wr W173 (Or.inr sz_b169)).wr W177 (Or.inr sz_b169)).wr W182 (Or.inr sz_b169))
        refine own_h_newO X182 hx hZ hown (own_w5 hw) (own_w6 hw) (own_w7 hw) e182 (hb hby own_d1_131) (by decide) (by decide) fun T187 h187 b187 g187 X187 e187 E187 A187 D187 U187 => ?_
        have ne_b169_b187 : b169 ≠ b187 := Nat.ne_of_lt (Nat.lt_of_lt_of_le V182.lt (Nat.le_of_eq g187.symm))
        have gn_b187 : n0 ≤ b187 := Nat.le_trans c188 (Nat.le_of_eq g187.symm)
        have sz_b187 : h0.size ≤ b187 := Nat.le_trans c189.1 (Nat.le_of_eq g187.symm)
        have sf_b187 := Safe.ext E187 c184 (Safe.new (Nat.le_of_eq g187.symm))
        have c190 := (CHv.ext E187 c184)
        have c191 := (CHr.trans c185 (CHr.ext E187 c184))
        have c192 := (Nat.le_trans c186 E187.1)
        have f187_value : Fld Z h187 b187 "java/lang/String" "value" "[B" .null := D187 (Or.inr (own_w21 hw)) (ty := (.array .byte)) (by decide)
        have f187_coder : Fld Z h187 b187 "java/lang/String" "coder" "B" (.int (0 : Int32)) := D187 (Or.inr (own_w22 hw)) (ty := .byte) (by decide)
        refine own_x_dup X187.here hx (hb hby own_d1_134) rfl rfl ?_
        refine own_x_aload X187.here hx (hb hby own_d1_135) rfl rfl ?_
        have hp193 : ∀ c ∈ ([(nar .char ((p2 &&& (255 : Int32)).toUInt32.toUInt16.toUInt32.toInt32)), (nar .char ((p3 &&& (255 : Int32)).toUInt32.toUInt16.toUInt32.toInt32)), (nar .char ((p4 &&& (255 : Int32)).toUInt32.toUInt16.toUInt32.toInt32))] : List Int32), ¬ c < 0 ∧ ¬ (255 : Int32) < c := by
          intro c hc
          simp only [List.mem_cons, List.not_mem_nil, or_false] at hc
          rcases hc with rfl | rfl | rfl <;> exact own_and255 _
        have c193 := (Nat.le_trans c188 E187.1)
        have c194 := (V182.ext E187)
        have c195 := (((((O.ext E169).wr W173 gn_b169).wr W177 gn_b169).wr W182 gn_b169).ext E187)
        refine own_cP X187 (X187.specialBack hx (y := (⟨"java/lang/String", "<init>", "([C)V"⟩ : MethodName)) rfl hown (mvT hZ (own_w9 hw)) (mvT hZ (own_w10 hw)) (mvT hZ (own_w11 hw)) (by decide) (StrChars.Road.backV (W := 1) hZ (own_words Z a0 hw) (kI := 4) (own_w6 hw) (cs := [(nar .char ((p2 &&& (255 : Int32)).toUInt32.toUInt16.toUInt32.toInt32)), (nar .char ((p3 &&& (255 : Int32)).toUInt32.toUInt16.toUInt32.toInt32)), (nar .char ((p4 &&& (255 : Int32)).toUInt32.toUInt16.toUInt32.toInt32))]) (bs := ([(nar .char ((p2 &&& (255 : Int32)).toUInt32.toUInt16.toUInt32.toInt32)), (nar .char ((p3 &&& (255 : Int32)).toUInt32.toUInt16.toUInt32.toInt32)), (nar .char ((p4 &&& (255 : Int32)).toUInt32.toUInt16.toUInt32.toInt32))] : List Int32).map (fun c => c.toInt8.toInt32)) (n := 3) gn_b187 c193 A187 f187_value f187_coder c194 (SC.ext c195.2) hz rfl rfl (by decide) (by decide) hp193 rfl (by decide) (by decide)) (g := (mkF m 137 #[.val (.int p1), .val (.int p2), .val (.int p3), .val (.int p4), .val (.int ((p1 &&& (2147483647 : Int32)) % (4 : Int32))), .val (.int ((p2 &&& (255 : Int32)).toUInt32.toUInt16.toUInt32.toInt32)), .val (.int ((p3 &&& (255 : Int32)).toUInt32.toUInt16.toUInt32.toInt32)), .val (.int ((p4 &&& (255 : Int32)).toUInt32.toUInt16.toUInt32.toInt32)), .val (.ref b169)] [(.ref b169), (.ref b187), (.ref b187)])) rfl (by rw [hml]; rfl) (Steps.refl _) (a := b187) (argsL := [(.ref b169)]) (rest := [(.ref b187)]) (lenOf own_pd5 rfl) rfl (by show 2 * 0 + _ ≤ _; exact Nat.le_of_eq rfl) (hb hby own_d1_137) (fun _ _ => ⟨rfl, e187, (by decide : 2 + 1 ≤ _), (by decide : 7 + 3 ≤ _)⟩)) fun v196 T196 L196 X196 hQ196 => ?_
        obtain ⟨rfl, Nq196, K196, A196, C196, t196, kb196, -, -, -, V196, B196⟩ := hQ196
        have N196 := Fr.app N182 Nq196
        have c197 := (CHv.keep K196 (sfS sf_b187 sf0) c190)
        have c198 := (CHr.trans c191 (CHr.keep K196 (sfS sf_b187 sf0) c190))
        have c199 := (Nat.le_trans c192 K196.1)
        show own_Go p e below Pst (T196.setTop (mkF m 140 #[.val (.int p1), .val (.int p2), .val (.int p3), .val (.int p4), .val (.int ((p1 &&& (2147483647 : Int32)) % (4 : Int32))), .val (.int ((p2 &&& (255 : Int32)).toUInt32.toUInt16.toUInt32.toInt32)), .val (.int ((p3 &&& (255 : Int32)).toUInt32.toUInt16.toUInt32.toInt32)), .val (.int ((p4 &&& (255 : Int32)).toUInt32.toUInt16.toUInt32.toInt32)), .val (.ref b169)] [(.ref b187)]))
        have c200 := (Keep.trans (c189.ext E187) K196 (allS (Or.inr sz_b187) all0))
        rw [hPst]
        exact own_retW X196 hS0 c199 (v := (some (.ref b187))) (Q := Q_draw Z z p1 p2 p3 p4 h0 n0) (fun h => by rw [Bd.returns] at h; cases h) Bd.notSynchronized (fun fs hr => retOut X196 hx Bd.returns rfl (Or.inr (Or.inr (Or.inr (Or.inr ⟨rfl, rfl, rfl⟩)))) (hb hby own_d1_140) hr) (by decide) (by decide) (by rw [hh0]; exact CHr.trans c198 (CHv.at X196 hZ hEL c197)) ⟨_, rfl, N196, c200, sz_b187, A196, C196, _, _, _, _, V196, B196⟩
theorem own_pd6 : parseMethodDescriptor "(IIII)Ljava/lang/String;" = some ⟨[.int, .int, .int, .int], some (.object "java/lang/String")⟩ := by decide +kernel
theorem own_pd7 : parseMethodDescriptor "(Ljava/lang/String;)Lcom/example/warrant_to_dial/warranttodial/server/OperatorCommand$Outcome;" = some ⟨[(.object "java/lang/String")], some (.object "com/example/warrant_to_dial/warranttodial/server/OperatorCommand$Outcome")⟩ := by decide +kernel
theorem own_pd8 : parseMethodDescriptor "()I" = some ⟨[], some .int⟩ := by decide +kernel
theorem own_pd9 : parseMethodDescriptor "()Ljava/lang/String;" = some ⟨[], some (.object "java/lang/String")⟩ := by decide +kernel
theorem own_pd10 : parseMethodDescriptor "(Ljava/lang/Object;)Z" = some ⟨[(.object "java/lang/Object")], some .boolean⟩ := by decide +kernel
theorem own_pd11 : parseMethodDescriptor "()Z" = some ⟨[], some .boolean⟩ := by decide +kernel
theorem own_ef_IIII_maxLocals (m : MethodId) (x0 : Int32) (x1 : Int32) (x2 : Int32) (x3 : Int32) : entryFrame m #[(.int x0), (.int x1), (.int x2), (.int x3)] maxLocals = mkF m 0 #[.val (.int x0), .val (.int x1), .val (.int x2), .val (.int x3), .unset, .unset, .unset, .unset] [] := by first | (simp [entryFrame, mkF, argsToLocals, Value.category, maxLocals]; done) | rfl
def Q0 (Z : State) (z p1 p2 p3 p4 : Int32) (o : Addr) (h0 : Heap) (n0 : Nat) (v : Option Value) (h : Heap) (L : List Loc) : Prop := v = some (.int 1) ∧ Fr n0 L
theorem rm0 (l : Launch) (Z : State) (a0 : Array Value) (hw : own_H a0 Z) (ws : List Jvm.Cond) (z p1 p2 p3 p4 : Int32) (o : Addr) (h0 : Heap) (n0 : Nat) (Z0 : n0 ≤ h0.size) (O : Old Z n0 h0) (SC : Sta Z Z.heap "java/lang/String" "COMPACT_STRINGS" "Z" (.int z)) (hz : ¬ z = 0) (SE : Sta Z Z.heap "java/util/Optional" "EMPTY" "Ljava/util/Optional;" (.ref o)) :
    MetFree l x (head1 (Jvm.Cond.code x code maxLocals ret :: ws) room_1) (fun a U => a = #[(.int p1), (.int p2), (.int p3), (.int p4)] ∧ Z.Warmed39 U.vm ∧ U.heap = h0 ∧ CHv Z own_EL U.vm h0) (fun _ _ _ _ _ => True) (fun _ U oc U' => ∃ v L, oc = .returned v ∧ Q0 Z z p1 p2 p3 p4 o h0 n0 v U'.heap L ∧ CHr Z own_EL U.vm U.heap U'.vm U'.heap ∧ ReturnedEndW U oc U' L 24 2176) := by
  refine MetFree.of_bodySF (plainFor_of_name own_pn_com_example_warrant_to_dial_warranttodial_server_OutcomeDonePinLaw) hisR ?_
  intro p e s m args below meth c s₁ Bd hml0 hP hK
  obtain ⟨rfl, hZ, hh0, hCH0⟩ := hP
  have hx := Bd.exec
  have hby := Bd.bytes
  have hml : c.maxLocals = 8 := hml0
  have hown : s.vm.findClass "com/example/warrant_to_dial/warranttodial/server/OutcomeDonePinLaw" = some m.cls := findClass_of_methodNamed Bd.named
  have hnm := (name_of_methodNamed Bd.named Bd.method).1
  have X0 : Stand p l e room_1 (s.setVm s.vm) m #[(.int p1), (.int p2), (.int p3), (.int p4)] below meth c s₁ [] 0 0 := Stand.of_body Bd
  have e0 : s₁.heap = h0 := by rw [← hh0, Bd.state]; rfl
  have N0 := Fr.nil n0
  have hS0 : s.Since s.vm 0 := (State.WarmedH.refl s).since 0
  have hk0 : 0 ≤ h0.size := Nat.zero_le _
  have hEL := own_hEL Z a0 hw
  obtain ⟨Pst, hPst⟩ : ∃ P : Outcome → State → Prop, P = (fun oc U' => ∃ v L, oc = .returned v ∧ Q0 Z z p1 p2 p3 p4 o h0 n0 v U'.heap L ∧ CHr Z own_EL s.vm s.heap U'.vm U'.heap ∧ ReturnedEndW s oc U' L 24 2176) := ⟨_, rfl⟩
  suffices hgo : own_Go p e below Pst (s₁.setTop (entryFrame m #[(.int p1), (.int p2), (.int p3), (.int p4)] maxLocals)) by rw [hPst] at hgo; exact hgo
  rw [own_ef_IIII_maxLocals m p1 p2 p3 p4]
  refine own_x_iloadN X0.here hx (hb hby at_0) rfl ?_
  refine own_x_iloadN X0.here hx (hb hby at_1) rfl ?_
  refine own_x_iloadN X0.here hx (hb hby at_2) rfl ?_
  refine own_x_iloadN X0.here hx (hb hby at_3) rfl ?_
  refine own_cS X0 hS0 (by rw [e0]; exact hk0) hZ hown (callSS X0 hx (y := (⟨"com/example/warrant_to_dial/warranttodial/server/OutcomeDonePinLaw", "draw", "(IIII)Ljava/lang/String;"⟩ : MethodName)) hown (mvT hZ (own_w0 hw)) (mvT hZ (own_w1 hw)) (mvT hZ (own_w2 hw)) (mvT hZ (own_w3 hw)) (by decide) (backOfSH (W := 0) (rm_draw l Z a0 hw [] z p1 p2 p3 p4 h0 n0 Z0 O SC hz) hZ (own_w3 hw) (own_w2 hw) (by decide) (by decide) hEL hCH0) (g := (mkF m 4 #[.val (.int p1), .val (.int p2), .val (.int p3), .val (.int p4), .unset, .unset, .unset, .unset] [(.int p4), (.int p3), (.int p2), (.int p1)])) rfl (by rw [hml]; rfl) (argsL := [(.int p1), (.int p2), (.int p3), (.int p4)]) (rest := []) (lenOf own_pd6 rfl) rfl (by show 2 * 0 + _ ≤ _; exact Nat.le_of_eq rfl) (hb hby at_4) (fun _ _ => ⟨rfl, e0, (by decide : 0 + 6 ≤ _), (by decide : 0 + 12 ≤ _)⟩)) fun v101 T101 L101 X101 hS101 hZ101 hown101 hQ101 cr101 => ?_
  obtain ⟨x101, rfl, Nq101, K101, sx101, A101, C101, t101, kb101, N_101, vs101, V101, B101⟩ := hQ101
  have N101 := Fr.app N0 Nq101
  have gn_x101 : n0 ≤ x101 := Nat.le_trans Z0 sx101
  have sz_x101 : h0.size ≤ x101 := Nat.le_trans (Keep.refl h0 []).1 sx101
  have c102 := cr101.1
  have c103 := (CHr.trans (CHr.refl hCH0) cr101)
  have c104 := (Nat.le_trans hk0 K101.1)
  show own_Go p e below Pst (T101.setTop (mkF m 7 #[.val (.int p1), .val (.int p2), .val (.int p3), .val (.int p4), .unset, .unset, .unset, .unset] [(.ref x101)]))
  refine own_x_astore X101.here hx (hb hby at_7) rfl rfl (l' := #[.val (.int p1), .val (.int p2), .val (.int p3), .val (.int p4), .val (.ref x101), .unset, .unset, .unset]) rfl ?_
  refine own_x_aload X101.here hx (hb hby at_9) rfl rfl ?_
  have c105 := (O.keep K101 all0)
  have c107 := (Nat.le_trans Z0 K101.1)
  refine own_cS X101 hS101 (Nat.le_refl _) hZ101 hown101 (callSS X101 hx (y := (⟨"com/example/warrant_to_dial/warranttodial/server/OperatorCommand$Outcome", "done", "(Ljava/lang/String;)Lcom/example/warrant_to_dial/warranttodial/server/OperatorCommand$Outcome;"⟩ : MethodName)) hown101 (mvT hZ101 (own_w27 hw)) (mvT hZ101 (own_w28 hw)) (mvT hZ101 (own_w29 hw)) (mvT hZ101 (own_w30 hw)) (by decide) (backOfSH (W := 0) (rm_done l Z a0 hw [] o x101 T101.heap n0 c107 c105 SE) hZ101 (own_w30 hw) (own_w29 hw) (by decide) (by decide) hEL c102) (g := (mkF m 11 #[.val (.int p1), .val (.int p2), .val (.int p3), .val (.int p4), .val (.ref x101), .unset, .unset, .unset] [(.ref x101)])) rfl (by rw [hml]; rfl) (argsL := [(.ref x101)]) (rest := []) (lenOf own_pd7 rfl) rfl (by show 2 * 0 + _ ≤ _; exact Nat.le_of_eq rfl) (hb hby at_11) (fun _ _ => ⟨rfl, rfl, (by decide : 6 + 3 ≤ _), (by decide : 12 + 9 ≤ _)⟩)) fun v106 T106 L106 X106 hS106 hZ106 hown106 hQ106 cr106 => ?_
  obtain ⟨x106, rfl, Nq106, K106, sx106, A106, G1106, G2106, G3106, er106, t106, kb106, G4106, EA106, EV106, EB106⟩ := hQ106
  have N106 := Fr.app N101 Nq106
  have ne_x101_x106 : x101 ≠ x106 := Nat.ne_of_lt (Nat.lt_of_lt_of_le A101.lt sx106)
  have gn_x106 : n0 ≤ x106 := Nat.le_trans c107 sx106
  have c108 := (Keep.trans (Keep.refl h0 []) K101 all0)
  have sz_x106 : h0.size ≤ x106 := Nat.le_trans c108.1 sx106
  have c109 := cr106.1
  have c110 := (CHr.trans c103 cr106)
  have c111 := (Nat.le_trans (Nat.le_refl _) K106.1)
  show own_Go p e below Pst (T106.setTop (mkF m 14 #[.val (.int p1), .val (.int p2), .val (.int p3), .val (.int p4), .val (.ref x101), .unset, .unset, .unset] [(.ref x106)]))
  refine own_x_astore X106.here hx (hb hby at_14) rfl rfl (l' := #[.val (.int p1), .val (.int p2), .val (.int p3), .val (.int p4), .val (.ref x101), .val (.ref x106), .unset, .unset]) rfl ?_
  refine own_x_aload X106.here hx (hb hby at_16) rfl rfl ?_
  have c113 := (Nat.le_trans c107 K106.1)
  obtain ⟨cq112, kq112, q112a, q112b, q112c⟩ := isOf hZ106 rfl A106
  refine own_cP X106 (X106.virtualBack hx (y := (⟨"com/example/warrant_to_dial/warranttodial/server/OperatorCommand$Outcome", "status", "()I"⟩ : MethodName)) (z := (⟨"com/example/warrant_to_dial/warranttodial/server/OperatorCommand$Outcome", "status", "()I"⟩ : MethodName)) hown106 (mvT hZ106 (own_w58 hw)) (mvT hZ106 (own_w59 hw)) (notFace_of_selects (args := #[]) (mvT hZ106 (own_w61 hw))) (mvT hZ106 (own_w61 hw)) (mvT hZ106 (own_w60 hw)) (by decide) (backOf (W := 0) (rm_status l Z a0 hw [] x106 (0 : Int32) T106.heap n0 c113 G1106) hZ106 (own_w62 hw) (own_w29 hw) (by decide) (by decide)) q112a q112c (g := (mkF m 18 #[.val (.int p1), .val (.int p2), .val (.int p3), .val (.int p4), .val (.ref x101), .val (.ref x106), .unset, .unset] [(.ref x106)])) rfl (by rw [hml]; rfl) (Steps.refl _) (argsL := []) (rest := []) (lenOf own_pd8 rfl) rfl (by show 2 * 0 + _ ≤ _; exact Nat.le_of_eq rfl) (hb hby at_18) (fun _ _ => ⟨rfl, rfl, (by decide : 9 + 0 ≤ _), (by decide : 21 + 0 ≤ _)⟩)) fun v112 T112 L112 X112 hQ112 => ?_
  obtain ⟨rfl, Nq112, e112⟩ := hQ112
  have N112 := Fr.app N106 Nq112
  show own_Go p e below Pst (T112.setTop (mkF m 21 #[.val (.int p1), .val (.int p2), .val (.int p3), .val (.int p4), .val (.ref x101), .val (.ref x106), .unset, .unset] [(.int (0 : Int32))]))
  refine own_x_ifYes X112.here hx (pc0 := 21) (pc' := 26) rfl (hb hby at_21) rfl ((if0 _ _).trans (teq rfl).1) (by decide) (by decide) ?_
  refine own_x_aload X112.here hx (hb hby at_26) rfl rfl ?_
  obtain ⟨cq114, kq114, q114a, q114b, q114c⟩ := isOf hZ106 e112 A106
  refine own_cP X112 (X112.virtualBack hx (y := (⟨"com/example/warrant_to_dial/warranttodial/server/OperatorCommand$Outcome", "out", "()Ljava/lang/String;"⟩ : MethodName)) (z := (⟨"com/example/warrant_to_dial/warranttodial/server/OperatorCommand$Outcome", "out", "()Ljava/lang/String;"⟩ : MethodName)) hown106 (mvT hZ106 (own_w63 hw)) (mvT hZ106 (own_w64 hw)) (notFace_of_selects (args := #[]) (mvT hZ106 (own_w66 hw))) (mvT hZ106 (own_w66 hw)) (mvT hZ106 (own_w65 hw)) (by decide) (backOf (W := 0) (rm_out l Z a0 hw [] x106 x101 T106.heap n0 c113 G2106) hZ106 (own_w67 hw) (own_w29 hw) (by decide) (by decide)) q114a q114c (g := (mkF m 28 #[.val (.int p1), .val (.int p2), .val (.int p3), .val (.int p4), .val (.ref x101), .val (.ref x106), .unset, .unset] [(.ref x106)])) rfl (by rw [hml]; rfl) (Steps.refl _) (argsL := []) (rest := []) (lenOf own_pd9 rfl) rfl (by show 2 * 0 + _ ≤ _; exact Nat.le_of_eq rfl) (hb hby at_28) (fun _ _ => ⟨rfl, e112, (by decide : 9 + 0 ≤ _), (by decide : 21 + 0 ≤ _)⟩)) fun v114 T114 L114 X114 hQ114 => ?_
  obtain ⟨rfl, Nq114, e114⟩ := hQ114
  have N114 := Fr.app N112 Nq114
  show own_Go p e below Pst (T114.setTop (mkF m 31 #[.val (.int p1), .val (.int p2), .val (.int p3), .val (.int p4), .val (.ref x101), .val (.ref x106), .unset, .unset] [(.ref x101)]))
  refine own_x_astore X114.here hx (hb hby at_31) rfl rfl (l' := #[.val (.int p1), .val (.int p2), .val (.int p3), .val (.int p4), .val (.ref x101), .val (.ref x106), .val (.ref x101), .unset]) rfl ?_
  refine own_x_aload X114.here hx (hb hby at_33) rfl rfl ?_
  refine own_x_ifnullNo X114.here hx (hb hby at_35) rfl ?_
  refine own_x_aload X114.here hx (hb hby at_38) rfl rfl ?_
  have c115 := (c105.keep K106 all0)
  have c116 := (A101.keep K106)
  have c117 := (C101.keep K106 nin0)
  have c118 := (V101.keep K106 nin0)
  have c119 := (B101.keep K106 nin0)
  obtain ⟨cq120, kq120, q120a, q120b, q120c⟩ := isOf hZ106 e114 c116
  refine own_cP X114 (X114.virtualBack hx (y := (⟨"java/lang/String", "length", "()I"⟩ : MethodName)) (z := (⟨"java/lang/String", "length", "()I"⟩ : MethodName)) hown106 (mvT hZ106 (own_w68 hw)) (mvT hZ106 (own_w69 hw)) (notFace_of_selects (args := #[]) (mvT hZ106 (own_w71 hw))) (mvT hZ106 (own_w71 hw)) (mvT hZ106 (own_w70 hw)) (by decide) (backOf (W := 0) (rm_len l Z a0 hw [] z x101 t101 kb101 0 N_101 vs101 (.int 0) T106.heap n0 c113 c115 SC hz c116 c117 c118 c119) hZ106 (own_w72 hw) (own_w7 hw) (by decide) (by decide)) q120a q120c (g := (mkF m 40 #[.val (.int p1), .val (.int p2), .val (.int p3), .val (.int p4), .val (.ref x101), .val (.ref x106), .val (.ref x101), .unset] [(.ref x101)])) rfl (by rw [hml]; rfl) (Steps.refl _) (argsL := []) (rest := []) (lenOf own_pd8 rfl) rfl (by show 2 * 0 + _ ≤ _; exact Nat.le_of_eq rfl) (hb hby at_40) (fun _ _ => ⟨rfl, e114, (by decide : 9 + 0 ≤ _), (by decide : 21 + 0 ≤ _)⟩)) fun v120 T120 L120 X120 hQ120 => ?_
  obtain ⟨rfl, Nq120, e120⟩ := hQ120
  have N120 := Fr.app N114 Nq120
  show own_Go p e below Pst (T120.setTop (mkF m 43 #[.val (.int p1), .val (.int p2), .val (.int p3), .val (.int p4), .val (.ref x101), .val (.ref x106), .val (.ref x101), .unset] [(.int (N_101 >>> (nar .byte 0 &&& 31)))]))
  refine own_x_aload X120.here hx (hb hby at_43) rfl rfl ?_
  obtain ⟨cq121, kq121, q121a, q121b, q121c⟩ := isOf hZ106 e120 c116
  refine own_cP X120 (X120.virtualBack hx (y := (⟨"java/lang/String", "length", "()I"⟩ : MethodName)) (z := (⟨"java/lang/String", "length", "()I"⟩ : MethodName)) hown106 (mvT hZ106 (own_w68 hw)) (mvT hZ106 (own_w69 hw)) (notFace_of_selects (args := #[]) (mvT hZ106 (own_w71 hw))) (mvT hZ106 (own_w71 hw)) (mvT hZ106 (own_w70 hw)) (by decide) (backOf (W := 1) (rm_len l Z a0 hw [] z x101 t101 kb101 0 N_101 vs101 (.int 0) T106.heap n0 c113 c115 SC hz c116 c117 c118 c119) hZ106 (own_w72 hw) (own_w7 hw) (by decide) (by decide)) q121a q121c (g := (mkF m 45 #[.val (.int p1), .val (.int p2), .val (.int p3), .val (.int p4), .val (.ref x101), .val (.ref x106), .val (.ref x101), .unset] [(.ref x101), (.int (N_101 >>> (nar .byte 0 &&& 31)))])) rfl (by rw [hml]; rfl) (Steps.refl _) (argsL := []) (rest := [(.int (N_101 >>> (nar .byte 0 &&& 31)))]) (lenOf own_pd8 rfl) rfl (by show 2 * 0 + _ ≤ _; exact Nat.le_of_eq rfl) (hb hby at_45) (fun _ _ => ⟨rfl, e120, (by decide : 9 + 0 ≤ _), (by decide : 21 + 0 ≤ _)⟩)) fun v121 T121 L121 X121 hQ121 => ?_
  obtain ⟨rfl, Nq121, e121⟩ := hQ121
  have N121 := Fr.app N120 Nq121
  show own_Go p e below Pst (T121.setTop (mkF m 48 #[.val (.int p1), .val (.int p2), .val (.int p3), .val (.int p4), .val (.ref x101), .val (.ref x106), .val (.ref x101), .unset] [(.int (N_101 >>> (nar .byte 0 &&& 31))), (.int (N_101 >>> (nar .byte 0 &&& 31)))]))
  refine own_x_icmpNo X121.here hx (hb hby at_48) rfl (teq rfl).2 ?_
  refine own_x_aload X121.here hx (hb hby at_51) rfl rfl ?_
  refine own_x_aload X121.here hx (hb hby at_53) rfl rfl ?_
  obtain ⟨cq122, kq122, q122a, q122b, q122c⟩ := isOf hZ106 e121 c116
  refine own_cP X121 (X121.virtualBack hx (y := (⟨"java/lang/String", "equals", "(Ljava/lang/Object;)Z"⟩ : MethodName)) (z := (⟨"java/lang/String", "equals", "(Ljava/lang/Object;)Z"⟩ : MethodName)) hown106 (mvT hZ106 (own_w79 hw)) (mvT hZ106 (own_w80 hw)) (notFace_of_selects (args := #[]) (mvT hZ106 (own_w82 hw))) (mvT hZ106 (own_w82 hw)) (mvT hZ106 (own_w81 hw)) (by decide) (backOf (W := 0) (rm_eqs l Z a0 hw [] x101 T106.heap n0 c113 ) hZ106 (own_w83 hw) (own_w7 hw) (by decide) (by decide)) q122a q122c (g := (mkF m 55 #[.val (.int p1), .val (.int p2), .val (.int p3), .val (.int p4), .val (.ref x101), .val (.ref x106), .val (.ref x101), .unset] [(.ref x101), (.ref x101)])) rfl (by rw [hml]; rfl) (Steps.refl _) (argsL := [(.ref x101)]) (rest := []) (lenOf own_pd10 rfl) rfl (by show 2 * 0 + _ ≤ _; exact Nat.le_of_eq rfl) (hb hby at_55) (fun _ _ => ⟨rfl, e121, (by decide : 9 + 0 ≤ _), (by decide : 21 + 0 ≤ _)⟩)) fun v122 T122 L122 X122 hQ122 => ?_
  obtain ⟨rfl, Nq122, e122⟩ := hQ122
  have N122 := Fr.app N121 Nq122
  show own_Go p e below Pst (T122.setTop (mkF m 58 #[.val (.int p1), .val (.int p2), .val (.int p3), .val (.int p4), .val (.ref x101), .val (.ref x106), .val (.ref x101), .unset] [(.int (1 : Int32))]))
  refine own_x_ifYes X122.here hx (pc0 := 58) (pc' := 63) rfl (hb hby at_58) rfl ((if0 _ _).trans (feq (by decide)).2) (by decide) (by decide) ?_
  refine own_x_aload X122.here hx (hb hby at_63) rfl rfl ?_
  obtain ⟨cq123, kq123, q123a, q123b, q123c⟩ := isOf hZ106 e122 A106
  refine own_cP X122 (X122.virtualBack hx (y := (⟨"com/example/warrant_to_dial/warranttodial/server/OperatorCommand$Outcome", "holdsSecret", "()Z"⟩ : MethodName)) (z := (⟨"com/example/warrant_to_dial/warranttodial/server/OperatorCommand$Outcome", "holdsSecret", "()Z"⟩ : MethodName)) hown106 (mvT hZ106 (own_w84 hw)) (mvT hZ106 (own_w85 hw)) (notFace_of_selects (args := #[]) (mvT hZ106 (own_w87 hw))) (mvT hZ106 (own_w87 hw)) (mvT hZ106 (own_w86 hw)) (by decide) (backOf (W := 0) (rm_hs l Z a0 hw [] x106 (0 : Int32) T106.heap n0 c113 G3106) hZ106 (own_w88 hw) (own_w29 hw) (by decide) (by decide)) q123a q123c (g := (mkF m 65 #[.val (.int p1), .val (.int p2), .val (.int p3), .val (.int p4), .val (.ref x101), .val (.ref x106), .val (.ref x101), .unset] [(.ref x106)])) rfl (by rw [hml]; rfl) (Steps.refl _) (argsL := []) (rest := []) (lenOf own_pd11 rfl) rfl (by show 2 * 0 + _ ≤ _; exact Nat.le_of_eq rfl) (hb hby at_65) (fun _ _ => ⟨rfl, e122, (by decide : 9 + 0 ≤ _), (by decide : 21 + 0 ≤ _)⟩)) fun v123 T123 L123 X123 hQ123 => ?_
  obtain ⟨rfl, Nq123, e123⟩ := hQ123
  have N123 := Fr.app N122 Nq123
  show own_Go p e below Pst (T123.setTop (mkF m 68 #[.val (.int p1), .val (.int p2), .val (.int p3), .val (.int p4), .val (.ref x101), .val (.ref x106), .val (.ref x101), .unset] [(.int (nar .boolean (0 : Int32)))]))
  refine own_x_ifYes X123.here hx (pc0 := 68) (pc' := 73) rfl (hb hby at_68) rfl ((if0 _ _).trans (teq rfl).1) (by decide) (by decide) ?_
  refine own_x_aload X123.here hx (hb hby at_73) rfl rfl ?_
  obtain ⟨cq124, kq124, q124a, q124b, q124c⟩ := isOf hZ106 e123 A106
  refine own_cP X123 (X123.virtualBack hx (y := (⟨"com/example/warrant_to_dial/warranttodial/server/OperatorCommand$Outcome", "err", "()Ljava/lang/String;"⟩ : MethodName)) (z := (⟨"com/example/warrant_to_dial/warranttodial/server/OperatorCommand$Outcome", "err", "()Ljava/lang/String;"⟩ : MethodName)) hown106 (mvT hZ106 (own_w89 hw)) (mvT hZ106 (own_w90 hw)) (notFace_of_selects (args := #[]) (mvT hZ106 (own_w92 hw))) (mvT hZ106 (own_w92 hw)) (mvT hZ106 (own_w91 hw)) (by decide) (backOf (W := 0) (rm_err l Z a0 hw [] x106 er106 T106.heap n0 c113 G4106) hZ106 (own_w93 hw) (own_w29 hw) (by decide) (by decide)) q124a q124c (g := (mkF m 75 #[.val (.int p1), .val (.int p2), .val (.int p3), .val (.int p4), .val (.ref x101), .val (.ref x106), .val (.ref x101), .unset] [(.ref x106)])) rfl (by rw [hml]; rfl) (Steps.refl _) (argsL := []) (rest := []) (lenOf own_pd9 rfl) rfl (by show 2 * 0 + _ ≤ _; exact Nat.le_of_eq rfl) (hb hby at_75) (fun _ _ => ⟨rfl, e123, (by decide : 9 + 0 ≤ _), (by decide : 21 + 0 ≤ _)⟩)) fun v124 T124 L124 X124 hQ124 => ?_
  obtain ⟨rfl, Nq124, e124⟩ := hQ124
  have N124 := Fr.app N123 Nq124
  show own_Go p e below Pst (T124.setTop (mkF m 78 #[.val (.int p1), .val (.int p2), .val (.int p3), .val (.int p4), .val (.ref x101), .val (.ref x106), .val (.ref x101), .unset] [(.ref er106)]))
  refine own_x_astore X124.here hx (hb hby at_78) rfl rfl (l' := #[.val (.int p1), .val (.int p2), .val (.int p3), .val (.int p4), .val (.ref x101), .val (.ref x106), .val (.ref x101), .val (.ref er106)]) rfl ?_
  refine own_x_aload X124.here hx (hb hby at_80) rfl rfl ?_
  refine own_x_ifnullNo X124.here hx (hb hby at_82) rfl ?_
  refine own_x_aload X124.here hx (hb hby at_85) rfl rfl ?_
  obtain ⟨cq125, kq125, q125a, q125b, q125c⟩ := isOf hZ106 e124 EA106
  refine own_cP X124 (X124.virtualBack hx (y := (⟨"java/lang/String", "isEmpty", "()Z"⟩ : MethodName)) (z := (⟨"java/lang/String", "isEmpty", "()Z"⟩ : MethodName)) hown106 (mvT hZ106 (own_w94 hw)) (mvT hZ106 (own_w95 hw)) (notFace_of_selects (args := #[]) (mvT hZ106 (own_w97 hw))) (mvT hZ106 (own_w97 hw)) (mvT hZ106 (own_w96 hw)) (by decide) (backOf (W := 0) (rm_emp l Z a0 hw [] er106 t106 kb106 [] (.int 0) T106.heap n0 c113 EV106 EB106) hZ106 (own_w98 hw) (own_w7 hw) (by decide) (by decide)) q125a q125c (g := (mkF m 87 #[.val (.int p1), .val (.int p2), .val (.int p3), .val (.int p4), .val (.ref x101), .val (.ref x106), .val (.ref x101), .val (.ref er106)] [(.ref er106)])) rfl (by rw [hml]; rfl) (Steps.refl _) (argsL := []) (rest := []) (lenOf own_pd11 rfl) rfl (by show 2 * 0 + _ ≤ _; exact Nat.le_of_eq rfl) (hb hby at_87) (fun _ _ => ⟨rfl, e124, (by decide : 9 + 0 ≤ _), (by decide : 21 + 0 ≤ _)⟩)) fun v125 T125 L125 X125 hQ125 => ?_
  obtain ⟨rfl, Nq125, e125⟩ := hQ125
  have N125 := Fr.app N124 Nq125
  show own_Go p e below Pst (T125.setTop (mkF m 90 #[.val (.int p1), .val (.int p2), .val (.int p3), .val (.int p4), .val (.ref x101), .val (.ref x106), .val (.ref x101), .val (.ref er106)] [(.int (1 : Int32))]))
  refine own_x_ifYes X125.here hx (pc0 := 90) (pc' := 95) rfl (hb hby at_90) rfl ((if0 _ _).trans (feq (by decide)).2) (by decide) (by decide) ?_
  refine own_x_iconst X125.here hx (hb hby at_95) (z := (1 : Int32)) rfl ?_
  rw [hPst]
  exact own_retW X125 hS106 (by rw [e125]; exact (Nat.le_refl _)) (v := (some (.int (nar .boolean (1 : Int32))))) (Q := Q0 Z z p1 p2 p3 p4 o h0 n0) (fun h => by rw [Bd.returns] at h; cases h) Bd.notSynchronized (fun fs hr => retN X125 hx (t := .boolean) Bd.returns (by simp) (hb hby at_96) hr) (by decide) (by decide) (by rw [hh0, e125]; exact CHr.trans c110 (CHv.at X125 hZ106 hEL c109)) (by rw [e125]; exact ⟨rfl, N125⟩)
theorem comes_1 {Post : Tables → Env → Array Value → State → Outcome → State → Prop} (hpost : ∀ tb e args s v u, (limb_1_1.after args s (.returned v) u = true ∧ limb_1_2.after args s (.returned v) u = true ∧ True) → ReturnedEndW s (.returned v) u (Jvm.fieldLocs frame_1_writes args s ++ Jvm.arrayLocs frame_1_arrays args s ++ Jvm.staticLocs frame_1_statics s) 24 2176 → Post tb e args s (.returned v) u) :
    ArmFor flags0 classFile x code maxLocals ret World_1 tables_1 room_1 Calls_1 rest_1 Pre_1 Post := by
  intro l hfl _ _ p e ha hc hk s m args below hf hA hF happ hP
  obtain ⟨hcalls, hrest, hpre⟩ := hP
  obtain ⟨-, -, -, hnamed, -, -, -, hat⟩ := (Spec.applies_iff hf).mp happ
  obtain ⟨hg, hn⟩ := and_e (Cond.before_iff.mp (show (Jvm.Cond.and given_1 narrow_1).before args s = true from hpre))
  obtain ⟨h1, h2⟩ := and_e hg
  obtain ⟨h3, h4⟩ := and_e h2
  obtain ⟨h5, h6⟩ := and_e h4
  obtain ⟨h7, h8⟩ := and_e h6
  obtain ⟨w0, w1, w2, w3, rfl⟩ : ∃ w0 w1 w2 w3 : Value, args = #[w0, w1, w2, w3] := by
    have hs : args.size = 4 := by simpa [Cond.value, given_1] using h1
    obtain ⟨L⟩ := args
    match L, hs with
    | [w0, w1, w2, w3], _ => exact ⟨w0, w1, w2, w3, rfl⟩
  have hw := fun d (hd : d ∈ tables_1) => atoms_spec (ws := Jvm.Cond.code x code maxLocals ret :: tables_1) hat d (List.mem_cons_of_mem _ hd)
  obtain ⟨hsets, hown0⟩ := atoms_of _ (rest_1_c_eq ▸ (show rest_1_c.before _ s = true from hrest))
  obtain ⟨i0, ei0⟩ := is_v h3
  obtain rfl : w0 = (.int i0) := Option.some.inj ei0
  obtain ⟨i1, ei1⟩ := is_v h5
  obtain rfl : w1 = (.int i1) := Option.some.inj ei1
  obtain ⟨i2, ei2⟩ := is_v h7
  obtain rfl : w2 = (.int i2) := Option.some.inj ei2
  obtain ⟨i3, ei3⟩ := is_v h8
  obtain rfl : w3 = (.int i3) := Option.some.inj ei3
  obtain ⟨z, ez⟩ := is_v (Cond.before_iff.mp (hsets _ (List.mem_of_getElem? (i := 5) rfl)))
  have SC : Sta s s.heap "java/lang/String" "COMPACT_STRINGS" "Z" (.int z) := Sta.start (args := #[(.int i0), (.int i1), (.int i2), (.int i3)]) ez (Or.inl (hsets _ (List.mem_of_getElem? (i := 4) rfl)))
  have hz : ¬ z = 0 := by
    have q := not_v (Cond.before_iff.mp (hsets _ (List.mem_of_getElem? (i := 6) rfl)))
    intro e0; subst e0
    have r := eq_i (o := none) (idx := []) (s := s) ez (Term.int_eval (0)) rfl
    rw [r] at q; cases q
  obtain ⟨oe, eo⟩ := exa_v (Cond.before_iff.mp (hsets _ (List.mem_of_getElem? (i := 2) rfl)))
  have SE : Sta s s.heap "java/util/Optional" "EMPTY" "Ljava/util/Optional;" (.ref oe) := Sta.start (args := #[(.int i0), (.int i1), (.int i2), (.int i3)]) eo (Or.inl (hsets _ (List.mem_of_getElem? (i := 1) rfl)))
  have hcw : Jvm.Lit.compactW.before #[(.int i0), (.int i1), (.int i2), (.int i3)] s = true := hsets _ (List.mem_of_getElem? (i := 6) rfl)
  have CH : CHv s own_EL s.vm s.heap := CHv.start (own_hEL s _ hw) (fun p hp => hcalls.1 p hp) hcw (own_wS s _ hw _ (by simp [Bundle.stringAtoms])) (own_wS s _ hw _ (by simp [Bundle.stringAtoms, Bundle.sN]))
  obtain ⟨n, o, h1, h2, h3, _, L, rfl, ⟨rfl, N⟩, -, hq⟩ := rm0 l s _ hw tables_1 z i0 i1 i2 i3 oe s.heap s.heap.size (Nat.le_refl _) (Old.start s) SC hz SE p e ha hc hk s m _ below hf ((Spec.applies_iff_loose hf).mp happ).1 ⟨rfl, State.Warmed39.refl s, rfl, CH⟩ trivial
  refine ⟨n, _, h1, h2, h3, hpost _ _ _ _ _ _ ⟨Cond.after_iff.mpr rfl, Cond.after_iff.mpr (eq_i res_at (Term.int_eval (1)) rfl), trivial⟩ ⟨hq.1, hq.2.1, hq.2.2.1, (hq.2.2.2.sift fun y hy => Or.inr (N y hy)).mono (by decide) (by decide)⟩⟩
theorem main_1_1 : Claimed_1_1 := comes_1 fun _ _ _ _ _ _ h hF => ⟨h.1, hF⟩
theorem main_1_2 : Claimed_1_2 := comes_1 fun _ _ _ _ _ _ h hF => ⟨h.2.1, hF⟩
end Jvm.Pilot.@@N@@
namespace Jvm.Pilot.@@N@@
open Jvm Jvm.ClassFile Sem Op Lib Jvm.Free Jvm.Stand Jvm.Pilot.@@N@@.Jvm.D
/-! MADE BY PROGRAM (witnessworld.py) out of the Statement's table words and the real class files: 22 classes; the members and pool entries that the words name. The judged class is class 1, her method 2. -/
namespace start1
open Jvm.ClassFile
def u (s : String) : CpInfo := .utf8 (stringToUtf16 s)
/-- a pool by its gaps: so many unusable entries, then the entry; so many at the end -/
def gap : Nat → List CpInfo → List CpInfo
  | 0, r => r
  | n + 1, r => .unusable :: gap n r
def poolList (es : List (Nat × CpInfo)) (last : Nat) : List CpInfo := es.foldr (fun e r => gap e.1 (e.2 :: r)) (gap last [])
def pool (es : List (Nat × CpInfo)) (last : Nat) : Array CpInfo := ⟨poolList es last⟩
def fileOf (pool : Array CpInfo) (this : Nat) (attrs : Array Attribute := #[]) (ms : Array MethodInfo := #[]) (fl : Nat := 33) (sup : Nat := 0) (ifs : Array Nat := #[]) (fds : Array FieldInfo := #[]) : ClassFile where
  minorVersion := 0
  majorVersion := 65
  constantPool := pool
  accessFlags := fl
  thisClass := this
  superClass := sup
  interfaces := ifs
  fields := fds
  methods := ms
  attributes := attrs
def plain (name : String) (sup : Option ClassId) : Class where
  name := name
  kind := .ordinary
  loader := none
  accessFlags := 33
  super := sup
  interfaces := #[]
  cf := none
  fields := #[]
  methods := #[]
  instanceTypes := #[]
  staticTypes := #[]
  resolved := #[]
  callSites := []
  init := .initialized
  statics := none
  mirror := none

def pool0 : Array CpInfo := pool [(5, u "<init>"), (0, u "()V"), (1, .class_ 10), (1, u "java/lang/Object")] 113

def k0c0 : Code := { maxStack := 0, maxLocals := 1, code := object_method_1_code, exceptionTable := #[], attributes := #[] }
def k0m0 : Method := { name := "<init>", desc := "()V", sig := { parameters := [], returnType := none }, accessFlags := 1, code := some k0c0 }
/-- java/lang/Object -/
def k0 : Class := { plain "java/lang/Object" none with
  accessFlags := 33
  interfaces := #[]
  cf := some (fileOf pool0 8 #[] #[{ accessFlags := 1, nameIndex := 5, descriptorIndex := 6, attributes := #[] }] 33 0 #[] #[])
  fields := #[]
  methods := #[k0m0]
  instanceTypes := #[]
  staticTypes := #[]
  resolved := Array.replicate 124 none
  statics := none }

def pool1 : Array CpInfo := pool [(2, .class_ 4), (1, u "java/lang/Object"), (0, u "<init>"), (0, u "()V"), (0, .integer 2147483647), (0, .class_ 9), (0, u "java/lang/String"), (0, .methodref 8 11), (0, .nameAndType 5 12), (0, u "([C)V"), (0, .methodref 14 15), (0, .class_ 16), (0, .nameAndType 17 18), (0, u "com/example/warrant_to_dial/warranttodial/server/OutcomeDonePinLaw"), (0, u "draw"), (0, u "(IIII)Ljava/lang/String;"), (0, .methodref 20 21), (0, .class_ 22), (0, .nameAndType 23 24), (0, u "com/example/warrant_to_dial/warranttodial/server/OperatorCommand$Outcome"), (0, u "done"), (0, u "(Ljava/lang/String;)Lcom/example/warrant_to_dial/warranttodial/server/OperatorCommand$Outcome;"), (0, .methodref 20 26), (0, .nameAndType 27 28), (0, u "status"), (0, u "()I"), (0, .methodref 20 30), (0, .nameAndType 31 32), (0, u "out"), (0, u "()Ljava/lang/String;"), (0, .methodref 8 34), (0, .nameAndType 35 28), (0, u "length"), (0, .methodref 8 37), (0, .nameAndType 38 39), (0, u "equals"), (0, u "(Ljava/lang/Object;)Z"), (0, .methodref 20 41), (0, .nameAndType 42 43), (0, u "holdsSecret"), (0, u "()Z"), (0, .methodref 20 45), (0, .nameAndType 46 32), (0, u "err"), (0, .methodref 8 48), (0, .nameAndType 49 43), (0, u "isEmpty"), (3, u "law"), (0, u "(IIII)Z")] 6

def k1m0 : Method := { name := "<init>", desc := "()V", sig := { parameters := [], returnType := none }, accessFlags := 2, code := none }
def k1c1 : Code := { maxStack := 3, maxLocals := 9, code := method_2_code, exceptionTable := #[], attributes := #[] }
def k1m1 : Method := { name := "draw", desc := "(IIII)Ljava/lang/String;", sig := { parameters := [.int, .int, .int, .int], returnType := some (.object "java/lang/String") }, accessFlags := 10, code := some k1c1 }
def k1c2 : Code := { maxStack := 4, maxLocals := 8, code := code, exceptionTable := #[], attributes := #[] }
def k1m2 : Method := { name := "law", desc := "(IIII)Z", sig := { parameters := [.int, .int, .int, .int], returnType := some .boolean }, accessFlags := 9, code := some k1c2 }
/-- com/example/warrant_to_dial/warranttodial/server/OutcomeDonePinLaw -/
def k1 : Class := { plain "com/example/warrant_to_dial/warranttodial/server/OutcomeDonePinLaw" (some 0) with
  accessFlags := 49
  interfaces := #[]
  cf := some (fileOf pool1 14 #[] #[{ accessFlags := 2, nameIndex := 5, descriptorIndex := 6, attributes := #[] }, { accessFlags := 10, nameIndex := 17, descriptorIndex := 18, attributes := #[] }, { accessFlags := 9, nameIndex := 53, descriptorIndex := 54, attributes := #[] }] 49 2 #[] #[])
  fields := #[]
  methods := #[k1m0, k1m1, k1m2]
  instanceTypes := #[]
  staticTypes := #[]
  resolved := Array.replicate 61 none
  statics := none }

def pool2 : Array CpInfo := pool [(1, .class_ 2), (0, u "java/io/Serializable"), (0, .class_ 4), (0, u "java/lang/Object")] 2

/-- java/io/Serializable -/
def k2 : Class := { plain "java/io/Serializable" (some 0) with
  accessFlags := 1537
  interfaces := #[]
  cf := some (fileOf pool2 1 #[] #[] 1537 3 #[] #[])
  fields := #[]
  methods := #[]
  instanceTypes := #[]
  staticTypes := #[]
  resolved := Array.replicate 7 none
  statics := none }

def pool3 : Array CpInfo := pool [(1, .class_ 2), (0, u "java/lang/Comparable"), (0, .class_ 4), (0, u "java/lang/Object")] 7

/-- java/lang/Comparable -/
def k3 : Class := { plain "java/lang/Comparable" (some 0) with
  accessFlags := 1537
  interfaces := #[]
  cf := some (fileOf pool3 1 #[] #[] 1537 3 #[] #[])
  fields := #[]
  methods := #[]
  instanceTypes := #[]
  staticTypes := #[]
  resolved := Array.replicate 12 none
  statics := none }

def pool4 : Array CpInfo := pool [(2, .class_ 4), (1, u "java/lang/CharSequence"), (42, .class_ 48), (0, u "java/lang/CharSequence$1CodePointIterator"), (10, .class_ 60), (0, u "java/lang/CharSequence$1CharIterator"), (5, .class_ 67), (0, u "java/lang/Object")] 63

/-- java/lang/CharSequence -/
def k4 : Class := { plain "java/lang/CharSequence" (some 0) with
  accessFlags := 1537
  interfaces := #[]
  cf := some (fileOf pool4 2 #[.nestMembers #[47, 59]] #[] 1537 66 #[] #[])
  fields := #[]
  methods := #[]
  instanceTypes := #[]
  staticTypes := #[]
  resolved := Array.replicate 131 none
  statics := none }

def pool5 : Array CpInfo := pool [(1, .class_ 2), (0, u "java/lang/constant/Constable"), (0, .class_ 4), (0, u "java/lang/Object")] 6

/-- java/lang/constant/Constable -/
def k5 : Class := { plain "java/lang/constant/Constable" (some 0) with
  accessFlags := 1537
  interfaces := #[]
  cf := some (fileOf pool5 1 #[] #[] 1537 3 #[] #[])
  fields := #[]
  methods := #[]
  instanceTypes := #[]
  staticTypes := #[]
  resolved := Array.replicate 11 none
  statics := none }

def pool6 : Array CpInfo := pool [(1, .class_ 2), (0, u "java/lang/constant/ConstantDesc"), (0, .class_ 4), (0, u "java/lang/Object")] 32

/-- java/lang/constant/ConstantDesc -/
def k6 : Class := { plain "java/lang/constant/ConstantDesc" (some 0) with
  accessFlags := 1537
  interfaces := #[]
  cf := some (fileOf pool6 1 #[] #[] 1537 3 #[] #[])
  fields := #[]
  methods := #[]
  instanceTypes := #[]
  staticTypes := #[]
  resolved := Array.replicate 37 none
  statics := none }

def pool7 : Array CpInfo := pool [(1, .methodref 2 3), (0, .class_ 4), (0, .nameAndType 5 6), (0, u "java/lang/Object"), (0, u "<init>"), (0, u "()V"), (0, .string 8), (0, u ""), (0, .fieldref 10 11), (0, .class_ 12), (0, .nameAndType 13 14), (0, u "java/lang/String"), (0, u "value"), (0, u "[B"), (0, .fieldref 10 16), (0, .nameAndType 17 18), (0, u "coder"), (0, u "B"), (2, u "hash"), (0, u "I"), (2, u "hashIsZero"), (0, u "Z"), (0, .methodref 10 28), (0, .nameAndType 5 29), (0, u "([CIILjava/lang/Void;)V"), (8, .fieldref 10 39), (0, .nameAndType 40 26), (0, u "COMPACT_STRINGS"), (1, .class_ 44), (1, u "java/lang/StringUTF16"), (0, u "compress"), (1, .methodref 42 48), (0, .nameAndType 49 50), (0, u "coderFromArrayLen"), (0, u "([BI)B"), (91, u "()Z"), (34, .methodref 42 178), (0, .nameAndType 45 179), (0, u "([CII)[B"), (154, u "()I"), (0, .methodref 10 336), (0, .nameAndType 17 337), (0, u "()B"), (169, u "length"), (35, u "equals"), (29, u "(Ljava/lang/Object;)Z"), (1, .class_ 576), (0, u "java/lang/CharSequence"), (22, u "CASE_INSENSITIVE_ORDER"), (0, u "Ljava/util/Comparator;"), (91, u "isEmpty"), (317, u "([C)V"), (90, u "serialPersistentFields"), (0, u "[Ljava/io/ObjectStreamField;"), (0, .class_ 1104), (0, u "java/lang/String$CaseInsensitiveComparator"), (1, .class_ 1107), (0, u "java/io/Serializable"), (0, .class_ 1109), (0, u "java/lang/Comparable"), (0, .class_ 1111), (0, u "java/lang/constant/Constable"), (0, .class_ 1113), (0, u "java/lang/constant/ConstantDesc"), (2, u "serialVersionUID"), (0, u "J"), (3, u "REPL"), (0, u "C"), (2, u "LATIN1"), (1, u "UTF16")] 323

def k7m0 : Method := { name := "<init>", desc := "()V", sig := { parameters := [], returnType := none }, accessFlags := 1, code := none }
def k7c1 : Code := { maxStack := 5, maxLocals := 2, code := jdk_42_method_3_code, exceptionTable := #[], attributes := #[] }
def k7m1 : Method := { name := "<init>", desc := "([C)V", sig := { parameters := [(.array .char)], returnType := none }, accessFlags := 1, code := some k7c1 }
def k7c2 : Code := { maxStack := 2, maxLocals := 1, code := jdk_42_method_54_code, exceptionTable := #[], attributes := #[] }
def k7m2 : Method := { name := "length", desc := "()I", sig := { parameters := [], returnType := some .int }, accessFlags := 1, code := some k7c2 }
def k7c3 : Code := { maxStack := 1, maxLocals := 1, code := jdk_42_method_55_code, exceptionTable := #[], attributes := #[] }
def k7m3 : Method := { name := "isEmpty", desc := "()Z", sig := { parameters := [], returnType := some .boolean }, accessFlags := 1, code := some k7c3 }
def k7c4 : Code := { maxStack := 2, maxLocals := 3, code := jdk_42_method_66_code, exceptionTable := #[], attributes := #[] }
def k7m4 : Method := { name := "equals", desc := "(Ljava/lang/Object;)Z", sig := { parameters := [(.object "java/lang/Object")], returnType := some .boolean }, accessFlags := 1, code := some k7c4 }
def k7c5 : Code := { maxStack := 4, maxLocals := 6, code := jdk_42_method_149_code, exceptionTable := #[], attributes := #[] }
def k7m5 : Method := { name := "<init>", desc := "([CIILjava/lang/Void;)V", sig := { parameters := [(.array .char), .int, .int, (.object "java/lang/Void")], returnType := none }, accessFlags := 2, code := some k7c5 }
def k7c6 : Code := { maxStack := 1, maxLocals := 1, code := jdk_42_method_152_code, exceptionTable := #[], attributes := #[] }
def k7m6 : Method := { name := "coder", desc := "()B", sig := { parameters := [], returnType := some .byte }, accessFlags := 0, code := some k7c6 }
/-- java/lang/String -/
def k7 : Class := { plain "java/lang/String" (some 0) with
  accessFlags := 49
  interfaces := #[2, 3, 4, 5, 6]
  cf := some (fileOf pool7 10 #[.nestMembers #[1103]] #[{ accessFlags := 1, nameIndex := 5, descriptorIndex := 6, attributes := #[] }, { accessFlags := 1, nameIndex := 5, descriptorIndex := 1010, attributes := #[] }, { accessFlags := 1, nameIndex := 507, descriptorIndex := 334, attributes := #[] }, { accessFlags := 1, nameIndex := 692, descriptorIndex := 142, attributes := #[] }, { accessFlags := 1, nameIndex := 543, descriptorIndex := 573, attributes := #[] }, { accessFlags := 2, nameIndex := 5, descriptorIndex := 29, attributes := #[] }, { accessFlags := 0, nameIndex := 17, descriptorIndex := 337, attributes := #[] }] 49 2 #[1106, 1108, 575, 1110, 1112] #[{ accessFlags := 18, nameIndex := 13, descriptorIndex := 14, attributes := #[] }, { accessFlags := 18, nameIndex := 17, descriptorIndex := 18, attributes := #[] }, { accessFlags := 2, nameIndex := 21, descriptorIndex := 22, attributes := #[] }, { accessFlags := 2, nameIndex := 25, descriptorIndex := 26, attributes := #[] }, { accessFlags := 26, nameIndex := 1116, descriptorIndex := 1117, attributes := #[] }, { accessFlags := 24, nameIndex := 40, descriptorIndex := 26, attributes := #[] }, { accessFlags := 26, nameIndex := 1101, descriptorIndex := 1102, attributes := #[] }, { accessFlags := 26, nameIndex := 1121, descriptorIndex := 1122, attributes := #[] }, { accessFlags := 25, nameIndex := 599, descriptorIndex := 600, attributes := #[] }, { accessFlags := 24, nameIndex := 1125, descriptorIndex := 18, attributes := #[] }, { accessFlags := 24, nameIndex := 1127, descriptorIndex := 18, attributes := #[] }])
  fields := #[{ name := "value", type := (.array .byte), accessFlags := 18, slot := 0, constantValue := 0 }, { name := "coder", type := .byte, accessFlags := 18, slot := 1, constantValue := 0 }, { name := "hash", type := .int, accessFlags := 2, slot := 2, constantValue := 0 }, { name := "hashIsZero", type := .boolean, accessFlags := 2, slot := 3, constantValue := 0 }, { name := "serialVersionUID", type := .long, accessFlags := 26, slot := 0, constantValue := 0 }, { name := "COMPACT_STRINGS", type := .boolean, accessFlags := 24, slot := 1, constantValue := 0 }, { name := "serialPersistentFields", type := (.array (.object "java/io/ObjectStreamField")), accessFlags := 26, slot := 2, constantValue := 0 }, { name := "REPL", type := .char, accessFlags := 26, slot := 3, constantValue := 0 }, { name := "CASE_INSENSITIVE_ORDER", type := (.object "java/util/Comparator"), accessFlags := 25, slot := 4, constantValue := 0 }, { name := "LATIN1", type := .byte, accessFlags := 24, slot := 5, constantValue := 0 }, { name := "UTF16", type := .byte, accessFlags := 24, slot := 6, constantValue := 0 }]
  methods := #[k7m0, k7m1, k7m2, k7m3, k7m4, k7m5, k7m6]
  instanceTypes := #[(.array .byte), .byte, .int, .boolean]
  staticTypes := #[.long, .boolean, (.array (.object "java/io/ObjectStreamField")), .char, (.object "java/util/Comparator"), .byte, .byte]
  resolved := Array.replicate 1451 none
  statics := some 0 }

def pool8 : Array CpInfo := pool [(1, .methodref 2 3), (0, .class_ 4), (0, .nameAndType 5 6), (0, u "java/lang/Object"), (0, u "<init>"), (0, u "()V"), (0, .class_ 8), (0, u "java/lang/Record")] 13

def k8c0 : Code := { maxStack := 1, maxLocals := 1, code := jdk_30_method_1_code, exceptionTable := #[], attributes := #[] }
def k8m0 : Method := { name := "<init>", desc := "()V", sig := { parameters := [], returnType := none }, accessFlags := 4, code := some k8c0 }
/-- java/lang/Record -/
def k8 : Class := { plain "java/lang/Record" (some 0) with
  accessFlags := 1057
  interfaces := #[]
  cf := some (fileOf pool8 7 #[] #[{ accessFlags := 4, nameIndex := 5, descriptorIndex := 6, attributes := #[] }] 1057 2 #[] #[])
  fields := #[]
  methods := #[k8m0]
  instanceTypes := #[]
  staticTypes := #[]
  resolved := Array.replicate 22 none
  statics := none }

def pool9 : Array CpInfo := pool [(1, .methodref 2 3), (0, .class_ 4), (0, .nameAndType 5 6), (0, u "java/lang/Record"), (0, u "<init>"), (0, u "()V"), (0, .fieldref 8 9), (0, .class_ 10), (0, .nameAndType 11 12), (0, u "com/example/warrant_to_dial/warranttodial/server/OperatorCommand$Outcome"), (0, u "status"), (0, u "I"), (0, .fieldref 8 14), (0, .nameAndType 15 16), (0, u "out"), (0, u "Ljava/lang/String;"), (0, .fieldref 8 18), (0, .nameAndType 19 20), (0, u "holdsSecret"), (0, u "Z"), (0, .fieldref 8 22), (0, .nameAndType 23 16), (0, u "err"), (0, .fieldref 8 25), (0, .nameAndType 26 27), (0, u "undo"), (0, u "Ljava/util/Optional;"), (2, .string 31), (0, u ""), (0, .methodref 33 34), (0, .class_ 35), (0, .nameAndType 36 37), (0, u "java/util/Optional"), (0, u "empty"), (0, u "()Ljava/util/Optional;"), (0, .methodref 8 39), (0, .nameAndType 5 40), (0, u "(ILjava/lang/String;ZLjava/lang/String;Ljava/util/Optional;)V"), (26, u "done"), (0, u "(Ljava/lang/String;)Lcom/example/warrant_to_dial/warranttodial/server/OperatorCommand$Outcome;"), (5, u "()Ljava/lang/String;"), (0, u "()I"), (1, u "()Z"), (4, .class_ 83), (0, u "com/example/warrant_to_dial/warranttodial/server/OperatorCommand")] 31

def k9c0 : Code := { maxStack := 2, maxLocals := 6, code := prog_63_method_1_code, exceptionTable := #[], attributes := #[] }
def k9m0 : Method := { name := "<init>", desc := "(ILjava/lang/String;ZLjava/lang/String;Ljava/util/Optional;)V", sig := { parameters := [.int, (.object "java/lang/String"), .boolean, (.object "java/lang/String"), (.object "java/util/Optional")], returnType := none }, accessFlags := 0, code := some k9c0 }
def k9c1 : Code := { maxStack := 7, maxLocals := 1, code := prog_63_method_2_code, exceptionTable := #[], attributes := #[] }
def k9m1 : Method := { name := "done", desc := "(Ljava/lang/String;)Lcom/example/warrant_to_dial/warranttodial/server/OperatorCommand$Outcome;", sig := { parameters := [(.object "java/lang/String")], returnType := some (.object "com/example/warrant_to_dial/warranttodial/server/OperatorCommand$Outcome") }, accessFlags := 8, code := some k9c1 }
def k9c2 : Code := { maxStack := 1, maxLocals := 1, code := prog_63_method_9_code, exceptionTable := #[], attributes := #[] }
def k9m2 : Method := { name := "status", desc := "()I", sig := { parameters := [], returnType := some .int }, accessFlags := 1, code := some k9c2 }
def k9c3 : Code := { maxStack := 1, maxLocals := 1, code := prog_63_method_10_code, exceptionTable := #[], attributes := #[] }
def k9m3 : Method := { name := "out", desc := "()Ljava/lang/String;", sig := { parameters := [], returnType := some (.object "java/lang/String") }, accessFlags := 1, code := some k9c3 }
def k9c4 : Code := { maxStack := 1, maxLocals := 1, code := prog_63_method_11_code, exceptionTable := #[], attributes := #[] }
def k9m4 : Method := { name := "holdsSecret", desc := "()Z", sig := { parameters := [], returnType := some .boolean }, accessFlags := 1, code := some k9c4 }
def k9c5 : Code := { maxStack := 1, maxLocals := 1, code := prog_63_method_12_code, exceptionTable := #[], attributes := #[] }
def k9m5 : Method := { name := "err", desc := "()Ljava/lang/String;", sig := { parameters := [], returnType := some (.object "java/lang/String") }, accessFlags := 1, code := some k9c5 }
/-- com/example/warrant_to_dial/warranttodial/server/OperatorCommand$Outcome -/
def k9 : Class := { plain "com/example/warrant_to_dial/warranttodial/server/OperatorCommand$Outcome" (some 8) with
  accessFlags := 48
  interfaces := #[]
  cf := some (fileOf pool9 8 #[.nestHost 82] #[{ accessFlags := 0, nameIndex := 5, descriptorIndex := 40, attributes := #[] }, { accessFlags := 8, nameIndex := 67, descriptorIndex := 68, attributes := #[] }, { accessFlags := 1, nameIndex := 11, descriptorIndex := 75, attributes := #[] }, { accessFlags := 1, nameIndex := 15, descriptorIndex := 74, attributes := #[] }, { accessFlags := 1, nameIndex := 19, descriptorIndex := 77, attributes := #[] }, { accessFlags := 1, nameIndex := 23, descriptorIndex := 74, attributes := #[] }] 48 2 #[] #[{ accessFlags := 18, nameIndex := 11, descriptorIndex := 12, attributes := #[] }, { accessFlags := 18, nameIndex := 15, descriptorIndex := 16, attributes := #[] }, { accessFlags := 18, nameIndex := 19, descriptorIndex := 20, attributes := #[] }, { accessFlags := 18, nameIndex := 23, descriptorIndex := 16, attributes := #[] }, { accessFlags := 18, nameIndex := 26, descriptorIndex := 27, attributes := #[] }])
  fields := #[{ name := "status", type := .int, accessFlags := 18, slot := 0, constantValue := 0 }, { name := "out", type := (.object "java/lang/String"), accessFlags := 18, slot := 1, constantValue := 0 }, { name := "holdsSecret", type := .boolean, accessFlags := 18, slot := 2, constantValue := 0 }, { name := "err", type := (.object "java/lang/String"), accessFlags := 18, slot := 3, constantValue := 0 }, { name := "undo", type := (.object "java/util/Optional"), accessFlags := 18, slot := 4, constantValue := 0 }]
  methods := #[k9m0, k9m1, k9m2, k9m3, k9m4, k9m5]
  instanceTypes := #[.int, (.object "java/lang/String"), .boolean, (.object "java/lang/String"), (.object "java/util/Optional")]
  staticTypes := #[]
  resolved := Array.replicate 115 none
  statics := none }

def pool10 : Array CpInfo := pool [(1, .fieldref 2 3), (0, .class_ 4), (0, .nameAndType 5 6), (0, u "java/util/Optional"), (0, u "EMPTY"), (0, u "Ljava/util/Optional;"), (1, .class_ 10), (1, u "java/lang/Object"), (4, u "value"), (0, u "Ljava/lang/Object;"), (38, u "empty"), (0, u "()Ljava/util/Optional;")] 130

def k10c0 : Code := { maxStack := 1, maxLocals := 1, code := jdk_32_method_1_code, exceptionTable := #[], attributes := #[] }
def k10m0 : Method := { name := "empty", desc := "()Ljava/util/Optional;", sig := { parameters := [], returnType := some (.object "java/util/Optional") }, accessFlags := 9, code := some k10c0 }
/-- java/util/Optional -/
def k10 : Class := { plain "java/util/Optional" (some 0) with
  accessFlags := 49
  interfaces := #[]
  cf := some (fileOf pool10 2 #[] #[{ accessFlags := 9, nameIndex := 55, descriptorIndex := 56, attributes := #[] }] 49 8 #[] #[{ accessFlags := 26, nameIndex := 5, descriptorIndex := 6, attributes := #[] }, { accessFlags := 18, nameIndex := 15, descriptorIndex := 16, attributes := #[] }])
  fields := #[{ name := "EMPTY", type := (.object "java/util/Optional"), accessFlags := 26, slot := 0, constantValue := 0 }, { name := "value", type := (.object "java/lang/Object"), accessFlags := 18, slot := 0, constantValue := 0 }]
  methods := #[k10m0]
  instanceTypes := #[(.object "java/lang/Object")]
  staticTypes := #[(.object "java/util/Optional")]
  resolved := Array.replicate 187 none
  statics := some 1 }

def pool11 : Array CpInfo := pool [(6, .class_ 8), (1, u "java/lang/Object"), (0, u "<init>"), (0, u "()V"), (1, .class_ 14), (1, u "java/lang/StringUTF16"), (31, u "$assertionsDisabled"), (0, u "Z"), (13, u "HI_BYTE_SHIFT"), (0, u "I"), (2, u "LO_BYTE_SHIFT"), (49, .methodref 12 116), (0, .nameAndType 117 118), (0, u "compress"), (0, u "([CI[BII)I"), (3, u "([CII)[B"), (138, u "coderFromArrayLen"), (0, u "([BI)B"), (106, .class_ 371), (1, u "java/lang/StringUTF16$LinesSpliterator"), (58, u "MAX_LENGTH"), (196, .class_ 628), (0, u "java/lang/StringUTF16$CodePointsSpliterator"), (0, .class_ 630), (0, u "java/lang/StringUTF16$CharsSpliterator")] 4

def k11m0 : Method := { name := "<init>", desc := "()V", sig := { parameters := [], returnType := none }, accessFlags := 0, code := none }
def k11c1 : Code := { maxStack := 2, maxLocals := 2, code := jdk_52_method_15_code, exceptionTable := #[], attributes := #[] }
def k11m1 : Method := { name := "coderFromArrayLen", desc := "([BI)B", sig := { parameters := [(.array .byte), .int], returnType := some .byte }, accessFlags := 8, code := some k11c1 }
def k11c2 : Code := { maxStack := 5, maxLocals := 6, code := jdk_52_method_16_code, exceptionTable := #[], attributes := #[] }
def k11m2 : Method := { name := "compress", desc := "([CII)[B", sig := { parameters := [(.array .char), .int, .int], returnType := some (.array .byte) }, accessFlags := 9, code := some k11c2 }
def k11c3 : Code := { maxStack := 3, maxLocals := 7, code := jdk_52_method_21_code, exceptionTable := #[], attributes := #[] }
def k11m3 : Method := { name := "compress", desc := "([CI[BII)I", sig := { parameters := [(.array .char), .int, (.array .byte), .int, .int], returnType := some .int }, accessFlags := 9, code := some k11c3 }
/-- java/lang/StringUTF16 -/
def k11 : Class := { plain "java/lang/StringUTF16" (some 0) with
  accessFlags := 48
  interfaces := #[]
  cf := some (fileOf pool11 12 #[.nestMembers #[627, 629, 369]] #[{ accessFlags := 0, nameIndex := 9, descriptorIndex := 10, attributes := #[] }, { accessFlags := 8, nameIndex := 261, descriptorIndex := 262, attributes := #[] }, { accessFlags := 9, nameIndex := 117, descriptorIndex := 122, attributes := #[] }, { accessFlags := 9, nameIndex := 117, descriptorIndex := 118, attributes := #[] }] 48 6 #[] #[{ accessFlags := 26, nameIndex := 61, descriptorIndex := 62, attributes := #[] }, { accessFlags := 26, nameIndex := 65, descriptorIndex := 62, attributes := #[] }, { accessFlags := 24, nameIndex := 430, descriptorIndex := 62, attributes := #[] }, { accessFlags := 4120, nameIndex := 46, descriptorIndex := 47, attributes := #[] }])
  fields := #[{ name := "HI_BYTE_SHIFT", type := .int, accessFlags := 26, slot := 0, constantValue := 0 }, { name := "LO_BYTE_SHIFT", type := .int, accessFlags := 26, slot := 1, constantValue := 0 }, { name := "MAX_LENGTH", type := .int, accessFlags := 24, slot := 2, constantValue := 0 }, { name := "$assertionsDisabled", type := .boolean, accessFlags := 4120, slot := 3, constantValue := 0 }]
  methods := #[k11m0, k11m1, k11m2, k11m3]
  instanceTypes := #[]
  staticTypes := #[.int, .int, .int, .boolean]
  resolved := Array.replicate 635 none
  statics := none }

def pool12 : Array CpInfo := pool [(4, .class_ 6), (1, u "java/lang/Object"), (0, u "<init>"), (0, u "()V"), (5, .class_ 16), (1, u "java/lang/StringLatin1"), (104, u "$assertionsDisabled"), (0, u "Z"), (98, .class_ 223), (1, u "java/lang/StringLatin1$LinesSpliterator"), (166, .class_ 391), (0, u "java/lang/StringLatin1$CharsSpliterator")] 3

def k12m0 : Method := { name := "<init>", desc := "()V", sig := { parameters := [], returnType := none }, accessFlags := 0, code := none }
/-- java/lang/StringLatin1 -/
def k12 : Class := { plain "java/lang/StringLatin1" (some 0) with
  accessFlags := 48
  interfaces := #[]
  cf := some (fileOf pool12 14 #[.nestMembers #[390, 221]] #[{ accessFlags := 0, nameIndex := 7, descriptorIndex := 8, attributes := #[] }] 48 4 #[] #[{ accessFlags := 4120, nameIndex := 121, descriptorIndex := 122, attributes := #[] }])
  fields := #[{ name := "$assertionsDisabled", type := .boolean, accessFlags := 4120, slot := 0, constantValue := 0 }]
  methods := #[k12m0]
  instanceTypes := #[]
  staticTypes := #[.boolean]
  resolved := Array.replicate 395 none
  statics := none }

def pool13 : Array CpInfo := pool [(2, .class_ 4), (1, u "java/lang/Object"), (0, u "<init>"), (0, u "()V"), (17, .class_ 26), (1, u "jdk/internal/util/Preconditions"), (28, .class_ 56), (0, u "jdk/internal/util/Preconditions$4"), (57, .class_ 115), (0, u "jdk/internal/util/Preconditions$1"), (7, u "SIOOBE_FORMATTER"), (0, u "Ljava/util/function/BiFunction;"), (0, .class_ 126), (0, u "jdk/internal/util/Preconditions$2"), (3, u "AIOOBE_FORMATTER"), (0, .class_ 132), (0, u "jdk/internal/util/Preconditions$3"), (3, u "IOOBE_FORMATTER")] 57

def k13m0 : Method := { name := "<init>", desc := "()V", sig := { parameters := [], returnType := none }, accessFlags := 1, code := none }
/-- jdk/internal/util/Preconditions -/
def k13 : Class := { plain "jdk/internal/util/Preconditions" (some 0) with
  accessFlags := 33
  interfaces := #[]
  cf := some (fileOf pool13 24 #[.nestMembers #[55, 131, 125, 114]] #[{ accessFlags := 1, nameIndex := 5, descriptorIndex := 6, attributes := #[] }] 33 2 #[] #[{ accessFlags := 25, nameIndex := 123, descriptorIndex := 124, attributes := #[] }, { accessFlags := 25, nameIndex := 130, descriptorIndex := 124, attributes := #[] }, { accessFlags := 25, nameIndex := 136, descriptorIndex := 124, attributes := #[] }])
  fields := #[{ name := "SIOOBE_FORMATTER", type := (.object "java/util/function/BiFunction"), accessFlags := 25, slot := 0, constantValue := 0 }, { name := "AIOOBE_FORMATTER", type := (.object "java/util/function/BiFunction"), accessFlags := 25, slot := 1, constantValue := 0 }, { name := "IOOBE_FORMATTER", type := (.object "java/util/function/BiFunction"), accessFlags := 25, slot := 2, constantValue := 0 }]
  methods := #[k13m0]
  instanceTypes := #[]
  staticTypes := #[(.object "java/util/function/BiFunction"), (.object "java/util/function/BiFunction"), (.object "java/util/function/BiFunction")]
  resolved := Array.replicate 194 none
  statics := some 2 }

def pool14 : Array CpInfo := pool [(9, u "<init>"), (6, .class_ 18), (1, u "java/lang/Object"), (0, u "()V"), (1, .class_ 23), (1, u "jdk/internal/util/ArraysSupport"), (0, u "LOG2_ARRAY_LONG_INDEX_SCALE"), (0, u "I"), (2, u "U"), (0, u "Ljdk/internal/misc/Unsafe;"), (8, u "BIG_ENDIAN"), (0, u "Z"), (8, u "LOG2_BYTE_BIT_SIZE"), (4, u "LOG2_ARRAY_INT_INDEX_SCALE"), (54, u "JLA"), (0, u "Ljdk/internal/access/JavaLangAccess;"), (11, u "LOG2_ARRAY_BOOLEAN_INDEX_SCALE"), (9, u "LOG2_ARRAY_BYTE_INDEX_SCALE"), (5, u "LOG2_ARRAY_CHAR_INDEX_SCALE"), (5, u "LOG2_ARRAY_SHORT_INDEX_SCALE"), (18, u "LOG2_ARRAY_FLOAT_INDEX_SCALE"), (24, u "LOG2_ARRAY_DOUBLE_INDEX_SCALE"), (89, u "T_BOOLEAN"), (2, u "T_CHAR"), (1, u "T_FLOAT"), (1, u "T_DOUBLE"), (1, u "T_BYTE"), (1, u "T_SHORT"), (1, u "T_INT"), (1, u "T_LONG"), (1, u "SOFT_MAX_ARRAY_LENGTH")] 83

def k14m0 : Method := { name := "<init>", desc := "()V", sig := { parameters := [], returnType := none }, accessFlags := 2, code := none }
/-- jdk/internal/util/ArraysSupport -/
def k14 : Class := { plain "jdk/internal/util/ArraysSupport" (some 0) with
  accessFlags := 33
  interfaces := #[]
  cf := some (fileOf pool14 21 #[] #[{ accessFlags := 2, nameIndex := 9, descriptorIndex := 19, attributes := #[] }] 33 16 #[] #[{ accessFlags := 24, nameIndex := 28, descriptorIndex := 29, attributes := #[] }, { accessFlags := 26, nameIndex := 38, descriptorIndex := 39, attributes := #[] }, { accessFlags := 25, nameIndex := 121, descriptorIndex := 25, attributes := #[] }, { accessFlags := 25, nameIndex := 131, descriptorIndex := 25, attributes := #[] }, { accessFlags := 25, nameIndex := 137, descriptorIndex := 25, attributes := #[] }, { accessFlags := 25, nameIndex := 143, descriptorIndex := 25, attributes := #[] }, { accessFlags := 25, nameIndex := 53, descriptorIndex := 25, attributes := #[] }, { accessFlags := 25, nameIndex := 24, descriptorIndex := 25, attributes := #[] }, { accessFlags := 25, nameIndex := 162, descriptorIndex := 25, attributes := #[] }, { accessFlags := 25, nameIndex := 187, descriptorIndex := 25, attributes := #[] }, { accessFlags := 26, nameIndex := 48, descriptorIndex := 25, attributes := #[] }, { accessFlags := 25, nameIndex := 277, descriptorIndex := 25, attributes := #[] }, { accessFlags := 25, nameIndex := 280, descriptorIndex := 25, attributes := #[] }, { accessFlags := 25, nameIndex := 282, descriptorIndex := 25, attributes := #[] }, { accessFlags := 25, nameIndex := 284, descriptorIndex := 25, attributes := #[] }, { accessFlags := 25, nameIndex := 286, descriptorIndex := 25, attributes := #[] }, { accessFlags := 25, nameIndex := 288, descriptorIndex := 25, attributes := #[] }, { accessFlags := 25, nameIndex := 290, descriptorIndex := 25, attributes := #[] }, { accessFlags := 25, nameIndex := 292, descriptorIndex := 25, attributes := #[] }, { accessFlags := 26, nameIndex := 108, descriptorIndex := 109, attributes := #[] }, { accessFlags := 25, nameIndex := 294, descriptorIndex := 25, attributes := #[] }])
  fields := #[{ name := "U", type := (.object "jdk/internal/misc/Unsafe"), accessFlags := 24, slot := 0, constantValue := 0 }, { name := "BIG_ENDIAN", type := .boolean, accessFlags := 26, slot := 1, constantValue := 0 }, { name := "LOG2_ARRAY_BOOLEAN_INDEX_SCALE", type := .int, accessFlags := 25, slot := 2, constantValue := 0 }, { name := "LOG2_ARRAY_BYTE_INDEX_SCALE", type := .int, accessFlags := 25, slot := 3, constantValue := 0 }, { name := "LOG2_ARRAY_CHAR_INDEX_SCALE", type := .int, accessFlags := 25, slot := 4, constantValue := 0 }, { name := "LOG2_ARRAY_SHORT_INDEX_SCALE", type := .int, accessFlags := 25, slot := 5, constantValue := 0 }, { name := "LOG2_ARRAY_INT_INDEX_SCALE", type := .int, accessFlags := 25, slot := 6, constantValue := 0 }, { name := "LOG2_ARRAY_LONG_INDEX_SCALE", type := .int, accessFlags := 25, slot := 7, constantValue := 0 }, { name := "LOG2_ARRAY_FLOAT_INDEX_SCALE", type := .int, accessFlags := 25, slot := 8, constantValue := 0 }, { name := "LOG2_ARRAY_DOUBLE_INDEX_SCALE", type := .int, accessFlags := 25, slot := 9, constantValue := 0 }, { name := "LOG2_BYTE_BIT_SIZE", type := .int, accessFlags := 26, slot := 10, constantValue := 0 }, { name := "T_BOOLEAN", type := .int, accessFlags := 25, slot := 11, constantValue := 0 }, { name := "T_CHAR", type := .int, accessFlags := 25, slot := 12, constantValue := 0 }, { name := "T_FLOAT", type := .int, accessFlags := 25, slot := 13, constantValue := 0 }, { name := "T_DOUBLE", type := .int, accessFlags := 25, slot := 14, constantValue := 0 }, { name := "T_BYTE", type := .int, accessFlags := 25, slot := 15, constantValue := 0 }, { name := "T_SHORT", type := .int, accessFlags := 25, slot := 16, constantValue := 0 }, { name := "T_INT", type := .int, accessFlags := 25, slot := 17, constantValue := 0 }, { name := "T_LONG", type := .int, accessFlags := 25, slot := 18, constantValue := 0 }, { name := "JLA", type := (.object "jdk/internal/access/JavaLangAccess"), accessFlags := 26, slot := 19, constantValue := 0 }, { name := "SOFT_MAX_ARRAY_LENGTH", type := .int, accessFlags := 25, slot := 20, constantValue := 0 }]
  methods := #[k14m0]
  instanceTypes := #[]
  staticTypes := #[(.object "jdk/internal/misc/Unsafe"), .boolean, .int, .int, .int, .int, .int, .int, .int, .int, .int, .int, .int, .int, .int, .int, .int, .int, .int, (.object "jdk/internal/access/JavaLangAccess"), .int]
  resolved := Array.replicate 378 none
  statics := none }

def pool15 : Array CpInfo := pool [(1, u "java/lang/Cloneable"), (0, .class_ 1), (0, u "java/lang/Object"), (0, .class_ 3)] 3

/-- java/lang/Cloneable -/
def k15 : Class := { plain "java/lang/Cloneable" (some 0) with
  accessFlags := 1537
  interfaces := #[]
  cf := some (fileOf pool15 2 #[] #[] 1537 4 #[] #[])
  fields := #[]
  methods := #[]
  instanceTypes := #[]
  staticTypes := #[]
  resolved := Array.replicate 8 none
  statics := none }

/-- the primitive byte -/
def k16 : Class := { plain "byte" none with kind := .primitive 'B', accessFlags := 0x411 }
/-- [B -/
def k17 : Class := { plain "[B" (some 0) with kind := .array 16 .byte, interfaces := #[15, 2], accessFlags := 1041 }

/-- the primitive char -/
def k18 : Class := { plain "char" none with kind := .primitive 'C', accessFlags := 0x411 }
/-- [C -/
def k19 : Class := { plain "[C" (some 0) with kind := .array 18 .char, interfaces := #[15, 2], accessFlags := 1041 }

/-- the primitive int -/
def k20 : Class := { plain "int" none with kind := .primitive 'I', accessFlags := 0x411 }
/-- [I -/
def k21 : Class := { plain "[I" (some 0) with kind := .array 20 .int, interfaces := #[15, 2], accessFlags := 1041 }

def heap : Heap := #[{ cls := 7, slots := #[.long 0, .int 1, .null, .int 0, .null, .int 0, .int 0], vm := .statics 7 },
  { cls := 10, slots := #[.ref 3], vm := .statics 10 },
  { cls := 13, slots := #[.null, .null, .null], vm := .statics 13 },
  { cls := 10, slots := #[.null], vm := .none }]
def classes : Array Class := #[k0, k1, k2, k3, k4, k5, k6, k7, k8, k9, k10, k11, k12, k13, k14, k15, k16, k17, k18, k19, k20, k21]
def interned : List (Array UInt16 × Addr) := []
def slotsUsed : Nat := 12
def theMethod : MethodId := ⟨1, 2⟩
def args0 : Array Value := #[.int 5, .int 5, .int 5, .int 5]
def aboutOver (below : List Frame) : State where
  vm := { classes := classes, interned := interned.toArray }
  heap := heap
  slotsUsed := slotsUsed
  threads := #[{ frames := .invoking theMethod args0 :: below }]
def below0 : List Frame := [.native { method := ⟨0, 0⟩, args := #[] }]
def about1 : State := aboutOver below0
def p0 : Program := .bare "" "" ""
def e0 : Env := launch0.env 0 0 0
theorem w_frames : about1.frames = Frame.invoking theMethod args0 :: below0 := rfl
set_option maxRecDepth 65536 in
theorem w_args : argsFit about1.vm theMethod args0 = true := by decide +kernel
set_option maxRecDepth 65536 in
theorem w_heap : heapFits about1 = true := by decide +kernel
set_option maxRecDepth 65536 in
theorem w_runnable : about1.curStatus? = some .runnable := by decide +kernel
set_option maxRecDepth 65536 in
theorem w_alone : about1.alone = true := by decide +kernel
set_option maxRecDepth 65536 in
theorem w_named : about1.methodNamed? x = some theMethod := by decide +kernel
set_option maxRecDepth 65536 in
theorem w_hears : about1.hears theMethod below0 = true := by decide +kernel
set_option maxRecDepth 65536 in
theorem w_ripe : about1.ripe theMethod args0 below0 = true := by decide +kernel
theorem w_running : about1.status = .running := rfl
set_option maxRecDepth 65536 in
theorem w_room : about1.hasRoom e0.platform room_1 = true :=
  launch0.hasRoom_least _ room_1 (by decide +kernel) (by decide +kernel) (by decide +kernel) (by decide +kernel) (by decide +kernel) (by decide +kernel)
theorem allAtoms_all (ts : List Jvm.Cond) (a : Array Jvm.Value) (st : Jvm.State) : (allAtoms ts).before a st = ts.all (fun c => c.before a st) := by
  induction ts with
  | nil => rfl
  | cons c t ih =>
    show (Jvm.Cond.and c (allAtoms t)).before a st = _
    rw [Jvm.Cond.before_and, ih, List.all_cons]
def words1 : List Jvm.Cond := Jvm.Cond.code x code maxLocals ret :: tables_1
/-- a 'code' word, met by the world's own term for the bytes: nothing is compared byte by byte -/
theorem code_word {y : MethodName} {bytes : ByteArray} {mx : Nat} {rt : Option FieldType} {a : Array Value} {s : State} {m : MethodId} {meth : Method} {c : Code} (h1 : s.methodNamed? y = some m) (h2 : s.vm.method? m = some meth) (h3 : meth.code = some c) (h4 : c.code = bytes)
    (h5 : (c.maxLocals == mx && c.exceptionTable.isEmpty && decide (c.maxStack ≤ mostOperands) && decide (meth.sig.returnType = rt) && !meth.locks && decide (parseMethodDescriptor y.desc = some meth.sig)) = true) : (Jvm.Cond.code y bytes mx rt).before a s = true := by
  simp only [Bool.and_eq_true, beq_iff_eq, Bool.not_eq_true', decide_eq_true_eq] at h5
  obtain ⟨⟨⟨⟨⟨g1, g2⟩, g3⟩, g4⟩, g5⟩, g6⟩ := h5
  simp [Cond.before, Cond.holds, Cond.value, h1, h2, h3, h4, g1, g2, g3, g4, g5, g6]
def isCode : Jvm.Cond → Bool
  | .code _ _ _ _ => true
  | _ => false
theorem all_split {L : List Jvm.Cond} {P : Jvm.Cond → Bool} (h1 : L.all (fun c => isCode c || P c) = true) (h2 : ∀ c ∈ L.filter isCode, P c = true) : L.all P = true := by
  refine List.all_eq_true.mpr fun c hc => ?_
  have h := List.all_eq_true.mp h1 c hc
  rcases Bool.eq_false_or_eq_true (isCode c) with hi | hi
  · exact h2 c (List.mem_filter.mpr ⟨hc, hi⟩)
  · simpa [hi] using h
set_option maxRecDepth 65536 in
theorem w_c0 : (Jvm.Cond.code x code maxLocals ret).before args0 about1 = true := code_word (m := ⟨1, 2⟩) (meth := k1m2) (c := k1c2) (by decide +kernel) rfl rfl rfl (by decide +kernel)
set_option maxRecDepth 65536 in
theorem w_c1 : (Jvm.Cond.code ({ cls := "com/example/warrant_to_dial/warranttodial/server/OutcomeDonePinLaw", name := "draw", desc := "(IIII)Ljava/lang/String;" } : Jvm.MethodName) method_2_code (9 : Nat) (Option.some (Jvm.ClassFile.FieldType.object "java/lang/String"))).before args0 about1 = true := code_word (m := ⟨1, 1⟩) (meth := k1m1) (c := k1c1) (by decide +kernel) rfl rfl rfl (by decide +kernel)
set_option maxRecDepth 65536 in
theorem w_c2 : (Jvm.Cond.code ({ cls := "java/lang/String", name := "<init>", desc := "([C)V" } : Jvm.MethodName) jdk_42_method_3_code (2 : Nat) (Option.none : Option Jvm.ClassFile.FieldType)).before args0 about1 = true := code_word (m := ⟨7, 1⟩) (meth := k7m1) (c := k7c1) (by decide +kernel) rfl rfl rfl (by decide +kernel)
set_option maxRecDepth 65536 in
theorem w_c3 : (Jvm.Cond.code ({ cls := "java/lang/String", name := "<init>", desc := "([CIILjava/lang/Void;)V" } : Jvm.MethodName) jdk_42_method_149_code (6 : Nat) (Option.none : Option Jvm.ClassFile.FieldType)).before args0 about1 = true := code_word (m := ⟨7, 5⟩) (meth := k7m5) (c := k7c5) (by decide +kernel) rfl rfl rfl (by decide +kernel)
set_option maxRecDepth 65536 in
theorem w_c4 : (Jvm.Cond.code ({ cls := "java/lang/Object", name := "<init>", desc := "()V" } : Jvm.MethodName) object_method_1_code (1 : Nat) (Option.none : Option Jvm.ClassFile.FieldType)).before args0 about1 = true := code_word (m := ⟨0, 0⟩) (meth := k0m0) (c := k0c0) (by decide +kernel) rfl rfl rfl (by decide +kernel)
set_option maxRecDepth 65536 in
theorem w_c5 : (Jvm.Cond.code ({ cls := "com/example/warrant_to_dial/warranttodial/server/OperatorCommand$Outcome", name := "done", desc := "(Ljava/lang/String;)Lcom/example/warrant_to_dial/warranttodial/server/OperatorCommand$Outcome;" } : Jvm.MethodName) prog_63_method_2_code (1 : Nat) (Option.some (Jvm.ClassFile.FieldType.object "com/example/warrant_to_dial/warranttodial/server/OperatorCommand$Outcome"))).before args0 about1 = true := code_word (m := ⟨9, 1⟩) (meth := k9m1) (c := k9c1) (by decide +kernel) rfl rfl rfl (by decide +kernel)
set_option maxRecDepth 65536 in
theorem w_c6 : (Jvm.Cond.code ({ cls := "java/util/Optional", name := "empty", desc := "()Ljava/util/Optional;" } : Jvm.MethodName) jdk_32_method_1_code (1 : Nat) (Option.some (Jvm.ClassFile.FieldType.object "java/util/Optional"))).before args0 about1 = true := code_word (m := ⟨10, 0⟩) (meth := k10m0) (c := k10c0) (by decide +kernel) rfl rfl rfl (by decide +kernel)
set_option maxRecDepth 65536 in
theorem w_c7 : (Jvm.Cond.code ({ cls := "com/example/warrant_to_dial/warranttodial/server/OperatorCommand$Outcome", name := "<init>", desc := "(ILjava/lang/String;ZLjava/lang/String;Ljava/util/Optional;)V" } : Jvm.MethodName) prog_63_method_1_code (6 : Nat) (Option.none : Option Jvm.ClassFile.FieldType)).before args0 about1 = true := code_word (m := ⟨9, 0⟩) (meth := k9m0) (c := k9c0) (by decide +kernel) rfl rfl rfl (by decide +kernel)
set_option maxRecDepth 65536 in
theorem w_c8 : (Jvm.Cond.code ({ cls := "java/lang/Record", name := "<init>", desc := "()V" } : Jvm.MethodName) jdk_30_method_1_code (1 : Nat) (Option.none : Option Jvm.ClassFile.FieldType)).before args0 about1 = true := code_word (m := ⟨8, 0⟩) (meth := k8m0) (c := k8c0) (by decide +kernel) rfl rfl rfl (by decide +kernel)
set_option maxRecDepth 65536 in
theorem w_c9 : (Jvm.Cond.code ({ cls := "com/example/warrant_to_dial/warranttodial/server/OperatorCommand$Outcome", name := "status", desc := "()I" } : Jvm.MethodName) prog_63_method_9_code (1 : Nat) (Option.some Jvm.ClassFile.FieldType.int)).before args0 about1 = true := code_word (m := ⟨9, 2⟩) (meth := k9m2) (c := k9c2) (by decide +kernel) rfl rfl rfl (by decide +kernel)
set_option maxRecDepth 65536 in
theorem w_c10 : (Jvm.Cond.code ({ cls := "com/example/warrant_to_dial/warranttodial/server/OperatorCommand$Outcome", name := "out", desc := "()Ljava/lang/String;" } : Jvm.MethodName) prog_63_method_10_code (1 : Nat) (Option.some (Jvm.ClassFile.FieldType.object "java/lang/String"))).before args0 about1 = true := code_word (m := ⟨9, 3⟩) (meth := k9m3) (c := k9c3) (by decide +kernel) rfl rfl rfl (by decide +kernel)
set_option maxRecDepth 65536 in
theorem w_c11 : (Jvm.Cond.code ({ cls := "java/lang/String", name := "length", desc := "()I" } : Jvm.MethodName) jdk_42_method_54_code (1 : Nat) (Option.some Jvm.ClassFile.FieldType.int)).before args0 about1 = true := code_word (m := ⟨7, 2⟩) (meth := k7m2) (c := k7c2) (by decide +kernel) rfl rfl rfl (by decide +kernel)
set_option maxRecDepth 65536 in
theorem w_c12 : (Jvm.Cond.code ({ cls := "java/lang/String", name := "coder", desc := "()B" } : Jvm.MethodName) jdk_42_method_152_code (1 : Nat) (Option.some Jvm.ClassFile.FieldType.byte)).before args0 about1 = true := code_word (m := ⟨7, 6⟩) (meth := k7m6) (c := k7c6) (by decide +kernel) rfl rfl rfl (by decide +kernel)
set_option maxRecDepth 65536 in
theorem w_c13 : (Jvm.Cond.code ({ cls := "java/lang/String", name := "equals", desc := "(Ljava/lang/Object;)Z" } : Jvm.MethodName) jdk_42_method_66_code (3 : Nat) (Option.some Jvm.ClassFile.FieldType.boolean)).before args0 about1 = true := code_word (m := ⟨7, 4⟩) (meth := k7m4) (c := k7c4) (by decide +kernel) rfl rfl rfl (by decide +kernel)
set_option maxRecDepth 65536 in
theorem w_c14 : (Jvm.Cond.code ({ cls := "com/example/warrant_to_dial/warranttodial/server/OperatorCommand$Outcome", name := "holdsSecret", desc := "()Z" } : Jvm.MethodName) prog_63_method_11_code (1 : Nat) (Option.some Jvm.ClassFile.FieldType.boolean)).before args0 about1 = true := code_word (m := ⟨9, 4⟩) (meth := k9m4) (c := k9c4) (by decide +kernel) rfl rfl rfl (by decide +kernel)
set_option maxRecDepth 65536 in
theorem w_c15 : (Jvm.Cond.code ({ cls := "com/example/warrant_to_dial/warranttodial/server/OperatorCommand$Outcome", name := "err", desc := "()Ljava/lang/String;" } : Jvm.MethodName) prog_63_method_12_code (1 : Nat) (Option.some (Jvm.ClassFile.FieldType.object "java/lang/String"))).before args0 about1 = true := code_word (m := ⟨9, 5⟩) (meth := k9m5) (c := k9c5) (by decide +kernel) rfl rfl rfl (by decide +kernel)
set_option maxRecDepth 65536 in
theorem w_c16 : (Jvm.Cond.code ({ cls := "java/lang/String", name := "isEmpty", desc := "()Z" } : Jvm.MethodName) jdk_42_method_55_code (1 : Nat) (Option.some Jvm.ClassFile.FieldType.boolean)).before args0 about1 = true := code_word (m := ⟨7, 3⟩) (meth := k7m3) (c := k7c3) (by decide +kernel) rfl rfl rfl (by decide +kernel)
set_option maxRecDepth 65536 in
theorem w_c17 : (Jvm.Cond.code ({ cls := "java/lang/StringUTF16", name := "compress", desc := "([CII)[B" } : Jvm.MethodName) jdk_52_method_16_code (6 : Nat) (Option.some (Jvm.ClassFile.FieldType.array Jvm.ClassFile.FieldType.byte))).before args0 about1 = true := code_word (m := ⟨11, 2⟩) (meth := k11m2) (c := k11c2) (by decide +kernel) rfl rfl rfl (by decide +kernel)
set_option maxRecDepth 65536 in
theorem w_c18 : (Jvm.Cond.code ({ cls := "java/lang/StringUTF16", name := "compress", desc := "([CI[BII)I" } : Jvm.MethodName) jdk_52_method_21_code (7 : Nat) (Option.some Jvm.ClassFile.FieldType.int)).before args0 about1 = true := code_word (m := ⟨11, 3⟩) (meth := k11m3) (c := k11c3) (by decide +kernel) rfl rfl rfl (by decide +kernel)
set_option maxRecDepth 65536 in
theorem w_c19 : (Jvm.Cond.code ({ cls := "java/lang/StringUTF16", name := "coderFromArrayLen", desc := "([BI)B" } : Jvm.MethodName) jdk_52_method_15_code (2 : Nat) (Option.some Jvm.ClassFile.FieldType.byte)).before args0 about1 = true := code_word (m := ⟨11, 1⟩) (meth := k11m1) (c := k11c1) (by decide +kernel) rfl rfl rfl (by decide +kernel)
def codes1 : List Jvm.Cond := [Jvm.Cond.code x code maxLocals ret, Jvm.Cond.code ({ cls := "com/example/warrant_to_dial/warranttodial/server/OutcomeDonePinLaw", name := "draw", desc := "(IIII)Ljava/lang/String;" } : Jvm.MethodName) method_2_code (9 : Nat) (Option.some (Jvm.ClassFile.FieldType.object "java/lang/String")), Jvm.Cond.code ({ cls := "java/lang/String", name := "<init>", desc := "([C)V" } : Jvm.MethodName) jdk_42_method_3_code (2 : Nat) (Option.none : Option Jvm.ClassFile.FieldType), Jvm.Cond.code ({ cls := "java/lang/String", name := "<init>", desc := "([CIILjava/lang/Void;)V" } : Jvm.MethodName) jdk_42_method_149_code (6 : Nat) (Option.none : Option Jvm.ClassFile.FieldType), Jvm.Cond.code ({ cls := "java/lang/Object", name := "<init>", desc := "()V" } : Jvm.MethodName) object_method_1_code (1 : Nat) (Option.none : Option Jvm.ClassFile.FieldType), Jvm.Cond.code ({ cls := "com/example/warrant_to_dial/warranttodial/server/OperatorCommand$Outcome", name := "done", desc := "(Ljava/lang/String;)Lcom/example/warrant_to_dial/warranttodial/server/OperatorCommand$Outcome;" } : Jvm.MethodName) prog_63_method_2_code (1 : Nat) (Option.some (Jvm.ClassFile.FieldType.object "com/example/warrant_to_dial/warranttodial/server/OperatorCommand$Outcome")), Jvm.Cond.code ({ cls := "java/util/Optional", name := "empty", desc := "()Ljava/util/Optional;" } : Jvm.MethodName) jdk_32_method_1_code (1 : Nat) (Option.some (Jvm.ClassFile.FieldType.object "java/util/Optional")), Jvm.Cond.code ({ cls := "com/example/warrant_to_dial/warranttodial/server/OperatorCommand$Outcome", name := "<init>", desc := "(ILjava/lang/String;ZLjava/lang/String;Ljava/util/Optional;)V" } : Jvm.MethodName) prog_63_method_1_code (6 : Nat) (Option.none : Option Jvm.ClassFile.FieldType), Jvm.Cond.code ({ cls := "java/lang/Record", name := "<init>", desc := "()V" } : Jvm.MethodName) jdk_30_method_1_code (1 : Nat) (Option.none : Option Jvm.ClassFile.FieldType), Jvm.Cond.code ({ cls := "com/example/warrant_to_dial/warranttodial/server/OperatorCommand$Outcome", name := "status", desc := "()I" } : Jvm.MethodName) prog_63_method_9_code (1 : Nat) (Option.some Jvm.ClassFile.FieldType.int), Jvm.Cond.code ({ cls := "com/example/warrant_to_dial/warranttodial/server/OperatorCommand$Outcome", name := "out", desc := "()Ljava/lang/String;" } : Jvm.MethodName) prog_63_method_10_code (1 : Nat) (Option.some (Jvm.ClassFile.FieldType.object "java/lang/String")), Jvm.Cond.code ({ cls := "java/lang/String", name := "length", desc := "()I" } : Jvm.MethodName) jdk_42_method_54_code (1 : Nat) (Option.some Jvm.ClassFile.FieldType.int), Jvm.Cond.code ({ cls := "java/lang/String", name := "coder", desc := "()B" } : Jvm.MethodName) jdk_42_method_152_code (1 : Nat) (Option.some Jvm.ClassFile.FieldType.byte), Jvm.Cond.code ({ cls := "java/lang/String", name := "equals", desc := "(Ljava/lang/Object;)Z" } : Jvm.MethodName) jdk_42_method_66_code (3 : Nat) (Option.some Jvm.ClassFile.FieldType.boolean), Jvm.Cond.code ({ cls := "com/example/warrant_to_dial/warranttodial/server/OperatorCommand$Outcome", name := "holdsSecret", desc := "()Z" } : Jvm.MethodName) prog_63_method_11_code (1 : Nat) (Option.some Jvm.ClassFile.FieldType.boolean), Jvm.Cond.code ({ cls := "com/example/warrant_to_dial/warranttodial/server/OperatorCommand$Outcome", name := "err", desc := "()Ljava/lang/String;" } : Jvm.MethodName) prog_63_method_12_code (1 : Nat) (Option.some (Jvm.ClassFile.FieldType.object "java/lang/String")), Jvm.Cond.code ({ cls := "java/lang/String", name := "isEmpty", desc := "()Z" } : Jvm.MethodName) jdk_42_method_55_code (1 : Nat) (Option.some Jvm.ClassFile.FieldType.boolean), Jvm.Cond.code ({ cls := "java/lang/StringUTF16", name := "compress", desc := "([CII)[B" } : Jvm.MethodName) jdk_52_method_16_code (6 : Nat) (Option.some (Jvm.ClassFile.FieldType.array Jvm.ClassFile.FieldType.byte)), Jvm.Cond.code ({ cls := "java/lang/StringUTF16", name := "compress", desc := "([CI[BII)I" } : Jvm.MethodName) jdk_52_method_21_code (7 : Nat) (Option.some Jvm.ClassFile.FieldType.int), Jvm.Cond.code ({ cls := "java/lang/StringUTF16", name := "coderFromArrayLen", desc := "([BI)B" } : Jvm.MethodName) jdk_52_method_15_code (2 : Nat) (Option.some Jvm.ClassFile.FieldType.byte)]
set_option maxRecDepth 65536 in
theorem codes_eq : words1.filter isCode = codes1 := rfl
theorem w_codes : ∀ c ∈ words1.filter isCode, c.before args0 about1 = true := by
  rw [codes_eq]
  intro c hc
  simp only [codes1, List.mem_cons, List.not_mem_nil, or_false] at hc
  rcases hc with rfl | rfl | rfl | rfl | rfl | rfl | rfl | rfl | rfl | rfl | rfl | rfl | rfl | rfl | rfl | rfl | rfl | rfl | rfl | rfl
  · exact w_c0
  · exact w_c1
  · exact w_c2
  · exact w_c3
  · exact w_c4
  · exact w_c5
  · exact w_c6
  · exact w_c7
  · exact w_c8
  · exact w_c9
  · exact w_c10
  · exact w_c11
  · exact w_c12
  · exact w_c13
  · exact w_c14
  · exact w_c15
  · exact w_c16
  · exact w_c17
  · exact w_c18
  · exact w_c19
set_option maxRecDepth 65536 in
theorem w_t1 : (words1.take 24).all (fun c => isCode c || c.before args0 about1) = true := by decide +kernel
set_option maxRecDepth 65536 in
theorem w_t2 : ((words1.drop 24).take 24).all (fun c => isCode c || c.before args0 about1) = true := by decide +kernel
set_option maxRecDepth 65536 in
theorem w_t3 : (((words1.drop 24).drop 24).take 24).all (fun c => isCode c || c.before args0 about1) = true := by decide +kernel
set_option maxRecDepth 65536 in
theorem w_t4 : ((((words1.drop 24).drop 24).drop 24).take 24).all (fun c => isCode c || c.before args0 about1) = true := by decide +kernel
set_option maxRecDepth 65536 in
theorem w_t5 : ((((words1.drop 24).drop 24).drop 24).drop 24).all (fun c => isCode c || c.before args0 about1) = true := by decide +kernel
theorem w_tables : (allAtoms (Jvm.Cond.code x code maxLocals ret :: tables_1)).before args0 about1 = true := by
  rw [allAtoms_all]
  show words1.all (fun c => c.before args0 about1) = true
  refine all_split ?_ w_codes
  rw [← List.take_append_drop 24 words1, List.all_append, w_t1, ← List.take_append_drop 24 (words1.drop 24), List.all_append, w_t2, ← List.take_append_drop 24 ((words1.drop 24).drop 24), List.all_append, w_t3, ← List.take_append_drop 24 (((words1.drop 24).drop 24).drop 24), List.all_append, w_t4, w_t5]
  rfl
set_option maxRecDepth 65536 in
theorem w_rest : rest_1_c.before args0 about1 = true := by decide +kernel
set_option maxRecDepth 65536 in
theorem w_case : (Jvm.Cond.and given_1 narrow_1).before args0 about1 = true := by decide +kernel
set_option maxRecDepth 65536 in
theorem w_consts : constsHeld consts_1 about1 := Jvm.Lit.constsHeldB_iff.mp (by decide +kernel)
theorem w_applies : (headSpec (Jvm.Cond.code x code maxLocals ret :: tables_1) room_1).applies x e0.platform about1 = true :=
  (Spec.applies_iff w_frames).mpr ⟨w_running, w_runnable, w_alone, w_named, w_hears, w_ripe, w_room, w_tables⟩
theorem atStart : AtStart classFile x code maxLocals ret World_1 tables_1 room_1 Calls_1 rest_1 Pre_1 launch0 p0 e0 about1 theMethod args0 below0 :=
  ⟨lists_1, trivial, launch0.admits_env _ _ _, launch0.least_env, fairChoices_fair.cas, fairChoices_fair.clock, w_frames, w_args, w_heap, w_applies, ⟨w_consts, trivial⟩, w_rest, w_case⟩
end start1
theorem witness_1 : WitnessClaimed_1 := ⟨start1.p0, start1.e0, start1.about1, start1.theMethod, start1.args0, start1.below0, start1.atStart⟩
end Jvm.Pilot.@@N@@
