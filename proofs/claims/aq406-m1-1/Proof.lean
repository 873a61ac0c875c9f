import JvmDerived
import JvmDerived.Pilot.@@N@@Statement
import JvmDerived.Pilot.@@N@@Code
set_option linter.unusedVariables false
set_option linter.unusedSimpArgs false
set_option maxRecDepth 65536
set_option maxHeartbeats 40000000
/- laws to paste: Road.backV (cut by pick.py; bodies as the Statement names them) -/
namespace Jvm.Pilot.@@N@@
namespace StrChars
open Jvm Sem ClassFile Op Lib Jvm.Stand Jvm.Free.XT Jvm.Free.ALB Jvm.Free.JM Jvm.Free
open Jvm.Lib.Cold (StaticIs)
/-- a char array whose places are chars -/
def Ch (a : Addr) (A : Cell) (U : State) : Prop := Arr .char a A U ∧ Typed .char A
theorem Ch.mv {a : Addr} {A : Cell} {U U' : State} (h : Ch a A U) (hal : U.vm.Alike U'.vm) (hh : U'.heap = U.heap) : Ch a A U' := ⟨h.1.mv hal hh, h.2⟩
theorem Ch.keep {a : Addr} {A : Cell} {U U' : State} (h : Ch a A U) (hal : U.vm.Alike U'.vm) (hk : U'.heap[a]? = some A) : Ch a A U' := ⟨h.1.keep hal hk, h.2⟩
/-- what place i of a char[]'s cell holds -/
def cv (A : Cell) (i : Nat) : Int32 := match A.slots[i]? with | some (.int x) => x | _ => 0
theorem Ch.get {a : Addr} {A : Cell} {U : State} (h : Ch a A U) {i : Nat} (hi : i < A.slots.size) : A.slots[i]? = some (.int (cv A i)) := by
  have e := Array.getElem?_eq_getElem hi
  have f := h.2 i _ e
  unfold cv; rw [e]
  generalize A.slots[i] = v at f
  cases v <;> simp [fits] at f ⊢
/-- the byte that i2b leaves of a char -/
def lo8 (x : Int32) : Int32 := x.toInt8.toInt32
theorem fits_lo8 (y : Int32) : fits .byte (.int (lo8 y)) = true := by
  have h1 := y.toInt8.le_toInt
  have h2 := y.toInt8.toInt_lt
  simp only [lo8, fits, Bool.and_eq_true, decide_eq_true_eq, Int32.le_iff_toInt_le, Int8.toInt_toInt32, show (-128 : Int32).toInt = -128 from by decide, show (127 : Int32).toInt = 127 from by decide]
  omega
/-- A' is A but that each place j of lo .. hi - 1 holds f j -/
def Laid (A A' : Cell) (lo hi : Nat) (f : Nat → Value) : Prop := A'.cls = A.cls ∧ A'.vm = A.vm ∧ A'.slots.size = A.slots.size ∧ ∀ i, A'.slots[i]? = if lo ≤ i ∧ i < hi then some (f i) else A.slots[i]?
theorem Laid.zero (A : Cell) (lo : Nat) (f : Nat → Value) : Laid A A lo (lo + 0) f := ⟨rfl, rfl, rfl, fun i => by rw [if_neg (by omega)]⟩
theorem Laid.step {A Ak : Cell} {lo k : Nat} {f : Nat → Value} {v : Value} (h : Laid A Ak lo k f) (hlo : lo ≤ k) (hk : k < Ak.slots.size) (hv : v = f k) : Laid A (Ak.setSlot k v) lo (k + 1) f := by
  refine ⟨h.1, h.2.1, by simpa [Cell.setSlot] using h.2.2.1, fun i => ?_⟩
  by_cases e : k = i
  · subst e; rw [Cell.slots_setSlot_self v hk, if_pos (by omega), hv]
  · rw [Cell.slots_setSlot_ne v e, h.2.2.2 i]
    by_cases q : lo ≤ i ∧ i < k
    · rw [if_pos q, if_pos (by omega)]
    · rw [if_neg q, if_neg (by omega)]
def U16 : String := "java/lang/StringUTF16"
namespace Cmp5
def yN : MethodName := ⟨"java/lang/StringUTF16", "compress", "([CI[BII)I"⟩
abbrev yB : ByteArray := jdk_52_method_21_code
theorem d0 : decode yB 0 = .ok (.iconst 0, 1) := by decide +kernel
theorem d1 : decode yB 1 = .ok (.istore 5, 2) := by decide +kernel
theorem d3 : decode yB 3 = .ok (.iload 5, 2) := by decide +kernel
theorem d5 : decode yB 5 = .ok (.iload 4, 2) := by decide +kernel
theorem d7 : decode yB 7 = .ok (.if_icmp (.ge) 37, 3) := by decide +kernel
theorem d10 : decode yB 10 = .ok (.aload_n 0, 1) := by decide +kernel
theorem d11 : decode yB 11 = .ok (.iload_n 1, 1) := by decide +kernel
theorem d12 : decode yB 12 = .ok (.caload, 1) := by decide +kernel
theorem d13 : decode yB 13 = .ok (.istore 6, 2) := by decide +kernel
theorem d15 : decode yB 15 = .ok (.iload 6, 2) := by decide +kernel
theorem d17 : decode yB 17 = .ok (.sipush 255, 3) := by decide +kernel
theorem d20 : decode yB 20 = .ok (.if_icmp (.le) 6, 3) := by decide +kernel
theorem d26 : decode yB 26 = .ok (.aload_n 2, 1) := by decide +kernel
theorem d27 : decode yB 27 = .ok (.iload_n 3, 1) := by decide +kernel
theorem d28 : decode yB 28 = .ok (.iload 6, 2) := by decide +kernel
theorem d30 : decode yB 30 = .ok (.i2b, 1) := by decide +kernel
theorem d31 : decode yB 31 = .ok (.bastore, 1) := by decide +kernel
theorem d32 : decode yB 32 = .ok (.iinc 1 1, 3) := by decide +kernel
theorem d35 : decode yB 35 = .ok (.iinc 3 1, 3) := by decide +kernel
theorem d38 : decode yB 38 = .ok (.iinc 5 1, 3) := by decide +kernel
theorem d41 : decode yB 41 = .ok (.goto (-38), 3) := by decide +kernel
theorem d44 : decode yB 44 = .ok (.iload 4, 2) := by decide +kernel
theorem d46 : decode yB 46 = .ok (.ireturn, 1) := by decide +kernel
def site : List Cond := []
def tab : Cond := tabOf yN yB 7 (some .int) site
def P (b : Addr) (A : Cell) (d : Addr) (B : Cell) (o q len : Nat) (args : Array Value) (s : State) : Prop := args = #[.ref b, .int (Int32.ofNat o), .ref d, .int (Int32.ofNat q), .int (Int32.ofNat len)] ∧ Ch b A s ∧ Arr .byte d B s ∧ b ≠ d ∧ o + len ≤ A.slots.size ∧ q + len ≤ B.slots.size ∧ ∀ i, i < len → ¬ 255 < cv A (o + i)
def E (b : Addr) (A : Cell) (d : Addr) (B : Cell) (o q len : Nat) (r : Option Value) (s u : State) : Prop := r = some (.int (Int32.ofNat len)) ∧ ∃ B', Put d B' s u ∧ Laid B B' q (q + len) (fun j => Value.int (lo8 (cv A (o + (j - q)))))
/-- no char of the range above 255: len; the places written hold each char's low byte -/
theorem law (l : Launch) (b : Addr) (A : Cell) (d : Addr) (B : Cell) (o q len : Nat) : Law l yN 5 5 0 0 yB 7 (some .int) site (P b A d B o q len) (E b A d B o q len) (copyLocs d q len) 0 0 := by
  refine Law.of_walk (plainFor_of_name (by decide +kernel)) (by decide +kernel) (by decide +kernel) (by decide) (fun _ _ h => by rw [h.1]; rfl) (fun _ U U' hal hh h => ⟨h.1, h.2.1.mv hal hh, h.2.2.1.mv hal hh, h.2.2.2⟩) (fun r U U' V V' h1 hal h2 h => ⟨h.1, h.2.elim fun B' q => ⟨B', q.1.mv h1 h2, q.2⟩⟩) ?_
  intro p e s m args below meth c s₁ X0 hexec hbytes hml hret hlk hnm hown hh0 W hP
  obtain ⟨rfl, hA, hB, hne, l1, l2, hp⟩ := hP
  have c1 : Steps p.tables e below (s₁.setTop (entryFrame m #[.ref b, .int (Int32.ofNat o), .ref d, .int (Int32.ofNat q), .int (Int32.ofNat len)] 7)) (s₁.setTop (mkF m 0 #[.val (.ref b), .val (.int (Int32.ofNat o)), .val (.ref d), .val (.int (Int32.ofNat q)), .val (.int (Int32.ofNat len)), .unset, .unset] [])) := entry rfl
  have hA0 := hA.1.mv X0.warmed.alike hh0
  have hB0 := hB.mv X0.warmed.alike hh0
  have a31 := hA.1.2.2.2
  have c2 : Steps p.tables e below (s₁.setTop (entryFrame m #[.ref b, .int (Int32.ofNat o), .ref d, .int (Int32.ofNat q), .int (Int32.ofNat len)] 7)) (s₁.setTop (mkF m 3 #[.val (.ref b), .val (.int (Int32.ofNat o)), .val (.ref d), .val (.int (Int32.ofNat q)), .val (.int (Int32.ofNat len)), .val (.int 0), .unset] [])) := c1.trans (by
    refine iconstV X0.here hexec rfl 0 (hb hbytes d0) (by decide) ?_
    refine XS.istore X0.here hexec rfl (hb hbytes d1) rfl rfl ?_
    exact Steps.refl _)
  have loop : ∀ (r i : Nat), i + r = len → ∀ (z : Slot), (z = .unset ∨ ∃ w, z = .val w ∧ w.category = 1) → ∀ (Tl : State) (Bk : Cell), Stand p l e { frames := 0, locals := 0, cells := 0, slots := 0 } s m #[.ref b, .int (Int32.ofNat o), .ref d, .int (Int32.ofNat q), .int (Int32.ofNat len)] below meth c Tl ([] ++ copyLocs d q i) 0 0 → Put d Bk s₁ Tl → Laid B Bk q (q + i) (fun j => Value.int (lo8 (cv A (o + (j - q))))) →
      Steps p.tables e below (s₁.setTop (entryFrame m #[.ref b, .int (Int32.ofNat o), .ref d, .int (Int32.ofNat q), .int (Int32.ofNat len)] 7)) (Tl.setTop (mkF m 3 #[.val (.ref b), .val (.int (Int32.ofNat (o + i))), .val (.ref d), .val (.int (Int32.ofNat (q + i))), .val (.int (Int32.ofNat len)), .val (.int (Int32.ofNat i)), z] [])) → ∃ (T' : State) (B' : Cell) (z' : Slot), Stand p l e { frames := 0, locals := 0, cells := 0, slots := 0 } s m #[.ref b, .int (Int32.ofNat o), .ref d, .int (Int32.ofNat q), .int (Int32.ofNat len)] below meth c T' ([] ++ copyLocs d q len) 0 0 ∧ Put d B' s₁ T' ∧ Laid B B' q (q + len) (fun j => Value.int (lo8 (cv A (o + (j - q))))) ∧
      Steps p.tables e below (s₁.setTop (entryFrame m #[.ref b, .int (Int32.ofNat o), .ref d, .int (Int32.ofNat q), .int (Int32.ofNat len)] 7)) (T'.setTop (mkF m 3 #[.val (.ref b), .val (.int (Int32.ofNat (o + len))), .val (.ref d), .val (.int (Int32.ofNat (q + len))), .val (.int (Int32.ofNat len)), .val (.int (Int32.ofNat len)), z'] [])) := by
    intro r
    induction r with
    | zero =>
      intro i hi z hz Tl Bk Xl pl fl cl
      have hil : i = len := by omega
      rw [hil] at Xl fl cl
      exact ⟨Tl, Bk, z, Xl, pl, fl, cl⟩
    | succ r ih =>
      intro i hi z hz Tl Bk Xl pl fl cl
      have all := X0.warmed.alike.symm.trans Xl.warmed.alike
      have hAl := hA0.keep all (pl.other hne hA0.1)
      have hBk := hB0.like all pl.1 fl.1 fl.2.1 fl.2.2.1
      have hlt : q + i < Bk.slots.size := by rw [fl.2.2.1]; omega
      have c3 : Steps p.tables e below (s₁.setTop (entryFrame m #[.ref b, .int (Int32.ofNat o), .ref d, .int (Int32.ofNat q), .int (Int32.ofNat len)] 7)) (Tl.setTop (mkF m 12 #[.val (.ref b), .val (.int (Int32.ofNat (o + i))), .val (.ref d), .val (.int (Int32.ofNat (q + i))), .val (.int (Int32.ofNat len)), .val (.int (Int32.ofNat i)), z] [.int (Int32.ofNat (o + i)), .ref b])) := cl.trans (by
        refine XS.iload Xl.here hexec rfl (hb hbytes d3) rfl ?_
        refine XS.iload Xl.here hexec rfl (hb hbytes d5) rfl ?_
        refine XS.icmpNo Xl.here hexec rfl (hb hbytes d7) rfl (ii_ge_f (lt32 (by omega) (by omega))) ?_
        refine XS.aloadN Xl.here hexec rfl (hb hbytes d10) rfl rfl ?_
        refine XS.iloadN Xl.here hexec rfl (hb hbytes d11) rfl ?_
        exact Steps.refl _)
      have c4 : Steps p.tables e below (s₁.setTop (entryFrame m #[.ref b, .int (Int32.ofNat o), .ref d, .int (Int32.ofNat q), .int (Int32.ofNat len)] 7)) (Tl.setTop (mkF m 13 #[.val (.ref b), .val (.int (Int32.ofNat (o + i))), .val (.ref d), .val (.int (Int32.ofNat (q + i))), .val (.int (Int32.ofNat len)), .val (.int (Int32.ofNat i)), z] [.int (cv A (o + i))])) := c3.trans (by
        refine Xl.aget hexec hAl rfl (hA.get (i := o + i) (by omega)) rfl rfl (hb hbytes d12) ?_
        exact Steps.refl _)
      have c5 : Steps p.tables e below (s₁.setTop (entryFrame m #[.ref b, .int (Int32.ofNat o), .ref d, .int (Int32.ofNat q), .int (Int32.ofNat len)] 7)) (Tl.setTop (mkF m 15 #[.val (.ref b), .val (.int (Int32.ofNat (o + i))), .val (.ref d), .val (.int (Int32.ofNat (q + i))), .val (.int (Int32.ofNat len)), .val (.int (Int32.ofNat i)), .val (.int (cv A (o + i)))] [])) := c4.trans (by
        refine XS.istoreS Xl.here hexec rfl (hb hbytes d13) rfl rfl hz ?_
        exact Steps.refl _)
      have c6 : Steps p.tables e below (s₁.setTop (entryFrame m #[.ref b, .int (Int32.ofNat o), .ref d, .int (Int32.ofNat q), .int (Int32.ofNat len)] 7)) (Tl.setTop (mkF m 31 #[.val (.ref b), .val (.int (Int32.ofNat (o + i))), .val (.ref d), .val (.int (Int32.ofNat (q + i))), .val (.int (Int32.ofNat len)), .val (.int (Int32.ofNat i)), .val (.int (cv A (o + i)))] [.int (lo8 (cv A (o + i))), .int (Int32.ofNat (q + i)), .ref d])) := c5.trans (by
        refine XS.iload Xl.here hexec rfl (hb hbytes d15) rfl ?_
        refine sipushV Xl.here hexec rfl 255 (hb hbytes d17) (by decide) ?_
        refine XS.icmpYes Xl.here hexec rfl (pc0 := 20) rfl (hb hbytes d20) rfl (ii_le_t (hp i (by omega))) (by decide) rfl ?_
        refine XS.aloadN Xl.here hexec rfl (hb hbytes d26) rfl rfl ?_
        refine XS.iloadN Xl.here hexec rfl (hb hbytes d27) rfl ?_
        refine XS.iload Xl.here hexec rfl (hb hbytes d28) rfl ?_
        refine i2b Xl.here hexec rfl (hb hbytes d30) rfl ?_
        exact Steps.refl _)
      obtain ⟨T7, X7, p7, st7⟩ := Xl.aput hexec hBk rfl hlt rfl (fits_lo8 (cv A (o + i))) (g := (mkF m 31 #[.val (.ref b), .val (.int (Int32.ofNat (o + i))), .val (.ref d), .val (.int (Int32.ofNat (q + i))), .val (.int (Int32.ofNat len)), .val (.int (Int32.ofNat i)), .val (.int (cv A (o + i)))] [.int (lo8 (cv A (o + i))), .int (Int32.ofNat (q + i)), .ref d])) rfl (rest := []) rfl (hb hbytes d31)
      have c8 : Steps p.tables e below (s₁.setTop (entryFrame m #[.ref b, .int (Int32.ofNat o), .ref d, .int (Int32.ofNat q), .int (Int32.ofNat len)] 7)) (T7.setTop (mkF m 32 #[.val (.ref b), .val (.int (Int32.ofNat (o + i))), .val (.ref d), .val (.int (Int32.ofNat (q + i))), .val (.int (Int32.ofNat len)), .val (.int (Int32.ofNat i)), .val (.int (cv A (o + i)))] [])) := c6.trans (st7 _ (Steps.refl _))
      have c9 : Steps p.tables e below (s₁.setTop (entryFrame m #[.ref b, .int (Int32.ofNat o), .ref d, .int (Int32.ofNat q), .int (Int32.ofNat len)] 7)) (T7.setTop (mkF m 3 #[.val (.ref b), .val (.int (Int32.ofNat (o + i) + 1)), .val (.ref d), .val (.int (Int32.ofNat (q + i) + 1)), .val (.int (Int32.ofNat len)), .val (.int (Int32.ofNat i + 1)), .val (.int (cv A (o + i)))] [])) := c8.trans (by
        refine iincV X7.here hexec rfl 1 (hb hbytes d32) (by decide) rfl rfl ?_
        refine iincV X7.here hexec rfl 1 (hb hbytes d35) (by decide) rfl rfl ?_
        refine iincV X7.here hexec rfl 1 (hb hbytes d38) (by decide) rfl rfl ?_
        refine XS.goto X7.here hexec rfl (pc0 := 41) rfl (hb hbytes d41) (by decide) rfl ?_
        exact Steps.refl _)
      have c10 : Steps p.tables e below (s₁.setTop (entryFrame m #[.ref b, .int (Int32.ofNat o), .ref d, .int (Int32.ofNat q), .int (Int32.ofNat len)] 7)) (T7.setTop (mkF m 3 #[.val (.ref b), .val (.int (Int32.ofNat (o + (i + 1)))), .val (.ref d), .val (.int (Int32.ofNat (q + (i + 1)))), .val (.int (Int32.ofNat len)), .val (.int (Int32.ofNat (i + 1))), .val (.int (cv A (o + i)))] [])) := by
        have := c9
        rw [succ32, succ32, succ32] at this
        exact this
      exact ih (i + 1) (by omega) _ (Or.inr ⟨_, rfl, rfl⟩) T7 _ (by rw [copyLocs_step, ← List.append_assoc]; exact X7) (pl.trans p7) (fl.step (by omega) hlt (by simp)) c10
  obtain ⟨T9, B9, z9, X9, p9, f9, g9⟩ := loop len 0 (by omega) .unset (Or.inl rfl) s₁ B (by simpa [copyLocs] using X0) ⟨hB0.1, fun _ _ => rfl, rfl⟩ (Laid.zero _ _ _) c2
  have c11 : Steps p.tables e below (s₁.setTop (entryFrame m #[.ref b, .int (Int32.ofNat o), .ref d, .int (Int32.ofNat q), .int (Int32.ofNat len)] 7)) (T9.setTop (mkF m 46 #[.val (.ref b), .val (.int (Int32.ofNat (o + len))), .val (.ref d), .val (.int (Int32.ofNat (q + len))), .val (.int (Int32.ofNat len)), .val (.int (Int32.ofNat len)), z9] [.int (Int32.ofNat len)])) := g9.trans (by
    refine XS.iload X9.here hexec rfl (hb hbytes d3) rfl ?_
    refine XS.iload X9.here hexec rfl (hb hbytes d5) rfl ?_
    refine XS.icmpYes X9.here hexec rfl (pc0 := 7) rfl (hb hbytes d7) rfl (ii_ge_t (nlt32 (by omega) (Nat.le_refl _))) (by decide) rfl ?_
    refine XS.iload X9.here hexec rfl (hb hbytes d44) rfl ?_
    exact Steps.refl _)
  exact ⟨T9, some (.int (Int32.ofNat len)), _, _, _, X9, by simp, rfl, rfl, (fun h => by cases h), ⟨rfl, B9, p9.from hh0, f9⟩, fun fs hl => c11.trans (X9.ireturnOut hexec hret rfl (Or.inl rfl) (hb hbytes d46) hl)⟩
end Cmp5
namespace Cmp3
def yN : MethodName := ⟨"java/lang/StringUTF16", "compress", "([CII)[B"⟩
abbrev yB : ByteArray := jdk_52_method_16_code
theorem d0 : decode yB 0 = .ok (.iload_n 2, 1) := by decide +kernel
theorem d1 : decode yB 1 = .ok (.newarray .byte, 2) := by decide +kernel
theorem d3 : decode yB 3 = .ok (.astore_n 3, 1) := by decide +kernel
theorem d4 : decode yB 4 = .ok (.aload_n 0, 1) := by decide +kernel
theorem d5 : decode yB 5 = .ok (.iload_n 1, 1) := by decide +kernel
theorem d6 : decode yB 6 = .ok (.aload_n 3, 1) := by decide +kernel
theorem d7 : decode yB 7 = .ok (.iconst 0, 1) := by decide +kernel
theorem d8 : decode yB 8 = .ok (.iload_n 2, 1) := by decide +kernel
theorem d9 : decode yB 9 = .ok (.invokestatic 115, 3) := by decide +kernel
theorem d12 : decode yB 12 = .ok (.istore 4, 2) := by decide +kernel
theorem d14 : decode yB 14 = .ok (.iload 4, 2) := by decide +kernel
theorem d16 : decode yB 16 = .ok (.iload_n 2, 1) := by decide +kernel
theorem d17 : decode yB 17 = .ok (.if_icmp (.eq) 40, 3) := by decide +kernel
theorem d57 : decode yB 57 = .ok (.aload_n 3, 1) := by decide +kernel
theorem d58 : decode yB 58 = .ok (.areturn, 1) := by decide +kernel
def site : List Cond := [.arrayClass .byte, Cmp5.tab] ++ staticW U16 115 Cmp5.yN
def tab : Cond := tabOf yN yB 6 (some (.array .byte)) site
def P (b : Addr) (A : Cell) (o len : Nat) (args : Array Value) (s : State) : Prop := args = #[.ref b, .int (Int32.ofNat o), .int (Int32.ofNat len)] ∧ Ch b A s ∧ o + len ≤ A.slots.size ∧ len ≤ 536870912 ∧ ∀ i, i < len → ¬ 255 < cv A (o + i)
def E (b : Addr) (A : Cell) (o len : Nat) (r : Option Value) (s u : State) : Prop := NewArr .byte "[B" len (fun j => .int (lo8 (cv A (o + j)))) r s u ∧ u.heap.size = s.heap.size + 1
/-- no char of the range above 255: a new byte[] of their low bytes -/
theorem law (l : Launch) (b : Addr) (A : Cell) (o len : Nat) : Law l yN 3 3 1 18 yB 6 (some (.array .byte)) site (P b A o len) (E b A o len) [] 1 len := by
  refine Law.of_walk (plainFor_of_name (by decide +kernel)) (by decide +kernel) (by decide +kernel) (by decide) (fun _ _ h => by rw [h.1]; rfl) (fun _ U U' hal hh h => ⟨h.1, h.2.1.mv hal hh, h.2.2⟩) (fun r U U' V V' h1 hal h2 h => ⟨NewArr.mv r U U' V V' h1 hal h2 h.1, by rw [h1, h2]; exact h.2⟩) ?_
  intro p e s m args below meth c s₁ X0 hexec hbytes hml hret hlk hnm hown hh0 W hP
  obtain ⟨rfl, hA, l1, l2, hp⟩ := hP
  have a31 := hA.1.2.2.2
  have c1 : Steps p.tables e below (s₁.setTop (entryFrame m #[.ref b, .int (Int32.ofNat o), .int (Int32.ofNat len)] 6)) (s₁.setTop (mkF m 0 #[.val (.ref b), .val (.int (Int32.ofNat o)), .val (.int (Int32.ofNat len)), .unset, .unset, .unset] [])) := entry rfl
  have c2 : Steps p.tables e below (s₁.setTop (entryFrame m #[.ref b, .int (Int32.ofNat o), .int (Int32.ofNat len)] 6)) (s₁.setTop (mkF m 1 #[.val (.ref b), .val (.int (Int32.ofNat o)), .val (.int (Int32.ofNat len)), .unset, .unset, .unset] [.int (Int32.ofNat len)])) := c1.trans (by
    refine XS.iloadN X0.here hexec rfl (hb hbytes d0) rfl ?_
    exact Steps.refl _)
  obtain ⟨T3, B3, X3, ba3, bs3, bv3, bh3, bf3, st3⟩ := X0.anew hexec (atype := .byte) (wk W (.arrayClass .byte)) rfl (by show len * 1 ≤ _; omega) (by omega) (g := (mkF m 1 #[.val (.ref b), .val (.int (Int32.ofNat o)), .val (.int (Int32.ofNat len)), .unset, .unset, .unset] [.int (Int32.ofNat len)])) rfl (hb hbytes d1) (rest := []) rfl (Nat.le_refl _) (by show 0 + len ≤ len; omega)
  rw [hh0] at ba3 st3
  have kp3 : XT.Kept s T3 := (XT.Kept.of_eq hh0).push bh3
  have hA3 := hA.keep X3.warmed.alike (kp3 _ _ hA.1.1)
  have hne : b ≠ s.heap.size := hA.1.ne
  have c4 : Steps p.tables e below (s₁.setTop (entryFrame m #[.ref b, .int (Int32.ofNat o), .int (Int32.ofNat len)] 6)) (T3.setTop (mkF m 3 #[.val (.ref b), .val (.int (Int32.ofNat o)), .val (.int (Int32.ofNat len)), .unset, .unset, .unset] [.ref s.heap.size])) := c2.trans (st3 _ (Steps.refl _))
  have c5 : Steps p.tables e below (s₁.setTop (entryFrame m #[.ref b, .int (Int32.ofNat o), .int (Int32.ofNat len)] 6)) (T3.setTop (mkF m 9 #[.val (.ref b), .val (.int (Int32.ofNat o)), .val (.int (Int32.ofNat len)), .val (.ref s.heap.size), .unset, .unset] [.int (Int32.ofNat len), .int 0, .ref s.heap.size, .int (Int32.ofNat o), .ref b])) := c4.trans (by
    refine XS.astoreN X3.here hexec rfl (hb hbytes d3) rfl rfl rfl ?_
    refine XS.aloadN X3.here hexec rfl (hb hbytes d4) rfl rfl ?_
    refine XS.iloadN X3.here hexec rfl (hb hbytes d5) rfl ?_
    refine XS.aloadN X3.here hexec rfl (hb hbytes d6) rfl rfl ?_
    refine iconstV X3.here hexec rfl 0 (hb hbytes d7) (by decide) ?_
    refine XS.iloadN X3.here hexec rfl (hb hbytes d8) rfl ?_
    exact Steps.refl _)
  obtain ⟨v6, T6, X6, E6, g6⟩ := X3.callS hexec (Cmp5.law l b A s.heap.size B3 o 0 len) hown (wks W (staticW U16 115 Cmp5.yN)) (wk W Cmp5.tab) (W := 0) (Nat.le_of_ble_eq_true rfl) (Nat.le_of_ble_eq_true rfl) (Nat.le_refl _) (by show 0 + len + 0 ≤ len; omega) (g := (mkF m 9 #[.val (.ref b), .val (.int (Int32.ofNat o)), .val (.int (Int32.ofNat len)), .val (.ref s.heap.size), .unset, .unset] [.int (Int32.ofNat len), .int (Int32.ofNat 0), .ref s.heap.size, .int (Int32.ofNat o), .ref b])) rfl (by rw [hml]; rfl) c5 (argsL := [.ref b, .int (Int32.ofNat o), .ref s.heap.size, .int (Int32.ofNat 0), .int (Int32.ofNat len)]) (rest := []) rfl rfl (by show 2 * 0 + 0 ≤ _; decide) (hb hbytes d9) (⟨rfl, hA3, ba3, hne, l1, by rw [bs3]; simp, hp⟩)
  obtain ⟨rfl, B6, p6, f6⟩ := E6
  have c7 : Steps p.tables e below (s₁.setTop (entryFrame m #[.ref b, .int (Int32.ofNat o), .int (Int32.ofNat len)] 6)) (T6.setTop (mkF m 12 #[.val (.ref b), .val (.int (Int32.ofNat o)), .val (.int (Int32.ofNat len)), .val (.ref s.heap.size), .unset, .unset] [.int (Int32.ofNat len)])) := g6
  have c8 : Steps p.tables e below (s₁.setTop (entryFrame m #[.ref b, .int (Int32.ofNat o), .int (Int32.ofNat len)] 6)) (T6.setTop (mkF m 58 #[.val (.ref b), .val (.int (Int32.ofNat o)), .val (.int (Int32.ofNat len)), .val (.ref s.heap.size), .val (.int (Int32.ofNat len)), .unset] [.ref s.heap.size])) := c7.trans (by
    refine XS.istore X6.here hexec rfl (hb hbytes d12) rfl rfl ?_
    refine XS.iload X6.here hexec rfl (hb hbytes d14) rfl ?_
    refine XS.iloadN X6.here hexec rfl (hb hbytes d16) rfl ?_
    refine XS.icmpYes X6.here hexec rfl (pc0 := 17) rfl (hb hbytes d17) rfl (ii_eq_t rfl) (by decide) rfl ?_
    refine XS.aloadN X6.here hexec rfl (hb hbytes d57) rfl rfl ?_
    exact Steps.refl _)
  have X8 := X6.wide (L' := []) (cells' := 1) (slots' := len) (fun x hx hlt => by
    simp only [List.nil_append, copyLocs, List.mem_map, List.mem_range] at hx
    obtain ⟨i, -, rfl⟩ := hx
    exact absurd hlt (Nat.lt_irrefl _)) (Nat.le_refl _) (by omega)
  exact ⟨T6, some (.ref s.heap.size), _, _, _, X8, rfl, rfl, rfl, (fun h => by cases h), ⟨⟨rfl, B6, ba3.like (X3.warmed.alike.symm.trans X6.warmed.alike) p6.1 f6.1 f6.2.1 f6.2.2.1, f6.2.1.trans bv3, by rw [X6.warmed.alike.findClass, f6.1]; exact bf3, by rw [f6.2.2.1, bs3]; simp, fun j hj => by rw [f6.2.2.2 j, if_pos (by omega)]; rfl, kp3.put p6 (Nat.le_refl _)⟩, by rw [p6.2.2, bh3, hh0]; simp⟩, fun fs hl => c8.trans (X8.areturnOut hexec rfl hret rfl (hb hbytes d58) hl)⟩
end Cmp3
namespace CodL
def yN : MethodName := ⟨"java/lang/StringUTF16", "coderFromArrayLen", "([BI)B"⟩
abbrev yB : ByteArray := jdk_52_method_15_code
theorem d0 : decode yB 0 = .ok (.iload_n 1, 1) := by decide +kernel
theorem d1 : decode yB 1 = .ok (.aload_n 0, 1) := by decide +kernel
theorem d2 : decode yB 2 = .ok (.arraylength, 1) := by decide +kernel
theorem d3 : decode yB 3 = .ok (.isub, 1) := by decide +kernel
theorem d4 : decode yB 4 = .ok (.bipush 31, 2) := by decide +kernel
theorem d6 : decode yB 6 = .ok (.iushr, 1) := by decide +kernel
theorem d7 : decode yB 7 = .ok (.i2b, 1) := by decide +kernel
theorem d8 : decode yB 8 = .ok (.ireturn, 1) := by decide +kernel
def site : List Cond := []
def tab : Cond := tabOf yN yB 2 (some .byte) site
def P (d : Addr) (B : Cell) (args : Array Value) (s : State) : Prop := args = #[.ref d, .int (Int32.ofNat B.slots.size)] ∧ Arr .byte d B s
def E (r : Option Value) (s u : State) : Prop := XT.PureE (some (.int 0)) r s u
/-- an array as long as the number of chars: LATIN1 -/
theorem law (l : Launch) (d : Addr) (B : Cell) : Law l yN 2 2 0 0 yB 2 (some .byte) site (P d B) E [] 0 0 := by
  refine Law.of_walk (plainFor_of_name (by decide +kernel)) (by decide +kernel) (by decide +kernel) (by decide) (fun _ _ h => by rw [h.1]; rfl) (fun _ U U' hal hh h => ⟨h.1, h.2.mv hal hh⟩) (fun r U U' V V' h1 hal h2 h => XT.PureE.mv r U U' V V' h1 hal h2 h) ?_
  intro p e s m args below meth c s₁ X0 hexec hbytes hml hret hlk hnm hown hh0 W hP
  obtain ⟨rfl, hB⟩ := hP
  have hB0 := hB.mv X0.warmed.alike hh0
  have c1 : Steps p.tables e below (s₁.setTop (entryFrame m #[.ref d, .int (Int32.ofNat B.slots.size)] 2)) (s₁.setTop (mkF m 0 #[.val (.ref d), .val (.int (Int32.ofNat B.slots.size))] [])) := entry rfl
  have c2 : Steps p.tables e below (s₁.setTop (entryFrame m #[.ref d, .int (Int32.ofNat B.slots.size)] 2)) (s₁.setTop (mkF m 2 #[.val (.ref d), .val (.int (Int32.ofNat B.slots.size))] [.ref d, .int (Int32.ofNat B.slots.size)])) := c1.trans (by
    refine XS.iloadN X0.here hexec rfl (hb hbytes d0) rfl ?_
    refine XS.aloadN X0.here hexec rfl (hb hbytes d1) rfl rfl ?_
    exact Steps.refl _)
  have c3 : Steps p.tables e below (s₁.setTop (entryFrame m #[.ref d, .int (Int32.ofNat B.slots.size)] 2)) (s₁.setTop (mkF m 8 #[.val (.ref d), .val (.int (Int32.ofNat B.slots.size))] [.int (lo8 (ushr (Int32.ofNat B.slots.size - Int32.ofNat B.slots.size) 31))])) := c2.trans (by
    refine X0.alen hexec hB0 rfl rfl (hb hbytes d2) ?_
    refine XS.isub X0.here hexec rfl (hb hbytes d3) rfl ?_
    refine bipushV X0.here hexec rfl 31 (hb hbytes d4) (by decide) ?_
    refine iushr X0.here hexec rfl (hb hbytes d6) rfl ?_
    refine i2b X0.here hexec rfl (hb hbytes d7) rfl ?_
    exact Steps.refl _)
  have e0 : lo8 (ushr (Int32.ofNat B.slots.size - Int32.ofNat B.slots.size) 31) = 0 := by rw [Int32.sub_self]; decide
  rw [e0] at c3
  exact ⟨s₁, some (.int 0), _, _, _, X0, rfl, rfl, rfl, (fun h => by cases h), ⟨rfl, hh0⟩, fun fs hl => c3.trans (X0.ireturnOut hexec hret rfl (Or.inr (Or.inr (Or.inl rfl))) (hb hbytes d8) hl)⟩
end CodL
/-- the String at a is Latin-1 over a new byte[] (the heap's one new cell): the low bytes of the len chars of A from o on; every cell but a is kept -/
def Got (a : Addr) (D : Cell) (fV fC : Field) (A : Cell) (o len : Nat) (r : Option Value) (s u : State) : Prop := r = none ∧ ∃ D' V : Cell, Blank "java/lang/String" a D' u ∧ Same D D' [fV.slot, fC.slot] ∧ D'.slots[fV.slot]? = some (.ref s.heap.size) ∧ D'.slots[fC.slot]? = some (.int 0) ∧ Arr .byte s.heap.size V u ∧ V.vm = .none ∧ u.vm.findClass "[B" = some V.cls ∧ V.slots.size = len ∧ (∀ j, j < len → V.slots[j]? = some (.int (lo8 (cv A (o + j))))) ∧ (∀ (y : Addr) (c : Cell), y ≠ a → s.heap[y]? = some c → u.heap[y]? = some c) ∧ u.heap.size = s.heap.size + 1
theorem Got.mv {a : Addr} {D A : Cell} {fV fC : Field} {o len : Nat} : ∀ r (U U' V V' : State), U'.heap = U.heap → V.vm.Alike V'.vm → V'.heap = V.heap → Got a D fV fC A o len r U V → Got a D fV fC A o len r U' V' :=
  fun r U U' V V' h1 hal h2 ⟨e0, D', X, a1, a2, a3, a4, a5, a6, a7, a8, a9, a10, a11⟩ => ⟨e0, D', X, a1.mv hal h2, a2, by rw [h1]; exact a3, a4, by rw [h1]; exact a5.mv hal h2, a6, by rw [hal.findClass]; exact a7, a8, a9, by rw [h1, h2]; exact a10, by rw [h1, h2]; exact a11⟩
namespace New4
def yN : MethodName := ⟨"java/lang/String", "<init>", "([CIILjava/lang/Void;)V"⟩
abbrev yB : ByteArray := jdk_42_method_149_code
theorem d0 : decode yB 0 = .ok (.aload_n 0, 1) := by decide +kernel
theorem d1 : decode yB 1 = .ok (.invokespecial 1, 3) := by decide +kernel
theorem d4 : decode yB 4 = .ok (.iload_n 3, 1) := by decide +kernel
theorem d5 : decode yB 5 = .ok (.ifCond (.ne) 22, 3) := by decide +kernel
theorem d27 : decode yB 27 = .ok (.getstatic 38, 3) := by decide +kernel
theorem d30 : decode yB 30 = .ok (.ifCond (.eq) 28, 3) := by decide +kernel
theorem d33 : decode yB 33 = .ok (.aload_n 1, 1) := by decide +kernel
theorem d34 : decode yB 34 = .ok (.iload_n 2, 1) := by decide +kernel
theorem d35 : decode yB 35 = .ok (.iload_n 3, 1) := by decide +kernel
theorem d36 : decode yB 36 = .ok (.invokestatic 177, 3) := by decide +kernel
theorem d39 : decode yB 39 = .ok (.astore 5, 2) := by decide +kernel
theorem d41 : decode yB 41 = .ok (.aload_n 0, 1) := by decide +kernel
theorem d42 : decode yB 42 = .ok (.aload 5, 2) := by decide +kernel
theorem d44 : decode yB 44 = .ok (.iload_n 3, 1) := by decide +kernel
theorem d45 : decode yB 45 = .ok (.invokestatic 47, 3) := by decide +kernel
theorem d48 : decode yB 48 = .ok (.putfield 15, 3) := by decide +kernel
theorem d51 : decode yB 51 = .ok (.aload_n 0, 1) := by decide +kernel
theorem d52 : decode yB 52 = .ok (.aload 5, 2) := by decide +kernel
theorem d54 : decode yB 54 = .ok (.putfield 9, 3) := by decide +kernel
theorem d57 : decode yB 57 = .ok (.return_, 1) := by decide +kernel
def site : List Cond := [.fieldLink "java/lang/String" 38 "java/lang/String" "COMPACT_STRINGS" "Z", Cmp3.tab, CodL.tab, .laysFinal "java/lang/String" "java/lang/String" "value" "[B", .fieldLink "java/lang/String" 9 "java/lang/String" "value" "[B", .laysFinal "java/lang/String" "java/lang/String" "coder" "B", .fieldLink "java/lang/String" 15 "java/lang/String" "coder" "B"] ++ objW "java/lang/String" 1 ++ staticW "java/lang/String" 177 Cmp3.yN ++ staticW "java/lang/String" 47 CodL.yN
def tab : Cond := tabOf yN yB 6 none site
def P (a : Addr) (D : Cell) (fV fC : Field) (b : Addr) (A : Cell) (z : Int32) (o len : Nat) (args : Array Value) (s : State) : Prop := args = #[.ref a, .ref b, .int (Int32.ofNat o), .int (Int32.ofNat len), .null] ∧ Blank "java/lang/String" a D s ∧ Found "java/lang/String" "value" "[B" fV s ∧ Found "java/lang/String" "coder" "B" fC s ∧ Ch b A s ∧ StaticIs s "java/lang/String" "COMPACT_STRINGS" "Z" (.int z) ∧ ¬ z = 0 ∧ 0 < len ∧ o + len ≤ A.slots.size ∧ len ≤ 536870912 ∧ ∀ i, i < len → ¬ 255 < cv A (o + i)
def E (a : Addr) (D : Cell) (fV fC : Field) (A : Cell) (o len : Nat) (r : Option Value) (s u : State) : Prop := Got a D fV fC A o len r s u
/-- len > 0, no char of the range above 255: a Latin-1 String of their low bytes -/
theorem law (l : Launch) (a : Addr) (D : Cell) (fV fC : Field) (b : Addr) (A : Cell) (z : Int32) (o len : Nat) : Law l yN 5 4 2 35 yB 6 none site (P a D fV fC b A z o len) (E a D fV fC A o len) [⟨a, fC.slot⟩, ⟨a, fV.slot⟩] 1 len := by
  refine Law.of_walk (plainFor_of_name (by decide +kernel)) (by decide +kernel) (by decide +kernel) (by decide) (fun _ _ h => by rw [h.1]; rfl) (fun _ U U' hal hh h => ⟨h.1, h.2.1.mv hal hh, h.2.2.1.al hal, h.2.2.2.1.al hal, h.2.2.2.2.1.mv hal hh, h.2.2.2.2.2.1.there hal hh, h.2.2.2.2.2.2⟩) (fun r U U' V V' h1 hal h2 h => Got.mv r U U' V V' h1 hal h2 h) ?_
  intro p e s m args below meth c s₁ X0 hexec hbytes hml hret hlk hnm hown hh0 W hP
  obtain ⟨rfl, hB, f1, f2, hA, s1, hz, l0, l1, l2, hp⟩ := hP
  have a31 := hA.1.2.2.2
  have c1 : Steps p.tables e below (s₁.setTop (entryFrame m #[.ref a, .ref b, .int (Int32.ofNat o), .int (Int32.ofNat len), .null] 6)) (s₁.setTop (mkF m 0 #[.val (.ref a), .val (.ref b), .val (.int (Int32.ofNat o)), .val (.int (Int32.ofNat len)), .val .null, .unset] [])) := entry rfl
  have c2 : Steps p.tables e below (s₁.setTop (entryFrame m #[.ref a, .ref b, .int (Int32.ofNat o), .int (Int32.ofNat len), .null] 6)) (s₁.setTop (mkF m 1 #[.val (.ref a), .val (.ref b), .val (.int (Int32.ofNat o)), .val (.int (Int32.ofNat len)), .val .null, .unset] [.ref a])) := c1.trans (by
    refine XS.aloadN X0.here hexec rfl (hb hbytes d0) rfl rfl ?_
    exact Steps.refl _)
  obtain ⟨T3, X3, q3, st3⟩ := X0.oinit hexec hown (wks W (objW "java/lang/String" 1)) (g := (mkF m 1 #[.val (.ref a), .val (.ref b), .val (.int (Int32.ofNat o)), .val (.int (Int32.ofNat len)), .val .null, .unset] [.ref a])) rfl (by rw [hml]; rfl) (rest := []) rfl (hb hbytes d1) (W := 0) (by show 2 * 0 + 0 ≤ _; decide) (Nat.le_of_ble_eq_true rfl) (Nat.le_of_ble_eq_true rfl)
  have hh3 := q3.trans hh0
  have c4 : Steps p.tables e below (s₁.setTop (entryFrame m #[.ref a, .ref b, .int (Int32.ofNat o), .int (Int32.ofNat len), .null] 6)) (T3.setTop (mkF m 27 #[.val (.ref a), .val (.ref b), .val (.int (Int32.ofNat o)), .val (.int (Int32.ofNat len)), .val .null, .unset] [])) := (c2.trans (st3 _ (Steps.refl _))).trans (by
    refine XS.iloadN X3.here hexec rfl (hb hbytes d4) rfl ?_
    refine XS.ifYes X3.here hexec rfl (pc0 := 5) rfl (hb hbytes d5) rfl (i0_ne_t (nz32 (by omega) l0)) (by decide) rfl ?_
    exact Steps.refl _)
  obtain ⟨T5, X5, q5, st5⟩ := X3.sget hexec hown (wk W (.fieldLink "java/lang/String" 38 "java/lang/String" "COMPACT_STRINGS" "Z")) s1 (fun _ _ h => by rw [hh3]; exact h) (g := (mkF m 27 #[.val (.ref a), .val (.ref b), .val (.int (Int32.ofNat o)), .val (.int (Int32.ofNat len)), .val .null, .unset] [])) rfl (hb hbytes d27)
  have hh5 := q5.trans hh3
  have c6 : Steps p.tables e below (s₁.setTop (entryFrame m #[.ref a, .ref b, .int (Int32.ofNat o), .int (Int32.ofNat len), .null] 6)) (T5.setTop (mkF m 30 #[.val (.ref a), .val (.ref b), .val (.int (Int32.ofNat o)), .val (.int (Int32.ofNat len)), .val .null, .unset] [.int z])) := c4.trans (st5 _ (Steps.refl _))
  have c7 : Steps p.tables e below (s₁.setTop (entryFrame m #[.ref a, .ref b, .int (Int32.ofNat o), .int (Int32.ofNat len), .null] 6)) (T5.setTop (mkF m 36 #[.val (.ref a), .val (.ref b), .val (.int (Int32.ofNat o)), .val (.int (Int32.ofNat len)), .val .null, .unset] [.int (Int32.ofNat len), .int (Int32.ofNat o), .ref b])) := c6.trans (by
    refine XS.ifNo X5.here hexec rfl (hb hbytes d30) rfl (i0_eq_f hz) ?_
    refine XS.aloadN X5.here hexec rfl (hb hbytes d33) rfl rfl ?_
    refine XS.iloadN X5.here hexec rfl (hb hbytes d34) rfl ?_
    refine XS.iloadN X5.here hexec rfl (hb hbytes d35) rfl ?_
    exact Steps.refl _)
  obtain ⟨v8, T8, X8, E8, g8⟩ := X5.callS hexec (Cmp3.law l b A o len) hown (wks W (staticW "java/lang/String" 177 Cmp3.yN)) (wk W Cmp3.tab) (W := 0) (Nat.le_of_ble_eq_true rfl) (Nat.le_of_ble_eq_true rfl) (Nat.le_refl _) (by show 0 + len ≤ len; omega) (g := (mkF m 36 #[.val (.ref a), .val (.ref b), .val (.int (Int32.ofNat o)), .val (.int (Int32.ofNat len)), .val .null, .unset] [.int (Int32.ofNat len), .int (Int32.ofNat o), .ref b])) rfl (by rw [hml]; rfl) c7 (argsL := [.ref b, .int (Int32.ofNat o), .int (Int32.ofNat len)]) (rest := []) rfl rfl (by show 2 * 0 + 0 ≤ _; decide) (hb hbytes d36) (⟨rfl, hA.mv X5.warmed.alike hh5, l1, l2, hp⟩)
  obtain ⟨e8, z8⟩ := E8
  obtain ⟨rfl, N, n1, n2, n3, n4, n5, n6⟩ := NewArr.mv _ T5 s _ _ hh5.symm (Vm.Alike.refl _) rfl e8
  rw [hh5] at z8
  have hB1 := hB.keep X8.warmed.alike (n6 _ _ hB.1)
  have hne : s.heap.size ≠ a := (Nat.ne_of_lt (Array.getElem?_eq_some_iff.mp hB.1).1).symm
  have c9 : Steps p.tables e below (s₁.setTop (entryFrame m #[.ref a, .ref b, .int (Int32.ofNat o), .int (Int32.ofNat len), .null] 6)) (T8.setTop (mkF m 39 #[.val (.ref a), .val (.ref b), .val (.int (Int32.ofNat o)), .val (.int (Int32.ofNat len)), .val .null, .unset] [.ref s.heap.size])) := g8
  have c10 : Steps p.tables e below (s₁.setTop (entryFrame m #[.ref a, .ref b, .int (Int32.ofNat o), .int (Int32.ofNat len), .null] 6)) (T8.setTop (mkF m 45 #[.val (.ref a), .val (.ref b), .val (.int (Int32.ofNat o)), .val (.int (Int32.ofNat len)), .val .null, .val (.ref s.heap.size)] [.int (Int32.ofNat N.slots.size), .ref s.heap.size, .ref a])) := by
    have hc : Steps p.tables e below (s₁.setTop (entryFrame m #[.ref a, .ref b, .int (Int32.ofNat o), .int (Int32.ofNat len), .null] 6)) (T8.setTop (mkF m 45 #[.val (.ref a), .val (.ref b), .val (.int (Int32.ofNat o)), .val (.int (Int32.ofNat len)), .val .null, .val (.ref s.heap.size)] [.int (Int32.ofNat len), .ref s.heap.size, .ref a])) := c9.trans (by
      refine XS.astore X8.here hexec rfl (hb hbytes d39) rfl rfl rfl ?_
      refine XS.aloadN X8.here hexec rfl (hb hbytes d41) rfl rfl ?_
      refine XS.aload X8.here hexec rfl (hb hbytes d42) rfl rfl ?_
      refine XS.iloadN X8.here hexec rfl (hb hbytes d44) rfl ?_
      exact Steps.refl _)
    rw [n4]; exact hc
  obtain ⟨v11, T11, X11, E11, g11⟩ := X8.callS hexec (CodL.law l s.heap.size N) hown (wks W (staticW "java/lang/String" 47 CodL.yN)) (wk W CodL.tab) (W := 1) (Nat.le_of_ble_eq_true rfl) (Nat.le_of_ble_eq_true rfl) (Nat.le_refl _) (by show 0 + len + 0 ≤ len; omega) (g := (mkF m 45 #[.val (.ref a), .val (.ref b), .val (.int (Int32.ofNat o)), .val (.int (Int32.ofNat len)), .val .null, .val (.ref s.heap.size)] [.int (Int32.ofNat N.slots.size), .ref s.heap.size, .ref a])) rfl (by rw [hml]; rfl) c10 (argsL := [.ref s.heap.size, .int (Int32.ofNat N.slots.size)]) (rest := [.ref a]) rfl rfl (by show 2 * 0 + (1 + 0) ≤ _; decide) (hb hbytes d45) (⟨rfl, n1⟩)
  obtain ⟨rfl, q11⟩ := E11
  have hB11 := hB1.mv (X8.warmed.alike.symm.trans X11.warmed.alike) q11
  have c12 : Steps p.tables e below (s₁.setTop (entryFrame m #[.ref a, .ref b, .int (Int32.ofNat o), .int (Int32.ofNat len), .null] 6)) (T11.setTop (mkF m 48 #[.val (.ref a), .val (.ref b), .val (.int (Int32.ofNat o)), .val (.int (Int32.ofNat len)), .val .null, .val (.ref s.heap.size)] [.int 0, .ref a])) := g11
  obtain ⟨T13, X13, p13, bl13, sl13, st13⟩ := X11.finit hexec hown (wk W (.fieldLink "java/lang/String" 15 "java/lang/String" "coder" "B")) (Or.inr ⟨_, (wk W (.laysFinal "java/lang/String" "java/lang/String" "coder" "B"))⟩) (Or.inl ⟨rfl, hnm⟩) f2 (Or.inl rfl) hB11 (t := .byte) (by decide +kernel) rfl (g := (mkF m 48 #[.val (.ref a), .val (.ref b), .val (.int (Int32.ofNat o)), .val (.int (Int32.ofNat len)), .val .null, .val (.ref s.heap.size)] [.int 0, .ref a])) rfl (rest := []) rfl (hb hbytes d48)
  have c14 : Steps p.tables e below (s₁.setTop (entryFrame m #[.ref a, .ref b, .int (Int32.ofNat o), .int (Int32.ofNat len), .null] 6)) (T13.setTop (mkF m 54 #[.val (.ref a), .val (.ref b), .val (.int (Int32.ofNat o)), .val (.int (Int32.ofNat len)), .val .null, .val (.ref s.heap.size)] [.ref s.heap.size, .ref a])) := (c12.trans (st13 _ (Steps.refl _))).trans (by
    refine XS.aloadN X13.here hexec rfl (hb hbytes d51) rfl rfl ?_
    refine XS.aload X13.here hexec rfl (hb hbytes d52) rfl rfl ?_
    exact Steps.refl _)
  obtain ⟨T15, X15, p15, bl15, sl15, st15⟩ := X13.finit hexec hown (wk W (.fieldLink "java/lang/String" 9 "java/lang/String" "value" "[B")) (Or.inr ⟨_, (wk W (.laysFinal "java/lang/String" "java/lang/String" "value" "[B"))⟩) (Or.inl ⟨rfl, hnm⟩) f1 (Or.inl rfl) bl13 (t := (.array .byte)) (by decide +kernel) rfl (g := (mkF m 54 #[.val (.ref a), .val (.ref b), .val (.int (Int32.ofNat o)), .val (.int (Int32.ofNat len)), .val .null, .val (.ref s.heap.size)] [.ref s.heap.size, .ref a])) rfl (rest := []) rfl (hb hbytes d54)
  have c16 : Steps p.tables e below (s₁.setTop (entryFrame m #[.ref a, .ref b, .int (Int32.ofNat o), .int (Int32.ofNat len), .null] 6)) (T15.setTop (mkF m 57 #[.val (.ref a), .val (.ref b), .val (.int (Int32.ofNat o)), .val (.int (Int32.ofNat len)), .val .null, .val (.ref s.heap.size)] [])) := c14.trans (st15 _ (Steps.refl _))
  have ap := apart (Or.inr ⟨_, (wk W (.laysFinal "java/lang/String" "java/lang/String" "value" "[B"))⟩) (Or.inr ⟨_, (wk W (.laysFinal "java/lang/String" "java/lang/String" "coder" "B"))⟩) f1 f2 (t₁ := .array .byte) (t₂ := .byte) (by decide +kernel) (by decide +kernel) (by decide)
  have al := X8.warmed.alike.symm.trans X15.warmed.alike
  have n7 : T11.heap[s.heap.size]? = some N := by rw [q11]; exact n1.1
  exact ⟨T15, none, _, _, _, X15, by simp, rfl, by omega, (fun _ => rfl), ⟨rfl, _, N, bl15, ((Same.refl D _).set _ (by simp)).set _ (by simp), sl15, (Cell.slots_setSlot_ne _ ap).trans sl13, n1.keep al (p15.other hne (p13.other hne n7)), n2, by rw [al.findClass]; exact n3, n4, n5, fun y c h1 h2 => p15.other h1 (p13.other h1 (by rw [q11]; exact n6 y c h2)), by rw [p15.2.2, p13.2.2, q11]; exact z8⟩, fun fs hl => c16.trans (X15.returnOut hexec hret (hb hbytes d57) hl)⟩
end New4
namespace New1
def yN : MethodName := ⟨"java/lang/String", "<init>", "([C)V"⟩
abbrev yB : ByteArray := jdk_42_method_3_code
theorem d0 : decode yB 0 = .ok (.aload_n 0, 1) := by decide +kernel
theorem d1 : decode yB 1 = .ok (.aload_n 1, 1) := by decide +kernel
theorem d2 : decode yB 2 = .ok (.iconst 0, 1) := by decide +kernel
theorem d3 : decode yB 3 = .ok (.aload_n 1, 1) := by decide +kernel
theorem d4 : decode yB 4 = .ok (.arraylength, 1) := by decide +kernel
theorem d5 : decode yB 5 = .ok (.aconst_null, 1) := by decide +kernel
theorem d6 : decode yB 6 = .ok (.invokespecial 27, 3) := by decide +kernel
theorem d9 : decode yB 9 = .ok (.return_, 1) := by decide +kernel
def site : List Cond := [New4.tab] ++ initW "java/lang/String" 27 New4.yN
def tab : Cond := tabOf yN yB 2 none site
def P (a : Addr) (D : Cell) (fV fC : Field) (b : Addr) (A : Cell) (z : Int32) (args : Array Value) (s : State) : Prop := args = #[.ref a, .ref b] ∧ Blank "java/lang/String" a D s ∧ Found "java/lang/String" "value" "[B" fV s ∧ Found "java/lang/String" "coder" "B" fC s ∧ Ch b A s ∧ StaticIs s "java/lang/String" "COMPACT_STRINGS" "Z" (.int z) ∧ ¬ z = 0 ∧ 0 < A.slots.size ∧ A.slots.size ≤ 536870912 ∧ ∀ i, i < A.slots.size → ¬ 255 < cv A i
def E (a : Addr) (D : Cell) (fV fC : Field) (A : Cell) (r : Option Value) (s u : State) : Prop := Got a D fV fC A 0 A.slots.size r s u
/-- new String(chars), not empty, no char above 255: a Latin-1 String of their low bytes -/
theorem law (l : Launch) (a : Addr) (D : Cell) (fV fC : Field) (b : Addr) (A : Cell) (z : Int32) : Law l yN 2 1 3 52 yB 2 none site (P a D fV fC b A z) (E a D fV fC A) [⟨a, fC.slot⟩, ⟨a, fV.slot⟩] 1 A.slots.size := by
  refine Law.of_walk (plainFor_of_name (by decide +kernel)) (by decide +kernel) (by decide +kernel) (by decide) (fun _ _ h => by rw [h.1]; rfl) (fun _ U U' hal hh h => ⟨h.1, h.2.1.mv hal hh, h.2.2.1.al hal, h.2.2.2.1.al hal, h.2.2.2.2.1.mv hal hh, h.2.2.2.2.2.1.there hal hh, h.2.2.2.2.2.2⟩) (fun r U U' V V' h1 hal h2 h => Got.mv r U U' V V' h1 hal h2 h) ?_
  intro p e s m args below meth c s₁ X0 hexec hbytes hml hret hlk hnm hown hh0 W hP
  obtain ⟨rfl, hB, f1, f2, hA, s1, hz, l0, l2, hp⟩ := hP
  have c1 : Steps p.tables e below (s₁.setTop (entryFrame m #[.ref a, .ref b] 2)) (s₁.setTop (mkF m 0 #[.val (.ref a), .val (.ref b)] [])) := entry rfl
  have c2 : Steps p.tables e below (s₁.setTop (entryFrame m #[.ref a, .ref b] 2)) (s₁.setTop (mkF m 6 #[.val (.ref a), .val (.ref b)] [.null, .int (Int32.ofNat A.slots.size), .int 0, .ref b, .ref a])) := c1.trans (by
    refine XS.aloadN X0.here hexec rfl (hb hbytes d0) rfl rfl ?_
    refine XS.aloadN X0.here hexec rfl (hb hbytes d1) rfl rfl ?_
    refine iconstV X0.here hexec rfl 0 (hb hbytes d2) (by decide) ?_
    refine XS.aloadN X0.here hexec rfl (hb hbytes d3) rfl rfl ?_
    refine X0.alen hexec (hA.1.mv X0.warmed.alike hh0) rfl rfl (hb hbytes d4) ?_
    refine XS.aconstNull X0.here hexec rfl (hb hbytes d5) ?_
    exact Steps.refl _)
  obtain ⟨v3, T3, X3, E3, g3⟩ := X0.callN hexec (New4.law l a D fV fC b A z 0 A.slots.size) rfl hown (wks W (initW "java/lang/String" 27 New4.yN)) (W New4.tab (by simp only [site, List.mem_cons, List.mem_append, true_or, or_true])) (W := 0) (Nat.le_of_ble_eq_true rfl) (Nat.le_of_ble_eq_true rfl) (Nat.le_refl _) (by show 0 + A.slots.size ≤ A.slots.size; omega) (g := (mkF m 6 #[.val (.ref a), .val (.ref b)] [.null, .int (Int32.ofNat A.slots.size), .int (Int32.ofNat 0), .ref b, .ref a])) rfl (by rw [hml]; rfl) c2 (argsL := [.ref b, .int (Int32.ofNat 0), .int (Int32.ofNat A.slots.size), .null]) (rest := []) rfl rfl (by show 2 * 0 + 0 ≤ _; decide) (hb hbytes d6) (⟨rfl, hB.mv X0.warmed.alike hh0, f1.al X0.warmed.alike, f2.al X0.warmed.alike, hA.mv X0.warmed.alike hh0, s1.there X0.warmed.alike hh0, hz, l0, by omega, l2, fun i hi => by rw [Nat.zero_add]; exact hp i hi⟩)
  have e0 := Got.mv _ s₁ s _ _ hh0.symm (Vm.Alike.refl _) rfl E3
  obtain rfl := e0.1
  have c4 : Steps p.tables e below (s₁.setTop (entryFrame m #[.ref a, .ref b] 2)) (T3.setTop (mkF m 9 #[.val (.ref a), .val (.ref b)] [])) := g3
  exact ⟨T3, none, _, _, _, X3, by simp, rfl, by omega, (fun _ => rfl), e0, fun fs hl => c4.trans (X3.returnOut hexec hret (hb hbytes d9) hl)⟩
theorem pays {l : Launch} {R : Room} {p : Program} {e : Env} {below : List Frame} {s : State} {sargs : Array Value} {len W : Nat} (a : Addr) (D : Cell) (fV fC : Field) (b : Addr) (A : Cell) (z : Int32) (htab : tab.before sargs s = true) (hfr : 4 ≤ R.frames) (hlo : W + 65 ≤ R.locals) :
    Back l R p e below s sargs yN len W (fun A₁ a₁ => A₁.cells + 1 ≤ R.cells ∧ A₁.slots + A.slots.size ≤ R.slots ∧ P a D fV fC b A z a₁ A₁.U) (fun A₁ _ v₁ B₁ => E a D fV fC A v₁ A₁.U B₁.U ∧ B₁.locs = A₁.locs ++ [⟨a, fC.slot⟩, ⟨a, fV.slot⟩] ∧ B₁.cells = A₁.cells + 1 ∧ B₁.slots = A₁.slots + A.slots.size) :=
  (law l a D fV fC b A z).pays htab hfr (by omega)
end New1
end StrChars
namespace StrChars.Road
open Jvm Sem ClassFile Op Lib Jvm.Stand Jvm.Free Jvm.Free.XT
open Jvm.Lib.Cold (StaticIs)
abbrev ST : String := "java/lang/String"
/-- every table word that New1's law asks, flat -/
abbrev words : List Jvm.Cond := [.code New1.yN New1.yB 2 none, .initialized ST, .methodLink ST 27 New4.yN, .instanceMethod New4.yN,
  .code New4.yN New4.yB 6 none, .fieldLink ST 38 ST "COMPACT_STRINGS" "Z", .laysFinal ST ST "value" "[B", .fieldLink ST 9 ST "value" "[B", .laysFinal ST ST "coder" "B", .fieldLink ST 15 ST "coder" "B",
  .methodLink ST 1 Lib.objectInit, .instanceMethod Lib.objectInit, .code Lib.objectInit ⟨#[0xb1]⟩ 1 none, .methodLink ST 177 Cmp3.yN, .static Cmp3.yN, .methodLink ST 47 CodL.yN, .static CodL.yN,
  .code Cmp3.yN Cmp3.yB 6 (some (.array .byte)), .initialized U16, .arrayClass .byte, .methodLink U16 115 Cmp5.yN, .static Cmp5.yN, .code Cmp5.yN Cmp5.yB 7 (some .int), .code CodL.yN CodL.yB 2 (some .byte)]
theorem tab_of {a : Array Value} {s : State} (h : ∀ w ∈ words, w.before a s = true) : New1.tab.before a s = true := by
  have h5 : Cmp5.tab.before a s = true := unparts (wk h (.code Cmp5.yN Cmp5.yB 7 (some .int))) (wks h (.initialized Cmp5.yN.cls :: Cmp5.site))
  have hc : CodL.tab.before a s = true := unparts (wk h (.code CodL.yN CodL.yB 2 (some .byte))) (wks h (.initialized CodL.yN.cls :: CodL.site))
  have q5 : ∀ w ∈ Cmp5.tab :: words, w.before a s = true := fun w hw => (List.mem_cons.mp hw).elim (fun e => e ▸ h5) (h w)
  have h3 : Cmp3.tab.before a s = true := unparts (wk q5 (.code Cmp3.yN Cmp3.yB 6 (some (.array .byte)))) (wks q5 (.initialized Cmp3.yN.cls :: Cmp3.site))
  have q3 : ∀ w ∈ Cmp3.tab :: CodL.tab :: words, w.before a s = true := fun w hw => (List.mem_cons.mp hw).elim (fun e => e ▸ h3) fun hw => (List.mem_cons.mp hw).elim (fun e => e ▸ hc) (h w)
  have h4 : New4.tab.before a s = true := unparts (wk q3 (.code New4.yN New4.yB 6 none)) (wks q3 (.initialized New4.yN.cls :: New4.site))
  have q4 : ∀ w ∈ New4.tab :: words, w.before a s = true := fun w hw => (List.mem_cons.mp hw).elim (fun e => e ▸ h4) (h w)
  exact unparts (wk q4 (.code New1.yN New1.yB 2 none)) (wks q4 (.initialized New1.yN.cls :: New1.site))
/-- the words ride from the start Z to the walk's own state -/
theorem moved {Z s : State} {a0 args : Array Value} (hZ : Z.Warmed39 s.vm) (hw : ∀ d ∈ words, d.before a0 Z = true) : ∀ d ∈ words, d.before args s = true := fun d hd => by
  have q := hw d hd
  have t : ∀ d ∈ words, d = .arrayClass .byte ∨ (d.onTables && d.keepsFace) = true := by decide +kernel
  rcases t d hd with rfl | t
  · exact RoadKit.mvA hZ q
  · exact RoadKit.mv hZ q t
/-- WHAT COMES BACK, over the tables of the start Z: h the heap at the call, h' behind it -/
def Q (Z : State) (x : Addr) (A : Cell) (h : Heap) (v : Option Value) (h' : Heap) (L : List Loc) : Prop := v = none ∧ (∀ y ∈ L, y.base = x) ∧ RoadKit.Keep h h' [x] ∧ h'.size = h.size + 1 ∧ RoadKit.Exa Z h' x ST ∧ RoadKit.Fld Z h' x ST "value" "[B" (.ref h.size) ∧ RoadKit.Fld Z h' x ST "coder" "B" (.int 0) ∧
  (∃ V : Cell, RoadKit.Arr Z h' h.size V .byte ∧ V.vm = .none ∧ Z.vm.findClass "[B" = some V.cls ∧ V.slots.size = A.slots.size ∧ ∀ j, j < A.slots.size → V.slots[j]? = some (.int (lo8 (cv A j)))) ∧
  ∀ (O n d : String) (w : Value), RoadKit.Fld Z h x O n d w → RoadKit.slotOf Z O n d ≠ RoadKit.slotOf Z ST "value" "[B" → RoadKit.slotOf Z O n d ≠ RoadKit.slotOf Z ST "coder" "B" → RoadKit.Fld Z h' x O n d w
/-- **new String(chars) AT A CALL, IN THE ROAD'S FORM**: for specialBack behind newO: x the fresh String, b the char[] with the cell A -/
theorem back {p : Program} {l : Launch} {e : Env} {R : Room} {s : State} {args : Array Value} {below : List Frame} {len W : Nat} {Z : State} {a0 : Array Value} {h : Heap} (hZ : Z.Warmed39 s.vm) (hw : ∀ d ∈ words, d.before a0 Z = true) {kI : Nat} (wi : (Jvm.Cond.instantiable ST kI).before a0 Z = true)
    {x b : Addr} {A : Cell} {z : Int32} {v0 c0 : Value} (E : RoadKit.Exa Z h x ST) (V : RoadKit.Fld Z h x ST "value" "[B" v0) (C : RoadKit.Fld Z h x ST "coder" "B" c0) (K : RoadKit.Arr Z h b A .char) (hty : Typed .char A) (S : RoadKit.Sta Z h ST "COMPACT_STRINGS" "Z" (.int z)) (hz : ¬ z = 0)
    (l0 : 0 < A.slots.size) (l2 : A.slots.size ≤ 536870912) (hp : ∀ i, i < A.slots.size → ¬ 255 < cv A i) (hfr : 4 ≤ R.frames) (hlo : W + 65 ≤ R.locals) :
    Back l R p e below s args New1.yN len W (fun P a => a = #[.ref x, .ref b] ∧ P.U.heap = h ∧ P.cells + 1 ≤ R.cells ∧ P.slots + A.slots.size ≤ R.slots)
      (fun P _ v B => ∃ L, Q Z x A h v B.U.heap L ∧ B.locs = P.locs ++ L ∧ B.cells = P.cells + 1 ∧ B.slots = P.slots + A.slots.size) := by
  intro m meth c P g ig mk a X hg hsize hdg hW hn hp'
  obtain ⟨rfl, rfl, r1, r2⟩ := hp'
  have al : Z.vm.Alike P.U.vm := hZ.alike.trans X.warmed.alike
  obtain ⟨D, cfV, kV, iV, fV, hD, gV, stV, knV, obV, asV, slV⟩ := id V
  obtain ⟨D', cfC, kC, iC, fC, hD', gC, stC, -, -, asC, slC⟩ := id C
  cases hD.symm.trans hD'
  obtain ⟨D2, kD, e1, e2, e3, e4, e5⟩ := id E
  cases hD.symm.trans e1
  obtain ⟨c2, k2, i1, i2, i3, -⟩ := Cond.instantiable_spec wi
  cases e2.symm.trans i1
  cases e3.symm.trans i2
  obtain ⟨kU, u1, u2⟩ := al.2.2 _ _ e3
  have hB : Blank ST x D P.U := ⟨hD, ⟨knV, fun q hq => by rw [hq] at obV; cases obV⟩, by rw [al.findClass]; exact e2, kU, u1, by rw [u2]; exact i3, by rw [u2]; exact e5 i3⟩
  have F1 : Found ST "value" "[B" fV P.U := ⟨SBG.found_only al ⟨cfV, kV, iV, gV⟩, stV⟩
  have F2 : Found ST "coder" "B" fC P.U := ⟨SBG.found_only al ⟨cfC, kC, iC, gC⟩, stC⟩
  have hA : Ch b A P.U := ⟨⟨K.1, State.isArrayOf_alike al K.2.1, K.2.2, by omega⟩, hty⟩
  have hS : StaticIs P.U ST "COMPACT_STRINGS" "Z" (.int z) := by
    obtain ⟨cfS, iS, kS, fS, st, cS, t1, t2, t3, t4, t5, t6, t7⟩ := S
    exact StaticIs.there (s := { Z with heap := P.U.heap }) ⟨cfS, iS, kS, fS, st, cS, t1, t2, t3, t4, t5, (fun q => by rw [q] at t6; cases t6), t7⟩ al rfl
  obtain ⟨v, B, X', ⟨⟨hv, E', V', q1, q2, q3, q4, q5, q6, q7, q8, q9, q10, q11⟩, hl, hc, hs⟩, st⟩ := New1.pays x D fV fC b A z (tab_of (moved hZ hw)) hfr hlo m meth c P g ig mk _ X hg hsize hdg hW hn ⟨r1, r2, rfl, hB, F1, F2, hA, hS, hz, l0, l2, hp⟩
  have al' : Z.vm.Alike B.U.vm := hZ.alike.trans X'.warmed.alike
  have hsz : E'.slots.size = D.slots.size := by
    obtain ⟨-, -, -, kB, w1, w2, w3⟩ := q1
    obtain ⟨kB', y1, y2⟩ := al'.2.2 _ _ e3
    rw [q2.2.1] at w1
    cases w1.symm.trans y1
    rw [w3, e5 i3, y2]
  refine ⟨v, B, X', ⟨_, ⟨hv, ?_, ⟨by omega, fun y cy hy hn' => q10 y cy (by simpa using hn') hy, fun y cy hy => ?_⟩, q11, ⟨E', _, q1.1, by rw [q2.2.1]; exact e2, by rw [q2.2.1]; exact e3, by rw [q2.1]; exact obV, fun _ => by rw [hsz]; exact e5 i3⟩,
    ⟨E', cfV, kV, iV, fV, q1.1, gV, stV, by rw [q2.1]; exact knV, by rw [q2.1]; exact obV, by rw [q2.2.1]; exact asV, q3⟩, ⟨E', cfC, kC, iC, fC, q1.1, gC, stC, by rw [q2.1]; exact knV, by rw [q2.1]; exact obV, by rw [q2.2.1]; exact asC, q4⟩,
    ⟨V', ⟨q5.1, State.isArrayOf_alike al'.symm q5.2.1, q5.2.2.1⟩, q6, by rw [← al'.findClass]; exact q7, q8, fun j hj => by have := q9 j hj; rwa [Nat.zero_add] at this⟩, fun O n d w F n1 n2 => ?_⟩, hl, hc, hs⟩, st⟩
  · intro y hy
    simp only [List.mem_cons, List.not_mem_nil, or_false] at hy
    rcases hy with rfl | rfl <;> rfl
  · by_cases q : y = x
    · subst q
      cases hD.symm.trans hy
      exact ⟨E', q1.1, q2.2.1, q2.1, hsz⟩
    · exact ⟨cy, q10 y cy q hy, rfl, rfl, rfl⟩
  · obtain ⟨D3, cf, k, i, f, g1, g2, g3, g4, g5, g6, g7⟩ := F
    cases hD.symm.trans g1
    simp only [RoadKit.slotOf, g2, gV, gC, Option.map_some, Option.getD_some] at n1 n2
    exact ⟨E', cf, k, i, f, q1.1, g2, g3, by rw [q2.1]; exact g4, by rw [q2.1]; exact g5, by rw [q2.2.1]; exact g6, by rw [q2.2.2 f.slot (by simp [n1, n2])]; exact g7⟩
end StrChars.Road
namespace StrChars.Road
open Jvm Sem ClassFile Op Lib Jvm.Stand Jvm.Free Jvm.Free.XT
/-- WHAT COMES BACK, the byte[] as a list of values -/
def QA (Z : State) (x : Addr) (zn : Int32) (cs : List Int32) (h : Heap) (v : Option Value) (h' : Heap) (L : List Loc) : Prop := v = none ∧ (∀ y ∈ L, y.base = x) ∧ RoadKit.Keep h h' [x] ∧ h'.size = h.size + 1 ∧ RoadKit.Exa Z h' x ST ∧ RoadKit.Fld Z h' x ST "value" "[B" (.ref h.size) ∧ RoadKit.Fld Z h' x ST "coder" "B" (.int 0) ∧
  (∃ kb, Z.vm.findClass "[B" = some kb ∧ RoadKit.Arv Z h' h.size kb .byte zn (cs.map fun c => .int (lo8 c)) (.int 0)) ∧
  ∀ (O n d : String) (w : Value), RoadKit.Fld Z h x O n d w → RoadKit.slotOf Z O n d ≠ RoadKit.slotOf Z ST "value" "[B" → RoadKit.slotOf Z O n d ≠ RoadKit.slotOf Z ST "coder" "B" → RoadKit.Fld Z h' x O n d w
/-- **new String(chars) AT A CALL, THE ARRAYS AS LISTS**: the char[] at b holds cs, not empty, no char above 255 -/
theorem backArv {p : Program} {l : Launch} {e : Env} {R : Room} {s : State} {args : Array Value} {below : List Frame} {len W : Nat} {Z : State} {a0 : Array Value} {h : Heap} (hZ : Z.Warmed39 s.vm) (hw : ∀ d ∈ words, d.before a0 Z = true) {kI : Nat} (wi : (Jvm.Cond.instantiable ST kI).before a0 Z = true)
    {x b : Addr} {k : ClassId} {zn z : Int32} {cs : List Int32} {dv v0 c0 : Value} (E : RoadKit.Exa Z h x ST) (V : RoadKit.Fld Z h x ST "value" "[B" v0) (C : RoadKit.Fld Z h x ST "coder" "B" c0) (K : RoadKit.Arv Z h b k .char zn (cs.map Value.int) dv) (S : RoadKit.Sta Z h ST "COMPACT_STRINGS" "Z" (.int z)) (hz : ¬ z = 0)
    (hlen : zn.toNatClampNeg = cs.length) (h0 : 0 < cs.length) (hbig : cs.length ≤ 536870912) (hall : ∀ c ∈ cs, ¬ 255 < c) (hfr : 4 ≤ R.frames) (hlo : W + 65 ≤ R.locals) :
    Back l R p e below s args New1.yN len W (fun P a => a = #[.ref x, .ref b] ∧ P.U.heap = h ∧ P.cells + 1 ≤ R.cells ∧ P.slots + cs.length ≤ R.slots)
      (fun P _ v B => ∃ L, QA Z x zn cs h v B.U.heap L ∧ B.locs = P.locs ++ L ∧ B.cells = P.cells + 1 ∧ B.slots = P.slots + cs.length) := by
  obtain ⟨A, K1, K2, K3, K4, K5, K6⟩ := K
  have e : A.slots.size = cs.length := K3.trans hlen
  have hat : ∀ (i : Nat) (hi : i < cs.length), A.slots[i]? = some (.int cs[i]) := fun i hi => by rw [K5 i (by omega)]; simp [List.getD_eq_getElem?_getD, hi]
  have hcv : ∀ (i : Nat) (hi : i < cs.length), cv A i = cs[i] := fun i hi => by unfold cv; rw [hat i hi]
  have hty : Typed .char A := fun i v hv => by
    have hi : i < A.slots.size := (Array.getElem?_eq_some_iff.mp hv).1
    have q := K5 i hi
    rw [hv] at q
    rw [Option.some.inj q]
    exact K6 i hi
  refine Back.mono (back hZ hw wi E V C K1 hty S hz (by omega) (by omega) (fun i hi => by rw [hcv i (by omega)]; exact hall _ (List.getElem_mem _)) hfr hlo) (fun P a hp => ⟨hp.1, hp.2.1, hp.2.2.1, by rw [e]; exact hp.2.2.2⟩) (fun P a v B hp hq => ?_)
  obtain ⟨L, ⟨q1, q2, q3, q4, q5, q6, q7, ⟨V', v1, v2, v3, v4, v5⟩, q9⟩, hl, hc, hs⟩ := hq
  refine ⟨L, ⟨q1, q2, q3, q4, q5, q6, q7, ⟨V'.cls, v3, V', v1, rfl, by rw [v4, e, hlen], K4, fun i hi => ?_, fun i hi => ?_⟩, q9⟩, hl, hc, by rw [hs, e]⟩
  · have hi' : i < cs.length := by omega
    rw [v5 i (by omega), hcv i hi']; simp [List.getD_eq_getElem?_getD, hi']
  · have hi' : i < cs.length := by omega
    simp only [List.getD_eq_getElem?_getD, List.getElem?_map, List.getElem?_eq_getElem hi', Option.map_some, Option.getD_some]
    exact fits_lo8 _
end StrChars.Road
namespace StrChars.Road
open Jvm Sem ClassFile Op Lib Jvm.Stand Jvm.Free Jvm.Free.XT
/-- WHAT COMES BACK, in the writer's own shape -/
def QV (Z : State) (x : Addr) (N : Int32) (bs : List Int32) (h : Heap) (n0 : Nat) (v : Option Value) (h' : Heap) (L : List Loc) : Prop := v = none ∧ RoadKit.Fr n0 L ∧ RoadKit.Keep h h' [x] ∧ RoadKit.Exa Z h' x ST ∧ RoadKit.Fld Z h' x ST "coder" "B" (.int 0) ∧
  ∃ (t : Addr) (kb : ClassId), n0 ≤ t ∧ h.size ≤ t ∧ ¬ t = x ∧ RoadKit.Fld Z h' x ST "value" "[B" (.ref t) ∧ RoadKit.Arv Z h' t kb .byte N (bs.map Value.int) (.int 0)
/-- **new String(chars) AT A CALL, FOR THE WRITER**: a char[] of n known ints, each 0 to 255 -/
theorem backV {p : Program} {l : Launch} {e : Env} {R : Room} {s : State} {args : Array Value} {below : List Frame} {len W : Nat} {Z : State} {a0 : Array Value} {h : Heap} (hZ : Z.Warmed39 s.vm) (hw : ∀ d ∈ words, d.before a0 Z = true) {kI : Nat} (wi : (Jvm.Cond.instantiable ST kI).before a0 Z = true)
    {x b : Addr} {kC : ClassId} {cs bs : List Int32} {d v0 c0 : Value} {z N : Int32} {n n0 : Nat} (hx0 : n0 ≤ x) (hh0 : n0 ≤ h.size) (E : RoadKit.Exa Z h x ST) (V : RoadKit.Fld Z h x ST "value" "[B" v0) (C : RoadKit.Fld Z h x ST "coder" "B" c0) (K : RoadKit.Arv Z h b kC .char N (cs.map Value.int) d) (S : RoadKit.Sta Z h ST "COMPACT_STRINGS" "Z" (.int z)) (hz : ¬ z = 0)
    (hn : cs.length = n) (hN : N = Int32.ofNat n) (l0 : 0 < n) (l2 : n ≤ 4000) (hp : ∀ c ∈ cs, ¬ c < 0 ∧ ¬ (255 : Int32) < c) (hb : bs = cs.map (fun c => c.toInt8.toInt32)) (hfr : 4 ≤ R.frames) (hlo : W + 65 ≤ R.locals) :
    Back l R p e below s args (⟨"java/lang/String", "<init>", "([C)V"⟩ : MethodName) len W (fun P a => a = #[.ref x, .ref b] ∧ P.U.heap = h ∧ P.cells + 1 ≤ R.cells ∧ P.slots + n ≤ R.slots)
      (fun P _ v B => ∃ L, QV Z x N bs h n0 v B.U.heap L ∧ B.locs = P.locs ++ L ∧ B.cells = P.cells + 1 ∧ B.slots = P.slots + n) := by
  subst hn hN hb
  refine Back.mono (backArv hZ hw wi E V C K S hz (n32 (by omega)) l0 (by omega) (fun c hc => (hp c hc).2) hfr hlo) (fun P a hp => hp) (fun P a v B hp hq => ?_)
  obtain ⟨L, ⟨q1, q2, q3, q4, q5, q6, q7, ⟨kb, v1, v2⟩, q9⟩, hl, hc, hs⟩ := hq
  exact ⟨L, ⟨q1, fun y hy => by rw [q2 y hy]; exact hx0, q3, q5, q7, h.size, kb, hh0, Nat.le_refl _, Nat.ne_of_gt E.lt, q6, by rw [List.map_map]; exact v2⟩, hl, hc, hs⟩
end StrChars.Road
end Jvm.Pilot.@@N@@

namespace Jvm.Pilot.@@N@@
open Jvm Jvm.ClassFile Sem Op Lib Jvm.Free Jvm.Stand Jvm.LawKit Jvm.RoadKit Bundle Jvm.Pilot.@@N@@.Jvm.D
section Own
variable {p : Program} {l : Launch} {e : Env} {R : Room} {s : State} {m : MethodId} {args : Array Value} {below : List Frame} {meth : Method} {c : Code} {T : State} {locs : List Loc} {cells slots : Nat}
theorem own_retI (X : Stand p l e R s m args below meth c T locs cells slots) (hx : p.tables.exec = Jvm.exec) {pc : Nat} {Ls : Array Slot} {z : Int32} {rest : List Value} (hret : meth.sig.returnType = some .int) (hd : decode c.code pc = .ok (.ireturn, 1)) {fs : List Frame}
    (hl : ∀ (f : JFrame) (acts : List Action), f.method = m → f.locked = none → f.entered = [] → (doReturn e (T.setTop f) acts (some (.int z))).1 = T.setFrames fs) : Steps p.tables e below (T.setTop (mkF m pc Ls (.int z :: rest))) (T.setFrames fs) := by
  have hm' : T.vm.method? m = some meth := X.method'
  have hn : narrow .int (.int z) = .int z := rfl
  show Steps p.tables e below (T.setTop { method := m, pc := pc, locals := Ls, stack := _ :: rest, locked := none }) _
  jvm_step X.here [X.here.top, hx, hd, hm', hret, hn]
  first | (intro acts; rw [hl _ acts rfl rfl rfl]) | rw [hl _ _ rfl rfl rfl]
  exact Steps.refl _
/-- from the state S the invocation comes to an end at which Post holds -/
def own_Go (p : Program) (e : Env) (below : List Frame) (Post : Outcome → State → Prop) (S : State) : Prop := ∃ s₂ o, Steps p.tables e below S s₂ ∧ s₂.status = .running ∧ Ended s₂ below o ∧ Post o s₂
theorem own_Go.of {Post : Outcome → State → Prop} {S S' : State} (k : ∀ target, Steps p.tables e below S' target → Steps p.tables e below S target) (h : own_Go p e below Post S') : own_Go p e below Post S := by
  obtain ⟨s₂, o, h1, h2⟩ := h
  exact ⟨s₂, o, k _ h1, h2⟩
theorem own_Go.tr {Post : Outcome → State → Prop} {S S' : State} (k : Steps p.tables e below S S') (h : own_Go p e below Post S') : own_Go p e below Post S := by
  obtain ⟨s₂, o, h1, h2⟩ := h
  exact ⟨s₂, o, k.trans h1, h2⟩
theorem own_retP (X : Stand p l e R s m args below meth c T locs cells slots) {v : Option Value} {Q : Option Value → Heap → List Loc → Prop} {C S : Nat} {g : JFrame} (hv : meth.sig.returnType = none → v = none) (hlk : meth.locks = false)
    (st : ∀ fs, (∀ (f : JFrame) (acts : List Action), f.method = m → f.locked = none → f.entered = [] → (doReturn e (T.setTop f) acts v).1 = T.setFrames fs) → Steps p.tables e below (T.setTop g) (T.setFrames fs)) (hc : cells ≤ C) (hs : slots ≤ S) (hQ : Q v T.heap locs) :
    own_Go p e below (fun o U' => ∃ v L, o = .returned v ∧ Q v U'.heap L ∧ FrameEnd s o U' L C S) (T.setTop g) := by
  obtain ⟨fs, hr, hrun, hended, hW, hsame⟩ := X.leave (v := v) hv hlk
  exact ⟨_, _, st fs hr, hrun, hended, _, _, rfl, hQ, ⟨_, rfl⟩, hW, hsame.mono hc hs⟩
theorem own_nar_ref {t : FieldType} {v : Value} (h : v.isRef = true) : narrow t v = v := by
  cases v <;> first | (cases t <;> rfl) | cases h
theorem own_cP {pc : Nat} {Ls : Array Slot} {S rest : List Value} {Post : Outcome → State → Prop} {Q : Option Value → Heap → List Loc → Prop} {j n : Nat} (X : Stand p l e R s m args below meth c T locs cells slots)
    (H : ∃ (v : Option Value) (vm₁ : Vm) (B : Pt), s.WarmedH vm₁ ∧ Stand p l e R s m args below meth c B.U B.locs B.cells B.slots ∧ (∃ L, Q v B.U.heap L ∧ B.locs = locs ++ L ∧ B.cells = cells + j ∧ B.slots = slots + n) ∧ Steps p.tables e below (T.setTop (mkF m pc Ls S)) (B.U.setTop (mkF m (pc + 3) Ls (v.toList ++ rest))))
    (k : ∀ v T' L, Stand p l e R s m args below meth c T' (locs ++ L) (cells + j) (slots + n) → Q v T'.heap L → own_Go p e below Post (T'.setTop (mkF m (pc + 3) Ls (v.toList ++ rest)))) : own_Go p e below Post (T.setTop (mkF m pc Ls S)) := by
  obtain ⟨v, vm₁, ⟨T', L', c', n'⟩, -, X', ⟨L, hQ, e1, e2, e3⟩, st⟩ := H
  dsimp only [Pt.U, Pt.locs, Pt.cells, Pt.slots] at X' e1 e2 e3 st hQ
  subst e1 e2 e3
  exact own_Go.tr st (k v T' L X' hQ)
theorem own_cF {pc : Nat} {Ls : Array Slot} {S rest : List Value} {Post : Outcome → State → Prop} {Q : Option Value → Heap → List Loc → Prop} {j n : Nat} (X : Stand p l e R s m args below meth c T locs cells slots)
    (H : ∃ (v : Option Value) (vm₁ : Vm) (B : Pt), s.WarmedH vm₁ ∧ Stand p l e R s m args below meth c B.U B.locs B.cells B.slots ∧ (∃ L, Q v B.U.heap L ∧ B.locs = locs ++ L ∧ B.cells = cells + j ∧ B.slots = slots + n) ∧ ∀ target, Steps p.tables e below (B.U.setTop (mkF m (pc + 3) Ls (v.toList ++ rest))) target → Steps p.tables e below (T.setTop (mkF m pc Ls S)) target)
    (k : ∀ v T' L, Stand p l e R s m args below meth c T' (locs ++ L) (cells + j) (slots + n) → Q v T'.heap L → own_Go p e below Post (T'.setTop (mkF m (pc + 3) Ls (v.toList ++ rest)))) : own_Go p e below Post (T.setTop (mkF m pc Ls S)) := by
  obtain ⟨v, vm₁, ⟨T', L', c', n'⟩, -, X', ⟨L, hQ, e1, e2, e3⟩, st⟩ := H
  dsimp only [Pt.U, Pt.locs, Pt.cells, Pt.slots] at X' e1 e2 e3 st hQ
  subst e1 e2 e3
  exact own_Go.of st (k v T' L X' hQ)
abbrev own_MP (l : Launch) (y : MethodName) (b : ByteArray) (ml : Nat) (rt : Option FieldType) (ws : List Jvm.Cond) (R : Room) (Z : State) (h0 : Heap) (as : Array Value) (K : Program → Env → List Frame → State → Array Value → Prop) (Q : Option Value → Heap → List Loc → Prop) : Prop :=
  MetFree l y (head1 (Jvm.Cond.code y b ml rt :: ws) R) (fun a U => a = as ∧ Z.Warmed39 U.vm ∧ U.heap = h0) K (fun _ U o U' => ∃ v L, o = .returned v ∧ Q v U'.heap L ∧ FrameEnd U o U' L R.cells R.slots)
theorem own_startP {l : Launch} {y : MethodName} {b : ByteArray} {ml : Nat} {rt : Option FieldType} {ws : List Jvm.Cond} {R : Room} {Z : State} {h0 : Heap} {as : Array Value} {K : Program → Env → List Frame → State → Array Value → Prop} {Q : Option Value → Heap → List Loc → Prop} (hpn : plainFor y = true)
    (h : ∀ (p : Program) (e : Env) (s : State) (m : MethodId) (below : List Frame) (meth : Method) (c : Code) (s₁ : State), BodyLoose p l y (head1 (Jvm.Cond.code y b ml rt :: ws) R) b ml rt e s m as below meth c s₁ → p.tables.exec = Jvm.exec → c.code = b → c.maxLocals = ml → s.vm.findClass y.cls = some m.cls → Stand p l e R s m as below meth c s₁ [] 0 0 → s₁.heap = h0 → s.heap = h0 → Z.Warmed39 s.vm → K p e below s as →
      ∀ Pst : Outcome → State → Prop, Pst = (fun o U' => ∃ v L, o = .returned v ∧ Q v U'.heap L ∧ FrameEnd s o U' L R.cells R.slots) → own_Go p e below Pst (s₁.setTop (entryFrame m as ml))) : own_MP l y b ml rt ws R Z h0 as K Q := by
  refine MetFree.of_bodySF hpn hisR ?_
  intro p e s m args below meth c s₁ Bd hml0 hP hK
  obtain ⟨rfl, hZ, hh0⟩ := hP
  exact h p e s m below meth c s₁ Bd Bd.exec Bd.bytes hml0 (findClass_of_methodNamed Bd.named) (Stand.of_body Bd) (by rw [← hh0, Bd.state]; rfl) hh0 hZ hK _ rfl
end Own
section OwnS
variable {p : Program} {l : Launch} {e : Env} {R : Room} {s : State} {m : MethodId} {args : Array Value} {below : List Frame} {meth : Method} {c : Code} {T : State} {locs : List Loc} {cells slots : Nat}
theorem own_retW {Z : State} {EL : List (String × Nat)} {vm₁ : Vm} (X : Stand p l e R (s.setVm vm₁) m args below meth c T locs cells slots) {n : Nat} (hS : s.Since vm₁ n) (hn : n ≤ T.heap.size) {v : Option Value} {Q : Option Value → Heap → List Loc → Prop} {C S : Nat} {g : JFrame} (hv : meth.sig.returnType = none → v = none) (hlk : meth.locks = false)
    (st : ∀ fs, (∀ (f : JFrame) (acts : List Action), f.method = m → f.locked = none → f.entered = [] → (doReturn e (T.setTop f) acts v).1 = T.setFrames fs) → Steps p.tables e below (T.setTop g) (T.setFrames fs)) (hc : cells ≤ C) (hs : slots ≤ S) (hCH : CHr Z EL s.vm s.heap T.vm T.heap) (hQ : Q v T.heap locs) :
    own_Go p e below (fun o U' => ∃ v L, o = .returned v ∧ Q v U'.heap L ∧ CHr Z EL s.vm s.heap U'.vm U'.heap ∧ ReturnedEndW s o U' L C S) (T.setTop g) := by
  obtain ⟨fs, hr, hrun, hended, h1, h2, h3, h4⟩ := X.leaveW hS hn (v := v) hv hlk
  exact ⟨_, _, st fs hr, hrun, hended, _, _, rfl, hQ, hCH, h1, h2, h3, h4.mono hc hs⟩
theorem own_cS {Z : State} {EL : List (String × Nat)} {vm0 : Vm} {k0 : Nat} {own : String} {h : Heap} {pc : Nat} {Ls : Array Slot} {S rest : List Value} {Post : Outcome → State → Prop} {Q : Option Value → Heap → List Loc → Prop} {j n : Nat} (X : Stand p l e R (s.setVm vm0) m args below meth c T locs cells slots) (hS : s.Since vm0 k0) (hk : k0 ≤ T.heap.size) (hZ : Z.Warmed39 (s.setVm vm0).vm) (hown : (s.setVm vm0).vm.findClass own = some m.cls)
    (H : ∃ (v : Option Value) (vm₁ : Vm) (B : Pt), (s.setVm vm0).WarmedH vm₁ ∧ Stand p l e R ((s.setVm vm0).setVm B.U.vm) m args below meth c B.U B.locs B.cells B.slots ∧ (s.setVm vm0).Since B.U.vm B.U.heap.size ∧ T.heap.size ≤ B.U.heap.size ∧ (∃ L, Q v B.U.heap L ∧ B.locs = locs ++ L ∧ B.cells = cells + j ∧ B.slots = slots + n ∧ CHr Z EL vm0 h B.U.vm B.U.heap) ∧ Steps p.tables e below (T.setTop (mkF m pc Ls S)) (B.U.setTop (mkF m (pc + 3) Ls (v.toList ++ rest))))
    (k : ∀ v T' L, Stand p l e R (s.setVm T'.vm) m args below meth c T' (locs ++ L) (cells + j) (slots + n) → s.Since T'.vm T'.heap.size → Z.Warmed39 (s.setVm T'.vm).vm → (s.setVm T'.vm).vm.findClass own = some m.cls → Q v T'.heap L → CHr Z EL vm0 h T'.vm T'.heap → own_Go p e below Post (T'.setTop (mkF m (pc + 3) Ls (v.toList ++ rest)))) : own_Go p e below Post (T.setTop (mkF m pc Ls S)) := by
  obtain ⟨v, vm₁, ⟨T', L', c', n'⟩, -, X', hs, gr, ⟨L, hQ, e1, e2, e3, cr⟩, st⟩ := H
  dsimp only [Pt.U, Pt.locs, Pt.cells, Pt.slots] at X' e1 e2 e3 st hQ hs gr cr
  subst e1 e2 e3
  obtain ⟨q1, q2, q3, q4⟩ := rebS hS hk X' hs gr hZ hown
  exact own_Go.tr st (k v T' L q1 q2 q3 q4 hQ cr)
abbrev own_MS (EL : List (String × Nat)) (l : Launch) (y : MethodName) (b : ByteArray) (ml : Nat) (rt : Option FieldType) (ws : List Jvm.Cond) (R : Room) (Z : State) (h0 : Heap) (as : Array Value) (K : Program → Env → List Frame → State → Array Value → Prop) (Q : Option Value → Heap → List Loc → Prop) : Prop :=
  MetFree l y (head1 (Jvm.Cond.code y b ml rt :: ws) R) (fun a U => a = as ∧ Z.Warmed39 U.vm ∧ U.heap = h0 ∧ CHv Z EL U.vm h0) K (fun _ U o U' => ∃ v L, o = .returned v ∧ Q v U'.heap L ∧ CHr Z EL U.vm U.heap U'.vm U'.heap ∧ ReturnedEndW U o U' L R.cells R.slots)
theorem own_startS {EL : List (String × Nat)} {l : Launch} {y : MethodName} {b : ByteArray} {ml : Nat} {rt : Option FieldType} {ws : List Jvm.Cond} {R : Room} {Z : State} {h0 : Heap} {as : Array Value} {K : Program → Env → List Frame → State → Array Value → Prop} {Q : Option Value → Heap → List Loc → Prop} (hpn : plainFor y = true)
    (h : ∀ (p : Program) (e : Env) (s : State) (m : MethodId) (below : List Frame) (meth : Method) (c : Code) (s₁ : State), BodyLoose p l y (head1 (Jvm.Cond.code y b ml rt :: ws) R) b ml rt e s m as below meth c s₁ → p.tables.exec = Jvm.exec → c.code = b → c.maxLocals = ml → s.vm.findClass y.cls = some m.cls → Stand p l e R (s.setVm s.vm) m as below meth c s₁ [] 0 0 → s₁.heap = h0 → s.heap = h0 → Z.Warmed39 s.vm → CHv Z EL s.vm h0 → s.Since s.vm 0 → K p e below s as →
      ∀ Pst : Outcome → State → Prop, Pst = (fun o U' => ∃ v L, o = .returned v ∧ Q v U'.heap L ∧ CHr Z EL s.vm s.heap U'.vm U'.heap ∧ ReturnedEndW s o U' L R.cells R.slots) → own_Go p e below Pst (s₁.setTop (entryFrame m as ml))) : own_MS EL l y b ml rt ws R Z h0 as K Q := by
  refine MetFree.of_bodySF hpn hisR ?_
  intro p e s m args below meth c s₁ Bd hml0 hP hK
  obtain ⟨rfl, hZ, hh0, hCH⟩ := hP
  exact h p e s m below meth c s₁ Bd Bd.exec Bd.bytes hml0 (findClass_of_methodNamed Bd.named) (Stand.of_body Bd) (by rw [← hh0, Bd.state]; rfl) hh0 hZ hCH ((State.WarmedH.refl s).since 0) hK _ rfl
end OwnS
section OwnX
variable {p : Program} {e : Env} {m : MethodId} {below : List Frame} {c : Code} {T : State}
theorem own_x_aconstNull {pc : Nat} {Ls : Array Slot} {S : List Value} {Post : Outcome → State → Prop} (h : At T m c below) (hx : p.tables.exec = Jvm.exec) (hd : decode c.code pc = .ok (.aconst_null, 1)) (hr : own_Go p e below Post (T.setTop (mkF m (pc + 1) (Ls) (.null :: S)))) : own_Go p e below Post (T.setTop (mkF m pc Ls S)) := own_Go.of (fun t k => XS.aconstNull h hx rfl hd k) hr
theorem own_x_aload {pc : Nat} {Ls : Array Slot} {S : List Value} {Post : Outcome → State → Prop} (h : At T m c below) (hx : p.tables.exec = Jvm.exec) {k : Nat} {v : Value} (hd : decode c.code pc = .ok (.aload k, 2)) (hl : Ls[k]? = some (.val v)) (hv : v.isRef = true) (hr : own_Go p e below Post (T.setTop (mkF m (pc + 2) (Ls) (v :: S)))) : own_Go p e below Post (T.setTop (mkF m pc Ls S)) := own_Go.of (fun t k => XS.aload h hx rfl hd hl hv k) hr
theorem own_x_aloadN {pc : Nat} {Ls : Array Slot} {S : List Value} {Post : Outcome → State → Prop} (h : At T m c below) (hx : p.tables.exec = Jvm.exec) {k : Fin 4} {v : Value} (hd : decode c.code pc = .ok (.aload_n k, 1)) (hl : Ls[k.val]? = some (.val v)) (hv : v.isRef = true) (hr : own_Go p e below Post (T.setTop (mkF m (pc + 1) (Ls) (v :: S)))) : own_Go p e below Post (T.setTop (mkF m pc Ls S)) := own_Go.of (fun t k => XS.aloadN h hx rfl hd hl hv k) hr
theorem own_x_astore {pc : Nat} {Ls : Array Slot} {S : List Value} {Post : Outcome → State → Prop} (h : At T m c below) (hx : p.tables.exec = Jvm.exec) {k : Nat} {x : Value} {rest : List Value} {l' : Array Slot} (hd : decode c.code pc = .ok (.astore k, 2)) (hs : S = x :: rest) (hv : x.isRef = true) (hl : storeLocals Ls k x = some l') (hr : own_Go p e below Post (T.setTop (mkF m (pc + 2) (l') (rest)))) : own_Go p e below Post (T.setTop (mkF m pc Ls S)) := own_Go.of (fun t k => XS.astore h hx rfl hd hs hv hl k) hr
theorem own_x_astoreN {pc : Nat} {Ls : Array Slot} {S : List Value} {Post : Outcome → State → Prop} (h : At T m c below) (hx : p.tables.exec = Jvm.exec) {k : Fin 4} {x : Value} {rest : List Value} {l' : Array Slot} (hd : decode c.code pc = .ok (.astore_n k, 1)) (hs : S = x :: rest) (hv : x.isRef = true) (hl : storeLocals Ls k.val x = some l') (hr : own_Go p e below Post (T.setTop (mkF m (pc + 1) (l') (rest)))) : own_Go p e below Post (T.setTop (mkF m pc Ls S)) := own_Go.of (fun t k => XS.astoreN h hx rfl hd hs hv hl k) hr
theorem own_x_bipush {pc : Nat} {Ls : Array Slot} {S : List Value} {Post : Outcome → State → Prop} (h : At T m c below) (hx : p.tables.exec = Jvm.exec) {i : Int} (hd : decode c.code pc = .ok (.bipush i, 2)) {z : Int32} (hz : (Int8.ofInt i).toInt32 = z) (hr : own_Go p e below Post (T.setTop (mkF m (pc + 2) (Ls) (.int z :: S)))) : own_Go p e below Post (T.setTop (mkF m pc Ls S)) := by subst hz; exact own_Go.of (fun t k => XS.bipush h hx rfl hd k) hr
theorem own_x_dup {pc : Nat} {Ls : Array Slot} {S : List Value} {Post : Outcome → State → Prop} (h : At T m c below) (hx : p.tables.exec = Jvm.exec) {x : Value} {rest : List Value} (hd : decode c.code pc = .ok (.dup, 1)) (hs : S = x :: rest) (hc : x.category = 1) (hr : own_Go p e below Post (T.setTop (mkF m (pc + 1) (Ls) (x :: x :: rest)))) : own_Go p e below Post (T.setTop (mkF m pc Ls S)) := own_Go.of (fun t k => XS.dup h hx rfl hd hs hc k) hr
theorem own_x_goto {pc : Nat} {Ls : Array Slot} {S : List Value} {Post : Outcome → State → Prop} (h : At T m c below) (hx : p.tables.exec = Jvm.exec) {o : Int} {pc0 pc' : Nat} (hpc : pc = pc0) (hd : decode c.code pc = .ok (.goto o, 3)) (ho : 0 ≤ (pc0 : Int) + o) (hp : ((pc0 : Int) + o).toNat = pc') (hr : own_Go p e below Post (T.setTop (mkF m (pc') (Ls) (S)))) : own_Go p e below Post (T.setTop (mkF m pc Ls S)) := own_Go.of (fun t k => XS.goto h hx rfl hpc hd ho hp k) hr
theorem own_x_i2b {pc : Nat} {Ls : Array Slot} {S : List Value} {Post : Outcome → State → Prop} (h : At T m c below) (hx : p.tables.exec = Jvm.exec) {v : Int32} {rest : List Value} (hd : decode c.code pc = .ok (.i2b, 1)) (hs : S = .int v :: rest) (hr : own_Go p e below Post (T.setTop (mkF m (pc + 1) (Ls) (.int (v.toInt8.toInt32) :: rest)))) : own_Go p e below Post (T.setTop (mkF m pc Ls S)) := own_Go.of (fun t k => XS.i2b h hx rfl hd hs k) hr
theorem own_x_i2c {pc : Nat} {Ls : Array Slot} {S : List Value} {Post : Outcome → State → Prop} (h : At T m c below) (hx : p.tables.exec = Jvm.exec) {v : Int32} {rest : List Value} (hd : decode c.code pc = .ok (.i2c, 1)) (hs : S = .int v :: rest) (hr : own_Go p e below Post (T.setTop (mkF m (pc + 1) (Ls) (.int (v.toUInt32.toUInt16.toUInt32.toInt32) :: rest)))) : own_Go p e below Post (T.setTop (mkF m pc Ls S)) := own_Go.of (fun t k => XS.i2c h hx rfl hd hs k) hr
theorem own_x_iand {pc : Nat} {Ls : Array Slot} {S : List Value} {Post : Outcome → State → Prop} (h : At T m c below) (hx : p.tables.exec = Jvm.exec) {x y : Int32} {rest : List Value} (hd : decode c.code pc = .ok (.iand, 1)) (hs : S = .int y :: .int x :: rest) (hr : own_Go p e below Post (T.setTop (mkF m (pc + 1) (Ls) (.int (x &&& y) :: rest)))) : own_Go p e below Post (T.setTop (mkF m pc Ls S)) := own_Go.of (fun t k => XS.iand h hx rfl hd hs k) hr
theorem own_x_icmpNo {pc : Nat} {Ls : Array Slot} {S : List Value} {Post : Outcome → State → Prop} (h : At T m c below) (hx : p.tables.exec = Jvm.exec) {cd : ClassFile.Cond} {o : Int} {x y : Int32} {rest : List Value} (hd : decode c.code pc = .ok (.if_icmp cd o, 3)) (hs : S = .int y :: .int x :: rest) (hc : if_icmp.holds cd x y = false) (hr : own_Go p e below Post (T.setTop (mkF m (pc + 3) (Ls) (rest)))) : own_Go p e below Post (T.setTop (mkF m pc Ls S)) := own_Go.of (fun t k => XS.icmpNo h hx rfl hd hs hc k) hr
theorem own_x_icmpYes {pc : Nat} {Ls : Array Slot} {S : List Value} {Post : Outcome → State → Prop} (h : At T m c below) (hx : p.tables.exec = Jvm.exec) {cd : ClassFile.Cond} {x y : Int32} {rest : List Value} {o : Int} {pc0 pc' : Nat} (hpc : pc = pc0) (hd : decode c.code pc = .ok (.if_icmp cd o, 3)) (hs : S = .int y :: .int x :: rest) (hc : if_icmp.holds cd x y = true) (ho : 0 ≤ (pc0 : Int) + o) (hp : ((pc0 : Int) + o).toNat = pc') (hr : own_Go p e below Post (T.setTop (mkF m (pc') (Ls) (rest)))) : own_Go p e below Post (T.setTop (mkF m pc Ls S)) := own_Go.of (fun t k => XS.icmpYes h hx rfl hpc hd hs hc ho hp k) hr
theorem own_x_iconst {pc : Nat} {Ls : Array Slot} {S : List Value} {Post : Outcome → State → Prop} (h : At T m c below) (hx : p.tables.exec = Jvm.exec) {i : Int} (hd : decode c.code pc = .ok (.iconst i, 1)) {z : Int32} (hz : (Int32.ofInt i) = z) (hr : own_Go p e below Post (T.setTop (mkF m (pc + 1) (Ls) (.int z :: S)))) : own_Go p e below Post (T.setTop (mkF m pc Ls S)) := by subst hz; exact own_Go.of (fun t k => XS.iconst h hx rfl hd k) hr
theorem own_x_ifNo {pc : Nat} {Ls : Array Slot} {S : List Value} {Post : Outcome → State → Prop} (h : At T m c below) (hx : p.tables.exec = Jvm.exec) {cd : ClassFile.Cond} {o : Int} {x : Int32} {rest : List Value} (hd : decode c.code pc = .ok (.ifCond cd o, 3)) (hs : S = .int x :: rest) (hc : ifCond.holds cd x = false) (hr : own_Go p e below Post (T.setTop (mkF m (pc + 3) (Ls) (rest)))) : own_Go p e below Post (T.setTop (mkF m pc Ls S)) := own_Go.of (fun t k => XS.ifNo h hx rfl hd hs hc k) hr
theorem own_x_ifYes {pc : Nat} {Ls : Array Slot} {S : List Value} {Post : Outcome → State → Prop} (h : At T m c below) (hx : p.tables.exec = Jvm.exec) {cd : ClassFile.Cond} {x : Int32} {rest : List Value} {o : Int} {pc0 pc' : Nat} (hpc : pc = pc0) (hd : decode c.code pc = .ok (.ifCond cd o, 3)) (hs : S = .int x :: rest) (hc : ifCond.holds cd x = true) (ho : 0 ≤ (pc0 : Int) + o) (hp : ((pc0 : Int) + o).toNat = pc') (hr : own_Go p e below Post (T.setTop (mkF m (pc') (Ls) (rest)))) : own_Go p e below Post (T.setTop (mkF m pc Ls S)) := own_Go.of (fun t k => XS.ifYes h hx rfl hpc hd hs hc ho hp k) hr
theorem own_x_iinc {pc : Nat} {Ls : Array Slot} {S : List Value} {Post : Outcome → State → Prop} (h : At T m c below) (hx : p.tables.exec = Jvm.exec) {k : Nat} {cst : Int} {x : Int32} {l' : Array Slot} (hd : decode c.code pc = .ok (.iinc k cst, 3)) (hl : Ls[k]? = some (.val (.int x))) (hl' : storeLocals Ls k (.int (x + Int32.ofInt cst)) = some l') (hr : own_Go p e below Post (T.setTop (mkF m (pc + 3) (l') (S)))) : own_Go p e below Post (T.setTop (mkF m pc Ls S)) := own_Go.of (fun t k => XS.iinc h hx rfl hd hl hl' k) hr
theorem own_x_iload {pc : Nat} {Ls : Array Slot} {S : List Value} {Post : Outcome → State → Prop} (h : At T m c below) (hx : p.tables.exec = Jvm.exec) {k : Nat} {v : Int32} (hd : decode c.code pc = .ok (.iload k, 2)) (hl : Ls[k]? = some (.val (.int v))) (hr : own_Go p e below Post (T.setTop (mkF m (pc + 2) (Ls) (.int v :: S)))) : own_Go p e below Post (T.setTop (mkF m pc Ls S)) := own_Go.of (fun t k => XS.iload h hx rfl hd hl k) hr
theorem own_x_iloadN {pc : Nat} {Ls : Array Slot} {S : List Value} {Post : Outcome → State → Prop} (h : At T m c below) (hx : p.tables.exec = Jvm.exec) {k : Fin 4} {v : Int32} (hd : decode c.code pc = .ok (.iload_n k, 1)) (hl : Ls[k.val]? = some (.val (.int v))) (hr : own_Go p e below Post (T.setTop (mkF m (pc + 1) (Ls) (.int v :: S)))) : own_Go p e below Post (T.setTop (mkF m pc Ls S)) := own_Go.of (fun t k => XS.iloadN h hx rfl hd hl k) hr
theorem own_x_ior {pc : Nat} {Ls : Array Slot} {S : List Value} {Post : Outcome → State → Prop} (h : At T m c below) (hx : p.tables.exec = Jvm.exec) {x : Int32} {y : Int32} {rest : List Value} (hd : decode c.code pc = .ok (.ior, 1)) (hs : S = .int y :: .int x :: rest) (hr : own_Go p e below Post (T.setTop (mkF m (pc + 1) (Ls) (.int (x ||| y) :: rest)))) : own_Go p e below Post (T.setTop (mkF m pc Ls S)) := own_Go.of (fun t k => XS.ior h hx rfl hd hs k) hr
theorem own_x_ishl {pc : Nat} {Ls : Array Slot} {S : List Value} {Post : Outcome → State → Prop} (h : At T m c below) (hx : p.tables.exec = Jvm.exec) {x : Int32} {y : Int32} {rest : List Value} (hd : decode c.code pc = .ok (.ishl, 1)) (hs : S = .int y :: .int x :: rest) (hr : own_Go p e below Post (T.setTop (mkF m (pc + 1) (Ls) (.int (x <<< (y &&& 31)) :: rest)))) : own_Go p e below Post (T.setTop (mkF m pc Ls S)) := own_Go.of (fun t k => XS.ishl h hx rfl hd hs k) hr
theorem own_x_ishr {pc : Nat} {Ls : Array Slot} {S : List Value} {Post : Outcome → State → Prop} (h : At T m c below) (hx : p.tables.exec = Jvm.exec) {x : Int32} {y : Int32} {rest : List Value} (hd : decode c.code pc = .ok (.ishr, 1)) (hs : S = .int y :: .int x :: rest) (hr : own_Go p e below Post (T.setTop (mkF m (pc + 1) (Ls) (.int (x >>> (y &&& 31)) :: rest)))) : own_Go p e below Post (T.setTop (mkF m pc Ls S)) := own_Go.of (fun t k => XS.ishr h hx rfl hd hs k) hr
theorem own_x_istore {pc : Nat} {Ls : Array Slot} {S : List Value} {Post : Outcome → State → Prop} (h : At T m c below) (hx : p.tables.exec = Jvm.exec) {k : Nat} {x : Int32} {rest : List Value} {l' : Array Slot} (hd : decode c.code pc = .ok (.istore k, 2)) (hs : S = .int x :: rest) (hl : storeLocals Ls k (.int x) = some l') (hr : own_Go p e below Post (T.setTop (mkF m (pc + 2) (l') (rest)))) : own_Go p e below Post (T.setTop (mkF m pc Ls S)) := own_Go.of (fun t k => XS.istore h hx rfl hd hs hl k) hr
theorem own_x_istoreN {pc : Nat} {Ls : Array Slot} {S : List Value} {Post : Outcome → State → Prop} (h : At T m c below) (hx : p.tables.exec = Jvm.exec) {k : Fin 4} {x : Int32} {rest : List Value} {l' : Array Slot} (hd : decode c.code pc = .ok (.istore_n k, 1)) (hs : S = .int x :: rest) (hl : storeLocals Ls k.val (.int x) = some l') (hr : own_Go p e below Post (T.setTop (mkF m (pc + 1) (l') (rest)))) : own_Go p e below Post (T.setTop (mkF m pc Ls S)) := own_Go.of (fun t k => XS.istoreN h hx rfl hd hs hl k) hr
theorem own_x_isub {pc : Nat} {Ls : Array Slot} {S : List Value} {Post : Outcome → State → Prop} (h : At T m c below) (hx : p.tables.exec = Jvm.exec) {x y : Int32} {rest : List Value} (hd : decode c.code pc = .ok (.isub, 1)) (hs : S = .int y :: .int x :: rest) (hr : own_Go p e below Post (T.setTop (mkF m (pc + 1) (Ls) (.int (x - y) :: rest)))) : own_Go p e below Post (T.setTop (mkF m pc Ls S)) := own_Go.of (fun t k => XS.isub h hx rfl hd hs k) hr
theorem own_x_iushr {pc : Nat} {Ls : Array Slot} {S : List Value} {Post : Outcome → State → Prop} (h : At T m c below) (hx : p.tables.exec = Jvm.exec) {x : Int32} {y : Int32} {rest : List Value} (hd : decode c.code pc = .ok (.iushr, 1)) (hs : S = .int y :: .int x :: rest) (hr : own_Go p e below Post (T.setTop (mkF m (pc + 1) (Ls) (.int ((x.toUInt32 >>> (y &&& 31).toUInt32).toInt32) :: rest)))) : own_Go p e below Post (T.setTop (mkF m pc Ls S)) := own_Go.of (fun t k => XS.iushr h hx rfl hd hs k) hr
theorem own_x_pop {pc : Nat} {Ls : Array Slot} {S : List Value} {Post : Outcome → State → Prop} (h : At T m c below) (hx : p.tables.exec = Jvm.exec) {x : Value} {rest : List Value} (hd : decode c.code pc = .ok (.pop, 1)) (hs : S = x :: rest) (hc : x.category = 1) (hr : own_Go p e below Post (T.setTop (mkF m (pc + 1) (Ls) (rest)))) : own_Go p e below Post (T.setTop (mkF m pc Ls S)) := own_Go.of (fun t k => XS.pop h hx rfl hd hs hc k) hr
theorem own_x_sipush {pc : Nat} {Ls : Array Slot} {S : List Value} {Post : Outcome → State → Prop} (h : At T m c below) (hx : p.tables.exec = Jvm.exec) {i : Int} (hd : decode c.code pc = .ok (.sipush i, 3)) {z : Int32} (hz : (Int16.ofInt i).toInt32 = z) (hr : own_Go p e below Post (T.setTop (mkF m (pc + 3) (Ls) (.int z :: S)))) : own_Go p e below Post (T.setTop (mkF m pc Ls S)) := by subst hz; exact own_Go.of (fun t k => XS.sipush h hx rfl hd k) hr
end OwnX
section OwnH
variable {p : Program} {l : Launch} {e : Env} {R : Room} {s : State} {m : MethodId} {args : Array Value} {below : List Frame} {meth : Method} {c : Code} {T : State} {locs : List Loc} {cells slots : Nat} {Z : State} {a0 : Array Value} {h : Heap} {Post : Outcome → State → Prop} {pc : Nat} {Ls : Array Slot} {S : List Value}
theorem own_h_getF (X : Stand p l e R s m args below meth c T locs cells slots) (hx : p.tables.exec = Jvm.exec) (hZ : Z.Warmed39 s.vm) {own R0 O n d host : String} {index : Nat} (hown : s.vm.findClass own = some m.cls) (w : (Cond.fieldLink own index R0 n d).before a0 Z = true ∨ (Cond.fieldLinkNest own index R0 n d host).before a0 Z = true) (via : Via Z R0 O n d) (eT : T.heap = h) {a : Addr} {v : Value} (F : Fld Z h a O n d v) {rest : List Value} (hs : S = .ref a :: rest) (hd : decode c.code pc = .ok (.getfield index, 3)) (k : ∀ T', Stand p l e R s m args below meth c T' locs cells slots → T'.heap = h → own_Go p e below Post (T'.setTop (mkF m (pc + 3) (Ls) (v :: rest)))) : own_Go p e below Post (T.setTop (mkF m pc Ls S)) := by
  obtain ⟨T', q0, q1, st⟩ := getF X hx hZ hown w via eT F (g := mkF m pc Ls S) rfl hs hd
  exact own_Go.of st (k T' @q0 @q1)
theorem own_h_getS2 (X : Stand p l e R s m args below meth c T locs cells slots) (hx : p.tables.exec = Jvm.exec) (hZ : Z.Warmed39 s.vm) {own R0 O n d host : String} {index : Nat} (hown : s.vm.findClass own = some m.cls) (w : (Cond.fieldLink own index R0 n d).before a0 Z = true ∨ (Cond.fieldLinkNest own index R0 n d host).before a0 Z = true) (via : Via Z R0 O n d) (eT : T.heap = h) {v : Value} (F : Sta Z h O n d v) (hd : decode c.code pc = .ok (.getstatic index, 3)) (k : ∀ T', Stand p l e R s m args below meth c T' locs cells slots → T'.heap = h → own_Go p e below Post (T'.setTop (mkF m (pc + 3) (Ls) (v :: S)))) : own_Go p e below Post (T.setTop (mkF m pc Ls S)) := by
  obtain ⟨T', q0, q1, st⟩ := getS2 X hx hZ hown w via eT F (g := mkF m pc Ls S) rfl hd
  exact own_Go.of st (k T' @q0 @q1)
theorem own_h_initO (X : Stand p l e R s m args below meth c T locs cells slots) (hx : p.tables.exec = Jvm.exec) (hZ : Z.Warmed39 s.vm) {own : String} {idx : Nat} (hown : s.vm.findClass own = some m.cls) (w1 : (Cond.methodLink own idx Lib.objectInit).before a0 Z = true) (w2 : (Cond.instanceMethod Lib.objectInit).before a0 Z = true) (w3 : (Cond.code Lib.objectInit ⟨#[0xb1]⟩ 1 none).before a0 Z = true) (eT : T.heap = h) (hsize : Ls.size = c.maxLocals) {a : Addr} {rest : List Value} (hs : S = .ref a :: rest) (hd : decode c.code pc = .ok (.invokespecial idx, 3)) (hf : 1 ≤ R.frames) {W : Nat} (hW : 2 * (mkF m pc Ls S).monitorRoom + (rest.map fun v => v.category).sum ≤ W) (hl : W + 12 ≤ R.locals) (k : ∀ T', Stand p l e R s m args below meth c T' locs cells slots → T'.heap = h → own_Go p e below Post (T'.setTop (mkF m (pc + 3) (Ls) (rest)))) : own_Go p e below Post (T.setTop (mkF m pc Ls S)) := by
  obtain ⟨T', q0, q1, st⟩ := initO X hx hZ hown w1 w2 w3 eT (g := mkF m pc Ls S) rfl hsize hs hd hf hW hl
  exact own_Go.of st (k T' @q0 @q1)
theorem own_h_newO (X : Stand p l e R s m args below meth c T locs cells slots) (hx : p.tables.exec = Jvm.exec) (hZ : Z.Warmed39 s.vm) {own C : String} {index n : Nat} (hown : s.vm.findClass own = some m.cls) (w : (Cond.classLink own index C).before a0 Z = true) (wi : (Cond.instantiable C n).before a0 Z = true) (wz : (Cond.initialized C).before a0 Z = true) (eT : T.heap = h) (hd : decode c.code pc = .ok (.new index, 3)) (hc : cells + 1 ≤ R.cells) (hl : slots + n ≤ R.slots) (k : ∀ T' h' (x : Addr), x = h.size → Stand p l e R s m args below meth c T' locs (cells + 1) (slots + n) → T'.heap = h' → Ext h h' → Exa Z h' x C → (∀ {O nm d : String} {ty : FieldType}, Laid Z a0 C O nm d → parseFieldDescriptor d = some ty → Fld Z h' x O nm d (defaultValue ty)) → (∃ cell : Cell, h'[x]? = some cell ∧ cell.vm = .none ∧ cell.monitor = {}) → own_Go p e below Post (T'.setTop (mkF m (pc + 3) (Ls) (.ref x :: S)))) : own_Go p e below Post (T.setTop (mkF m pc Ls S)) := by
  obtain ⟨T', h', q0, q1, q2, q3, q4, q5, st⟩ := newO X hx hZ hown w wi wz eT (g := mkF m pc Ls S) rfl hd hc hl
  exact own_Go.of st (k T' h' _ rfl @q0 @q1 @q2 @q3 @q4 @q5)
theorem own_h_newP (X : Stand p l e R s m args below meth c T locs cells slots) (hx : p.tables.exec = Jvm.exec) (hZ : Z.Warmed39 s.vm) {aty : ArrayType} (w : (Cond.arrayClass (newarray.typeOf aty)).before a0 Z = true) (eT : T.heap = h) (hd : decode c.code pc = .ok (.newarray aty, 2)) {n : Int32} {rest : List Value} (hs : S = .int n :: rest) (hn : ¬ n < 0) {cap : Nat} (hcap : n.toNatClampNeg ≤ cap) (hb : cap * 8 ≤ 536870912) (hc : cells + 1 ≤ R.cells) (hl : slots + cap ≤ R.slots) (k : ∀ T' h' cA (x : Addr), x = h.size → Stand p l e R s m args below meth c T' locs (cells + 1) (slots + cap) → T'.heap = h' → Ext h h' → Arr Z h' x (newA cA (newarray.typeOf aty) n) (newarray.typeOf aty) → own_Go p e below Post (T'.setTop (mkF m (pc + 2) (Ls) (.ref x :: rest)))) : own_Go p e below Post (T.setTop (mkF m pc Ls S)) := by
  obtain ⟨T', h', cA, q0, q1, q2, q3, st⟩ := newP X hx hZ w eT (g := mkF m pc Ls S) rfl hd hs hn hcap hb hc hl
  exact own_Go.of st (k T' h' cA _ rfl @q0 @q1 @q2 @q3)
theorem own_h_putF (X : Stand p l e R s m args below meth c T locs cells slots) (hx : p.tables.exec = Jvm.exec) (hZ : Z.Warmed39 s.vm) {own R0 O n d host C : String} {index kk : Nat} {ty : FieldType} (hown : s.vm.findClass own = some m.cls) (w : (Cond.fieldLink own index R0 n d).before a0 Z = true ∨ (Cond.fieldLinkNest own index R0 n d host).before a0 Z = true) (via : Via Z R0 O n d) (eT : T.heap = h) {a : Addr} {v old : Value} (F : Fld Z h a O n d old) (E : Exa Z h a C) (L : (Cond.lays C O n d).before a0 Z = true ∨ ((Cond.laysFinal C O n d).before a0 Z = true ∧ own = O ∧ meth.name = "<init>")) (wi : (Cond.instantiable C kk).before a0 Z = true) (hty : parseFieldDescriptor d = some ty) (hn : narrow ty v = v) (hf : fits ty v = true) {rest : List Value} (hs : S = v :: .ref a :: rest) (hd : decode c.code pc = .ok (.putfield index, 3)) (k : ∀ T' h', Stand p l e R s m args below meth c T' (locs ++ [⟨a, Jvm.RoadKit.slotOf Z O n d⟩]) cells slots → T'.heap = h' → Wr h h' a (Jvm.RoadKit.slotOf Z O n d) v → own_Go p e below Post (T'.setTop (mkF m (pc + 3) (Ls) (rest)))) : own_Go p e below Post (T.setTop (mkF m pc Ls S)) := by
  obtain ⟨T', h', q0, q1, q2, st⟩ := putF X hx hZ hown w via eT F E L wi hty hn hf (g := mkF m pc Ls S) rfl hs hd
  exact own_Go.of st (k T' h' @q0 @q1 @q2)
theorem own_h_putFN (X : Stand p l e R s m args below meth c T locs cells slots) (hx : p.tables.exec = Jvm.exec) (hZ : Z.Warmed39 s.vm) {own R0 O n d C : String} {index kk : Nat} {ty : FieldType} (hown : s.vm.findClass own = some m.cls) (w : (Cond.fieldLink own index R0 n d).before a0 Z = true) (via : Via Z R0 O n d) (eT : T.heap = h) {a : Addr} {v v' old : Value} (F : Fld Z h a O n d old) (E : Exa Z h a C) (L : (Cond.lays C O n d).before a0 Z = true ∨ ((Cond.laysFinal C O n d).before a0 Z = true ∧ own = O ∧ meth.name = "<init>")) (wi : (Cond.instantiable C kk).before a0 Z = true) (hty : parseFieldDescriptor d = some ty) (hn : narrow ty v = v') (hf : fits ty v' = true) {rest : List Value} (hs : S = v :: .ref a :: rest) (hd : decode c.code pc = .ok (.putfield index, 3)) (k : ∀ T' h', Stand p l e R s m args below meth c T' (locs ++ [⟨a, Jvm.RoadKit.slotOf Z O n d⟩]) cells slots → T'.heap = h' → Wr h h' a (Jvm.RoadKit.slotOf Z O n d) v' → own_Go p e below Post (T'.setTop (mkF m (pc + 3) (Ls) (rest)))) : own_Go p e below Post (T.setTop (mkF m pc Ls S)) := by
  obtain ⟨T', h', q0, q1, q2, st⟩ := putFN X hx hZ hown w via eT F E L wi hty hn hf (g := mkF m pc Ls S) rfl hs hd
  exact own_Go.of st (k T' h' @q0 @q1 @q2)
theorem own_h_stB (X : Stand p l e R s m args below meth c T locs cells slots) (hx : p.tables.exec = Jvm.exec) (hZ : Z.Warmed39 s.vm) (eT : T.heap = h) {a : Addr} {cl : Cell} (A : Arr Z h a cl .byte) {j x : Int32} (hj : ¬ (j < 0 ∨ cl.slots.size ≤ j.toNatClampNeg)) {rest : List Value} (hs : S = .int x :: .int j :: .ref a :: rest) (hd : decode c.code pc = .ok (.bastore, 1)) (k : ∀ T' h', Stand p l e R s m args below meth c T' (locs ++ [⟨a, j.toNatClampNeg⟩]) cells slots → T'.heap = h' → Wr h h' a j.toNatClampNeg (.int (nar .byte x)) → own_Go p e below Post (T'.setTop (mkF m (pc + 1) (Ls) (rest)))) : own_Go p e below Post (T.setTop (mkF m pc Ls S)) := by
  obtain ⟨T', h', q0, q1, q2, st⟩ := stB X hx hZ eT A hj (g := mkF m pc Ls S) rfl hs hd
  exact own_Go.of st (k T' h' @q0 @q1 @q2)
theorem own_h_stC (X : Stand p l e R s m args below meth c T locs cells slots) (hx : p.tables.exec = Jvm.exec) (hZ : Z.Warmed39 s.vm) (eT : T.heap = h) {a : Addr} {cl : Cell} (A : Arr Z h a cl .char) {j x : Int32} (hj : ¬ (j < 0 ∨ cl.slots.size ≤ j.toNatClampNeg)) {rest : List Value} (hs : S = .int x :: .int j :: .ref a :: rest) (hd : decode c.code pc = .ok (.castore, 1)) (k : ∀ T' h', Stand p l e R s m args below meth c T' (locs ++ [⟨a, j.toNatClampNeg⟩]) cells slots → T'.heap = h' → Wr h h' a j.toNatClampNeg (.int (nar .char x)) → own_Go p e below Post (T'.setTop (mkF m (pc + 1) (Ls) (rest)))) : own_Go p e below Post (T.setTop (mkF m pc Ls S)) := by
  obtain ⟨T', h', q0, q1, q2, st⟩ := stC X hx hZ eT A hj (g := mkF m pc Ls S) rfl hs hd
  exact own_Go.of st (k T' h' @q0 @q1 @q2)
theorem own_h_arB (X : Stand p l e R s m args below meth c T locs cells slots) (hx : p.tables.exec = Jvm.exec) (hZ : Z.Warmed39 s.vm) (eT : T.heap = h) {a : Addr} {k : ClassId} {N : Int32} {vs : List Value} {d : Value} (V : Arv Z h a k .byte N vs d) (j : Int32) (i : Nat) (hj : ¬ j < 0 ∧ j < N) (hi : j.toNatClampNeg = i) (hl : i < vs.length) {x : Int32} {rest : List Value} (hs : S = .int x :: .int j :: .ref a :: rest) (hd : decode c.code pc = .ok (.bastore, 1)) (kk : ∀ T' h', Stand p l e R s m args below meth c T' (locs ++ [⟨a, j.toNatClampNeg⟩]) cells slots → T'.heap = h' → Wr h h' a j.toNatClampNeg (.int (nar .byte x)) → Arv Z h' a k .byte N (vs.set i (.int (nar .byte x))) d → own_Go p e below Post (T'.setTop (mkF m (pc + 1) Ls rest))) : own_Go p e below Post (T.setTop (mkF m pc Ls S)) := by
  obtain ⟨cl, Ar, q, S', P, H, G⟩ := V
  exact own_h_stB X hx hZ eT Ar (inb_of S' hj) hs hd fun T' h' X' e' W => kk T' h' X' e' W (Arv.set Ar q S' P H G (fits_nar_byte _) W i hi hl)
theorem own_h_arC (X : Stand p l e R s m args below meth c T locs cells slots) (hx : p.tables.exec = Jvm.exec) (hZ : Z.Warmed39 s.vm) (eT : T.heap = h) {a : Addr} {k : ClassId} {N : Int32} {vs : List Value} {d : Value} (V : Arv Z h a k .char N vs d) (j : Int32) (i : Nat) (hj : ¬ j < 0 ∧ j < N) (hi : j.toNatClampNeg = i) (hl : i < vs.length) {x : Int32} {rest : List Value} (hs : S = .int x :: .int j :: .ref a :: rest) (hd : decode c.code pc = .ok (.castore, 1)) (kk : ∀ T' h', Stand p l e R s m args below meth c T' (locs ++ [⟨a, j.toNatClampNeg⟩]) cells slots → T'.heap = h' → Wr h h' a j.toNatClampNeg (.int (nar .char x)) → Arv Z h' a k .char N (vs.set i (.int (nar .char x))) d → own_Go p e below Post (T'.setTop (mkF m (pc + 1) Ls rest))) : own_Go p e below Post (T.setTop (mkF m pc Ls S)) := by
  obtain ⟨cl, Ar, q, S', P, H, G⟩ := V
  exact own_h_stC X hx hZ eT Ar (inb_of S' hj) hs hd fun T' h' X' e' W => kk T' h' X' e' W (Arv.set Ar q S' P H G (fits_nar_char _) W i hi hl)
end OwnH
abbrev own_H (a0 : Array Value) (Z : State) : Prop := ∀ d ∈ tables_1, d.before a0 Z = true
theorem own_mem (i : Nat) {d : Jvm.Cond} (h : tables_1[i]? = some d) : d ∈ tables_1 := List.mem_of_getElem? h
theorem own_g {a0 : Array Value} {Z : State} (hw : own_H a0 Z) (i : Nat) {d : Jvm.Cond} (h : tables_1[i]? = some d) : d.before a0 Z = true := hw _ (List.mem_of_getElem? h)
section OwnW
variable {a0 : Array Value} {Z : State}
theorem own_w0 (hw : own_H a0 Z) : (Jvm.Cond.constant "com/example/entitl/entitl/NamesPrintablePinLaw" (7 : Nat) (65535 : Int32)).before a0 Z = true := hw _ (own_mem 0 rfl)
theorem own_w1 (hw : own_H a0 Z) : (Jvm.Cond.constant "com/example/entitl/entitl/NamesPrintablePinLaw" (8 : Nat) (2147483647 : Int32)).before a0 Z = true := hw _ (own_mem 1 rfl)
theorem own_w2 (hw : own_H a0 Z) : (Jvm.Cond.arrayClass Jvm.ClassFile.FieldType.char).before a0 Z = true := hw _ (own_mem 2 rfl)
theorem own_w3 (hw : own_H a0 Z) : (Jvm.Cond.methodLink "com/example/entitl/entitl/NamesPrintablePinLaw" (9 : Nat) ({ cls := "com/example/entitl/entitl/NamesPrintablePinLaw", name := "bad", desc := "(C)Z" } : Jvm.MethodName)).before a0 Z = true := hw _ (own_mem 3 rfl)
theorem own_w4 (hw : own_H a0 Z) : (Jvm.Cond.static ({ cls := "com/example/entitl/entitl/NamesPrintablePinLaw", name := "bad", desc := "(C)Z" } : Jvm.MethodName)).before a0 Z = true := hw _ (own_mem 4 rfl)
theorem own_w5 (hw : own_H a0 Z) : (Jvm.Cond.initialized "com/example/entitl/entitl/NamesPrintablePinLaw").before a0 Z = true := hw _ (own_mem 5 rfl)
theorem own_w6 (hw : own_H a0 Z) : (Jvm.Cond.code ({ cls := "com/example/entitl/entitl/NamesPrintablePinLaw", name := "bad", desc := "(C)Z" } : Jvm.MethodName) method_3_code (2 : Nat) (Option.some Jvm.ClassFile.FieldType.boolean)).before a0 Z = true := hw _ (own_mem 6 rfl)
theorem own_w7 (hw : own_H a0 Z) : (Jvm.Cond.classLink "com/example/entitl/entitl/NamesPrintablePinLaw" (15 : Nat) "java/lang/String").before a0 Z = true := hw _ (own_mem 7 rfl)
theorem own_w8 (hw : own_H a0 Z) : (Jvm.Cond.instantiable "java/lang/String" (4 : Nat)).before a0 Z = true := hw _ (own_mem 8 rfl)
theorem own_w9 (hw : own_H a0 Z) : (Jvm.Cond.initialized "java/lang/String").before a0 Z = true := hw _ (own_mem 9 rfl)
theorem own_w10 (hw : own_H a0 Z) : (Jvm.Cond.methodLink "com/example/entitl/entitl/NamesPrintablePinLaw" (17 : Nat) ({ cls := "java/lang/String", name := "<init>", desc := "([C)V" } : Jvm.MethodName)).before a0 Z = true := hw _ (own_mem 10 rfl)
theorem own_w11 (hw : own_H a0 Z) : (Jvm.Cond.instanceMethod ({ cls := "java/lang/String", name := "<init>", desc := "([C)V" } : Jvm.MethodName)).before a0 Z = true := hw _ (own_mem 11 rfl)
theorem own_w12 (hw : own_H a0 Z) : (Jvm.Cond.code ({ cls := "java/lang/String", name := "<init>", desc := "([C)V" } : Jvm.MethodName) jdk_42_method_3_code (2 : Nat) (Option.none : Option Jvm.ClassFile.FieldType)).before a0 Z = true := hw _ (own_mem 12 rfl)
theorem own_w13 (hw : own_H a0 Z) : (Jvm.Cond.methodLink "java/lang/String" (27 : Nat) ({ cls := "java/lang/String", name := "<init>", desc := "([CIILjava/lang/Void;)V" } : Jvm.MethodName)).before a0 Z = true := hw _ (own_mem 13 rfl)
theorem own_w14 (hw : own_H a0 Z) : (Jvm.Cond.instanceMethod ({ cls := "java/lang/String", name := "<init>", desc := "([CIILjava/lang/Void;)V" } : Jvm.MethodName)).before a0 Z = true := hw _ (own_mem 14 rfl)
theorem own_w16 (hw : own_H a0 Z) : (Jvm.Cond.code ({ cls := "java/lang/String", name := "<init>", desc := "([CIILjava/lang/Void;)V" } : Jvm.MethodName) jdk_42_method_149_code (6 : Nat) (Option.none : Option Jvm.ClassFile.FieldType)).before a0 Z = true := hw _ (own_mem 16 rfl)
theorem own_w17 (hw : own_H a0 Z) : (Jvm.Cond.methodLink "java/lang/String" (1 : Nat) ({ cls := "java/lang/Object", name := "<init>", desc := "()V" } : Jvm.MethodName)).before a0 Z = true := hw _ (own_mem 17 rfl)
theorem own_w18 (hw : own_H a0 Z) : (Jvm.Cond.instanceMethod ({ cls := "java/lang/Object", name := "<init>", desc := "()V" } : Jvm.MethodName)).before a0 Z = true := hw _ (own_mem 18 rfl)
theorem own_w19 (hw : own_H a0 Z) : (Jvm.Cond.code ({ cls := "java/lang/Object", name := "<init>", desc := "()V" } : Jvm.MethodName) object_method_1_code (1 : Nat) (Option.none : Option Jvm.ClassFile.FieldType)).before a0 Z = true := hw _ (own_mem 19 rfl)
theorem own_w20 (hw : own_H a0 Z) : (Jvm.Cond.fieldLink "java/lang/String" (38 : Nat) "java/lang/String" "COMPACT_STRINGS" "Z").before a0 Z = true := hw _ (own_mem 20 rfl)
theorem own_w21 (hw : own_H a0 Z) : (Jvm.Cond.methodLink "java/lang/String" (177 : Nat) ({ cls := "java/lang/StringUTF16", name := "compress", desc := "([CII)[B" } : Jvm.MethodName)).before a0 Z = true := hw _ (own_mem 21 rfl)
theorem own_w22 (hw : own_H a0 Z) : (Jvm.Cond.static ({ cls := "java/lang/StringUTF16", name := "compress", desc := "([CII)[B" } : Jvm.MethodName)).before a0 Z = true := hw _ (own_mem 22 rfl)
theorem own_w23 (hw : own_H a0 Z) : (Jvm.Cond.initialized "java/lang/StringUTF16").before a0 Z = true := hw _ (own_mem 23 rfl)
theorem own_w24 (hw : own_H a0 Z) : (Jvm.Cond.code ({ cls := "java/lang/StringUTF16", name := "compress", desc := "([CII)[B" } : Jvm.MethodName) jdk_52_method_16_code (6 : Nat) (Option.some (Jvm.ClassFile.FieldType.array Jvm.ClassFile.FieldType.byte))).before a0 Z = true := hw _ (own_mem 24 rfl)
theorem own_w25 (hw : own_H a0 Z) : (Jvm.Cond.arrayClass Jvm.ClassFile.FieldType.byte).before a0 Z = true := hw _ (own_mem 25 rfl)
theorem own_w26 (hw : own_H a0 Z) : (Jvm.Cond.methodLink "java/lang/StringUTF16" (115 : Nat) ({ cls := "java/lang/StringUTF16", name := "compress", desc := "([CI[BII)I" } : Jvm.MethodName)).before a0 Z = true := hw _ (own_mem 26 rfl)
theorem own_w27 (hw : own_H a0 Z) : (Jvm.Cond.static ({ cls := "java/lang/StringUTF16", name := "compress", desc := "([CI[BII)I" } : Jvm.MethodName)).before a0 Z = true := hw _ (own_mem 27 rfl)
theorem own_w28 (hw : own_H a0 Z) : (Jvm.Cond.code ({ cls := "java/lang/StringUTF16", name := "compress", desc := "([CI[BII)I" } : Jvm.MethodName) jdk_52_method_21_code (7 : Nat) (Option.some Jvm.ClassFile.FieldType.int)).before a0 Z = true := hw _ (own_mem 28 rfl)
theorem own_w29 (hw : own_H a0 Z) : (Jvm.Cond.methodLink "java/lang/String" (47 : Nat) ({ cls := "java/lang/StringUTF16", name := "coderFromArrayLen", desc := "([BI)B" } : Jvm.MethodName)).before a0 Z = true := hw _ (own_mem 29 rfl)
theorem own_w30 (hw : own_H a0 Z) : (Jvm.Cond.static ({ cls := "java/lang/StringUTF16", name := "coderFromArrayLen", desc := "([BI)B" } : Jvm.MethodName)).before a0 Z = true := hw _ (own_mem 30 rfl)
theorem own_w31 (hw : own_H a0 Z) : (Jvm.Cond.code ({ cls := "java/lang/StringUTF16", name := "coderFromArrayLen", desc := "([BI)B" } : Jvm.MethodName) jdk_52_method_15_code (2 : Nat) (Option.some Jvm.ClassFile.FieldType.byte)).before a0 Z = true := hw _ (own_mem 31 rfl)
theorem own_w32 (hw : own_H a0 Z) : (Jvm.Cond.fieldLink "java/lang/String" (15 : Nat) "java/lang/String" "coder" "B").before a0 Z = true := hw _ (own_mem 32 rfl)
theorem own_w33 (hw : own_H a0 Z) : (Jvm.Cond.laysFinal "java/lang/String" "java/lang/String" "coder" "B").before a0 Z = true := hw _ (own_mem 33 rfl)
theorem own_w34 (hw : own_H a0 Z) : (Jvm.Cond.fieldLink "java/lang/String" (9 : Nat) "java/lang/String" "value" "[B").before a0 Z = true := hw _ (own_mem 34 rfl)
theorem own_w35 (hw : own_H a0 Z) : (Jvm.Cond.laysFinal "java/lang/String" "java/lang/String" "value" "[B").before a0 Z = true := hw _ (own_mem 35 rfl)
theorem own_w36 (hw : own_H a0 Z) : (Jvm.Cond.methodLink "com/example/entitl/entitl/NamesPrintablePinLaw" (20 : Nat) ({ cls := "com/example/entitl/entitl/Names", name := "printable", desc := "(Ljava/lang/String;)Z" } : Jvm.MethodName)).before a0 Z = true := hw _ (own_mem 36 rfl)
theorem own_w37 (hw : own_H a0 Z) : (Jvm.Cond.static ({ cls := "com/example/entitl/entitl/Names", name := "printable", desc := "(Ljava/lang/String;)Z" } : Jvm.MethodName)).before a0 Z = true := hw _ (own_mem 37 rfl)
theorem own_w38 (hw : own_H a0 Z) : (Jvm.Cond.initialized "com/example/entitl/entitl/Names").before a0 Z = true := hw _ (own_mem 38 rfl)
theorem own_w39 (hw : own_H a0 Z) : (Jvm.Cond.code ({ cls := "com/example/entitl/entitl/Names", name := "printable", desc := "(Ljava/lang/String;)Z" } : Jvm.MethodName) prog_10_method_2_code (1 : Nat) (Option.some Jvm.ClassFile.FieldType.boolean)).before a0 Z = true := hw _ (own_mem 39 rfl)
theorem own_w40 (hw : own_H a0 Z) : (Jvm.Cond.methodLink "com/example/entitl/entitl/Names" (7 : Nat) ({ cls := "com/example/entitl/entitl/Names", name := "unprintableAt", desc := "(Ljava/lang/String;)I" } : Jvm.MethodName)).before a0 Z = true := hw _ (own_mem 40 rfl)
theorem own_w41 (hw : own_H a0 Z) : (Jvm.Cond.static ({ cls := "com/example/entitl/entitl/Names", name := "unprintableAt", desc := "(Ljava/lang/String;)I" } : Jvm.MethodName)).before a0 Z = true := hw _ (own_mem 41 rfl)
theorem own_w42 (hw : own_H a0 Z) : (Jvm.Cond.code ({ cls := "com/example/entitl/entitl/Names", name := "unprintableAt", desc := "(Ljava/lang/String;)I" } : Jvm.MethodName) prog_10_method_5_code (3 : Nat) (Option.some Jvm.ClassFile.FieldType.int)).before a0 Z = true := hw _ (own_mem 42 rfl)
theorem own_w43 (hw : own_H a0 Z) : (Jvm.Cond.methodLink "com/example/entitl/entitl/Names" (52 : Nat) ({ cls := "java/lang/String", name := "length", desc := "()I" } : Jvm.MethodName)).before a0 Z = true := hw _ (own_mem 43 rfl)
theorem own_w44 (hw : own_H a0 Z) : (Jvm.Cond.declares ({ cls := "java/lang/String", name := "length", desc := "()I" } : Jvm.MethodName)).before a0 Z = true := hw _ (own_mem 44 rfl)
theorem own_w45 (hw : own_H a0 Z) : (Jvm.Cond.instanceMethod ({ cls := "java/lang/String", name := "length", desc := "()I" } : Jvm.MethodName)).before a0 Z = true := hw _ (own_mem 45 rfl)
theorem own_w46 (hw : own_H a0 Z) : (Jvm.Cond.selects "java/lang/String" ({ cls := "java/lang/String", name := "length", desc := "()I" } : Jvm.MethodName) ({ cls := "java/lang/String", name := "length", desc := "()I" } : Jvm.MethodName)).before a0 Z = true := hw _ (own_mem 46 rfl)
theorem own_w47 (hw : own_H a0 Z) : (Jvm.Cond.code ({ cls := "java/lang/String", name := "length", desc := "()I" } : Jvm.MethodName) jdk_42_method_54_code (1 : Nat) (Option.some Jvm.ClassFile.FieldType.int)).before a0 Z = true := hw _ (own_mem 47 rfl)
theorem own_w48 (hw : own_H a0 Z) : (Jvm.Cond.methodLink "java/lang/String" (335 : Nat) ({ cls := "java/lang/String", name := "coder", desc := "()B" } : Jvm.MethodName)).before a0 Z = true := hw _ (own_mem 48 rfl)
theorem own_w49 (hw : own_H a0 Z) : (Jvm.Cond.declares ({ cls := "java/lang/String", name := "coder", desc := "()B" } : Jvm.MethodName)).before a0 Z = true := hw _ (own_mem 49 rfl)
theorem own_w50 (hw : own_H a0 Z) : (Jvm.Cond.instanceMethod ({ cls := "java/lang/String", name := "coder", desc := "()B" } : Jvm.MethodName)).before a0 Z = true := hw _ (own_mem 50 rfl)
theorem own_w51 (hw : own_H a0 Z) : (Jvm.Cond.selects "java/lang/String" ({ cls := "java/lang/String", name := "coder", desc := "()B" } : Jvm.MethodName) ({ cls := "java/lang/String", name := "coder", desc := "()B" } : Jvm.MethodName)).before a0 Z = true := hw _ (own_mem 51 rfl)
theorem own_w52 (hw : own_H a0 Z) : (Jvm.Cond.code ({ cls := "java/lang/String", name := "coder", desc := "()B" } : Jvm.MethodName) jdk_42_method_152_code (1 : Nat) (Option.some Jvm.ClassFile.FieldType.byte)).before a0 Z = true := hw _ (own_mem 52 rfl)
theorem own_w53 (hw : own_H a0 Z) : (Jvm.Cond.methodLink "com/example/entitl/entitl/Names" (13 : Nat) ({ cls := "java/lang/String", name := "charAt", desc := "(I)C" } : Jvm.MethodName)).before a0 Z = true := hw _ (own_mem 53 rfl)
theorem own_w54 (hw : own_H a0 Z) : (Jvm.Cond.declares ({ cls := "java/lang/String", name := "charAt", desc := "(I)C" } : Jvm.MethodName)).before a0 Z = true := hw _ (own_mem 54 rfl)
theorem own_w55 (hw : own_H a0 Z) : (Jvm.Cond.instanceMethod ({ cls := "java/lang/String", name := "charAt", desc := "(I)C" } : Jvm.MethodName)).before a0 Z = true := hw _ (own_mem 55 rfl)
theorem own_w56 (hw : own_H a0 Z) : (Jvm.Cond.selects "java/lang/String" ({ cls := "java/lang/String", name := "charAt", desc := "(I)C" } : Jvm.MethodName) ({ cls := "java/lang/String", name := "charAt", desc := "(I)C" } : Jvm.MethodName)).before a0 Z = true := hw _ (own_mem 56 rfl)
theorem own_w57 (hw : own_H a0 Z) : (Jvm.Cond.code ({ cls := "java/lang/String", name := "charAt", desc := "(I)C" } : Jvm.MethodName) jdk_42_method_56_code (2 : Nat) (Option.some Jvm.ClassFile.FieldType.char)).before a0 Z = true := hw _ (own_mem 57 rfl)
theorem own_w58 (hw : own_H a0 Z) : (Jvm.Cond.methodLink "java/lang/String" (492 : Nat) ({ cls := "java/lang/String", name := "isLatin1", desc := "()Z" } : Jvm.MethodName)).before a0 Z = true := hw _ (own_mem 58 rfl)
theorem own_w59 (hw : own_H a0 Z) : (Jvm.Cond.declares ({ cls := "java/lang/String", name := "isLatin1", desc := "()Z" } : Jvm.MethodName)).before a0 Z = true := hw _ (own_mem 59 rfl)
theorem own_w60 (hw : own_H a0 Z) : (Jvm.Cond.instanceMethod ({ cls := "java/lang/String", name := "isLatin1", desc := "()Z" } : Jvm.MethodName)).before a0 Z = true := hw _ (own_mem 60 rfl)
theorem own_w61 (hw : own_H a0 Z) : (Jvm.Cond.selects "java/lang/String" ({ cls := "java/lang/String", name := "isLatin1", desc := "()Z" } : Jvm.MethodName) ({ cls := "java/lang/String", name := "isLatin1", desc := "()Z" } : Jvm.MethodName)).before a0 Z = true := hw _ (own_mem 61 rfl)
theorem own_w62 (hw : own_H a0 Z) : (Jvm.Cond.code ({ cls := "java/lang/String", name := "isLatin1", desc := "()Z" } : Jvm.MethodName) jdk_42_method_154_code (1 : Nat) (Option.some Jvm.ClassFile.FieldType.boolean)).before a0 Z = true := hw _ (own_mem 62 rfl)
theorem own_w63 (hw : own_H a0 Z) : (Jvm.Cond.methodLink "java/lang/String" (495 : Nat) ({ cls := "java/lang/StringLatin1", name := "charAt", desc := "([BI)C" } : Jvm.MethodName)).before a0 Z = true := hw _ (own_mem 63 rfl)
theorem own_w64 (hw : own_H a0 Z) : (Jvm.Cond.static ({ cls := "java/lang/StringLatin1", name := "charAt", desc := "([BI)C" } : Jvm.MethodName)).before a0 Z = true := hw _ (own_mem 64 rfl)
theorem own_w65 (hw : own_H a0 Z) : (Jvm.Cond.initialized "java/lang/StringLatin1").before a0 Z = true := hw _ (own_mem 65 rfl)
theorem own_w66 (hw : own_H a0 Z) : (Jvm.Cond.code ({ cls := "java/lang/StringLatin1", name := "charAt", desc := "([BI)C" } : Jvm.MethodName) jdk_43_method_2_code (2 : Nat) (Option.some Jvm.ClassFile.FieldType.char)).before a0 Z = true := hw _ (own_mem 66 rfl)
theorem own_w67 (hw : own_H a0 Z) : (Jvm.Cond.methodLink "java/lang/StringLatin1" (9 : Nat) ({ cls := "java/lang/String", name := "checkIndex", desc := "(II)V" } : Jvm.MethodName)).before a0 Z = true := hw _ (own_mem 67 rfl)
theorem own_w68 (hw : own_H a0 Z) : (Jvm.Cond.static ({ cls := "java/lang/String", name := "checkIndex", desc := "(II)V" } : Jvm.MethodName)).before a0 Z = true := hw _ (own_mem 68 rfl)
theorem own_w69 (hw : own_H a0 Z) : (Jvm.Cond.code ({ cls := "java/lang/String", name := "checkIndex", desc := "(II)V" } : Jvm.MethodName) jdk_42_method_155_code (2 : Nat) (Option.none : Option Jvm.ClassFile.FieldType)).before a0 Z = true := hw _ (own_mem 69 rfl)
theorem own_w70 (hw : own_H a0 Z) : (Jvm.Cond.fieldLink "java/lang/String" (1053 : Nat) "jdk/internal/util/Preconditions" "SIOOBE_FORMATTER" "Ljava/util/function/BiFunction;").before a0 Z = true := hw _ (own_mem 70 rfl)
theorem own_w71 (hw : own_H a0 Z) : (Jvm.Cond.initialized "jdk/internal/util/Preconditions").before a0 Z = true := hw _ (own_mem 71 rfl)
theorem own_w72 (hw : own_H a0 Z) : (Jvm.Cond.methodLink "java/lang/String" (1059 : Nat) ({ cls := "jdk/internal/util/Preconditions", name := "checkIndex", desc := "(IILjava/util/function/BiFunction;)I" } : Jvm.MethodName)).before a0 Z = true := hw _ (own_mem 72 rfl)
theorem own_w73 (hw : own_H a0 Z) : (Jvm.Cond.static ({ cls := "jdk/internal/util/Preconditions", name := "checkIndex", desc := "(IILjava/util/function/BiFunction;)I" } : Jvm.MethodName)).before a0 Z = true := hw _ (own_mem 73 rfl)
theorem own_w74 (hw : own_H a0 Z) : (Jvm.Cond.code ({ cls := "jdk/internal/util/Preconditions", name := "checkIndex", desc := "(IILjava/util/function/BiFunction;)I" } : Jvm.MethodName) jdk_41_method_11_code (3 : Nat) (Option.some Jvm.ClassFile.FieldType.int)).before a0 Z = true := hw _ (own_mem 74 rfl)
theorem own_w75 (hw : own_H a0 Z) : (Jvm.Cond.methodLink "com/example/entitl/entitl/Names" (56 : Nat) ({ cls := "java/lang/Character", name := "isISOControl", desc := "(C)Z" } : Jvm.MethodName)).before a0 Z = true := hw _ (own_mem 75 rfl)
theorem own_w76 (hw : own_H a0 Z) : (Jvm.Cond.static ({ cls := "java/lang/Character", name := "isISOControl", desc := "(C)Z" } : Jvm.MethodName)).before a0 Z = true := hw _ (own_mem 76 rfl)
theorem own_w77 (hw : own_H a0 Z) : (Jvm.Cond.initialized "java/lang/Character").before a0 Z = true := hw _ (own_mem 77 rfl)
theorem own_w78 (hw : own_H a0 Z) : (Jvm.Cond.code ({ cls := "java/lang/Character", name := "isISOControl", desc := "(C)Z" } : Jvm.MethodName) jdk_89_method_88_code (1 : Nat) (Option.some Jvm.ClassFile.FieldType.boolean)).before a0 Z = true := hw _ (own_mem 78 rfl)
theorem own_w79 (hw : own_H a0 Z) : (Jvm.Cond.methodLink "java/lang/Character" (266 : Nat) ({ cls := "java/lang/Character", name := "isISOControl", desc := "(I)Z" } : Jvm.MethodName)).before a0 Z = true := hw _ (own_mem 79 rfl)
theorem own_w80 (hw : own_H a0 Z) : (Jvm.Cond.static ({ cls := "java/lang/Character", name := "isISOControl", desc := "(I)Z" } : Jvm.MethodName)).before a0 Z = true := hw _ (own_mem 80 rfl)
theorem own_w81 (hw : own_H a0 Z) : (Jvm.Cond.code ({ cls := "java/lang/Character", name := "isISOControl", desc := "(I)Z" } : Jvm.MethodName) jdk_89_method_89_code (1 : Nat) (Option.some Jvm.ClassFile.FieldType.boolean)).before a0 Z = true := hw _ (own_mem 81 rfl)
theorem own_w82 (hw : own_H a0 Z) : (Jvm.Cond.methodLink "java/lang/StringUTF16" (119 : Nat) ({ cls := "java/lang/StringUTF16", name := "toBytes", desc := "([CII)[B" } : Jvm.MethodName)).before a0 Z = true := hw _ (own_mem 82 rfl)
theorem own_w83 (hw : own_H a0 Z) : (Jvm.Cond.static ({ cls := "java/lang/StringUTF16", name := "toBytes", desc := "([CII)[B" } : Jvm.MethodName)).before a0 Z = true := hw _ (own_mem 83 rfl)
theorem own_w84 (hw : own_H a0 Z) : (Jvm.Cond.code ({ cls := "java/lang/StringUTF16", name := "toBytes", desc := "([CII)[B" } : Jvm.MethodName) jdk_52_method_14_code (5 : Nat) (Option.some (Jvm.ClassFile.FieldType.array Jvm.ClassFile.FieldType.byte))).before a0 Z = true := hw _ (own_mem 84 rfl)
theorem own_w85 (hw : own_H a0 Z) : (Jvm.Cond.methodLink "java/lang/StringUTF16" (107 : Nat) ({ cls := "java/lang/StringUTF16", name := "newBytesFor", desc := "(I)[B" } : Jvm.MethodName)).before a0 Z = true := hw _ (own_mem 85 rfl)
theorem own_w86 (hw : own_H a0 Z) : (Jvm.Cond.static ({ cls := "java/lang/StringUTF16", name := "newBytesFor", desc := "(I)[B" } : Jvm.MethodName)).before a0 Z = true := hw _ (own_mem 86 rfl)
theorem own_w87 (hw : own_H a0 Z) : (Jvm.Cond.code ({ cls := "java/lang/StringUTF16", name := "newBytesFor", desc := "(I)[B" } : Jvm.MethodName) jdk_52_method_2_code (1 : Nat) (Option.some (Jvm.ClassFile.FieldType.array Jvm.ClassFile.FieldType.byte))).before a0 Z = true := hw _ (own_mem 87 rfl)
theorem own_w88 (hw : own_H a0 Z) : (Jvm.Cond.methodLink "java/lang/StringUTF16" (11 : Nat) ({ cls := "java/lang/StringUTF16", name := "newBytesLength", desc := "(I)I" } : Jvm.MethodName)).before a0 Z = true := hw _ (own_mem 88 rfl)
theorem own_w89 (hw : own_H a0 Z) : (Jvm.Cond.static ({ cls := "java/lang/StringUTF16", name := "newBytesLength", desc := "(I)I" } : Jvm.MethodName)).before a0 Z = true := hw _ (own_mem 89 rfl)
theorem own_w90 (hw : own_H a0 Z) : (Jvm.Cond.code ({ cls := "java/lang/StringUTF16", name := "newBytesLength", desc := "(I)I" } : Jvm.MethodName) jdk_52_method_3_code (1 : Nat) (Option.some Jvm.ClassFile.FieldType.int)).before a0 Z = true := hw _ (own_mem 90 rfl)
theorem own_w91 (hw : own_H a0 Z) : (Jvm.Cond.constant "java/lang/StringUTF16" (20 : Nat) (1073741823 : Int32)).before a0 Z = true := hw _ (own_mem 91 rfl)
theorem own_w92 (hw : own_H a0 Z) : (Jvm.Cond.methodLink "java/lang/StringUTF16" (111 : Nat) ({ cls := "java/lang/StringUTF16", name := "putChar", desc := "([BII)V" } : Jvm.MethodName)).before a0 Z = true := hw _ (own_mem 92 rfl)
theorem own_w93 (hw : own_H a0 Z) : (Jvm.Cond.static ({ cls := "java/lang/StringUTF16", name := "putChar", desc := "([BII)V" } : Jvm.MethodName)).before a0 Z = true := hw _ (own_mem 93 rfl)
theorem own_w94 (hw : own_H a0 Z) : (Jvm.Cond.code ({ cls := "java/lang/StringUTF16", name := "putChar", desc := "([BII)V" } : Jvm.MethodName) jdk_52_method_4_code (3 : Nat) (Option.none : Option Jvm.ClassFile.FieldType)).before a0 Z = true := hw _ (own_mem 94 rfl)
theorem own_w95 (hw : own_H a0 Z) : (Jvm.Cond.fieldLink "java/lang/StringUTF16" (44 : Nat) "java/lang/StringUTF16" "$assertionsDisabled" "Z").before a0 Z = true := hw _ (own_mem 95 rfl)
theorem own_w96 (hw : own_H a0 Z) : (Jvm.Cond.fieldLink "java/lang/StringUTF16" (59 : Nat) "java/lang/StringUTF16" "HI_BYTE_SHIFT" "I").before a0 Z = true := hw _ (own_mem 96 rfl)
theorem own_w97 (hw : own_H a0 Z) : (Jvm.Cond.fieldLink "java/lang/StringUTF16" (63 : Nat) "java/lang/StringUTF16" "LO_BYTE_SHIFT" "I").before a0 Z = true := hw _ (own_mem 97 rfl)
theorem own_w98 (hw : own_H a0 Z) : (Jvm.Cond.methodLink "java/lang/StringUTF16" (71 : Nat) ({ cls := "java/lang/StringUTF16", name := "getChar", desc := "([BI)C" } : Jvm.MethodName)).before a0 Z = true := hw _ (own_mem 98 rfl)
theorem own_w99 (hw : own_H a0 Z) : (Jvm.Cond.static ({ cls := "java/lang/StringUTF16", name := "getChar", desc := "([BI)C" } : Jvm.MethodName)).before a0 Z = true := hw _ (own_mem 99 rfl)
theorem own_w100 (hw : own_H a0 Z) : (Jvm.Cond.code ({ cls := "java/lang/StringUTF16", name := "getChar", desc := "([BI)C" } : Jvm.MethodName) jdk_52_method_5_code (2 : Nat) (Option.some Jvm.ClassFile.FieldType.char)).before a0 Z = true := hw _ (own_mem 100 rfl)
theorem own_w101 (hw : own_H a0 Z) : (Jvm.Cond.methodLink "java/lang/String" (498 : Nat) ({ cls := "java/lang/StringUTF16", name := "charAt", desc := "([BI)C" } : Jvm.MethodName)).before a0 Z = true := hw _ (own_mem 101 rfl)
theorem own_w102 (hw : own_H a0 Z) : (Jvm.Cond.static ({ cls := "java/lang/StringUTF16", name := "charAt", desc := "([BI)C" } : Jvm.MethodName)).before a0 Z = true := hw _ (own_mem 102 rfl)
theorem own_w103 (hw : own_H a0 Z) : (Jvm.Cond.code ({ cls := "java/lang/StringUTF16", name := "charAt", desc := "([BI)C" } : Jvm.MethodName) jdk_52_method_83_code (2 : Nat) (Option.some Jvm.ClassFile.FieldType.char)).before a0 Z = true := hw _ (own_mem 103 rfl)
theorem own_w104 (hw : own_H a0 Z) : (Jvm.Cond.methodLink "java/lang/StringUTF16" (67 : Nat) ({ cls := "java/lang/StringUTF16", name := "checkIndex", desc := "(I[B)V" } : Jvm.MethodName)).before a0 Z = true := hw _ (own_mem 104 rfl)
theorem own_w105 (hw : own_H a0 Z) : (Jvm.Cond.static ({ cls := "java/lang/StringUTF16", name := "checkIndex", desc := "(I[B)V" } : Jvm.MethodName)).before a0 Z = true := hw _ (own_mem 105 rfl)
theorem own_w106 (hw : own_H a0 Z) : (Jvm.Cond.code ({ cls := "java/lang/StringUTF16", name := "checkIndex", desc := "(I[B)V" } : Jvm.MethodName) jdk_52_method_91_code (2 : Nat) (Option.none : Option Jvm.ClassFile.FieldType)).before a0 Z = true := hw _ (own_mem 106 rfl)
theorem own_w107 (hw : own_H a0 Z) : (Jvm.Cond.methodLink "java/lang/StringUTF16" (48 : Nat) ({ cls := "java/lang/StringUTF16", name := "length", desc := "([B)I" } : Jvm.MethodName)).before a0 Z = true := hw _ (own_mem 107 rfl)
theorem own_w108 (hw : own_H a0 Z) : (Jvm.Cond.static ({ cls := "java/lang/StringUTF16", name := "length", desc := "([B)I" } : Jvm.MethodName)).before a0 Z = true := hw _ (own_mem 108 rfl)
theorem own_w109 (hw : own_H a0 Z) : (Jvm.Cond.code ({ cls := "java/lang/StringUTF16", name := "length", desc := "([B)I" } : Jvm.MethodName) jdk_52_method_6_code (1 : Nat) (Option.some Jvm.ClassFile.FieldType.int)).before a0 Z = true := hw _ (own_mem 109 rfl)
theorem own_w110 (hw : own_H a0 Z) : (Jvm.Cond.methodLink "java/lang/StringUTF16" (414 : Nat) ({ cls := "java/lang/String", name := "checkIndex", desc := "(II)V" } : Jvm.MethodName)).before a0 Z = true := hw _ (own_mem 110 rfl)
theorem own_w111 (hw : own_H a0 Z) : (Jvm.Cond.stringLink "java/lang/String" (7 : Nat) "").before a0 Z = true := hw _ (own_mem 111 rfl)
end OwnW
theorem own_rchar (x : Int32) : ¬ (nar .char x) < 0 ∧ ¬ (65535 : Int32) < (nar .char x) := by
  have h := c_i2c x
  have z0 : (0 : Int32).toInt = 0 := by decide
  have z1 : (65535 : Int32).toInt = 65535 := by decide
  have e : (nar .char x).toInt = x.toUInt32.toUInt16.toUInt32.toInt32.toInt := rfl
  constructor
  · intro q; rw [Int32.lt_iff_toInt_lt] at q; omega
  · intro q; rw [Int32.lt_iff_toInt_lt] at q; omega
theorem own_words (Z : State) (a0 : Array Value) (hw : own_H a0 Z) : ∀ d ∈ StrChars.Road.words, d.before a0 Z = true := fun d hd => hw d ((by decide +kernel : ∀ d ∈ StrChars.Road.words, d ∈ tables_1) d hd)

def own_EL : List (String × Nat) := [("java/lang/String", 7)]
theorem own_tx_0 : ∀ c ∈ "".toList, c.toNat < 256 := by decide +kernel
theorem own_txt_0 : (∀ c ∈ "".toList, c.toNat < 256) ∧ "".toList.map (fun c => Value.int (Jvm.Lit.byteI c.toNat.toUInt16)) = [] := ⟨own_tx_0, by decide +kernel⟩
theorem own_hEL (Z : State) (a0 : Array Value) (hw : own_H a0 Z) : EW Z a0 own_EL := (EW.cons (own_w111 hw) own_tx_0 EW.nil)
theorem own_wS (Z : State) (a0 : Array Value) (hw : own_H a0 Z) : ∀ a ∈ Bundle.stringAtoms, a.before a0 Z = true := fun d hd => hw d ((by decide +kernel : ∀ d ∈ Bundle.stringAtoms, d ∈ tables_1) d hd)
/-- a String whose value is null is no booked literal's cell -/
theorem own_safe_blank {Z : State} {EL : List (String × Nat)} {vm : Vm} {h : Heap} {x : Addr} (hal : Z.vm.Alike vm) (E : Exa Z h x "java/lang/String") (F : Fld Z h x "java/lang/String" "value" "[B" .null) : Safe Z EL vm h x := fun B => by
  obtain ⟨pp, -, u, a, -, q, -, S, hy⟩ := B
  rcases hy with rfl | rfl
  · obtain ⟨cell, cf, k, i, f, h1, h2, h3, h4, h5, h6, h7⟩ := F
    cases (show h[q.sa]? = some q.sC from S.ha).symm.trans h1
    obtain ⟨cS, ⟨⟨-, -, -, ⟨c1, k1, i1, f1, -⟩, -, -, -, v1, -⟩, -⟩, -⟩ := S
    obtain ⟨k3, e3, -⟩ := State.fieldFound?_setVm (s := Z) hal h2
    have e4 := (show (Wst Z vm h).fieldFound? _ _ _ = _ from e3).symm.trans f1
    simp only [Option.some.injEq, Prod.mk.injEq] at e4
    rw [← e4.2.2.2, h7] at v1
    simp at v1
  · obtain ⟨cell, k, e1, e2, e3, -, -⟩ := E
    cases (show h[q.sd]? = some q.SA from S.hd).symm.trans e1
    obtain ⟨cS, -, -, f, -⟩ := S
    have f' : vm.findClass "[B" = some q.SA.cls := f
    rw [hal.findClass] at f'
    obtain ⟨k1, q1, q2⟩ := Vm.findClass_spec f'
    obtain ⟨k2, q3, q4⟩ := Vm.findClass_spec e2
    cases q1.symm.trans q3
    exact absurd (q2.symm.trans q4) (by decide)
theorem own_d3_0 : decode jdk_42_method_149_code 0 = .ok (.aload_n 0, 1) := by decide +kernel
theorem own_d3_1 : decode jdk_42_method_149_code 1 = .ok (.invokespecial 1, 3) := by decide +kernel
theorem own_d3_4 : decode jdk_42_method_149_code 4 = .ok (.iload_n 3, 1) := by decide +kernel
theorem own_d3_5 : decode jdk_42_method_149_code 5 = .ok (.ifCond .ne 22, 3) := by decide +kernel
theorem own_d3_8 : decode jdk_42_method_149_code 8 = .ok (.aload_n 0, 1) := by decide +kernel
theorem own_d3_9 : decode jdk_42_method_149_code 9 = .ok (.ldc 7, 2) := by decide +kernel
theorem own_d3_11 : decode jdk_42_method_149_code 11 = .ok (.getfield 9, 3) := by decide +kernel
theorem own_d3_14 : decode jdk_42_method_149_code 14 = .ok (.putfield 9, 3) := by decide +kernel
theorem own_d3_17 : decode jdk_42_method_149_code 17 = .ok (.aload_n 0, 1) := by decide +kernel
theorem own_d3_18 : decode jdk_42_method_149_code 18 = .ok (.ldc 7, 2) := by decide +kernel
theorem own_d3_20 : decode jdk_42_method_149_code 20 = .ok (.getfield 15, 3) := by decide +kernel
theorem own_d3_23 : decode jdk_42_method_149_code 23 = .ok (.putfield 15, 3) := by decide +kernel
theorem own_d3_26 : decode jdk_42_method_149_code 26 = .ok (.return_, 1) := by decide +kernel
theorem own_pn_java_lang_String : plainName "java/lang/String" = true := by first | (simp [plainName, overriddenIn]; done) | decide +kernel
theorem own_ef_RRIIN_6 (m : MethodId) (x0 : Addr) (x1 : Addr) (x2 : Int32) (x3 : Int32) : entryFrame m #[(.ref x0), (.ref x1), (.int x2), (.int x3), .null] 6 = mkF m 0 #[.val (.ref x0), .val (.ref x1), .val (.int x2), .val (.int x3), .val .null, .unset] [] := by first | (simp [entryFrame, mkF, argsToLocals, Value.category]; done) | rfl
def Q_i4z (Z : State) (a1 : Addr) (a2 : Addr) (h0 : Heap) (n0 : Nat) (v : Option Value) (h : Heap) (L : List Loc) : Prop := v = none ∧ Fr n0 L ∧ Keep h0 h [a1] ∧ Exa Z h a1 "java/lang/String" ∧ Fld Z h a1 "java/lang/String" "coder" "B" (.int 0) ∧ ∃ t kb, Fld Z h a1 "java/lang/String" "value" "[B" (.ref t) ∧ Arv Z h t kb .byte (0 : Int32) [] (.int 0)
theorem rm_i4z (l : Launch) (Z : State) (a0 : Array Value) (hw : own_H a0 Z) (ws : List Jvm.Cond) (a1 : Addr) (a2 : Addr) (h0 : Heap) (n0 : Nat) (Z0 : n0 ≤ h0.size) (E1 : Exa Z h0 a1 "java/lang/String") (F1 : Fld Z h0 a1 "java/lang/String" "value" "[B" .null) (F2 : Fld Z h0 a1 "java/lang/String" "coder" "B" (.int 0)) (g1 : n0 ≤ a1) : own_MS own_EL l (⟨"java/lang/String", "<init>", "([CIILjava/lang/Void;)V"⟩ : MethodName) jdk_42_method_149_code 6 none ws ({ frames := 1, cells := 4, slots := 8, locals := 12 } : Room) Z h0 #[(.ref a1), (.ref a2), (.int (0 : Int32)), (.int (0 : Int32)), .null] (fun _ _ _ _ _ => True) (Q_i4z Z a1 a2 h0 n0) := by
  refine own_startS (plainFor_of_name own_pn_java_lang_String) fun p e s m below meth c s₁ Bd hx hby hml hown0 X0 e0 hh0 hZ hCH0 hS0 hK Pst hPst => ?_
  have hown : s.vm.findClass "java/lang/String" = some m.cls := hown0
  have hnm := (name_of_methodNamed Bd.named Bd.method).1
  have N0 := Fr.nil n0
  have hk0 : 0 ≤ h0.size := Nat.zero_le _
  have hEL := own_hEL Z a0 hw
  rw [own_ef_RRIIN_6 m a1 a2 (0 : Int32) (0 : Int32)]
  have sf1 : Safe Z own_EL s.vm h0 a1 := own_safe_blank hZ.alike E1 F1
  refine own_x_aloadN X0.here hx (hb hby own_d3_0) rfl rfl ?_
  refine own_h_initO X0 hx hZ hown (own_w17 hw) (own_w18 hw) (own_w19 hw) e0 (by rw [hml]; rfl) rfl (hb hby own_d3_1) (by decide) (W := 0) (by show 2 * 0 + _ ≤ _; exact Nat.le_of_eq rfl) (by decide) fun T101 X101 e101 => ?_
  refine own_x_iloadN X101.here hx (hb hby own_d3_4) rfl ?_
  refine own_x_ifNo X101.here hx (hb hby own_d3_5) rfl ((if0 _ _).trans (teq rfl).2) ?_
  refine own_x_aloadN X101.here hx (hb hby own_d3_8) rfl rfl ?_
  obtain ⟨a102, T102, h102, j102, b102, k102, X102, e102, E102, hS102, hk102, hZ102, hown102, A102, C102, V102, K102, la102, lb102, cr102, lit102, sn102, st102⟩ := ldcCH X101 hx hZ hown (own_w111 hw) (own_wS Z a0 hw) e101 hS0 hk0 hEL (List.mem_of_getElem? (i := 0) rfl) hCH0 (vs := []) (z := (0 : Int32)) own_txt_0 (by decide) rfl (g := (mkF m 9 #[.val (.ref a1), .val (.ref a2), .val (.int (0 : Int32)), .val (.int (0 : Int32)), .val .null, .unset] [(.ref a1)])) rfl (hb hby own_d3_9) (n := 0) (by decide) (by decide) (by decide) (by decide)
  refine own_Go.of st102 ?_
  have c103 := cr102.1
  have c104 := (CHr.trans (CHr.refl hCH0) cr102)
  have c105 := (cr102.safe E1.lt sf1)
  have nl_a1_102 := sn102 _ c105
  show own_Go p e below Pst (T102.setTop (mkF m 11 #[.val (.ref a1), .val (.ref a2), .val (.int (0 : Int32)), .val (.int (0 : Int32)), .val .null, .unset] [(.ref a102), (.ref a1)]))
  refine own_h_getF X102 hx hZ102 hown102 (host := "") (Or.inl (own_w34 hw)) Via.refl e102 V102 rfl (hb hby own_d3_11) fun T106 X106 e106 => ?_
  have c107 := (E1.ext E102)
  have c108 := (F1.ext E102)
  refine own_h_putF X106 hx hZ102 hown102 (host := "") (Or.inl (own_w34 hw)) Via.refl e106 c108 c107 (Or.inr ⟨(own_w35 hw), rfl, hnm⟩) (own_w8 hw) (ty := (.array .byte)) (by decide) rfl rfl rfl (hb hby own_d3_14) fun T109 h109 X109 e109 W109 => ?_
  have c110 := (CHv.wr W109 c105 c103)
  have c111 := (CHr.trans c104 (CHr.wr W109 c105 c103))
  have c112 := (Nat.le_trans hk102 (Keep.of_wr W109).1)
  have Fw109 := Fld.same W109 c108
  have N109 := Fr.snoc X109 N0 g1
  refine own_x_aloadN X109.here hx (hb hby own_d3_17) rfl rfl ?_
  have c114 := (c107.wr W109)
  obtain ⟨a113, T113, h113, j113, b113, k113, X113, e113, E113, hS113, hk113, hZ113, hown113, A113, C113, V113, K113, la113, lb113, cr113, lit113, sn113, st113⟩ := ldcCH X109 hx hZ102 hown102 (own_w111 hw) (own_wS Z a0 hw) e109 hS102 c112 hEL (List.mem_of_getElem? (i := 0) rfl) c110 (vs := []) (z := (0 : Int32)) own_txt_0 (by decide) rfl (g := (mkF m 18 #[.val (.ref a1), .val (.ref a2), .val (.int (0 : Int32)), .val (.int (0 : Int32)), .val .null, .unset] [(.ref a1)])) rfl (hb hby own_d3_18) (n := 0) (by decide) (by decide) (by decide) (by decide)
  refine own_Go.of st113 ?_
  have c115 := cr113.1
  have c116 := (CHr.trans c111 cr113)
  have c117 := (cr113.safe c114.lt (Safe.wr W109 c105 c103 c105))
  have nl_a1_113 := sn113 _ c117
  show own_Go p e below Pst (T113.setTop (mkF m 20 #[.val (.ref a1), .val (.ref a2), .val (.int (0 : Int32)), .val (.int (0 : Int32)), .val .null, .unset] [(.ref a113), (.ref a1)]))
  refine own_h_getF X113 hx hZ113 hown113 (host := "") (Or.inl (own_w32 hw)) Via.refl e113 C113 rfl (hb hby own_d3_20) fun T118 X118 e118 => ?_
  have c119 := (c114.ext E113)
  have c120 := (((F2.ext E102).other W109 (Or.inr (slot_ne (Or.inr (own_w33 hw)) (Or.inr (own_w35 hw)) (by decide) (t := .byte) (t' := (.array .byte)) (by decide) (by decide)))).ext E113)
  refine own_h_putFN X118 hx hZ113 hown113 (own_w32 hw) Via.refl e118 c120 c119 (Or.inr ⟨(own_w33 hw), rfl, hnm⟩) (own_w8 hw) (ty := .byte) (v' := (.int (0 : Int32))) (by decide) rfl rfl rfl (hb hby own_d3_23) fun T121 h121 X121 e121 W121 => ?_
  have c122 := (CHv.wr W121 c117 c115)
  have c123 := (CHr.trans c116 (CHr.wr W121 c117 c115))
  have c124 := (Nat.le_trans hk113 (Keep.of_wr W121).1)
  have Fw121 := Fld.same W121 c120
  have N121 := Fr.snoc X121 N109 g1
  have c125 := (((((Keep.refl h0 [a1]).ext E102).wr W109 (Or.inl (List.mem_of_getElem? (i := 0) rfl))).ext E113).wr W121 (Or.inl (List.mem_of_getElem? (i := 0) rfl)))
  have c126 := (c119.wr W121)
  have c127 := ((Fw109.ext E113).other W121 (Or.inr (slot_ne (Or.inr (own_w35 hw)) (Or.inr (own_w33 hw)) (by decide) (t := (.array .byte)) (t' := .byte) (by decide) (by decide))))
  have c128 := (((K102.other W109 (Ne.symm nl_a1_102.2)).ext E113).other W121 (Ne.symm nl_a1_102.2))
  rw [hPst]
  exact own_retW X121 hS113 (by rw [e121]; exact c124) (v := none) (Q := Q_i4z Z a1 a2 h0 n0) (fun _ => rfl) Bd.notSynchronized (fun fs hr => X121.returnOut hx Bd.returns (hb hby own_d3_26) hr) (by decide) (by decide) (by rw [hh0, e121]; exact CHr.trans c123 (CHv.at X121 hZ113 hEL c122)) (by rw [e121]; exact ⟨rfl, N121, c125, c126, Fw121, _, _, c127, c128⟩)
theorem own_d2_0 : decode jdk_42_method_3_code 0 = .ok (.aload_n 0, 1) := by decide +kernel
theorem own_d2_1 : decode jdk_42_method_3_code 1 = .ok (.aload_n 1, 1) := by decide +kernel
theorem own_d2_2 : decode jdk_42_method_3_code 2 = .ok (.iconst 0, 1) := by decide +kernel
theorem own_d2_3 : decode jdk_42_method_3_code 3 = .ok (.aload_n 1, 1) := by decide +kernel
theorem own_d2_4 : decode jdk_42_method_3_code 4 = .ok (.arraylength, 1) := by decide +kernel
theorem own_d2_5 : decode jdk_42_method_3_code 5 = .ok (.aconst_null, 1) := by decide +kernel
theorem own_d2_6 : decode jdk_42_method_3_code 6 = .ok (.invokespecial 27, 3) := by decide +kernel
theorem own_pd0 : parseMethodDescriptor "([CIILjava/lang/Void;)V" = some ⟨[(.array .char), .int, .int, (.object "java/lang/Void")], none⟩ := by decide +kernel
theorem own_d2_9 : decode jdk_42_method_3_code 9 = .ok (.return_, 1) := by decide +kernel
theorem own_ef_RR_2 (m : MethodId) (x0 : Addr) (x1 : Addr) : entryFrame m #[(.ref x0), (.ref x1)] 2 = mkF m 0 #[.val (.ref x0), .val (.ref x1)] [] := by first | (simp [entryFrame, mkF, argsToLocals, Value.category]; done) | rfl
def Q_i1z (Z : State) (a1 : Addr) (a2 : Addr) (kc : ClassId) (vs : List Value) (dv : Value) (h0 : Heap) (n0 : Nat) (v : Option Value) (h : Heap) (L : List Loc) : Prop := v = none ∧ Fr n0 L ∧ Keep h0 h [a1] ∧ Exa Z h a1 "java/lang/String" ∧ Fld Z h a1 "java/lang/String" "coder" "B" (.int 0) ∧ ∃ t kb, Fld Z h a1 "java/lang/String" "value" "[B" (.ref t) ∧ Arv Z h t kb .byte (0 : Int32) [] (.int 0)
theorem rm_i1z (l : Launch) (Z : State) (a0 : Array Value) (hw : own_H a0 Z) (ws : List Jvm.Cond) (a1 : Addr) (a2 : Addr) (kc : ClassId) (vs : List Value) (dv : Value) (h0 : Heap) (n0 : Nat) (Z0 : n0 ≤ h0.size) (E1 : Exa Z h0 a1 "java/lang/String") (F1 : Fld Z h0 a1 "java/lang/String" "value" "[B" .null) (F2 : Fld Z h0 a1 "java/lang/String" "coder" "B" (.int 0)) (g1 : n0 ≤ a1) (A1 : Arv Z h0 a2 kc .char (0 : Int32) vs dv) : own_MS own_EL l (⟨"java/lang/String", "<init>", "([C)V"⟩ : MethodName) jdk_42_method_3_code 2 none ws ({ frames := 2, cells := 4, slots := 8, locals := 29 } : Room) Z h0 #[(.ref a1), (.ref a2)] (fun _ _ _ _ _ => True) (Q_i1z Z a1 a2 kc vs dv h0 n0) := by
  refine own_startS (plainFor_of_name own_pn_java_lang_String) fun p e s m below meth c s₁ Bd hx hby hml hown0 X0 e0 hh0 hZ hCH0 hS0 hK Pst hPst => ?_
  have hown : s.vm.findClass "java/lang/String" = some m.cls := hown0
  have hnm := (name_of_methodNamed Bd.named Bd.method).1
  have N0 := Fr.nil n0
  have hk0 : 0 ≤ h0.size := Nat.zero_le _
  have hEL := own_hEL Z a0 hw
  rw [own_ef_RR_2 m a1 a2]
  have sf1 : Safe Z own_EL s.vm h0 a1 := own_safe_blank hZ.alike E1 F1
  refine own_x_aloadN X0.here hx (hb hby own_d2_0) rfl rfl ?_
  refine own_x_aloadN X0.here hx (hb hby own_d2_1) rfl rfl ?_
  refine own_x_iconst X0.here hx (hb hby own_d2_2) (z := (0 : Int32)) rfl ?_
  refine own_x_aloadN X0.here hx (hb hby own_d2_3) rfl rfl ?_
  obtain ⟨cl101, Ar101, -, S101, P101, -, -⟩ := id A1
  refine own_Go.of (S' := s₁.setTop (mkF m 5 #[.val (.ref a1), .val (.ref a2)] [(.int (0 : Int32)), (.int (0 : Int32)), (.ref a2), (.ref a1)])) (fun tgt kst => X0.arraylength hx (by rw [e0]; exact Ar101.1) (State.isArrayOf_alike hZ.alike Ar101.2.1) (g := (mkF m 4 #[.val (.ref a1), .val (.ref a2)] [(.ref a2), (.int (0 : Int32)), (.ref a2), (.ref a1)])) rfl rfl (hb hby own_d2_4) _ (by rw [len_of S101 P101]; exact kst)) ?_
  refine own_x_aconstNull X0.here hx (hb hby own_d2_5) ?_
  refine own_cS X0 hS0 (by rw [e0]; exact hk0) hZ hown (X0.specialBackS hx (y := (⟨"java/lang/String", "<init>", "([CIILjava/lang/Void;)V"⟩ : MethodName)) rfl hown (mvT hZ (own_w13 hw)) (mvT hZ (own_w14 hw)) (mvT hZ (own_w16 hw)) (by decide) (backOfSH (W := 0) (rm_i4z l Z a0 hw [] a1 a2 h0 n0 Z0 E1 F1 F2 g1) hZ (own_w16 hw) (own_w9 hw) (by decide) (by decide) hEL hCH0) (g := (mkF m 6 #[.val (.ref a1), .val (.ref a2)] [.null, (.int (0 : Int32)), (.int (0 : Int32)), (.ref a2), (.ref a1)])) rfl (by rw [hml]; rfl) (Steps.refl _) (a := a1) (argsL := [(.ref a2), (.int (0 : Int32)), (.int (0 : Int32)), .null]) (rest := []) (lenOf own_pd0 rfl) rfl (by show 2 * 0 + _ ≤ _; exact Nat.le_of_eq rfl) (hb hby own_d2_6) (fun _ _ => ⟨rfl, e0, (by decide : 0 + 4 ≤ _), (by decide : 0 + 8 ≤ _)⟩)) fun v102 T102 L102 X102 hS102 hZ102 hown102 hQ102 cr102 => ?_
  obtain ⟨rfl, Nq102, K102, A102, C102, t102, kb102, V102, B102⟩ := hQ102
  have N102 := Fr.app N0 Nq102
  have c103 := cr102.1
  have c104 := (CHr.trans (CHr.refl hCH0) cr102)
  have c105 := (Nat.le_trans hk0 K102.1)
  show own_Go p e below Pst (T102.setTop (mkF m 9 #[.val (.ref a1), .val (.ref a2)] []))
  have c106 := (Keep.trans (Keep.refl h0 [a1]) K102 (allS (Or.inl (List.mem_of_getElem? (i := 0) rfl)) all0))
  rw [hPst]
  exact own_retW X102 hS102 (Nat.le_refl _) (v := none) (Q := Q_i1z Z a1 a2 kc vs dv h0 n0) (fun _ => rfl) Bd.notSynchronized (fun fs hr => X102.returnOut hx Bd.returns (hb hby own_d2_9) hr) (by decide) (by decide) (by rw [hh0]; exact CHr.trans c104 (CHv.at X102 hZ102 hEL c103)) ⟨rfl, N102, c106, A102, C102, _, _, V102, B102⟩
/-- the two bytes of a char, as putChar lays them -/
def own_lo8 (c : Int32) : Int32 := nar .byte ((c >>> ((0 : Int32) &&& 31)).toInt8.toInt32)
def own_hi8 (c : Int32) : Int32 := nar .byte ((c >>> ((8 : Int32) &&& 31)).toInt8.toInt32)
def own_u16 (cs : List Int32) : List Value := cs.flatMap fun c => [.int (own_lo8 c), .int (own_hi8 c)]
def own_join (x0 x1 : Int32) : Int32 := (((x0 &&& (255 : Int32)) <<< ((0 : Int32) &&& 31)) ||| ((x1 &&& (255 : Int32)) <<< ((8 : Int32) &&& 31))).toUInt32.toUInt16.toUInt32.toInt32
theorem own_ltt {x y z : Int32} (h1 : x < y) (h2 : y < z) : x < z := by rw [Int32.lt_iff_toInt_lt] at *; omega
/-- a char is put together again out of its two bytes -/
theorem own_join_eq {c : Int32} (h0 : ¬ c < 0) (h1 : ¬ (65535 : Int32) < c) : nar .char (own_join (own_lo8 c) (own_hi8 c)) = c := by
  rw [Int32.lt_iff_toInt_lt] at h0 h1
  have z0 : (0 : Int32).toInt = 0 := by decide
  have z1 : (65535 : Int32).toInt = 65535 := by decide
  rw [z0] at h0; rw [z1] at h1
  have s0 : (c >>> ((0 : Int32) &&& 31)).toInt = c.toInt / (2 ^ 0 : Nat) := c_ishr c 0 0 (by decide)
  have s8 : (c >>> ((8 : Int32) &&& 31)).toInt = c.toInt / (2 ^ 8 : Nat) := c_ishr c 8 8 (by decide)
  have b0 := c_i2b (c >>> ((0 : Int32) &&& 31))
  have b1 := c_i2b ((c >>> ((0 : Int32) &&& 31)).toInt8.toInt32)
  have d0 := c_i2b (c >>> ((8 : Int32) &&& 31))
  have d1 := c_i2b ((c >>> ((8 : Int32) &&& 31)).toInt8.toInt32)
  have m0 : (own_lo8 c &&& (255 : Int32)).toInt = (own_lo8 c).toInt % (2 ^ 8 : Nat) := c_mask _ _ 8 (by decide) (by decide)
  have m1 : (own_hi8 c &&& (255 : Int32)).toInt = (own_hi8 c).toInt % (2 ^ 8 : Nat) := c_mask _ _ 8 (by decide) (by decide)
  have e0 : own_lo8 c = ((c >>> ((0 : Int32) &&& 31)).toInt8.toInt32).toInt8.toInt32 := rfl
  have e1 : own_hi8 c = ((c >>> ((8 : Int32) &&& 31)).toInt8.toInt32).toInt8.toInt32 := rfl
  rw [← e0] at b1; rw [← e1] at d1
  have t0 := c_ishl (own_lo8 c &&& (255 : Int32)) 0 0 (by decide)
  have t1 := c_ishl (own_hi8 c &&& (255 : Int32)) 8 8 (by decide)
  have r0 := rng32 ((own_lo8 c &&& (255 : Int32)) <<< ((0 : Int32) &&& 31))
  have r1 := rng32 ((own_hi8 c &&& (255 : Int32)) <<< ((8 : Int32) &&& 31))
  have o := c_or' ((own_lo8 c &&& (255 : Int32)) <<< ((0 : Int32) &&& 31)) ((own_hi8 c &&& (255 : Int32)) <<< ((8 : Int32) &&& 31)) 8 (by decide) 256 (by decide)
  generalize hA : (own_lo8 c &&& (255 : Int32)) <<< ((0 : Int32) &&& 31) = A at *
  generalize hB : (own_hi8 c &&& (255 : Int32)) <<< ((8 : Int32) &&& 31) = B at *
  have ro := rng32 (A ||| B)
  have ej : own_join (own_lo8 c) (own_hi8 c) = (A ||| B).toUInt32.toUInt16.toUInt32.toInt32 := by rw [← hA, ← hB]; rfl
  have q1 := c_i2c (A ||| B)
  have q2 := c_i2c ((A ||| B).toUInt32.toUInt16.toUInt32.toInt32)
  have en : nar .char (own_join (own_lo8 c) (own_hi8 c)) = ((A ||| B).toUInt32.toUInt16.toUInt32.toInt32).toUInt32.toUInt16.toUInt32.toInt32 := by rw [ej]; rfl
  rw [en]
  apply Int32.toInt_inj.mp
  have o' := o (by omega) (by omega) (by omega)
  omega

theorem own_d22_0 : decode jdk_52_method_4_code 0 = .ok (.getstatic 44, 3) := by decide +kernel
theorem own_d22_3 : decode jdk_52_method_4_code 3 = .ok (.ifCond .ne 25, 3) := by decide +kernel
theorem own_d22_28 : decode jdk_52_method_4_code 28 = .ok (.iload_n 1, 1) := by decide +kernel
theorem own_d22_29 : decode jdk_52_method_4_code 29 = .ok (.iconst 1, 1) := by decide +kernel
theorem own_d22_30 : decode jdk_52_method_4_code 30 = .ok (.ishl, 1) := by decide +kernel
theorem own_d22_31 : decode jdk_52_method_4_code 31 = .ok (.istore_n 1, 1) := by decide +kernel
theorem own_d22_32 : decode jdk_52_method_4_code 32 = .ok (.aload_n 0, 1) := by decide +kernel
theorem own_d22_33 : decode jdk_52_method_4_code 33 = .ok (.iload_n 1, 1) := by decide +kernel
theorem own_d22_34 : decode jdk_52_method_4_code 34 = .ok (.iinc 1 1, 3) := by decide +kernel
theorem own_d22_37 : decode jdk_52_method_4_code 37 = .ok (.iload_n 2, 1) := by decide +kernel
theorem own_d22_38 : decode jdk_52_method_4_code 38 = .ok (.getstatic 59, 3) := by decide +kernel
theorem own_d22_41 : decode jdk_52_method_4_code 41 = .ok (.ishr, 1) := by decide +kernel
theorem own_d22_42 : decode jdk_52_method_4_code 42 = .ok (.i2b, 1) := by decide +kernel
theorem own_d22_43 : decode jdk_52_method_4_code 43 = .ok (.bastore, 1) := by decide +kernel
theorem own_d22_44 : decode jdk_52_method_4_code 44 = .ok (.aload_n 0, 1) := by decide +kernel
theorem own_d22_45 : decode jdk_52_method_4_code 45 = .ok (.iload_n 1, 1) := by decide +kernel
theorem own_d22_46 : decode jdk_52_method_4_code 46 = .ok (.iload_n 2, 1) := by decide +kernel
theorem own_d22_47 : decode jdk_52_method_4_code 47 = .ok (.getstatic 63, 3) := by decide +kernel
theorem own_d22_50 : decode jdk_52_method_4_code 50 = .ok (.ishr, 1) := by decide +kernel
theorem own_d22_51 : decode jdk_52_method_4_code 51 = .ok (.i2b, 1) := by decide +kernel
theorem own_d22_52 : decode jdk_52_method_4_code 52 = .ok (.bastore, 1) := by decide +kernel
theorem own_d22_53 : decode jdk_52_method_4_code 53 = .ok (.return_, 1) := by decide +kernel
theorem own_pn_java_lang_StringUTF16 : plainName "java/lang/StringUTF16" = true := by first | (simp [plainName, overriddenIn]; done) | decide +kernel
theorem own_ef_RII_3 (m : MethodId) (x0 : Addr) (x1 : Int32) (x2 : Int32) : entryFrame m #[(.ref x0), (.int x1), (.int x2)] 3 = mkF m 0 #[.val (.ref x0), .val (.int x1), .val (.int x2)] [] := by first | (simp [entryFrame, mkF, argsToLocals, Value.category]; done) | rfl
def Q_put0 (Z : State) (a1 : Addr) (kb : ClassId) (N c : Int32) (vs : List Value) (h0 : Heap) (n0 : Nat) (v : Option Value) (h : Heap) (L : List Loc) : Prop := v = none ∧ Fr n0 L ∧ Keep h0 h [a1] ∧ Arv Z h a1 kb .byte N ((vs.set 0 (.int (own_lo8 c))).set 1 (.int (own_hi8 c))) (.int 0)
theorem rm_put0 (l : Launch) (Z : State) (a0 : Array Value) (hw : own_H a0 Z) (ws : List Jvm.Cond) (a1 : Addr) (kb : ClassId) (N c : Int32) (vs : List Value) (h0 : Heap) (n0 : Nat) (Z0 : n0 ≤ h0.size) (O : Old Z n0 h0) (SU0 : Sta Z Z.heap "java/lang/StringUTF16" "$assertionsDisabled" "Z" (.int (1 : Int32))) (SU1 : Sta Z Z.heap "java/lang/StringUTF16" "HI_BYTE_SHIFT" "I" (.int (0 : Int32))) (SU2 : Sta Z Z.heap "java/lang/StringUTF16" "LO_BYTE_SHIFT" "I" (.int (8 : Int32))) (g1 : n0 ≤ a1) (A1 : Arv Z h0 a1 kb .byte N vs (.int 0)) (hN : (1 : Int32) < N) (hl : 1 < vs.length) : own_MP l (⟨"java/lang/StringUTF16", "putChar", "([BII)V"⟩ : MethodName) jdk_52_method_4_code 3 none ws ({ frames := 0, cells := 0, slots := 0, locals := 0 } : Room) Z h0 #[(.ref a1), (.int (0 : Int32)), (.int c)] (fun _ _ _ _ _ => True) (Q_put0 Z a1 kb N c vs h0 n0) := by
  refine own_startP (plainFor_of_name own_pn_java_lang_StringUTF16) fun p e s m below meth c' s₁ Bd hx hby hml hown0 X0 e0 hh0 hZ hK Pst hPst => ?_
  have hown : s.vm.findClass "java/lang/StringUTF16" = some m.cls := hown0
  have hnm := (name_of_methodNamed Bd.named Bd.method).1
  have N0 := Fr.nil n0
  rw [own_ef_RII_3 m a1 (0 : Int32) c]
  refine own_h_getS2 X0 hx hZ hown (host := "") (Or.inl (own_w95 hw)) Via.refl e0 (SU0.ext O.2) (hb hby own_d22_0) fun T101 X101 e101 => ?_
  refine own_x_ifYes X101.here hx (pc0 := 3) (pc' := 28) rfl (hb hby own_d22_3) rfl ((if0 _ _).trans (feq (by decide)).2) (by decide) (by decide) ?_
  refine own_x_iloadN X101.here hx (hb hby own_d22_28) rfl ?_
  refine own_x_iconst X101.here hx (hb hby own_d22_29) (z := (1 : Int32)) rfl ?_
  refine own_x_ishl X101.here hx (hb hby own_d22_30) rfl ?_
  rw [show ((0 : Int32) <<< ((1 : Int32) &&& 31)) = (0 : Int32) from by decide]
  show own_Go p e below Pst (T101.setTop (mkF m 31 #[.val (.ref a1), .val (.int (0 : Int32)), .val (.int c)] [(.int (0 : Int32))]))
  refine own_x_istoreN X101.here hx (hb hby own_d22_31) rfl (l' := #[.val (.ref a1), .val (.int (0 : Int32)), .val (.int c)]) rfl ?_
  refine own_x_aloadN X101.here hx (hb hby own_d22_32) rfl rfl ?_
  refine own_x_iloadN X101.here hx (hb hby own_d22_33) rfl ?_
  refine own_x_iinc X101.here hx (hb hby own_d22_34) rfl (l' := #[.val (.ref a1), .val (.int ((0 : Int32) + (1 : Int32))), .val (.int c)]) rfl ?_
  rw [show ((0 : Int32) + (1 : Int32)) = (1 : Int32) from by decide]
  show own_Go p e below Pst (T101.setTop (mkF m 37 #[.val (.ref a1), .val (.int (1 : Int32)), .val (.int c)] [(.int (0 : Int32)), (.ref a1)]))
  refine own_x_iloadN X101.here hx (hb hby own_d22_37) rfl ?_
  refine own_h_getS2 X101 hx hZ hown (host := "") (Or.inl (own_w96 hw)) Via.refl e101 (SU1.ext O.2) (hb hby own_d22_38) fun T102 X102 e102 => ?_
  refine own_x_ishr X102.here hx (hb hby own_d22_41) rfl ?_
  refine own_x_i2b X102.here hx (hb hby own_d22_42) rfl ?_
  obtain ⟨cl103, Ar103, q103, S103, P103, H103, G103⟩ := A1
  have hin103 : ¬ ((0 : Int32) < 0 ∨ cl103.slots.size ≤ ((0 : Int32)).toNatClampNeg) := inb_of S103 ⟨by decide, own_ltt (by decide) hN⟩
  refine own_h_stB X102 hx hZ e102 Ar103 (j := (0 : Int32)) hin103 rfl (hb hby own_d22_43) fun T103 h103 X103 e103 W103 => ?_
  have V103 := Arv.set Ar103 q103 S103 P103 H103 G103 (fits_nar_byte _) W103 0 rfl (Nat.lt_of_succ_lt hl)
  have N103 := Fr.snoc X103 N0 g1
  refine own_x_aloadN X103.here hx (hb hby own_d22_44) rfl rfl ?_
  refine own_x_iloadN X103.here hx (hb hby own_d22_45) rfl ?_
  refine own_x_iloadN X103.here hx (hb hby own_d22_46) rfl ?_
  have c104 := (O.wr W103 g1)
  refine own_h_getS2 X103 hx hZ hown (host := "") (Or.inl (own_w97 hw)) Via.refl e103 (SU2.ext c104.2) (hb hby own_d22_47) fun T105 X105 e105 => ?_
  refine own_x_ishr X105.here hx (hb hby own_d22_50) rfl ?_
  refine own_x_i2b X105.here hx (hb hby own_d22_51) rfl ?_
  obtain ⟨cl106, Ar106, q106, S106, P106, H106, G106⟩ := V103
  have hin106 : ¬ ((1 : Int32) < 0 ∨ cl106.slots.size ≤ ((1 : Int32)).toNatClampNeg) := inb_of S106 ⟨by decide, hN⟩
  refine own_h_stB X105 hx hZ e105 Ar106 (j := (1 : Int32)) hin106 rfl (hb hby own_d22_52) fun T106 h106 X106 e106 W106 => ?_
  have V106 := Arv.set Ar106 q106 S106 P106 H106 G106 (fits_nar_byte _) W106 1 rfl (by rw [List.length_set]; exact hl)
  have N106 := Fr.snoc X106 N103 g1
  have c107 := (((Keep.refl h0 [a1]).wr W103 (Or.inl (List.mem_of_getElem? (i := 0) rfl))).wr W106 (Or.inl (List.mem_of_getElem? (i := 0) rfl)))
  rw [hPst]
  exact own_retP X106 (v := none) (Q := Q_put0 Z a1 kb N c vs h0 n0) (fun _ => rfl) Bd.notSynchronized (fun fs hr => X106.returnOut hx Bd.returns (hb hby own_d22_53) hr) (by decide) (by decide) (by rw [e106]; exact ⟨rfl, N106, c107, V106⟩)
theorem own_d23_0 : decode jdk_52_method_5_code 0 = .ok (.getstatic 44, 3) := by decide +kernel
theorem own_d23_3 : decode jdk_52_method_5_code 3 = .ok (.ifCond .ne 25, 3) := by decide +kernel
theorem own_d23_28 : decode jdk_52_method_5_code 28 = .ok (.iload_n 1, 1) := by decide +kernel
theorem own_d23_29 : decode jdk_52_method_5_code 29 = .ok (.iconst 1, 1) := by decide +kernel
theorem own_d23_30 : decode jdk_52_method_5_code 30 = .ok (.ishl, 1) := by decide +kernel
theorem own_d23_31 : decode jdk_52_method_5_code 31 = .ok (.istore_n 1, 1) := by decide +kernel
theorem own_d23_32 : decode jdk_52_method_5_code 32 = .ok (.aload_n 0, 1) := by decide +kernel
theorem own_d23_33 : decode jdk_52_method_5_code 33 = .ok (.iload_n 1, 1) := by decide +kernel
theorem own_d23_34 : decode jdk_52_method_5_code 34 = .ok (.iinc 1 1, 3) := by decide +kernel
theorem own_d23_37 : decode jdk_52_method_5_code 37 = .ok (.baload, 1) := by decide +kernel
theorem own_d23_38 : decode jdk_52_method_5_code 38 = .ok (.sipush 255, 3) := by decide +kernel
theorem own_d23_41 : decode jdk_52_method_5_code 41 = .ok (.iand, 1) := by decide +kernel
theorem own_d23_42 : decode jdk_52_method_5_code 42 = .ok (.getstatic 59, 3) := by decide +kernel
theorem own_d23_45 : decode jdk_52_method_5_code 45 = .ok (.ishl, 1) := by decide +kernel
theorem own_d23_46 : decode jdk_52_method_5_code 46 = .ok (.aload_n 0, 1) := by decide +kernel
theorem own_d23_47 : decode jdk_52_method_5_code 47 = .ok (.iload_n 1, 1) := by decide +kernel
theorem own_d23_48 : decode jdk_52_method_5_code 48 = .ok (.baload, 1) := by decide +kernel
theorem own_d23_49 : decode jdk_52_method_5_code 49 = .ok (.sipush 255, 3) := by decide +kernel
theorem own_d23_52 : decode jdk_52_method_5_code 52 = .ok (.iand, 1) := by decide +kernel
theorem own_d23_53 : decode jdk_52_method_5_code 53 = .ok (.getstatic 63, 3) := by decide +kernel
theorem own_d23_56 : decode jdk_52_method_5_code 56 = .ok (.ishl, 1) := by decide +kernel
theorem own_d23_57 : decode jdk_52_method_5_code 57 = .ok (.ior, 1) := by decide +kernel
theorem own_d23_58 : decode jdk_52_method_5_code 58 = .ok (.i2c, 1) := by decide +kernel
theorem own_d23_59 : decode jdk_52_method_5_code 59 = .ok (.ireturn, 1) := by decide +kernel
theorem own_ef_RI_2 (m : MethodId) (x0 : Addr) (x1 : Int32) : entryFrame m #[(.ref x0), (.int x1)] 2 = mkF m 0 #[.val (.ref x0), .val (.int x1)] [] := by first | (simp [entryFrame, mkF, argsToLocals, Value.category]; done) | rfl
def Q_getc0 (Z : State) (a1 : Addr) (kb : ClassId) (N x0 x1 : Int32) (vs : List Value) (h0 : Heap) (n0 : Nat) (v : Option Value) (h : Heap) (L : List Loc) : Prop := v = some (.int (nar .char (own_join x0 x1))) ∧ Fr n0 L ∧ h = h0
theorem rm_getc0 (l : Launch) (Z : State) (a0 : Array Value) (hw : own_H a0 Z) (ws : List Jvm.Cond) (a1 : Addr) (kb : ClassId) (N x0 x1 : Int32) (vs : List Value) (h0 : Heap) (n0 : Nat) (Z0 : n0 ≤ h0.size) (O : Old Z n0 h0) (SU0 : Sta Z Z.heap "java/lang/StringUTF16" "$assertionsDisabled" "Z" (.int (1 : Int32))) (SU1 : Sta Z Z.heap "java/lang/StringUTF16" "HI_BYTE_SHIFT" "I" (.int (0 : Int32))) (SU2 : Sta Z Z.heap "java/lang/StringUTF16" "LO_BYTE_SHIFT" "I" (.int (8 : Int32))) (A1 : Arv Z h0 a1 kb .byte N vs (.int 0)) (hN : (1 : Int32) < N) (hv0 : vs.getD 0 (.int 0) = .int x0) (hv1 : vs.getD 1 (.int 0) = .int x1) : own_MP l (⟨"java/lang/StringUTF16", "getChar", "([BI)C"⟩ : MethodName) jdk_52_method_5_code 2 (some .char) ws ({ frames := 0, cells := 0, slots := 0, locals := 0 } : Room) Z h0 #[(.ref a1), (.int (0 : Int32))] (fun _ _ _ _ _ => True) (Q_getc0 Z a1 kb N x0 x1 vs h0 n0) := by
  refine own_startP (plainFor_of_name own_pn_java_lang_StringUTF16) fun p e s m below meth c s₁ Bd hx hby hml hown0 X0 e0 hh0 hZ hK Pst hPst => ?_
  have hown : s.vm.findClass "java/lang/StringUTF16" = some m.cls := hown0
  have hnm := (name_of_methodNamed Bd.named Bd.method).1
  have N0 := Fr.nil n0
  rw [own_ef_RI_2 m a1 (0 : Int32)]
  refine own_h_getS2 X0 hx hZ hown (host := "") (Or.inl (own_w95 hw)) Via.refl e0 (SU0.ext O.2) (hb hby own_d23_0) fun T101 X101 e101 => ?_
  refine own_x_ifYes X101.here hx (pc0 := 3) (pc' := 28) rfl (hb hby own_d23_3) rfl ((if0 _ _).trans (feq (by decide)).2) (by decide) (by decide) ?_
  refine own_x_iloadN X101.here hx (hb hby own_d23_28) rfl ?_
  refine own_x_iconst X101.here hx (hb hby own_d23_29) (z := (1 : Int32)) rfl ?_
  refine own_x_ishl X101.here hx (hb hby own_d23_30) rfl ?_
  rw [show ((0 : Int32) <<< ((1 : Int32) &&& 31)) = (0 : Int32) from by decide]
  show own_Go p e below Pst (T101.setTop (mkF m 31 #[.val (.ref a1), .val (.int (0 : Int32))] [(.int (0 : Int32))]))
  refine own_x_istoreN X101.here hx (hb hby own_d23_31) rfl (l' := #[.val (.ref a1), .val (.int (0 : Int32))]) rfl ?_
  refine own_x_aloadN X101.here hx (hb hby own_d23_32) rfl rfl ?_
  refine own_x_iloadN X101.here hx (hb hby own_d23_33) rfl ?_
  refine own_x_iinc X101.here hx (hb hby own_d23_34) rfl (l' := #[.val (.ref a1), .val (.int ((0 : Int32) + (1 : Int32)))]) rfl ?_
  rw [show ((0 : Int32) + (1 : Int32)) = (1 : Int32) from by decide]
  show own_Go p e below Pst (T101.setTop (mkF m 37 #[.val (.ref a1), .val (.int (1 : Int32))] [(.int (0 : Int32)), (.ref a1)]))
  obtain ⟨cl102, Ar102, q102, S102, P102, H102, G102⟩ := id A1
  have hin102 : ¬ ((0 : Int32) < 0 ∨ cl102.slots.size ≤ ((0 : Int32)).toNatClampNeg) := inb_of S102 ⟨by decide, own_ltt (by decide) hN⟩
  have hat102 : cl102.slots[((0 : Int32)).toNatClampNeg]? = some (.int x0) := Has.at H102 hin102 hv0
  refine own_Go.of (S' := T101.setTop (mkF m 38 #[.val (.ref a1), .val (.int (1 : Int32))] [(.int x0)])) (fun tgt kst => X101.baloadBytes hx (j := (0 : Int32)) (v := (.int x0)) (by rw [e101]; exact Ar102.1) (State.isArrayOf_alike hZ.alike Ar102.2.1) Ar102.2.2 hin102 hat102 (g := (mkF m 37 #[.val (.ref a1), .val (.int (1 : Int32))] [(.int (0 : Int32)), (.ref a1)])) rfl rfl (hb hby own_d23_37) _ kst) ?_
  refine own_x_sipush X101.here hx (hb hby own_d23_38) (z := (255 : Int32)) rfl ?_
  refine own_x_iand X101.here hx (hb hby own_d23_41) rfl ?_
  refine own_h_getS2 X101 hx hZ hown (host := "") (Or.inl (own_w96 hw)) Via.refl e101 (SU1.ext O.2) (hb hby own_d23_42) fun T103 X103 e103 => ?_
  refine own_x_ishl X103.here hx (hb hby own_d23_45) rfl ?_
  refine own_x_aloadN X103.here hx (hb hby own_d23_46) rfl rfl ?_
  refine own_x_iloadN X103.here hx (hb hby own_d23_47) rfl ?_
  obtain ⟨cl104, Ar104, q104, S104, P104, H104, G104⟩ := id A1
  have hin104 : ¬ ((1 : Int32) < 0 ∨ cl104.slots.size ≤ ((1 : Int32)).toNatClampNeg) := inb_of S104 ⟨by decide, hN⟩
  have hat104 : cl104.slots[((1 : Int32)).toNatClampNeg]? = some (.int x1) := Has.at H104 hin104 hv1
  refine own_Go.of (S' := T103.setTop (mkF m 49 #[.val (.ref a1), .val (.int (1 : Int32))] [(.int x1), (.int ((x0 &&& (255 : Int32)) <<< ((0 : Int32) &&& 31)))])) (fun tgt kst => X103.baloadBytes hx (j := (1 : Int32)) (v := (.int x1)) (by rw [e103]; exact Ar104.1) (State.isArrayOf_alike hZ.alike Ar104.2.1) Ar104.2.2 hin104 hat104 (g := (mkF m 48 #[.val (.ref a1), .val (.int (1 : Int32))] [(.int (1 : Int32)), (.ref a1), (.int ((x0 &&& (255 : Int32)) <<< ((0 : Int32) &&& 31)))])) rfl rfl (hb hby own_d23_48) _ kst) ?_
  refine own_x_sipush X103.here hx (hb hby own_d23_49) (z := (255 : Int32)) rfl ?_
  refine own_x_iand X103.here hx (hb hby own_d23_52) rfl ?_
  refine own_h_getS2 X103 hx hZ hown (host := "") (Or.inl (own_w97 hw)) Via.refl e103 (SU2.ext O.2) (hb hby own_d23_53) fun T105 X105 e105 => ?_
  refine own_x_ishl X105.here hx (hb hby own_d23_56) rfl ?_
  refine own_x_ior X105.here hx (hb hby own_d23_57) rfl ?_
  refine own_x_i2c X105.here hx (hb hby own_d23_58) rfl ?_
  rw [hPst]
  exact own_retP X105 (v := (some (.int (nar .char (own_join x0 x1))))) (Q := Q_getc0 Z a1 kb N x0 x1 vs h0 n0) (fun h => by rw [Bd.returns] at h; cases h) Bd.notSynchronized (fun fs hr => retN X105 hx (t := .char) Bd.returns (by simp) (hb hby own_d23_59) hr) (by decide) (by decide) (by rw [e105]; exact ⟨rfl, N0, rfl⟩)
def Q_put1 (Z : State) (a1 : Addr) (kb : ClassId) (N c : Int32) (vs : List Value) (h0 : Heap) (n0 : Nat) (v : Option Value) (h : Heap) (L : List Loc) : Prop := v = none ∧ Fr n0 L ∧ Keep h0 h [a1] ∧ Arv Z h a1 kb .byte N ((vs.set 2 (.int (own_lo8 c))).set 3 (.int (own_hi8 c))) (.int 0)
theorem rm_put1 (l : Launch) (Z : State) (a0 : Array Value) (hw : own_H a0 Z) (ws : List Jvm.Cond) (a1 : Addr) (kb : ClassId) (N c : Int32) (vs : List Value) (h0 : Heap) (n0 : Nat) (Z0 : n0 ≤ h0.size) (O : Old Z n0 h0) (SU0 : Sta Z Z.heap "java/lang/StringUTF16" "$assertionsDisabled" "Z" (.int (1 : Int32))) (SU1 : Sta Z Z.heap "java/lang/StringUTF16" "HI_BYTE_SHIFT" "I" (.int (0 : Int32))) (SU2 : Sta Z Z.heap "java/lang/StringUTF16" "LO_BYTE_SHIFT" "I" (.int (8 : Int32))) (g1 : n0 ≤ a1) (A1 : Arv Z h0 a1 kb .byte N vs (.int 0)) (hN : (3 : Int32) < N) (hl : 3 < vs.length) : own_MP l (⟨"java/lang/StringUTF16", "putChar", "([BII)V"⟩ : MethodName) jdk_52_method_4_code 3 none ws ({ frames := 0, cells := 0, slots := 0, locals := 0 } : Room) Z h0 #[(.ref a1), (.int (1 : Int32)), (.int c)] (fun _ _ _ _ _ => True) (Q_put1 Z a1 kb N c vs h0 n0) := by
  refine own_startP (plainFor_of_name own_pn_java_lang_StringUTF16) fun p e s m below meth c' s₁ Bd hx hby hml hown0 X0 e0 hh0 hZ hK Pst hPst => ?_
  have hown : s.vm.findClass "java/lang/StringUTF16" = some m.cls := hown0
  have hnm := (name_of_methodNamed Bd.named Bd.method).1
  have N0 := Fr.nil n0
  rw [own_ef_RII_3 m a1 (1 : Int32) c]
  refine own_h_getS2 X0 hx hZ hown (host := "") (Or.inl (own_w95 hw)) Via.refl e0 (SU0.ext O.2) (hb hby own_d22_0) fun T101 X101 e101 => ?_
  refine own_x_ifYes X101.here hx (pc0 := 3) (pc' := 28) rfl (hb hby own_d22_3) rfl ((if0 _ _).trans (feq (by decide)).2) (by decide) (by decide) ?_
  refine own_x_iloadN X101.here hx (hb hby own_d22_28) rfl ?_
  refine own_x_iconst X101.here hx (hb hby own_d22_29) (z := (1 : Int32)) rfl ?_
  refine own_x_ishl X101.here hx (hb hby own_d22_30) rfl ?_
  rw [show ((1 : Int32) <<< ((1 : Int32) &&& 31)) = (2 : Int32) from by decide]
  show own_Go p e below Pst (T101.setTop (mkF m 31 #[.val (.ref a1), .val (.int (1 : Int32)), .val (.int c)] [(.int (2 : Int32))]))
  refine own_x_istoreN X101.here hx (hb hby own_d22_31) rfl (l' := #[.val (.ref a1), .val (.int (2 : Int32)), .val (.int c)]) rfl ?_
  refine own_x_aloadN X101.here hx (hb hby own_d22_32) rfl rfl ?_
  refine own_x_iloadN X101.here hx (hb hby own_d22_33) rfl ?_
  refine own_x_iinc X101.here hx (hb hby own_d22_34) rfl (l' := #[.val (.ref a1), .val (.int ((2 : Int32) + (1 : Int32))), .val (.int c)]) rfl ?_
  rw [show ((2 : Int32) + (1 : Int32)) = (3 : Int32) from by decide]
  show own_Go p e below Pst (T101.setTop (mkF m 37 #[.val (.ref a1), .val (.int (3 : Int32)), .val (.int c)] [(.int (2 : Int32)), (.ref a1)]))
  refine own_x_iloadN X101.here hx (hb hby own_d22_37) rfl ?_
  refine own_h_getS2 X101 hx hZ hown (host := "") (Or.inl (own_w96 hw)) Via.refl e101 (SU1.ext O.2) (hb hby own_d22_38) fun T102 X102 e102 => ?_
  refine own_x_ishr X102.here hx (hb hby own_d22_41) rfl ?_
  refine own_x_i2b X102.here hx (hb hby own_d22_42) rfl ?_
  obtain ⟨cl103, Ar103, q103, S103, P103, H103, G103⟩ := A1
  have hin103 : ¬ ((2 : Int32) < 0 ∨ cl103.slots.size ≤ ((2 : Int32)).toNatClampNeg) := inb_of S103 ⟨by decide, own_ltt (by decide) hN⟩
  refine own_h_stB X102 hx hZ e102 Ar103 (j := (2 : Int32)) hin103 rfl (hb hby own_d22_43) fun T103 h103 X103 e103 W103 => ?_
  have V103 := Arv.set Ar103 q103 S103 P103 H103 G103 (fits_nar_byte _) W103 2 rfl (Nat.lt_of_succ_lt hl)
  have N103 := Fr.snoc X103 N0 g1
  refine own_x_aloadN X103.here hx (hb hby own_d22_44) rfl rfl ?_
  refine own_x_iloadN X103.here hx (hb hby own_d22_45) rfl ?_
  refine own_x_iloadN X103.here hx (hb hby own_d22_46) rfl ?_
  have c104 := (O.wr W103 g1)
  refine own_h_getS2 X103 hx hZ hown (host := "") (Or.inl (own_w97 hw)) Via.refl e103 (SU2.ext c104.2) (hb hby own_d22_47) fun T105 X105 e105 => ?_
  refine own_x_ishr X105.here hx (hb hby own_d22_50) rfl ?_
  refine own_x_i2b X105.here hx (hb hby own_d22_51) rfl ?_
  obtain ⟨cl106, Ar106, q106, S106, P106, H106, G106⟩ := V103
  have hin106 : ¬ ((3 : Int32) < 0 ∨ cl106.slots.size ≤ ((3 : Int32)).toNatClampNeg) := inb_of S106 ⟨by decide, hN⟩
  refine own_h_stB X105 hx hZ e105 Ar106 (j := (3 : Int32)) hin106 rfl (hb hby own_d22_52) fun T106 h106 X106 e106 W106 => ?_
  have V106 := Arv.set Ar106 q106 S106 P106 H106 G106 (fits_nar_byte _) W106 3 rfl (by rw [List.length_set]; exact hl)
  have N106 := Fr.snoc X106 N103 g1
  have c107 := (((Keep.refl h0 [a1]).wr W103 (Or.inl (List.mem_of_getElem? (i := 0) rfl))).wr W106 (Or.inl (List.mem_of_getElem? (i := 0) rfl)))
  rw [hPst]
  exact own_retP X106 (v := none) (Q := Q_put1 Z a1 kb N c vs h0 n0) (fun _ => rfl) Bd.notSynchronized (fun fs hr => X106.returnOut hx Bd.returns (hb hby own_d22_53) hr) (by decide) (by decide) (by rw [e106]; exact ⟨rfl, N106, c107, V106⟩)
def Q_getc1 (Z : State) (a1 : Addr) (kb : ClassId) (N x0 x1 : Int32) (vs : List Value) (h0 : Heap) (n0 : Nat) (v : Option Value) (h : Heap) (L : List Loc) : Prop := v = some (.int (nar .char (own_join x0 x1))) ∧ Fr n0 L ∧ h = h0
theorem rm_getc1 (l : Launch) (Z : State) (a0 : Array Value) (hw : own_H a0 Z) (ws : List Jvm.Cond) (a1 : Addr) (kb : ClassId) (N x0 x1 : Int32) (vs : List Value) (h0 : Heap) (n0 : Nat) (Z0 : n0 ≤ h0.size) (O : Old Z n0 h0) (SU0 : Sta Z Z.heap "java/lang/StringUTF16" "$assertionsDisabled" "Z" (.int (1 : Int32))) (SU1 : Sta Z Z.heap "java/lang/StringUTF16" "HI_BYTE_SHIFT" "I" (.int (0 : Int32))) (SU2 : Sta Z Z.heap "java/lang/StringUTF16" "LO_BYTE_SHIFT" "I" (.int (8 : Int32))) (A1 : Arv Z h0 a1 kb .byte N vs (.int 0)) (hN : (3 : Int32) < N) (hv0 : vs.getD 2 (.int 0) = .int x0) (hv1 : vs.getD 3 (.int 0) = .int x1) : own_MP l (⟨"java/lang/StringUTF16", "getChar", "([BI)C"⟩ : MethodName) jdk_52_method_5_code 2 (some .char) ws ({ frames := 0, cells := 0, slots := 0, locals := 0 } : Room) Z h0 #[(.ref a1), (.int (1 : Int32))] (fun _ _ _ _ _ => True) (Q_getc1 Z a1 kb N x0 x1 vs h0 n0) := by
  refine own_startP (plainFor_of_name own_pn_java_lang_StringUTF16) fun p e s m below meth c s₁ Bd hx hby hml hown0 X0 e0 hh0 hZ hK Pst hPst => ?_
  have hown : s.vm.findClass "java/lang/StringUTF16" = some m.cls := hown0
  have hnm := (name_of_methodNamed Bd.named Bd.method).1
  have N0 := Fr.nil n0
  rw [own_ef_RI_2 m a1 (1 : Int32)]
  refine own_h_getS2 X0 hx hZ hown (host := "") (Or.inl (own_w95 hw)) Via.refl e0 (SU0.ext O.2) (hb hby own_d23_0) fun T101 X101 e101 => ?_
  refine own_x_ifYes X101.here hx (pc0 := 3) (pc' := 28) rfl (hb hby own_d23_3) rfl ((if0 _ _).trans (feq (by decide)).2) (by decide) (by decide) ?_
  refine own_x_iloadN X101.here hx (hb hby own_d23_28) rfl ?_
  refine own_x_iconst X101.here hx (hb hby own_d23_29) (z := (1 : Int32)) rfl ?_
  refine own_x_ishl X101.here hx (hb hby own_d23_30) rfl ?_
  rw [show ((1 : Int32) <<< ((1 : Int32) &&& 31)) = (2 : Int32) from by decide]
  show own_Go p e below Pst (T101.setTop (mkF m 31 #[.val (.ref a1), .val (.int (1 : Int32))] [(.int (2 : Int32))]))
  refine own_x_istoreN X101.here hx (hb hby own_d23_31) rfl (l' := #[.val (.ref a1), .val (.int (2 : Int32))]) rfl ?_
  refine own_x_aloadN X101.here hx (hb hby own_d23_32) rfl rfl ?_
  refine own_x_iloadN X101.here hx (hb hby own_d23_33) rfl ?_
  refine own_x_iinc X101.here hx (hb hby own_d23_34) rfl (l' := #[.val (.ref a1), .val (.int ((2 : Int32) + (1 : Int32)))]) rfl ?_
  rw [show ((2 : Int32) + (1 : Int32)) = (3 : Int32) from by decide]
  show own_Go p e below Pst (T101.setTop (mkF m 37 #[.val (.ref a1), .val (.int (3 : Int32))] [(.int (2 : Int32)), (.ref a1)]))
  obtain ⟨cl102, Ar102, q102, S102, P102, H102, G102⟩ := id A1
  have hin102 : ¬ ((2 : Int32) < 0 ∨ cl102.slots.size ≤ ((2 : Int32)).toNatClampNeg) := inb_of S102 ⟨by decide, own_ltt (by decide) hN⟩
  have hat102 : cl102.slots[((2 : Int32)).toNatClampNeg]? = some (.int x0) := Has.at H102 hin102 hv0
  refine own_Go.of (S' := T101.setTop (mkF m 38 #[.val (.ref a1), .val (.int (3 : Int32))] [(.int x0)])) (fun tgt kst => X101.baloadBytes hx (j := (2 : Int32)) (v := (.int x0)) (by rw [e101]; exact Ar102.1) (State.isArrayOf_alike hZ.alike Ar102.2.1) Ar102.2.2 hin102 hat102 (g := (mkF m 37 #[.val (.ref a1), .val (.int (3 : Int32))] [(.int (2 : Int32)), (.ref a1)])) rfl rfl (hb hby own_d23_37) _ kst) ?_
  refine own_x_sipush X101.here hx (hb hby own_d23_38) (z := (255 : Int32)) rfl ?_
  refine own_x_iand X101.here hx (hb hby own_d23_41) rfl ?_
  refine own_h_getS2 X101 hx hZ hown (host := "") (Or.inl (own_w96 hw)) Via.refl e101 (SU1.ext O.2) (hb hby own_d23_42) fun T103 X103 e103 => ?_
  refine own_x_ishl X103.here hx (hb hby own_d23_45) rfl ?_
  refine own_x_aloadN X103.here hx (hb hby own_d23_46) rfl rfl ?_
  refine own_x_iloadN X103.here hx (hb hby own_d23_47) rfl ?_
  obtain ⟨cl104, Ar104, q104, S104, P104, H104, G104⟩ := id A1
  have hin104 : ¬ ((3 : Int32) < 0 ∨ cl104.slots.size ≤ ((3 : Int32)).toNatClampNeg) := inb_of S104 ⟨by decide, hN⟩
  have hat104 : cl104.slots[((3 : Int32)).toNatClampNeg]? = some (.int x1) := Has.at H104 hin104 hv1
  refine own_Go.of (S' := T103.setTop (mkF m 49 #[.val (.ref a1), .val (.int (3 : Int32))] [(.int x1), (.int ((x0 &&& (255 : Int32)) <<< ((0 : Int32) &&& 31)))])) (fun tgt kst => X103.baloadBytes hx (j := (3 : Int32)) (v := (.int x1)) (by rw [e103]; exact Ar104.1) (State.isArrayOf_alike hZ.alike Ar104.2.1) Ar104.2.2 hin104 hat104 (g := (mkF m 48 #[.val (.ref a1), .val (.int (3 : Int32))] [(.int (3 : Int32)), (.ref a1), (.int ((x0 &&& (255 : Int32)) <<< ((0 : Int32) &&& 31)))])) rfl rfl (hb hby own_d23_48) _ kst) ?_
  refine own_x_sipush X103.here hx (hb hby own_d23_49) (z := (255 : Int32)) rfl ?_
  refine own_x_iand X103.here hx (hb hby own_d23_52) rfl ?_
  refine own_h_getS2 X103 hx hZ hown (host := "") (Or.inl (own_w97 hw)) Via.refl e103 (SU2.ext O.2) (hb hby own_d23_53) fun T105 X105 e105 => ?_
  refine own_x_ishl X105.here hx (hb hby own_d23_56) rfl ?_
  refine own_x_ior X105.here hx (hb hby own_d23_57) rfl ?_
  refine own_x_i2c X105.here hx (hb hby own_d23_58) rfl ?_
  rw [hPst]
  exact own_retP X105 (v := (some (.int (nar .char (own_join x0 x1))))) (Q := Q_getc1 Z a1 kb N x0 x1 vs h0 n0) (fun h => by rw [Bd.returns] at h; cases h) Bd.notSynchronized (fun fs hr => retN X105 hx (t := .char) Bd.returns (by simp) (hb hby own_d23_59) hr) (by decide) (by decide) (by rw [e105]; exact ⟨rfl, N0, rfl⟩)
def Q_put2 (Z : State) (a1 : Addr) (kb : ClassId) (N c : Int32) (vs : List Value) (h0 : Heap) (n0 : Nat) (v : Option Value) (h : Heap) (L : List Loc) : Prop := v = none ∧ Fr n0 L ∧ Keep h0 h [a1] ∧ Arv Z h a1 kb .byte N ((vs.set 4 (.int (own_lo8 c))).set 5 (.int (own_hi8 c))) (.int 0)
theorem rm_put2 (l : Launch) (Z : State) (a0 : Array Value) (hw : own_H a0 Z) (ws : List Jvm.Cond) (a1 : Addr) (kb : ClassId) (N c : Int32) (vs : List Value) (h0 : Heap) (n0 : Nat) (Z0 : n0 ≤ h0.size) (O : Old Z n0 h0) (SU0 : Sta Z Z.heap "java/lang/StringUTF16" "$assertionsDisabled" "Z" (.int (1 : Int32))) (SU1 : Sta Z Z.heap "java/lang/StringUTF16" "HI_BYTE_SHIFT" "I" (.int (0 : Int32))) (SU2 : Sta Z Z.heap "java/lang/StringUTF16" "LO_BYTE_SHIFT" "I" (.int (8 : Int32))) (g1 : n0 ≤ a1) (A1 : Arv Z h0 a1 kb .byte N vs (.int 0)) (hN : (5 : Int32) < N) (hl : 5 < vs.length) : own_MP l (⟨"java/lang/StringUTF16", "putChar", "([BII)V"⟩ : MethodName) jdk_52_method_4_code 3 none ws ({ frames := 0, cells := 0, slots := 0, locals := 0 } : Room) Z h0 #[(.ref a1), (.int (2 : Int32)), (.int c)] (fun _ _ _ _ _ => True) (Q_put2 Z a1 kb N c vs h0 n0) := by
  refine own_startP (plainFor_of_name own_pn_java_lang_StringUTF16) fun p e s m below meth c' s₁ Bd hx hby hml hown0 X0 e0 hh0 hZ hK Pst hPst => ?_
  have hown : s.vm.findClass "java/lang/StringUTF16" = some m.cls := hown0
  have hnm := (name_of_methodNamed Bd.named Bd.method).1
  have N0 := Fr.nil n0
  rw [own_ef_RII_3 m a1 (2 : Int32) c]
  refine own_h_getS2 X0 hx hZ hown (host := "") (Or.inl (own_w95 hw)) Via.refl e0 (SU0.ext O.2) (hb hby own_d22_0) fun T101 X101 e101 => ?_
  refine own_x_ifYes X101.here hx (pc0 := 3) (pc' := 28) rfl (hb hby own_d22_3) rfl ((if0 _ _).trans (feq (by decide)).2) (by decide) (by decide) ?_
  refine own_x_iloadN X101.here hx (hb hby own_d22_28) rfl ?_
  refine own_x_iconst X101.here hx (hb hby own_d22_29) (z := (1 : Int32)) rfl ?_
  refine own_x_ishl X101.here hx (hb hby own_d22_30) rfl ?_
  rw [show ((2 : Int32) <<< ((1 : Int32) &&& 31)) = (4 : Int32) from by decide]
  show own_Go p e below Pst (T101.setTop (mkF m 31 #[.val (.ref a1), .val (.int (2 : Int32)), .val (.int c)] [(.int (4 : Int32))]))
  refine own_x_istoreN X101.here hx (hb hby own_d22_31) rfl (l' := #[.val (.ref a1), .val (.int (4 : Int32)), .val (.int c)]) rfl ?_
  refine own_x_aloadN X101.here hx (hb hby own_d22_32) rfl rfl ?_
  refine own_x_iloadN X101.here hx (hb hby own_d22_33) rfl ?_
  refine own_x_iinc X101.here hx (hb hby own_d22_34) rfl (l' := #[.val (.ref a1), .val (.int ((4 : Int32) + (1 : Int32))), .val (.int c)]) rfl ?_
  rw [show ((4 : Int32) + (1 : Int32)) = (5 : Int32) from by decide]
  show own_Go p e below Pst (T101.setTop (mkF m 37 #[.val (.ref a1), .val (.int (5 : Int32)), .val (.int c)] [(.int (4 : Int32)), (.ref a1)]))
  refine own_x_iloadN X101.here hx (hb hby own_d22_37) rfl ?_
  refine own_h_getS2 X101 hx hZ hown (host := "") (Or.inl (own_w96 hw)) Via.refl e101 (SU1.ext O.2) (hb hby own_d22_38) fun T102 X102 e102 => ?_
  refine own_x_ishr X102.here hx (hb hby own_d22_41) rfl ?_
  refine own_x_i2b X102.here hx (hb hby own_d22_42) rfl ?_
  obtain ⟨cl103, Ar103, q103, S103, P103, H103, G103⟩ := A1
  have hin103 : ¬ ((4 : Int32) < 0 ∨ cl103.slots.size ≤ ((4 : Int32)).toNatClampNeg) := inb_of S103 ⟨by decide, own_ltt (by decide) hN⟩
  refine own_h_stB X102 hx hZ e102 Ar103 (j := (4 : Int32)) hin103 rfl (hb hby own_d22_43) fun T103 h103 X103 e103 W103 => ?_
  have V103 := Arv.set Ar103 q103 S103 P103 H103 G103 (fits_nar_byte _) W103 4 rfl (Nat.lt_of_succ_lt hl)
  have N103 := Fr.snoc X103 N0 g1
  refine own_x_aloadN X103.here hx (hb hby own_d22_44) rfl rfl ?_
  refine own_x_iloadN X103.here hx (hb hby own_d22_45) rfl ?_
  refine own_x_iloadN X103.here hx (hb hby own_d22_46) rfl ?_
  have c104 := (O.wr W103 g1)
  refine own_h_getS2 X103 hx hZ hown (host := "") (Or.inl (own_w97 hw)) Via.refl e103 (SU2.ext c104.2) (hb hby own_d22_47) fun T105 X105 e105 => ?_
  refine own_x_ishr X105.here hx (hb hby own_d22_50) rfl ?_
  refine own_x_i2b X105.here hx (hb hby own_d22_51) rfl ?_
  obtain ⟨cl106, Ar106, q106, S106, P106, H106, G106⟩ := V103
  have hin106 : ¬ ((5 : Int32) < 0 ∨ cl106.slots.size ≤ ((5 : Int32)).toNatClampNeg) := inb_of S106 ⟨by decide, hN⟩
  refine own_h_stB X105 hx hZ e105 Ar106 (j := (5 : Int32)) hin106 rfl (hb hby own_d22_52) fun T106 h106 X106 e106 W106 => ?_
  have V106 := Arv.set Ar106 q106 S106 P106 H106 G106 (fits_nar_byte _) W106 5 rfl (by rw [List.length_set]; exact hl)
  have N106 := Fr.snoc X106 N103 g1
  have c107 := (((Keep.refl h0 [a1]).wr W103 (Or.inl (List.mem_of_getElem? (i := 0) rfl))).wr W106 (Or.inl (List.mem_of_getElem? (i := 0) rfl)))
  rw [hPst]
  exact own_retP X106 (v := none) (Q := Q_put2 Z a1 kb N c vs h0 n0) (fun _ => rfl) Bd.notSynchronized (fun fs hr => X106.returnOut hx Bd.returns (hb hby own_d22_53) hr) (by decide) (by decide) (by rw [e106]; exact ⟨rfl, N106, c107, V106⟩)
def Q_getc2 (Z : State) (a1 : Addr) (kb : ClassId) (N x0 x1 : Int32) (vs : List Value) (h0 : Heap) (n0 : Nat) (v : Option Value) (h : Heap) (L : List Loc) : Prop := v = some (.int (nar .char (own_join x0 x1))) ∧ Fr n0 L ∧ h = h0
theorem rm_getc2 (l : Launch) (Z : State) (a0 : Array Value) (hw : own_H a0 Z) (ws : List Jvm.Cond) (a1 : Addr) (kb : ClassId) (N x0 x1 : Int32) (vs : List Value) (h0 : Heap) (n0 : Nat) (Z0 : n0 ≤ h0.size) (O : Old Z n0 h0) (SU0 : Sta Z Z.heap "java/lang/StringUTF16" "$assertionsDisabled" "Z" (.int (1 : Int32))) (SU1 : Sta Z Z.heap "java/lang/StringUTF16" "HI_BYTE_SHIFT" "I" (.int (0 : Int32))) (SU2 : Sta Z Z.heap "java/lang/StringUTF16" "LO_BYTE_SHIFT" "I" (.int (8 : Int32))) (A1 : Arv Z h0 a1 kb .byte N vs (.int 0)) (hN : (5 : Int32) < N) (hv0 : vs.getD 4 (.int 0) = .int x0) (hv1 : vs.getD 5 (.int 0) = .int x1) : own_MP l (⟨"java/lang/StringUTF16", "getChar", "([BI)C"⟩ : MethodName) jdk_52_method_5_code 2 (some .char) ws ({ frames := 0, cells := 0, slots := 0, locals := 0 } : Room) Z h0 #[(.ref a1), (.int (2 : Int32))] (fun _ _ _ _ _ => True) (Q_getc2 Z a1 kb N x0 x1 vs h0 n0) := by
  refine own_startP (plainFor_of_name own_pn_java_lang_StringUTF16) fun p e s m below meth c s₁ Bd hx hby hml hown0 X0 e0 hh0 hZ hK Pst hPst => ?_
  have hown : s.vm.findClass "java/lang/StringUTF16" = some m.cls := hown0
  have hnm := (name_of_methodNamed Bd.named Bd.method).1
  have N0 := Fr.nil n0
  rw [own_ef_RI_2 m a1 (2 : Int32)]
  refine own_h_getS2 X0 hx hZ hown (host := "") (Or.inl (own_w95 hw)) Via.refl e0 (SU0.ext O.2) (hb hby own_d23_0) fun T101 X101 e101 => ?_
  refine own_x_ifYes X101.here hx (pc0 := 3) (pc' := 28) rfl (hb hby own_d23_3) rfl ((if0 _ _).trans (feq (by decide)).2) (by decide) (by decide) ?_
  refine own_x_iloadN X101.here hx (hb hby own_d23_28) rfl ?_
  refine own_x_iconst X101.here hx (hb hby own_d23_29) (z := (1 : Int32)) rfl ?_
  refine own_x_ishl X101.here hx (hb hby own_d23_30) rfl ?_
  rw [show ((2 : Int32) <<< ((1 : Int32) &&& 31)) = (4 : Int32) from by decide]
  show own_Go p e below Pst (T101.setTop (mkF m 31 #[.val (.ref a1), .val (.int (2 : Int32))] [(.int (4 : Int32))]))
  refine own_x_istoreN X101.here hx (hb hby own_d23_31) rfl (l' := #[.val (.ref a1), .val (.int (4 : Int32))]) rfl ?_
  refine own_x_aloadN X101.here hx (hb hby own_d23_32) rfl rfl ?_
  refine own_x_iloadN X101.here hx (hb hby own_d23_33) rfl ?_
  refine own_x_iinc X101.here hx (hb hby own_d23_34) rfl (l' := #[.val (.ref a1), .val (.int ((4 : Int32) + (1 : Int32)))]) rfl ?_
  rw [show ((4 : Int32) + (1 : Int32)) = (5 : Int32) from by decide]
  show own_Go p e below Pst (T101.setTop (mkF m 37 #[.val (.ref a1), .val (.int (5 : Int32))] [(.int (4 : Int32)), (.ref a1)]))
  obtain ⟨cl102, Ar102, q102, S102, P102, H102, G102⟩ := id A1
  have hin102 : ¬ ((4 : Int32) < 0 ∨ cl102.slots.size ≤ ((4 : Int32)).toNatClampNeg) := inb_of S102 ⟨by decide, own_ltt (by decide) hN⟩
  have hat102 : cl102.slots[((4 : Int32)).toNatClampNeg]? = some (.int x0) := Has.at H102 hin102 hv0
  refine own_Go.of (S' := T101.setTop (mkF m 38 #[.val (.ref a1), .val (.int (5 : Int32))] [(.int x0)])) (fun tgt kst => X101.baloadBytes hx (j := (4 : Int32)) (v := (.int x0)) (by rw [e101]; exact Ar102.1) (State.isArrayOf_alike hZ.alike Ar102.2.1) Ar102.2.2 hin102 hat102 (g := (mkF m 37 #[.val (.ref a1), .val (.int (5 : Int32))] [(.int (4 : Int32)), (.ref a1)])) rfl rfl (hb hby own_d23_37) _ kst) ?_
  refine own_x_sipush X101.here hx (hb hby own_d23_38) (z := (255 : Int32)) rfl ?_
  refine own_x_iand X101.here hx (hb hby own_d23_41) rfl ?_
  refine own_h_getS2 X101 hx hZ hown (host := "") (Or.inl (own_w96 hw)) Via.refl e101 (SU1.ext O.2) (hb hby own_d23_42) fun T103 X103 e103 => ?_
  refine own_x_ishl X103.here hx (hb hby own_d23_45) rfl ?_
  refine own_x_aloadN X103.here hx (hb hby own_d23_46) rfl rfl ?_
  refine own_x_iloadN X103.here hx (hb hby own_d23_47) rfl ?_
  obtain ⟨cl104, Ar104, q104, S104, P104, H104, G104⟩ := id A1
  have hin104 : ¬ ((5 : Int32) < 0 ∨ cl104.slots.size ≤ ((5 : Int32)).toNatClampNeg) := inb_of S104 ⟨by decide, hN⟩
  have hat104 : cl104.slots[((5 : Int32)).toNatClampNeg]? = some (.int x1) := Has.at H104 hin104 hv1
  refine own_Go.of (S' := T103.setTop (mkF m 49 #[.val (.ref a1), .val (.int (5 : Int32))] [(.int x1), (.int ((x0 &&& (255 : Int32)) <<< ((0 : Int32) &&& 31)))])) (fun tgt kst => X103.baloadBytes hx (j := (5 : Int32)) (v := (.int x1)) (by rw [e103]; exact Ar104.1) (State.isArrayOf_alike hZ.alike Ar104.2.1) Ar104.2.2 hin104 hat104 (g := (mkF m 48 #[.val (.ref a1), .val (.int (5 : Int32))] [(.int (5 : Int32)), (.ref a1), (.int ((x0 &&& (255 : Int32)) <<< ((0 : Int32) &&& 31)))])) rfl rfl (hb hby own_d23_48) _ kst) ?_
  refine own_x_sipush X103.here hx (hb hby own_d23_49) (z := (255 : Int32)) rfl ?_
  refine own_x_iand X103.here hx (hb hby own_d23_52) rfl ?_
  refine own_h_getS2 X103 hx hZ hown (host := "") (Or.inl (own_w97 hw)) Via.refl e103 (SU2.ext O.2) (hb hby own_d23_53) fun T105 X105 e105 => ?_
  refine own_x_ishl X105.here hx (hb hby own_d23_56) rfl ?_
  refine own_x_ior X105.here hx (hb hby own_d23_57) rfl ?_
  refine own_x_i2c X105.here hx (hb hby own_d23_58) rfl ?_
  rw [hPst]
  exact own_retP X105 (v := (some (.int (nar .char (own_join x0 x1))))) (Q := Q_getc2 Z a1 kb N x0 x1 vs h0 n0) (fun h => by rw [Bd.returns] at h; cases h) Bd.notSynchronized (fun fs hr => retN X105 hx (t := .char) Bd.returns (by simp) (hb hby own_d23_59) hr) (by decide) (by decide) (by rw [e105]; exact ⟨rfl, N0, rfl⟩)
def Q_put3 (Z : State) (a1 : Addr) (kb : ClassId) (N c : Int32) (vs : List Value) (h0 : Heap) (n0 : Nat) (v : Option Value) (h : Heap) (L : List Loc) : Prop := v = none ∧ Fr n0 L ∧ Keep h0 h [a1] ∧ Arv Z h a1 kb .byte N ((vs.set 6 (.int (own_lo8 c))).set 7 (.int (own_hi8 c))) (.int 0)
theorem rm_put3 (l : Launch) (Z : State) (a0 : Array Value) (hw : own_H a0 Z) (ws : List Jvm.Cond) (a1 : Addr) (kb : ClassId) (N c : Int32) (vs : List Value) (h0 : Heap) (n0 : Nat) (Z0 : n0 ≤ h0.size) (O : Old Z n0 h0) (SU0 : Sta Z Z.heap "java/lang/StringUTF16" "$assertionsDisabled" "Z" (.int (1 : Int32))) (SU1 : Sta Z Z.heap "java/lang/StringUTF16" "HI_BYTE_SHIFT" "I" (.int (0 : Int32))) (SU2 : Sta Z Z.heap "java/lang/StringUTF16" "LO_BYTE_SHIFT" "I" (.int (8 : Int32))) (g1 : n0 ≤ a1) (A1 : Arv Z h0 a1 kb .byte N vs (.int 0)) (hN : (7 : Int32) < N) (hl : 7 < vs.length) : own_MP l (⟨"java/lang/StringUTF16", "putChar", "([BII)V"⟩ : MethodName) jdk_52_method_4_code 3 none ws ({ frames := 0, cells := 0, slots := 0, locals := 0 } : Room) Z h0 #[(.ref a1), (.int (3 : Int32)), (.int c)] (fun _ _ _ _ _ => True) (Q_put3 Z a1 kb N c vs h0 n0) := by
  refine own_startP (plainFor_of_name own_pn_java_lang_StringUTF16) fun p e s m below meth c' s₁ Bd hx hby hml hown0 X0 e0 hh0 hZ hK Pst hPst => ?_
  have hown : s.vm.findClass "java/lang/StringUTF16" = some m.cls := hown0
  have hnm := (name_of_methodNamed Bd.named Bd.method).1
  have N0 := Fr.nil n0
  rw [own_ef_RII_3 m a1 (3 : Int32) c]
  refine own_h_getS2 X0 hx hZ hown (host := "") (Or.inl (own_w95 hw)) Via.refl e0 (SU0.ext O.2) (hb hby own_d22_0) fun T101 X101 e101 => ?_
  refine own_x_ifYes X101.here hx (pc0 := 3) (pc' := 28) rfl (hb hby own_d22_3) rfl ((if0 _ _).trans (feq (by decide)).2) (by decide) (by decide) ?_
  refine own_x_iloadN X101.here hx (hb hby own_d22_28) rfl ?_
  refine own_x_iconst X101.here hx (hb hby own_d22_29) (z := (1 : Int32)) rfl ?_
  refine own_x_ishl X101.here hx (hb hby own_d22_30) rfl ?_
  rw [show ((3 : Int32) <<< ((1 : Int32) &&& 31)) = (6 : Int32) from by decide]
  show own_Go p e below Pst (T101.setTop (mkF m 31 #[.val (.ref a1), .val (.int (3 : Int32)), .val (.int c)] [(.int (6 : Int32))]))
  refine own_x_istoreN X101.here hx (hb hby own_d22_31) rfl (l' := #[.val (.ref a1), .val (.int (6 : Int32)), .val (.int c)]) rfl ?_
  refine own_x_aloadN X101.here hx (hb hby own_d22_32) rfl rfl ?_
  refine own_x_iloadN X101.here hx (hb hby own_d22_33) rfl ?_
  refine own_x_iinc X101.here hx (hb hby own_d22_34) rfl (l' := #[.val (.ref a1), .val (.int ((6 : Int32) + (1 : Int32))), .val (.int c)]) rfl ?_
  rw [show ((6 : Int32) + (1 : Int32)) = (7 : Int32) from by decide]
  show own_Go p e below Pst (T101.setTop (mkF m 37 #[.val (.ref a1), .val (.int (7 : Int32)), .val (.int c)] [(.int (6 : Int32)), (.ref a1)]))
  refine own_x_iloadN X101.here hx (hb hby own_d22_37) rfl ?_
  refine own_h_getS2 X101 hx hZ hown (host := "") (Or.inl (own_w96 hw)) Via.refl e101 (SU1.ext O.2) (hb hby own_d22_38) fun T102 X102 e102 => ?_
  refine own_x_ishr X102.here hx (hb hby own_d22_41) rfl ?_
  refine own_x_i2b X102.here hx (hb hby own_d22_42) rfl ?_
  obtain ⟨cl103, Ar103, q103, S103, P103, H103, G103⟩ := A1
  have hin103 : ¬ ((6 : Int32) < 0 ∨ cl103.slots.size ≤ ((6 : Int32)).toNatClampNeg) := inb_of S103 ⟨by decide, own_ltt (by decide) hN⟩
  refine own_h_stB X102 hx hZ e102 Ar103 (j := (6 : Int32)) hin103 rfl (hb hby own_d22_43) fun T103 h103 X103 e103 W103 => ?_
  have V103 := Arv.set Ar103 q103 S103 P103 H103 G103 (fits_nar_byte _) W103 6 rfl (Nat.lt_of_succ_lt hl)
  have N103 := Fr.snoc X103 N0 g1
  refine own_x_aloadN X103.here hx (hb hby own_d22_44) rfl rfl ?_
  refine own_x_iloadN X103.here hx (hb hby own_d22_45) rfl ?_
  refine own_x_iloadN X103.here hx (hb hby own_d22_46) rfl ?_
  have c104 := (O.wr W103 g1)
  refine own_h_getS2 X103 hx hZ hown (host := "") (Or.inl (own_w97 hw)) Via.refl e103 (SU2.ext c104.2) (hb hby own_d22_47) fun T105 X105 e105 => ?_
  refine own_x_ishr X105.here hx (hb hby own_d22_50) rfl ?_
  refine own_x_i2b X105.here hx (hb hby own_d22_51) rfl ?_
  obtain ⟨cl106, Ar106, q106, S106, P106, H106, G106⟩ := V103
  have hin106 : ¬ ((7 : Int32) < 0 ∨ cl106.slots.size ≤ ((7 : Int32)).toNatClampNeg) := inb_of S106 ⟨by decide, hN⟩
  refine own_h_stB X105 hx hZ e105 Ar106 (j := (7 : Int32)) hin106 rfl (hb hby own_d22_52) fun T106 h106 X106 e106 W106 => ?_
  have V106 := Arv.set Ar106 q106 S106 P106 H106 G106 (fits_nar_byte _) W106 7 rfl (by rw [List.length_set]; exact hl)
  have N106 := Fr.snoc X106 N103 g1
  have c107 := (((Keep.refl h0 [a1]).wr W103 (Or.inl (List.mem_of_getElem? (i := 0) rfl))).wr W106 (Or.inl (List.mem_of_getElem? (i := 0) rfl)))
  rw [hPst]
  exact own_retP X106 (v := none) (Q := Q_put3 Z a1 kb N c vs h0 n0) (fun _ => rfl) Bd.notSynchronized (fun fs hr => X106.returnOut hx Bd.returns (hb hby own_d22_53) hr) (by decide) (by decide) (by rw [e106]; exact ⟨rfl, N106, c107, V106⟩)
def Q_getc3 (Z : State) (a1 : Addr) (kb : ClassId) (N x0 x1 : Int32) (vs : List Value) (h0 : Heap) (n0 : Nat) (v : Option Value) (h : Heap) (L : List Loc) : Prop := v = some (.int (nar .char (own_join x0 x1))) ∧ Fr n0 L ∧ h = h0
theorem rm_getc3 (l : Launch) (Z : State) (a0 : Array Value) (hw : own_H a0 Z) (ws : List Jvm.Cond) (a1 : Addr) (kb : ClassId) (N x0 x1 : Int32) (vs : List Value) (h0 : Heap) (n0 : Nat) (Z0 : n0 ≤ h0.size) (O : Old Z n0 h0) (SU0 : Sta Z Z.heap "java/lang/StringUTF16" "$assertionsDisabled" "Z" (.int (1 : Int32))) (SU1 : Sta Z Z.heap "java/lang/StringUTF16" "HI_BYTE_SHIFT" "I" (.int (0 : Int32))) (SU2 : Sta Z Z.heap "java/lang/StringUTF16" "LO_BYTE_SHIFT" "I" (.int (8 : Int32))) (A1 : Arv Z h0 a1 kb .byte N vs (.int 0)) (hN : (7 : Int32) < N) (hv0 : vs.getD 6 (.int 0) = .int x0) (hv1 : vs.getD 7 (.int 0) = .int x1) : own_MP l (⟨"java/lang/StringUTF16", "getChar", "([BI)C"⟩ : MethodName) jdk_52_method_5_code 2 (some .char) ws ({ frames := 0, cells := 0, slots := 0, locals := 0 } : Room) Z h0 #[(.ref a1), (.int (3 : Int32))] (fun _ _ _ _ _ => True) (Q_getc3 Z a1 kb N x0 x1 vs h0 n0) := by
  refine own_startP (plainFor_of_name own_pn_java_lang_StringUTF16) fun p e s m below meth c s₁ Bd hx hby hml hown0 X0 e0 hh0 hZ hK Pst hPst => ?_
  have hown : s.vm.findClass "java/lang/StringUTF16" = some m.cls := hown0
  have hnm := (name_of_methodNamed Bd.named Bd.method).1
  have N0 := Fr.nil n0
  rw [own_ef_RI_2 m a1 (3 : Int32)]
  refine own_h_getS2 X0 hx hZ hown (host := "") (Or.inl (own_w95 hw)) Via.refl e0 (SU0.ext O.2) (hb hby own_d23_0) fun T101 X101 e101 => ?_
  refine own_x_ifYes X101.here hx (pc0 := 3) (pc' := 28) rfl (hb hby own_d23_3) rfl ((if0 _ _).trans (feq (by decide)).2) (by decide) (by decide) ?_
  refine own_x_iloadN X101.here hx (hb hby own_d23_28) rfl ?_
  refine own_x_iconst X101.here hx (hb hby own_d23_29) (z := (1 : Int32)) rfl ?_
  refine own_x_ishl X101.here hx (hb hby own_d23_30) rfl ?_
  rw [show ((3 : Int32) <<< ((1 : Int32) &&& 31)) = (6 : Int32) from by decide]
  show own_Go p e below Pst (T101.setTop (mkF m 31 #[.val (.ref a1), .val (.int (3 : Int32))] [(.int (6 : Int32))]))
  refine own_x_istoreN X101.here hx (hb hby own_d23_31) rfl (l' := #[.val (.ref a1), .val (.int (6 : Int32))]) rfl ?_
  refine own_x_aloadN X101.here hx (hb hby own_d23_32) rfl rfl ?_
  refine own_x_iloadN X101.here hx (hb hby own_d23_33) rfl ?_
  refine own_x_iinc X101.here hx (hb hby own_d23_34) rfl (l' := #[.val (.ref a1), .val (.int ((6 : Int32) + (1 : Int32)))]) rfl ?_
  rw [show ((6 : Int32) + (1 : Int32)) = (7 : Int32) from by decide]
  show own_Go p e below Pst (T101.setTop (mkF m 37 #[.val (.ref a1), .val (.int (7 : Int32))] [(.int (6 : Int32)), (.ref a1)]))
  obtain ⟨cl102, Ar102, q102, S102, P102, H102, G102⟩ := id A1
  have hin102 : ¬ ((6 : Int32) < 0 ∨ cl102.slots.size ≤ ((6 : Int32)).toNatClampNeg) := inb_of S102 ⟨by decide, own_ltt (by decide) hN⟩
  have hat102 : cl102.slots[((6 : Int32)).toNatClampNeg]? = some (.int x0) := Has.at H102 hin102 hv0
  refine own_Go.of (S' := T101.setTop (mkF m 38 #[.val (.ref a1), .val (.int (7 : Int32))] [(.int x0)])) (fun tgt kst => X101.baloadBytes hx (j := (6 : Int32)) (v := (.int x0)) (by rw [e101]; exact Ar102.1) (State.isArrayOf_alike hZ.alike Ar102.2.1) Ar102.2.2 hin102 hat102 (g := (mkF m 37 #[.val (.ref a1), .val (.int (7 : Int32))] [(.int (6 : Int32)), (.ref a1)])) rfl rfl (hb hby own_d23_37) _ kst) ?_
  refine own_x_sipush X101.here hx (hb hby own_d23_38) (z := (255 : Int32)) rfl ?_
  refine own_x_iand X101.here hx (hb hby own_d23_41) rfl ?_
  refine own_h_getS2 X101 hx hZ hown (host := "") (Or.inl (own_w96 hw)) Via.refl e101 (SU1.ext O.2) (hb hby own_d23_42) fun T103 X103 e103 => ?_
  refine own_x_ishl X103.here hx (hb hby own_d23_45) rfl ?_
  refine own_x_aloadN X103.here hx (hb hby own_d23_46) rfl rfl ?_
  refine own_x_iloadN X103.here hx (hb hby own_d23_47) rfl ?_
  obtain ⟨cl104, Ar104, q104, S104, P104, H104, G104⟩ := id A1
  have hin104 : ¬ ((7 : Int32) < 0 ∨ cl104.slots.size ≤ ((7 : Int32)).toNatClampNeg) := inb_of S104 ⟨by decide, hN⟩
  have hat104 : cl104.slots[((7 : Int32)).toNatClampNeg]? = some (.int x1) := Has.at H104 hin104 hv1
  refine own_Go.of (S' := T103.setTop (mkF m 49 #[.val (.ref a1), .val (.int (7 : Int32))] [(.int x1), (.int ((x0 &&& (255 : Int32)) <<< ((0 : Int32) &&& 31)))])) (fun tgt kst => X103.baloadBytes hx (j := (7 : Int32)) (v := (.int x1)) (by rw [e103]; exact Ar104.1) (State.isArrayOf_alike hZ.alike Ar104.2.1) Ar104.2.2 hin104 hat104 (g := (mkF m 48 #[.val (.ref a1), .val (.int (7 : Int32))] [(.int (7 : Int32)), (.ref a1), (.int ((x0 &&& (255 : Int32)) <<< ((0 : Int32) &&& 31)))])) rfl rfl (hb hby own_d23_48) _ kst) ?_
  refine own_x_sipush X103.here hx (hb hby own_d23_49) (z := (255 : Int32)) rfl ?_
  refine own_x_iand X103.here hx (hb hby own_d23_52) rfl ?_
  refine own_h_getS2 X103 hx hZ hown (host := "") (Or.inl (own_w97 hw)) Via.refl e103 (SU2.ext O.2) (hb hby own_d23_53) fun T105 X105 e105 => ?_
  refine own_x_ishl X105.here hx (hb hby own_d23_56) rfl ?_
  refine own_x_ior X105.here hx (hb hby own_d23_57) rfl ?_
  refine own_x_i2c X105.here hx (hb hby own_d23_58) rfl ?_
  rw [hPst]
  exact own_retP X105 (v := (some (.int (nar .char (own_join x0 x1))))) (Q := Q_getc3 Z a1 kb N x0 x1 vs h0 n0) (fun h => by rw [Bd.returns] at h; cases h) Bd.notSynchronized (fun fs hr => retN X105 hx (t := .char) Bd.returns (by simp) (hb hby own_d23_59) hr) (by decide) (by decide) (by rw [e105]; exact ⟨rfl, N0, rfl⟩)
theorem own_d21_0 : decode jdk_52_method_3_code 0 = .ok (.iload_n 0, 1) := by decide +kernel
theorem own_d21_1 : decode jdk_52_method_3_code 1 = .ok (.ifCond .ge 11, 3) := by decide +kernel
theorem own_d21_12 : decode jdk_52_method_3_code 12 = .ok (.iload_n 0, 1) := by decide +kernel
theorem own_d21_13 : decode jdk_52_method_3_code 13 = .ok (.ldc 20, 2) := by decide +kernel
theorem own_d21_15 : decode jdk_52_method_3_code 15 = .ok (.if_icmp .lt 40, 3) := by decide +kernel
theorem own_d21_55 : decode jdk_52_method_3_code 55 = .ok (.iload_n 0, 1) := by decide +kernel
theorem own_d21_56 : decode jdk_52_method_3_code 56 = .ok (.iconst 1, 1) := by decide +kernel
theorem own_d21_57 : decode jdk_52_method_3_code 57 = .ok (.ishl, 1) := by decide +kernel
theorem own_d21_58 : decode jdk_52_method_3_code 58 = .ok (.ireturn, 1) := by decide +kernel
theorem own_ef_I_1 (m : MethodId) (x0 : Int32) : entryFrame m #[(.int x0)] 1 = mkF m 0 #[.val (.int x0)] [] := by first | (simp [entryFrame, mkF, argsToLocals, Value.category]; done) | rfl
def Q_nbl1 (Z : State)  (h0 : Heap) (n0 : Nat) (v : Option Value) (h : Heap) (L : List Loc) : Prop := v = some (.int (2 : Int32)) ∧ Fr n0 L ∧ h = h0
theorem rm_nbl1 (l : Launch) (Z : State) (a0 : Array Value) (hw : own_H a0 Z) (ws : List Jvm.Cond)  (h0 : Heap) (n0 : Nat) (Z0 : n0 ≤ h0.size) : own_MP l (⟨"java/lang/StringUTF16", "newBytesLength", "(I)I"⟩ : MethodName) jdk_52_method_3_code 1 (some .int) ws ({ frames := 0, cells := 0, slots := 0, locals := 0 } : Room) Z h0 #[(.int (1 : Int32))] (fun _ _ _ _ _ => True) (Q_nbl1 Z  h0 n0) := by
  refine own_startP (plainFor_of_name own_pn_java_lang_StringUTF16) fun p e s m below meth c s₁ Bd hx hby hml hown0 X0 e0 hh0 hZ hK Pst hPst => ?_
  have hown : s.vm.findClass "java/lang/StringUTF16" = some m.cls := hown0
  have hnm := (name_of_methodNamed Bd.named Bd.method).1
  have N0 := Fr.nil n0
  rw [own_ef_I_1 m (1 : Int32)]
  refine own_x_iloadN X0.here hx (hb hby own_d21_0) rfl ?_
  refine own_x_ifYes X0.here hx (pc0 := 1) (pc' := 12) rfl (hb hby own_d21_1) rfl ((if0 _ _).trans (flt (by decide)).2.1) (by decide) (by decide) ?_
  refine own_x_iloadN X0.here hx (hb hby own_d21_12) rfl ?_
  refine own_Go.of (S' := s₁.setTop (mkF m 15 #[.val (.int (1 : Int32))] [(.int (1073741823 : Int32)), (.int (1 : Int32))])) (fun tgt kst => X0.ldcInt hx hown (mvT hZ (own_w91 hw)) (g := (mkF m 13 #[.val (.int (1 : Int32))] [(.int (1 : Int32))])) rfl (hb hby own_d21_13) _ kst) ?_
  refine own_x_icmpYes X0.here hx (pc0 := 15) (pc' := 55) rfl (hb hby own_d21_15) rfl (tlt (by decide)).1 (by decide) (by decide) ?_
  refine own_x_iloadN X0.here hx (hb hby own_d21_55) rfl ?_
  refine own_x_iconst X0.here hx (hb hby own_d21_56) (z := (1 : Int32)) rfl ?_
  refine own_x_ishl X0.here hx (hb hby own_d21_57) rfl ?_
  rw [show ((1 : Int32) <<< ((1 : Int32) &&& 31)) = (2 : Int32) from by decide]
  show own_Go p e below Pst (s₁.setTop (mkF m 58 #[.val (.int (1 : Int32))] [(.int (2 : Int32))]))
  rw [hPst]
  exact own_retP X0 (v := (some (.int (2 : Int32)))) (Q := Q_nbl1 Z  h0 n0) (fun h => by rw [Bd.returns] at h; cases h) Bd.notSynchronized (fun fs hr => own_retI X0 hx Bd.returns (hb hby own_d21_58) hr) (by decide) (by decide) (by rw [e0]; exact ⟨rfl, N0, rfl⟩)
theorem own_d20_0 : decode jdk_52_method_2_code 0 = .ok (.iload_n 0, 1) := by decide +kernel
theorem own_d20_1 : decode jdk_52_method_2_code 1 = .ok (.invokestatic 11, 3) := by decide +kernel
theorem own_pd1 : parseMethodDescriptor "(I)I" = some ⟨[.int], some .int⟩ := by decide +kernel
theorem own_d20_4 : decode jdk_52_method_2_code 4 = .ok (.newarray .byte, 2) := by decide +kernel
theorem own_d20_6 : decode jdk_52_method_2_code 6 = .ok (.areturn, 1) := by decide +kernel
def Q_nbf1 (Z : State)  (h0 : Heap) (n0 : Nat) (v : Option Value) (h : Heap) (L : List Loc) : Prop := ∃ (b : Addr), v = some (.ref b) ∧ Fr n0 L ∧ Keep h0 h [] ∧ h0.size ≤ b ∧ ∃ kb : ClassId, Arv Z h b kb .byte (2 : Int32) [(.int (0 : Int32)), (.int (0 : Int32))] (.int 0)
theorem rm_nbf1 (l : Launch) (Z : State) (a0 : Array Value) (hw : own_H a0 Z) (ws : List Jvm.Cond)  (h0 : Heap) (n0 : Nat) (Z0 : n0 ≤ h0.size) : own_MP l (⟨"java/lang/StringUTF16", "newBytesFor", "(I)[B"⟩ : MethodName) jdk_52_method_2_code 1 (some (.array .byte)) ws ({ frames := 1, cells := 1, slots := 2, locals := 12 } : Room) Z h0 #[(.int (1 : Int32))] (fun _ _ _ _ _ => True) (Q_nbf1 Z  h0 n0) := by
  refine own_startP (plainFor_of_name own_pn_java_lang_StringUTF16) fun p e s m below meth c s₁ Bd hx hby hml hown0 X0 e0 hh0 hZ hK Pst hPst => ?_
  have hown : s.vm.findClass "java/lang/StringUTF16" = some m.cls := hown0
  have hnm := (name_of_methodNamed Bd.named Bd.method).1
  have N0 := Fr.nil n0
  rw [own_ef_I_1 m (1 : Int32)]
  refine own_x_iloadN X0.here hx (hb hby own_d20_0) rfl ?_
  refine own_cF X0 (Jvm.LawKit.callS X0 hx (y := (⟨"java/lang/StringUTF16", "newBytesLength", "(I)I"⟩ : MethodName)) hown (mvT hZ (own_w88 hw)) (mvT hZ (own_w89 hw)) (mvT hZ (own_w23 hw)) (mvT hZ (own_w90 hw)) (by decide) (backOf (W := 0) (rm_nbl1 l Z a0 hw []  h0 n0 Z0 ) hZ (own_w90 hw) (own_w23 hw) (by decide) (by decide)) (g := (mkF m 1 #[.val (.int (1 : Int32))] [(.int (1 : Int32))])) rfl (by rw [hml]; rfl) (argsL := [(.int (1 : Int32))]) (rest := []) (lenOf own_pd1 rfl) rfl (by show 2 * 0 + _ ≤ _; exact Nat.le_of_eq rfl) (hb hby own_d20_1) (fun _ _ => ⟨rfl, e0, (by decide : 0 + 0 ≤ _), (by decide : 0 + 0 ≤ _)⟩)) fun v101 T101 L101 X101 hQ101 => ?_
  obtain ⟨rfl, Nq101, e101⟩ := hQ101
  have N101 := Fr.app N0 Nq101
  show own_Go p e below Pst (T101.setTop (mkF m 4 #[.val (.int (1 : Int32))] [(.int (2 : Int32))]))
  refine own_h_newP (aty := .byte) X101 hx hZ (own_w25 hw) e101 (hb hby own_d20_4) rfl (by decide) (cap := 2) (by decide) (by decide) (by decide) (by decide) fun T102 h102 k102 b102 g102 X102 e102 E102 A102 => ?_
  have gn_b102 : n0 ≤ b102 := Nat.le_trans Z0 (Nat.le_of_eq g102.symm)
  have sz_b102 : h0.size ≤ b102 := Nat.le_trans (Keep.refl h0 []).1 (Nat.le_of_eq g102.symm)
  have V102 : Arv Z h102 b102 k102 .byte (2 : Int32) [(.int (0 : Int32)), (.int (0 : Int32))] (.int (0 : Int32)) := (Arv.new A102 (by decide)).pad (pad_rep [] (.int (0 : Int32)) 2)
  have c103 := ((Keep.refl h0 []).ext E102)
  rw [hPst]
  exact own_retP X102 (v := (some (.ref b102))) (Q := Q_nbf1 Z  h0 n0) (fun h => by rw [Bd.returns] at h; cases h) Bd.notSynchronized (fun fs hr => retOut X102 hx Bd.returns rfl (Or.inr (Or.inr (Or.inr (Or.inr ⟨rfl, rfl, rfl⟩)))) (hb hby own_d20_6) hr) (by decide) (by decide) (by rw [e102]; exact ⟨_, rfl, N101, c103, sz_b102, _, V102⟩)
theorem own_d19_0 : decode jdk_52_method_14_code 0 = .ok (.iload_n 2, 1) := by decide +kernel
theorem own_d19_1 : decode jdk_52_method_14_code 1 = .ok (.invokestatic 107, 3) := by decide +kernel
theorem own_pd2 : parseMethodDescriptor "(I)[B" = some ⟨[.int], some (.array .byte)⟩ := by decide +kernel
theorem own_d19_4 : decode jdk_52_method_14_code 4 = .ok (.astore_n 3, 1) := by decide +kernel
theorem own_d19_5 : decode jdk_52_method_14_code 5 = .ok (.iconst 0, 1) := by decide +kernel
theorem own_d19_6 : decode jdk_52_method_14_code 6 = .ok (.istore 4, 2) := by decide +kernel
theorem own_d19_8 : decode jdk_52_method_14_code 8 = .ok (.iload 4, 2) := by decide +kernel
theorem own_d19_10 : decode jdk_52_method_14_code 10 = .ok (.iload_n 2, 1) := by decide +kernel
theorem own_d19_11 : decode jdk_52_method_14_code 11 = .ok (.if_icmp .ge 21, 3) := by decide +kernel
theorem own_d19_14 : decode jdk_52_method_14_code 14 = .ok (.aload_n 3, 1) := by decide +kernel
theorem own_d19_15 : decode jdk_52_method_14_code 15 = .ok (.iload 4, 2) := by decide +kernel
theorem own_d19_17 : decode jdk_52_method_14_code 17 = .ok (.aload_n 0, 1) := by decide +kernel
theorem own_d19_18 : decode jdk_52_method_14_code 18 = .ok (.iload_n 1, 1) := by decide +kernel
theorem own_d19_19 : decode jdk_52_method_14_code 19 = .ok (.caload, 1) := by decide +kernel
theorem own_d19_20 : decode jdk_52_method_14_code 20 = .ok (.invokestatic 111, 3) := by decide +kernel
theorem own_pd3 : parseMethodDescriptor "([BII)V" = some ⟨[(.array .byte), .int, .int], none⟩ := by decide +kernel
theorem own_d19_23 : decode jdk_52_method_14_code 23 = .ok (.iinc 1 1, 3) := by decide +kernel
theorem own_d19_26 : decode jdk_52_method_14_code 26 = .ok (.iinc 4 1, 3) := by decide +kernel
theorem own_d19_29 : decode jdk_52_method_14_code 29 = .ok (.goto (-21), 3) := by decide +kernel
theorem own_d19_32 : decode jdk_52_method_14_code 32 = .ok (.aload_n 3, 1) := by decide +kernel
theorem own_d19_33 : decode jdk_52_method_14_code 33 = .ok (.areturn, 1) := by decide +kernel
theorem own_ef_RII_5 (m : MethodId) (x0 : Addr) (x1 : Int32) (x2 : Int32) : entryFrame m #[(.ref x0), (.int x1), (.int x2)] 5 = mkF m 0 #[.val (.ref x0), .val (.int x1), .val (.int x2), .unset, .unset] [] := by first | (simp [entryFrame, mkF, argsToLocals, Value.category]; done) | rfl
def Q_tob1 (Z : State) (a2 : Addr) (kc : ClassId) (dv : Value) (c0 : Int32) (h0 : Heap) (n0 : Nat) (v : Option Value) (h : Heap) (L : List Loc) : Prop := ∃ (b : Addr), v = some (.ref b) ∧ Fr n0 L ∧ Keep h0 h [] ∧ h0.size ≤ b ∧ ∃ kb : ClassId, Arv Z h b kb .byte (2 : Int32) (own_u16 [c0]) (.int 0)
theorem rm_tob1 (l : Launch) (Z : State) (a0 : Array Value) (hw : own_H a0 Z) (ws : List Jvm.Cond) (a2 : Addr) (kc : ClassId) (dv : Value) (c0 : Int32) (h0 : Heap) (n0 : Nat) (Z0 : n0 ≤ h0.size) (O : Old Z n0 h0) (SU0 : Sta Z Z.heap "java/lang/StringUTF16" "$assertionsDisabled" "Z" (.int (1 : Int32))) (SU1 : Sta Z Z.heap "java/lang/StringUTF16" "HI_BYTE_SHIFT" "I" (.int (0 : Int32))) (SU2 : Sta Z Z.heap "java/lang/StringUTF16" "LO_BYTE_SHIFT" "I" (.int (8 : Int32))) (A1 : Arv Z h0 a2 kc .char (1 : Int32) [(.int c0)] dv) : own_MP l (⟨"java/lang/StringUTF16", "toBytes", "([CII)[B"⟩ : MethodName) jdk_52_method_14_code 5 (some (.array .byte)) ws ({ frames := 2, cells := 1, slots := 2, locals := 24 } : Room) Z h0 #[(.ref a2), (.int (0 : Int32)), (.int (1 : Int32))] (fun _ _ _ _ _ => True) (Q_tob1 Z a2 kc dv c0 h0 n0) := by
  refine own_startP (plainFor_of_name own_pn_java_lang_StringUTF16) fun p e s m below meth c s₁ Bd hx hby hml hown0 X0 e0 hh0 hZ hK Pst hPst => ?_
  have hown : s.vm.findClass "java/lang/StringUTF16" = some m.cls := hown0
  have hnm := (name_of_methodNamed Bd.named Bd.method).1
  have N0 := Fr.nil n0
  rw [own_ef_RII_5 m a2 (0 : Int32) (1 : Int32)]
  refine own_x_iloadN X0.here hx (hb hby own_d19_0) rfl ?_
  refine own_cF X0 (Jvm.LawKit.callS X0 hx (y := (⟨"java/lang/StringUTF16", "newBytesFor", "(I)[B"⟩ : MethodName)) hown (mvT hZ (own_w85 hw)) (mvT hZ (own_w86 hw)) (mvT hZ (own_w23 hw)) (mvT hZ (own_w87 hw)) (by decide) (backOf (W := 0) (rm_nbf1 l Z a0 hw []  h0 n0 Z0 ) hZ (own_w87 hw) (own_w23 hw) (by decide) (by decide)) (g := (mkF m 1 #[.val (.ref a2), .val (.int (0 : Int32)), .val (.int (1 : Int32)), .unset, .unset] [(.int (1 : Int32))])) rfl (by rw [hml]; rfl) (argsL := [(.int (1 : Int32))]) (rest := []) (lenOf own_pd2 rfl) rfl (by show 2 * 0 + _ ≤ _; exact Nat.le_of_eq rfl) (hb hby own_d19_1) (fun _ _ => ⟨rfl, e0, (by decide : 0 + 1 ≤ _), (by decide : 0 + 2 ≤ _)⟩)) fun v101 T101 L101 X101 hQ101 => ?_
  obtain ⟨b101, rfl, Nq101, K101, sb101, kb101, V101⟩ := hQ101
  have N101 := Fr.app N0 Nq101
  have ne_a2_b101 : a2 ≠ b101 := Nat.ne_of_lt (Nat.lt_of_lt_of_le A1.lt sb101)
  have gn_b101 : n0 ≤ b101 := Nat.le_trans Z0 sb101
  have sz_b101 : h0.size ≤ b101 := Nat.le_trans (Keep.refl h0 []).1 sb101
  show own_Go p e below Pst (T101.setTop (mkF m 4 #[.val (.ref a2), .val (.int (0 : Int32)), .val (.int (1 : Int32)), .unset, .unset] [(.ref b101)]))
  refine own_x_astoreN X101.here hx (hb hby own_d19_4) rfl rfl (l' := #[.val (.ref a2), .val (.int (0 : Int32)), .val (.int (1 : Int32)), .val (.ref b101), .unset]) rfl ?_
  refine own_x_iconst X101.here hx (hb hby own_d19_5) (z := (0 : Int32)) rfl ?_
  refine own_x_istore X101.here hx (hb hby own_d19_6) rfl (l' := #[.val (.ref a2), .val (.int (0 : Int32)), .val (.int (1 : Int32)), .val (.ref b101), .val (.int (0 : Int32))]) rfl ?_
  refine own_x_iload X101.here hx (hb hby own_d19_8) rfl ?_
  refine own_x_iloadN X101.here hx (hb hby own_d19_10) rfl ?_
  refine own_x_icmpNo X101.here hx (hb hby own_d19_11) rfl (tlt (by decide)).2.1 ?_
  refine own_x_aloadN X101.here hx (hb hby own_d19_14) rfl rfl ?_
  refine own_x_iload X101.here hx (hb hby own_d19_15) rfl ?_
  refine own_x_aloadN X101.here hx (hb hby own_d19_17) rfl rfl ?_
  refine own_x_iloadN X101.here hx (hb hby own_d19_18) rfl ?_
  have c102 := (A1.keep K101 nin0)
  obtain ⟨cl103, Ar103, q103, S103, P103, H103, G103⟩ := id c102
  have hin103 : ¬ ((0 : Int32) < 0 ∨ cl103.slots.size ≤ ((0 : Int32)).toNatClampNeg) := inb_of S103 ⟨by decide, by decide⟩
  have hat103 : cl103.slots[((0 : Int32)).toNatClampNeg]? = some (.int c0) := Has.at H103 hin103 rfl
  refine own_Go.of (S' := T101.setTop (mkF m 20 #[.val (.ref a2), .val (.int (0 : Int32)), .val (.int (1 : Int32)), .val (.ref b101), .val (.int (0 : Int32))] [(.int c0), (.int (0 : Int32)), (.ref b101)])) (fun tgt kst => X101.caload hx (j := (0 : Int32)) (v := (.int c0)) (by exact Ar103.1) (State.isArrayOf_alike hZ.alike Ar103.2.1) Ar103.2.2 hin103 hat103 (g := (mkF m 19 #[.val (.ref a2), .val (.int (0 : Int32)), .val (.int (1 : Int32)), .val (.ref b101), .val (.int (0 : Int32))] [(.int (0 : Int32)), (.ref a2), (.int (0 : Int32)), (.ref b101)])) rfl rfl (hb hby own_d19_19) _ kst) ?_
  have c104 := (O.keep K101 all0)
  have c106 := (Nat.le_trans Z0 K101.1)
  refine own_cF X101 (Jvm.LawKit.callS X101 hx (y := (⟨"java/lang/StringUTF16", "putChar", "([BII)V"⟩ : MethodName)) hown (mvT hZ (own_w92 hw)) (mvT hZ (own_w93 hw)) (mvT hZ (own_w23 hw)) (mvT hZ (own_w94 hw)) (by decide) (backOf (W := 0) (rm_put0 l Z a0 hw [] b101 kb101 (2 : Int32) c0 [(.int (0 : Int32)), (.int (0 : Int32))] T101.heap n0 c106 c104 SU0 SU1 SU2 gn_b101 V101 (by decide) (Nat.le_of_ble_eq_true rfl)) hZ (own_w94 hw) (own_w23 hw) (by decide) (by decide)) (g := (mkF m 20 #[.val (.ref a2), .val (.int (0 : Int32)), .val (.int (1 : Int32)), .val (.ref b101), .val (.int (0 : Int32))] [(.int c0), (.int (0 : Int32)), (.ref b101)])) rfl (by rw [hml]; rfl) (argsL := [(.ref b101), (.int (0 : Int32)), (.int c0)]) (rest := []) (lenOf own_pd3 rfl) rfl (by show 2 * 0 + _ ≤ _; exact Nat.le_of_eq rfl) (hb hby own_d19_20) (fun _ _ => ⟨rfl, rfl, (by decide : 1 + 0 ≤ _), (by decide : 2 + 0 ≤ _)⟩)) fun v105 T105 L105 X105 hQ105 => ?_
  obtain ⟨rfl, Nq105, K105, V105⟩ := hQ105
  have N105 := Fr.app N101 Nq105
  show own_Go p e below Pst (T105.setTop (mkF m 23 #[.val (.ref a2), .val (.int (0 : Int32)), .val (.int (1 : Int32)), .val (.ref b101), .val (.int (0 : Int32))] []))
  refine own_x_iinc X105.here hx (hb hby own_d19_23) rfl (l' := #[.val (.ref a2), .val (.int ((0 : Int32) + (1 : Int32))), .val (.int (1 : Int32)), .val (.ref b101), .val (.int (0 : Int32))]) rfl ?_
  refine own_x_iinc X105.here hx (hb hby own_d19_26) rfl (l' := #[.val (.ref a2), .val (.int ((0 : Int32) + (1 : Int32))), .val (.int (1 : Int32)), .val (.ref b101), .val (.int ((0 : Int32) + (1 : Int32)))]) rfl ?_
  rw [show ((0 : Int32) + (1 : Int32)) = (1 : Int32) from by decide]
  show own_Go p e below Pst (T105.setTop (mkF m 29 #[.val (.ref a2), .val (.int (1 : Int32)), .val (.int (1 : Int32)), .val (.ref b101), .val (.int ((0 : Int32) + (1 : Int32)))] []))
  rw [show ((0 : Int32) + (1 : Int32)) = (1 : Int32) from by decide]
  show own_Go p e below Pst (T105.setTop (mkF m 29 #[.val (.ref a2), .val (.int (1 : Int32)), .val (.int (1 : Int32)), .val (.ref b101), .val (.int (1 : Int32))] []))
  refine own_x_goto X105.here hx (pc0 := 29) (pc' := 8) rfl (hb hby own_d19_29) (by decide) (by decide) ?_
  refine own_x_iload X105.here hx (hb hby own_d19_8) rfl ?_
  refine own_x_iloadN X105.here hx (hb hby own_d19_10) rfl ?_
  refine own_x_icmpYes X105.here hx (pc0 := 11) (pc' := 32) rfl (hb hby own_d19_11) rfl (flt (by decide)).2.1 (by decide) (by decide) ?_
  refine own_x_aloadN X105.here hx (hb hby own_d19_32) rfl rfl ?_
  have c107 := (Keep.trans (Keep.trans (Keep.refl h0 []) K101 all0) K105 (allS (Or.inr sz_b101) all0))
  rw [hPst]
  exact own_retP X105 (v := (some (.ref b101))) (Q := Q_tob1 Z a2 kc dv c0 h0 n0) (fun h => by rw [Bd.returns] at h; cases h) Bd.notSynchronized (fun fs hr => retOut X105 hx Bd.returns rfl (Or.inr (Or.inr (Or.inr (Or.inr ⟨rfl, rfl, rfl⟩)))) (hb hby own_d19_33) hr) (by decide) (by decide) ⟨_, rfl, N105, c107, sz_b101, _, V105⟩
theorem own_d6_0 : decode jdk_52_method_21_code 0 = .ok (.iconst 0, 1) := by decide +kernel
theorem own_d6_1 : decode jdk_52_method_21_code 1 = .ok (.istore 5, 2) := by decide +kernel
theorem own_d6_3 : decode jdk_52_method_21_code 3 = .ok (.iload 5, 2) := by decide +kernel
theorem own_d6_5 : decode jdk_52_method_21_code 5 = .ok (.iload 4, 2) := by decide +kernel
theorem own_d6_7 : decode jdk_52_method_21_code 7 = .ok (.if_icmp .ge 37, 3) := by decide +kernel
theorem own_d6_10 : decode jdk_52_method_21_code 10 = .ok (.aload_n 0, 1) := by decide +kernel
theorem own_d6_11 : decode jdk_52_method_21_code 11 = .ok (.iload_n 1, 1) := by decide +kernel
theorem own_d6_12 : decode jdk_52_method_21_code 12 = .ok (.caload, 1) := by decide +kernel
theorem own_d6_13 : decode jdk_52_method_21_code 13 = .ok (.istore 6, 2) := by decide +kernel
theorem own_d6_15 : decode jdk_52_method_21_code 15 = .ok (.iload 6, 2) := by decide +kernel
theorem own_d6_17 : decode jdk_52_method_21_code 17 = .ok (.sipush 255, 3) := by decide +kernel
theorem own_d6_20 : decode jdk_52_method_21_code 20 = .ok (.if_icmp .le 6, 3) := by decide +kernel
theorem own_d6_23 : decode jdk_52_method_21_code 23 = .ok (.iload 5, 2) := by decide +kernel
theorem own_d6_25 : decode jdk_52_method_21_code 25 = .ok (.ireturn, 1) := by decide +kernel
theorem own_ef_RIRII_7 (m : MethodId) (x0 : Addr) (x1 : Int32) (x2 : Addr) (x3 : Int32) (x4 : Int32) : entryFrame m #[(.ref x0), (.int x1), (.ref x2), (.int x3), (.int x4)] 7 = mkF m 0 #[.val (.ref x0), .val (.int x1), .val (.ref x2), .val (.int x3), .val (.int x4), .unset, .unset] [] := by first | (simp [entryFrame, mkF, argsToLocals, Value.category]; done) | rfl
def Q_cmp1_0 (Z : State) (a2 : Addr) (kc : ClassId) (dv : Value) (c0 : Int32) (d : Addr) (kd : ClassId) (h0 : Heap) (n0 : Nat) (v : Option Value) (h : Heap) (L : List Loc) : Prop := v = some (.int (0 : Int32)) ∧ Fr n0 L ∧ Keep h0 h [d]
theorem rm_cmp1_0 (l : Launch) (Z : State) (a0 : Array Value) (hw : own_H a0 Z) (ws : List Jvm.Cond) (a2 : Addr) (kc : ClassId) (dv : Value) (c0 : Int32) (d : Addr) (kd : ClassId) (h0 : Heap) (n0 : Nat) (Z0 : n0 ≤ h0.size) (A1 : Arv Z h0 a2 kc .char (1 : Int32) [(.int c0)] dv) (A2 : Arv Z h0 d kd .byte (1 : Int32) [(.int (0 : Int32))] (.int (0 : Int32))) (gd : n0 ≤ d) (ne : a2 ≠ d) (u : (255 : Int32) < c0) : own_MP l (⟨"java/lang/StringUTF16", "compress", "([CI[BII)I"⟩ : MethodName) jdk_52_method_21_code 7 (some .int) ws ({ frames := 0, cells := 0, slots := 0, locals := 0 } : Room) Z h0 #[(.ref a2), (.int (0 : Int32)), (.ref d), (.int (0 : Int32)), (.int (1 : Int32))] (fun _ _ _ _ _ => True) (Q_cmp1_0 Z a2 kc dv c0 d kd h0 n0) := by
  refine own_startP (plainFor_of_name own_pn_java_lang_StringUTF16) fun p e s m below meth c s₁ Bd hx hby hml hown0 X0 e0 hh0 hZ hK Pst hPst => ?_
  have hown : s.vm.findClass "java/lang/StringUTF16" = some m.cls := hown0
  have hnm := (name_of_methodNamed Bd.named Bd.method).1
  have N0 := Fr.nil n0
  rw [own_ef_RIRII_7 m a2 (0 : Int32) d (0 : Int32) (1 : Int32)]
  refine own_x_iconst X0.here hx (hb hby own_d6_0) (z := (0 : Int32)) rfl ?_
  refine own_x_istore X0.here hx (hb hby own_d6_1) rfl (l' := #[.val (.ref a2), .val (.int (0 : Int32)), .val (.ref d), .val (.int (0 : Int32)), .val (.int (1 : Int32)), .val (.int (0 : Int32)), .unset]) rfl ?_
  refine own_x_iload X0.here hx (hb hby own_d6_3) rfl ?_
  refine own_x_iload X0.here hx (hb hby own_d6_5) rfl ?_
  refine own_x_icmpNo X0.here hx (hb hby own_d6_7) rfl (tlt (by decide)).2.1 ?_
  refine own_x_aloadN X0.here hx (hb hby own_d6_10) rfl rfl ?_
  refine own_x_iloadN X0.here hx (hb hby own_d6_11) rfl ?_
  obtain ⟨cl101, Ar101, q101, S101, P101, H101, G101⟩ := id A1
  have hin101 : ¬ ((0 : Int32) < 0 ∨ cl101.slots.size ≤ ((0 : Int32)).toNatClampNeg) := inb_of S101 ⟨by decide, by decide⟩
  have hat101 : cl101.slots[((0 : Int32)).toNatClampNeg]? = some (.int c0) := Has.at H101 hin101 rfl
  refine own_Go.of (S' := s₁.setTop (mkF m 13 #[.val (.ref a2), .val (.int (0 : Int32)), .val (.ref d), .val (.int (0 : Int32)), .val (.int (1 : Int32)), .val (.int (0 : Int32)), .unset] [(.int c0)])) (fun tgt kst => X0.caload hx (j := (0 : Int32)) (v := (.int c0)) (by rw [e0]; exact Ar101.1) (State.isArrayOf_alike hZ.alike Ar101.2.1) Ar101.2.2 hin101 hat101 (g := (mkF m 12 #[.val (.ref a2), .val (.int (0 : Int32)), .val (.ref d), .val (.int (0 : Int32)), .val (.int (1 : Int32)), .val (.int (0 : Int32)), .unset] [(.int (0 : Int32)), (.ref a2)])) rfl rfl (hb hby own_d6_12) _ kst) ?_
  refine own_x_istore X0.here hx (hb hby own_d6_13) rfl (l' := #[.val (.ref a2), .val (.int (0 : Int32)), .val (.ref d), .val (.int (0 : Int32)), .val (.int (1 : Int32)), .val (.int (0 : Int32)), .val (.int c0)]) rfl ?_
  refine own_x_iload X0.here hx (hb hby own_d6_15) rfl ?_
  refine own_x_sipush X0.here hx (hb hby own_d6_17) (z := (255 : Int32)) rfl ?_
  refine own_x_icmpNo X0.here hx (hb hby own_d6_20) rfl (tlt u).2.2.2 ?_
  refine own_x_iload X0.here hx (hb hby own_d6_23) rfl ?_
  rw [hPst]
  exact own_retP X0 (v := (some (.int (0 : Int32)))) (Q := Q_cmp1_0 Z a2 kc dv c0 d kd h0 n0) (fun h => by rw [Bd.returns] at h; cases h) Bd.notSynchronized (fun fs hr => own_retI X0 hx Bd.returns (hb hby own_d6_25) hr) (by decide) (by decide) (by rw [e0]; exact ⟨rfl, N0, (Keep.refl h0 [d])⟩)
theorem own_d5_0 : decode jdk_52_method_16_code 0 = .ok (.iload_n 2, 1) := by decide +kernel
theorem own_d5_1 : decode jdk_52_method_16_code 1 = .ok (.newarray .byte, 2) := by decide +kernel
theorem own_d5_3 : decode jdk_52_method_16_code 3 = .ok (.astore_n 3, 1) := by decide +kernel
theorem own_d5_4 : decode jdk_52_method_16_code 4 = .ok (.aload_n 0, 1) := by decide +kernel
theorem own_d5_5 : decode jdk_52_method_16_code 5 = .ok (.iload_n 1, 1) := by decide +kernel
theorem own_d5_6 : decode jdk_52_method_16_code 6 = .ok (.aload_n 3, 1) := by decide +kernel
theorem own_d5_7 : decode jdk_52_method_16_code 7 = .ok (.iconst 0, 1) := by decide +kernel
theorem own_d5_8 : decode jdk_52_method_16_code 8 = .ok (.iload_n 2, 1) := by decide +kernel
theorem own_d5_9 : decode jdk_52_method_16_code 9 = .ok (.invokestatic 115, 3) := by decide +kernel
theorem own_pd4 : parseMethodDescriptor "([CI[BII)I" = some ⟨[(.array .char), .int, (.array .byte), .int, .int], some .int⟩ := by decide +kernel
theorem own_d5_12 : decode jdk_52_method_16_code 12 = .ok (.istore 4, 2) := by decide +kernel
theorem own_d5_14 : decode jdk_52_method_16_code 14 = .ok (.iload 4, 2) := by decide +kernel
theorem own_d5_16 : decode jdk_52_method_16_code 16 = .ok (.iload_n 2, 1) := by decide +kernel
theorem own_d5_17 : decode jdk_52_method_16_code 17 = .ok (.if_icmp .eq 40, 3) := by decide +kernel
theorem own_d5_20 : decode jdk_52_method_16_code 20 = .ok (.aload_n 0, 1) := by decide +kernel
theorem own_d5_21 : decode jdk_52_method_16_code 21 = .ok (.iload_n 1, 1) := by decide +kernel
theorem own_d5_22 : decode jdk_52_method_16_code 22 = .ok (.iload_n 2, 1) := by decide +kernel
theorem own_d5_23 : decode jdk_52_method_16_code 23 = .ok (.invokestatic 119, 3) := by decide +kernel
theorem own_pd5 : parseMethodDescriptor "([CII)[B" = some ⟨[(.array .char), .int, .int], some (.array .byte)⟩ := by decide +kernel
theorem own_d5_26 : decode jdk_52_method_16_code 26 = .ok (.astore 5, 2) := by decide +kernel
theorem own_d5_28 : decode jdk_52_method_16_code 28 = .ok (.aload 5, 2) := by decide +kernel
theorem own_d5_30 : decode jdk_52_method_16_code 30 = .ok (.iload 4, 2) := by decide +kernel
theorem own_d5_32 : decode jdk_52_method_16_code 32 = .ok (.invokestatic 71, 3) := by decide +kernel
theorem own_pd6 : parseMethodDescriptor "([BI)C" = some ⟨[(.array .byte), .int], some .char⟩ := by decide +kernel
theorem own_d5_35 : decode jdk_52_method_16_code 35 = .ok (.sipush 255, 3) := by decide +kernel
theorem own_d5_38 : decode jdk_52_method_16_code 38 = .ok (.if_icmp .gt 16, 3) := by decide +kernel
theorem own_d5_54 : decode jdk_52_method_16_code 54 = .ok (.aload 5, 2) := by decide +kernel
theorem own_d5_56 : decode jdk_52_method_16_code 56 = .ok (.areturn, 1) := by decide +kernel
theorem own_ef_RII_6 (m : MethodId) (x0 : Addr) (x1 : Int32) (x2 : Int32) : entryFrame m #[(.ref x0), (.int x1), (.int x2)] 6 = mkF m 0 #[.val (.ref x0), .val (.int x1), .val (.int x2), .unset, .unset, .unset] [] := by first | (simp [entryFrame, mkF, argsToLocals, Value.category]; done) | rfl
def Q_cu1 (Z : State) (a2 : Addr) (kc : ClassId) (dv : Value) (c0 : Int32) (h0 : Heap) (n0 : Nat) (v : Option Value) (h : Heap) (L : List Loc) : Prop := ∃ (b : Addr), v = some (.ref b) ∧ Fr n0 L ∧ Keep h0 h [] ∧ h0.size ≤ b ∧ ∃ kb : ClassId, Arv Z h b kb .byte (2 : Int32) (own_u16 [c0]) (.int 0)
theorem rm_cu1 (l : Launch) (Z : State) (a0 : Array Value) (hw : own_H a0 Z) (ws : List Jvm.Cond) (a2 : Addr) (kc : ClassId) (dv : Value) (c0 : Int32) (h0 : Heap) (n0 : Nat) (Z0 : n0 ≤ h0.size) (O : Old Z n0 h0) (SU0 : Sta Z Z.heap "java/lang/StringUTF16" "$assertionsDisabled" "Z" (.int (1 : Int32))) (SU1 : Sta Z Z.heap "java/lang/StringUTF16" "HI_BYTE_SHIFT" "I" (.int (0 : Int32))) (SU2 : Sta Z Z.heap "java/lang/StringUTF16" "LO_BYTE_SHIFT" "I" (.int (8 : Int32))) (A1 : Arv Z h0 a2 kc .char (1 : Int32) [(.int c0)] dv) (hr : ¬ c0 < 0 ∧ ¬ (65535 : Int32) < c0) (hbad : ¬ (¬ (255 : Int32) < c0)) : own_MP l (⟨"java/lang/StringUTF16", "compress", "([CII)[B"⟩ : MethodName) jdk_52_method_16_code 6 (some (.array .byte)) ws ({ frames := 3, cells := 2, slots := 3, locals := 40 } : Room) Z h0 #[(.ref a2), (.int (0 : Int32)), (.int (1 : Int32))] (fun _ _ _ _ _ => True) (Q_cu1 Z a2 kc dv c0 h0 n0) := by
  refine own_startP (plainFor_of_name own_pn_java_lang_StringUTF16) fun p e s m below meth c s₁ Bd hx hby hml hown0 X0 e0 hh0 hZ hK Pst hPst => ?_
  have hown : s.vm.findClass "java/lang/StringUTF16" = some m.cls := hown0
  have hnm := (name_of_methodNamed Bd.named Bd.method).1
  have N0 := Fr.nil n0
  rw [own_ef_RII_6 m a2 (0 : Int32) (1 : Int32)]
  refine own_x_iloadN X0.here hx (hb hby own_d5_0) rfl ?_
  refine own_h_newP (aty := .byte) X0 hx hZ (own_w25 hw) e0 (hb hby own_d5_1) rfl (by decide) (cap := 1) (by decide) (by decide) (by decide) (by decide) fun T101 h101 k101 b101 g101 X101 e101 E101 A101 => ?_
  have ne_a2_b101 : a2 ≠ b101 := Nat.ne_of_lt (Nat.lt_of_lt_of_le A1.lt (Nat.le_of_eq g101.symm))
  have gn_b101 : n0 ≤ b101 := Nat.le_trans Z0 (Nat.le_of_eq g101.symm)
  have sz_b101 : h0.size ≤ b101 := Nat.le_trans (Keep.refl h0 []).1 (Nat.le_of_eq g101.symm)
  have V101 : Arv Z h101 b101 k101 .byte (1 : Int32) [(.int (0 : Int32))] (.int (0 : Int32)) := (Arv.new A101 (by decide)).pad (pad_rep [] (.int (0 : Int32)) 1)
  refine own_x_astoreN X101.here hx (hb hby own_d5_3) rfl rfl (l' := #[.val (.ref a2), .val (.int (0 : Int32)), .val (.int (1 : Int32)), .val (.ref b101), .unset, .unset]) rfl ?_
  refine own_x_aloadN X101.here hx (hb hby own_d5_4) rfl rfl ?_
  refine own_x_iloadN X101.here hx (hb hby own_d5_5) rfl ?_
  refine own_x_aloadN X101.here hx (hb hby own_d5_6) rfl rfl ?_
  refine own_x_iconst X101.here hx (hb hby own_d5_7) (z := (0 : Int32)) rfl ?_
  refine own_x_iloadN X101.here hx (hb hby own_d5_8) rfl ?_
  have u0 : (255 : Int32) < c0 := Classical.byContradiction hbad
  have c102 := (A1.ext E101)
  have c104 := (Nat.le_trans Z0 E101.1)
  refine own_cF X101 (Jvm.LawKit.callS X101 hx (y := (⟨"java/lang/StringUTF16", "compress", "([CI[BII)I"⟩ : MethodName)) hown (mvT hZ (own_w26 hw)) (mvT hZ (own_w27 hw)) (mvT hZ (own_w23 hw)) (mvT hZ (own_w28 hw)) (by decide) (backOf (W := 0) (rm_cmp1_0 l Z a0 hw [] a2 kc dv c0 b101 k101 h101 n0 c104 c102 V101 gn_b101 ne_a2_b101  u0) hZ (own_w28 hw) (own_w23 hw) (by decide) (by decide)) (g := (mkF m 9 #[.val (.ref a2), .val (.int (0 : Int32)), .val (.int (1 : Int32)), .val (.ref b101), .unset, .unset] [(.int (1 : Int32)), (.int (0 : Int32)), (.ref b101), (.int (0 : Int32)), (.ref a2)])) rfl (by rw [hml]; rfl) (argsL := [(.ref a2), (.int (0 : Int32)), (.ref b101), (.int (0 : Int32)), (.int (1 : Int32))]) (rest := []) (lenOf own_pd4 rfl) rfl (by show 2 * 0 + _ ≤ _; exact Nat.le_of_eq rfl) (hb hby own_d5_9) (fun _ _ => ⟨rfl, e101, (by decide : 1 + 0 ≤ _), (by decide : 1 + 0 ≤ _)⟩)) fun v103 T103 L103 X103 hQ103 => ?_
  obtain ⟨rfl, Nq103, K103⟩ := hQ103
  have N103 := Fr.app N0 Nq103
  show own_Go p e below Pst (T103.setTop (mkF m 12 #[.val (.ref a2), .val (.int (0 : Int32)), .val (.int (1 : Int32)), .val (.ref b101), .unset, .unset] [(.int (0 : Int32))]))
  refine own_x_istore X103.here hx (hb hby own_d5_12) rfl (l' := #[.val (.ref a2), .val (.int (0 : Int32)), .val (.int (1 : Int32)), .val (.ref b101), .val (.int (0 : Int32)), .unset]) rfl ?_
  refine own_x_iload X103.here hx (hb hby own_d5_14) rfl ?_
  refine own_x_iloadN X103.here hx (hb hby own_d5_16) rfl ?_
  refine own_x_icmpNo X103.here hx (hb hby own_d5_17) rfl (feq (by decide)).1 ?_
  refine own_x_aloadN X103.here hx (hb hby own_d5_20) rfl rfl ?_
  refine own_x_iloadN X103.here hx (hb hby own_d5_21) rfl ?_
  refine own_x_iloadN X103.here hx (hb hby own_d5_22) rfl ?_
  have c105 := ((O.ext E101).keep K103 (allS gn_b101 all0))
  have c106 := (c102.keep K103 (ninS ne_a2_b101 nin0))
  have c108 := (Nat.le_trans c104 K103.1)
  refine own_cF X103 (Jvm.LawKit.callS X103 hx (y := (⟨"java/lang/StringUTF16", "toBytes", "([CII)[B"⟩ : MethodName)) hown (mvT hZ (own_w82 hw)) (mvT hZ (own_w83 hw)) (mvT hZ (own_w23 hw)) (mvT hZ (own_w84 hw)) (by decide) (backOf (W := 0) (rm_tob1 l Z a0 hw [] a2 kc dv c0 T103.heap n0 c108 c105 SU0 SU1 SU2 c106) hZ (own_w84 hw) (own_w23 hw) (by decide) (by decide)) (g := (mkF m 23 #[.val (.ref a2), .val (.int (0 : Int32)), .val (.int (1 : Int32)), .val (.ref b101), .val (.int (0 : Int32)), .unset] [(.int (1 : Int32)), (.int (0 : Int32)), (.ref a2)])) rfl (by rw [hml]; rfl) (argsL := [(.ref a2), (.int (0 : Int32)), (.int (1 : Int32))]) (rest := []) (lenOf own_pd5 rfl) rfl (by show 2 * 0 + _ ≤ _; exact Nat.le_of_eq rfl) (hb hby own_d5_23) (fun _ _ => ⟨rfl, rfl, (by decide : 1 + 1 ≤ _), (by decide : 1 + 2 ≤ _)⟩)) fun v107 T107 L107 X107 hQ107 => ?_
  obtain ⟨b107, rfl, Nq107, K107, sb107, kb107, V107⟩ := hQ107
  have N107 := Fr.app N103 Nq107
  have ne_a2_b107 : a2 ≠ b107 := Nat.ne_of_lt (Nat.lt_of_lt_of_le c106.lt sb107)
  have gn_b107 : n0 ≤ b107 := Nat.le_trans c108 sb107
  have c109 := (Keep.trans ((Keep.refl h0 []).ext E101) K103 (allS (Or.inr sz_b101) all0))
  have sz_b107 : h0.size ≤ b107 := Nat.le_trans c109.1 sb107
  show own_Go p e below Pst (T107.setTop (mkF m 26 #[.val (.ref a2), .val (.int (0 : Int32)), .val (.int (1 : Int32)), .val (.ref b101), .val (.int (0 : Int32)), .unset] [(.ref b107)]))
  refine own_x_astore X107.here hx (hb hby own_d5_26) rfl rfl (l' := #[.val (.ref a2), .val (.int (0 : Int32)), .val (.int (1 : Int32)), .val (.ref b101), .val (.int (0 : Int32)), .val (.ref b107)]) rfl ?_
  refine own_x_aload X107.here hx (hb hby own_d5_28) rfl rfl ?_
  refine own_x_iload X107.here hx (hb hby own_d5_30) rfl ?_
  have c110 := (c105.keep K107 all0)
  have c112 := (Nat.le_trans c108 K107.1)
  refine own_cF X107 (Jvm.LawKit.callS X107 hx (y := (⟨"java/lang/StringUTF16", "getChar", "([BI)C"⟩ : MethodName)) hown (mvT hZ (own_w98 hw)) (mvT hZ (own_w99 hw)) (mvT hZ (own_w23 hw)) (mvT hZ (own_w100 hw)) (by decide) (backOf (W := 0) (rm_getc0 l Z a0 hw [] b107 kb107 (2 : Int32) (own_lo8 c0) (own_hi8 c0) (own_u16 [c0]) T107.heap n0 c112 c110 SU0 SU1 SU2 V107 (by decide) rfl rfl) hZ (own_w100 hw) (own_w23 hw) (by decide) (by decide)) (g := (mkF m 32 #[.val (.ref a2), .val (.int (0 : Int32)), .val (.int (1 : Int32)), .val (.ref b101), .val (.int (0 : Int32)), .val (.ref b107)] [(.int (0 : Int32)), (.ref b107)])) rfl (by rw [hml]; rfl) (argsL := [(.ref b107), (.int (0 : Int32))]) (rest := []) (lenOf own_pd6 rfl) rfl (by show 2 * 0 + _ ≤ _; exact Nat.le_of_eq rfl) (hb hby own_d5_32) (fun _ _ => ⟨rfl, rfl, (by decide : 2 + 0 ≤ _), (by decide : 3 + 0 ≤ _)⟩)) fun v111 T111 L111 X111 hQ111 => ?_
  obtain ⟨rfl, Nq111, e111⟩ := hQ111
  have N111 := Fr.app N107 Nq111
  show own_Go p e below Pst (T111.setTop (mkF m 35 #[.val (.ref a2), .val (.int (0 : Int32)), .val (.int (1 : Int32)), .val (.ref b101), .val (.int (0 : Int32)), .val (.ref b107)] [(.int (nar .char (own_join (own_lo8 c0) (own_hi8 c0))))]))
  rw [own_join_eq hr.1 hr.2]
  show own_Go p e below Pst (T111.setTop (mkF m 35 #[.val (.ref a2), .val (.int (0 : Int32)), .val (.int (1 : Int32)), .val (.ref b101), .val (.int (0 : Int32)), .val (.ref b107)] [(.int c0)]))
  refine own_x_sipush X111.here hx (hb hby own_d5_35) (z := (255 : Int32)) rfl ?_
  refine own_x_icmpYes X111.here hx (pc0 := 38) (pc' := 54) rfl (hb hby own_d5_38) rfl (tlt u0).2.2.1 (by decide) (by decide) ?_
  refine own_x_aload X111.here hx (hb hby own_d5_54) rfl rfl ?_
  have c113 := (Keep.trans c109 K107 all0)
  rw [hPst]
  exact own_retP X111 (v := (some (.ref b107))) (Q := Q_cu1 Z a2 kc dv c0 h0 n0) (fun h => by rw [Bd.returns] at h; cases h) Bd.notSynchronized (fun fs hr => retOut X111 hx Bd.returns rfl (Or.inr (Or.inr (Or.inr (Or.inr ⟨rfl, rfl, rfl⟩)))) (hb hby own_d5_56) hr) (by decide) (by decide) (by rw [e111]; exact ⟨_, rfl, N111, c113, sz_b107, _, V107⟩)
theorem own_d7_0 : decode jdk_52_method_15_code 0 = .ok (.iload_n 1, 1) := by decide +kernel
theorem own_d7_1 : decode jdk_52_method_15_code 1 = .ok (.aload_n 0, 1) := by decide +kernel
theorem own_d7_2 : decode jdk_52_method_15_code 2 = .ok (.arraylength, 1) := by decide +kernel
theorem own_d7_3 : decode jdk_52_method_15_code 3 = .ok (.isub, 1) := by decide +kernel
theorem own_d7_4 : decode jdk_52_method_15_code 4 = .ok (.bipush 31, 2) := by decide +kernel
theorem own_d7_6 : decode jdk_52_method_15_code 6 = .ok (.iushr, 1) := by decide +kernel
theorem own_d7_7 : decode jdk_52_method_15_code 7 = .ok (.i2b, 1) := by decide +kernel
theorem own_d7_8 : decode jdk_52_method_15_code 8 = .ok (.ireturn, 1) := by decide +kernel
def Q_codl1 (Z : State) (b : Addr) (kb : ClassId) (vs : List Value) (h0 : Heap) (n0 : Nat) (v : Option Value) (h : Heap) (L : List Loc) : Prop := v = some (.int (1 : Int32)) ∧ Fr n0 L ∧ h = h0
theorem rm_codl1 (l : Launch) (Z : State) (a0 : Array Value) (hw : own_H a0 Z) (ws : List Jvm.Cond) (b : Addr) (kb : ClassId) (vs : List Value) (h0 : Heap) (n0 : Nat) (Z0 : n0 ≤ h0.size) (A1 : Arv Z h0 b kb .byte (2 : Int32) vs (.int 0)) : own_MP l (⟨"java/lang/StringUTF16", "coderFromArrayLen", "([BI)B"⟩ : MethodName) jdk_52_method_15_code 2 (some .byte) ws ({ frames := 0, cells := 0, slots := 0, locals := 0 } : Room) Z h0 #[(.ref b), (.int (1 : Int32))] (fun _ _ _ _ _ => True) (Q_codl1 Z b kb vs h0 n0) := by
  refine own_startP (plainFor_of_name own_pn_java_lang_StringUTF16) fun p e s m below meth c s₁ Bd hx hby hml hown0 X0 e0 hh0 hZ hK Pst hPst => ?_
  have hown : s.vm.findClass "java/lang/StringUTF16" = some m.cls := hown0
  have hnm := (name_of_methodNamed Bd.named Bd.method).1
  have N0 := Fr.nil n0
  rw [own_ef_RI_2 m b (1 : Int32)]
  refine own_x_iloadN X0.here hx (hb hby own_d7_0) rfl ?_
  refine own_x_aloadN X0.here hx (hb hby own_d7_1) rfl rfl ?_
  obtain ⟨cl101, Ar101, -, S101, P101, -, -⟩ := id A1
  refine own_Go.of (S' := s₁.setTop (mkF m 3 #[.val (.ref b), .val (.int (1 : Int32))] [(.int (2 : Int32)), (.int (1 : Int32))])) (fun tgt kst => X0.arraylength hx (by rw [e0]; exact Ar101.1) (State.isArrayOf_alike hZ.alike Ar101.2.1) (g := (mkF m 2 #[.val (.ref b), .val (.int (1 : Int32))] [(.ref b), (.int (1 : Int32))])) rfl rfl (hb hby own_d7_2) _ (by rw [len_of S101 P101]; exact kst)) ?_
  refine own_x_isub X0.here hx (hb hby own_d7_3) rfl ?_
  refine own_x_bipush X0.here hx (hb hby own_d7_4) (z := (31 : Int32)) rfl ?_
  refine own_x_iushr X0.here hx (hb hby own_d7_6) rfl ?_
  refine own_x_i2b X0.here hx (hb hby own_d7_7) rfl ?_
  rw [show (((((1 : Int32) - (2 : Int32)).toUInt32 >>> ((31 : Int32) &&& 31).toUInt32).toInt32).toInt8.toInt32) = (1 : Int32) from by decide]
  show own_Go p e below Pst (s₁.setTop (mkF m 8 #[.val (.ref b), .val (.int (1 : Int32))] [(.int (1 : Int32))]))
  rw [hPst]
  exact own_retP X0 (v := (some (.int (nar .byte (1 : Int32))))) (Q := Q_codl1 Z b kb vs h0 n0) (fun h => by rw [Bd.returns] at h; cases h) Bd.notSynchronized (fun fs hr => retN X0 hx (t := .byte) Bd.returns (by simp) (hb hby own_d7_8) hr) (by decide) (by decide) (by rw [e0]; exact ⟨rfl, N0, rfl⟩)
theorem own_d3_27 : decode jdk_42_method_149_code 27 = .ok (.getstatic 38, 3) := by decide +kernel
theorem own_d3_30 : decode jdk_42_method_149_code 30 = .ok (.ifCond .eq 28, 3) := by decide +kernel
theorem own_d3_33 : decode jdk_42_method_149_code 33 = .ok (.aload_n 1, 1) := by decide +kernel
theorem own_d3_34 : decode jdk_42_method_149_code 34 = .ok (.iload_n 2, 1) := by decide +kernel
theorem own_d3_35 : decode jdk_42_method_149_code 35 = .ok (.iload_n 3, 1) := by decide +kernel
theorem own_d3_36 : decode jdk_42_method_149_code 36 = .ok (.invokestatic 177, 3) := by decide +kernel
theorem own_d3_39 : decode jdk_42_method_149_code 39 = .ok (.astore 5, 2) := by decide +kernel
theorem own_d3_41 : decode jdk_42_method_149_code 41 = .ok (.aload_n 0, 1) := by decide +kernel
theorem own_d3_42 : decode jdk_42_method_149_code 42 = .ok (.aload 5, 2) := by decide +kernel
theorem own_d3_44 : decode jdk_42_method_149_code 44 = .ok (.iload_n 3, 1) := by decide +kernel
theorem own_d3_45 : decode jdk_42_method_149_code 45 = .ok (.invokestatic 47, 3) := by decide +kernel
theorem own_pd7 : parseMethodDescriptor "([BI)B" = some ⟨[(.array .byte), .int], some .byte⟩ := by decide +kernel
theorem own_d3_48 : decode jdk_42_method_149_code 48 = .ok (.putfield 15, 3) := by decide +kernel
theorem own_d3_51 : decode jdk_42_method_149_code 51 = .ok (.aload_n 0, 1) := by decide +kernel
theorem own_d3_52 : decode jdk_42_method_149_code 52 = .ok (.aload 5, 2) := by decide +kernel
theorem own_d3_54 : decode jdk_42_method_149_code 54 = .ok (.putfield 9, 3) := by decide +kernel
theorem own_d3_57 : decode jdk_42_method_149_code 57 = .ok (.return_, 1) := by decide +kernel
def Q_i4u1 (Z : State) (z : Int32) (a1 a2 : Addr) (kc : ClassId) (dv : Value) (c0 : Int32) (u1 u2 : Value) (h0 : Heap) (n0 : Nat) (v : Option Value) (h : Heap) (L : List Loc) : Prop := v = none ∧ Fr n0 L ∧ Keep h0 h [a1] ∧ Exa Z h a1 "java/lang/String" ∧ Fld Z h a1 "java/lang/String" "coder" "B" (.int (1 : Int32)) ∧ ∃ (t : Addr) (kb : ClassId), h0.size ≤ t ∧ Fld Z h a1 "java/lang/String" "value" "[B" (.ref t) ∧ Arv Z h t kb .byte (2 : Int32) (own_u16 [c0]) (.int 0)
theorem rm_i4u1 (l : Launch) (Z : State) (a0 : Array Value) (hw : own_H a0 Z) (ws : List Jvm.Cond) (z : Int32) (a1 a2 : Addr) (kc : ClassId) (dv : Value) (c0 : Int32) (u1 u2 : Value) (h0 : Heap) (n0 : Nat) (Z0 : n0 ≤ h0.size) (O : Old Z n0 h0) (SC : Sta Z Z.heap "java/lang/String" "COMPACT_STRINGS" "Z" (.int z)) (hz : ¬ z = 0) (SU0 : Sta Z Z.heap "java/lang/StringUTF16" "$assertionsDisabled" "Z" (.int (1 : Int32))) (SU1 : Sta Z Z.heap "java/lang/StringUTF16" "HI_BYTE_SHIFT" "I" (.int (0 : Int32))) (SU2 : Sta Z Z.heap "java/lang/StringUTF16" "LO_BYTE_SHIFT" "I" (.int (8 : Int32))) (E1 : Exa Z h0 a1 "java/lang/String") (F1 : Fld Z h0 a1 "java/lang/String" "value" "[B" u1) (F2 : Fld Z h0 a1 "java/lang/String" "coder" "B" u2) (g1 : n0 ≤ a1) (A1 : Arv Z h0 a2 kc .char (1 : Int32) [(.int c0)] dv) (hr : ¬ c0 < 0 ∧ ¬ (65535 : Int32) < c0) (hbad : ¬ (¬ (255 : Int32) < c0)) : own_MP l (⟨"java/lang/String", "<init>", "([CIILjava/lang/Void;)V"⟩ : MethodName) jdk_42_method_149_code 6 none ws ({ frames := 4, cells := 2, slots := 3, locals := 60 } : Room) Z h0 #[(.ref a1), (.ref a2), (.int (0 : Int32)), (.int (1 : Int32)), .null] (fun _ _ _ _ _ => True) (Q_i4u1 Z z a1 a2 kc dv c0 u1 u2 h0 n0) := by
  refine own_startP (plainFor_of_name own_pn_java_lang_String) fun p e s m below meth c s₁ Bd hx hby hml hown0 X0 e0 hh0 hZ hK Pst hPst => ?_
  have hown : s.vm.findClass "java/lang/String" = some m.cls := hown0
  have hnm := (name_of_methodNamed Bd.named Bd.method).1
  have N0 := Fr.nil n0
  rw [own_ef_RRIIN_6 m a1 a2 (0 : Int32) (1 : Int32)]
  refine own_x_aloadN X0.here hx (hb hby own_d3_0) rfl rfl ?_
  refine own_h_initO X0 hx hZ hown (own_w17 hw) (own_w18 hw) (own_w19 hw) e0 (by rw [hml]; rfl) rfl (hb hby own_d3_1) (by decide) (W := 0) (by show 2 * 0 + _ ≤ _; exact Nat.le_of_eq rfl) (by decide) fun T101 X101 e101 => ?_
  refine own_x_iloadN X101.here hx (hb hby own_d3_4) rfl ?_
  refine own_x_ifYes X101.here hx (pc0 := 5) (pc' := 27) rfl (hb hby own_d3_5) rfl ((if0 _ _).trans (feq (by decide)).2) (by decide) (by decide) ?_
  refine own_h_getS2 X101 hx hZ hown (host := "") (Or.inl (own_w20 hw)) Via.refl e101 (SC.ext O.2) (hb hby own_d3_27) fun T102 X102 e102 => ?_
  refine own_x_ifNo X102.here hx (hb hby own_d3_30) rfl ((if0 _ _).trans (feq hz).1) ?_
  refine own_x_aloadN X102.here hx (hb hby own_d3_33) rfl rfl ?_
  refine own_x_iloadN X102.here hx (hb hby own_d3_34) rfl ?_
  refine own_x_iloadN X102.here hx (hb hby own_d3_35) rfl ?_
  refine own_cF X102 (Jvm.LawKit.callS X102 hx (y := (⟨"java/lang/StringUTF16", "compress", "([CII)[B"⟩ : MethodName)) hown (mvT hZ (own_w21 hw)) (mvT hZ (own_w22 hw)) (mvT hZ (own_w23 hw)) (mvT hZ (own_w24 hw)) (by decide) (backOf (W := 0) (rm_cu1 l Z a0 hw [] a2 kc dv c0 h0 n0 Z0 O SU0 SU1 SU2 A1 hr hbad) hZ (own_w24 hw) (own_w23 hw) (by decide) (by decide)) (g := (mkF m 36 #[.val (.ref a1), .val (.ref a2), .val (.int (0 : Int32)), .val (.int (1 : Int32)), .val .null, .unset] [(.int (1 : Int32)), (.int (0 : Int32)), (.ref a2)])) rfl (by rw [hml]; rfl) (argsL := [(.ref a2), (.int (0 : Int32)), (.int (1 : Int32))]) (rest := []) (lenOf own_pd5 rfl) rfl (by show 2 * 0 + _ ≤ _; exact Nat.le_of_eq rfl) (hb hby own_d3_36) (fun _ _ => ⟨rfl, e102, (by decide : 0 + 2 ≤ _), (by decide : 0 + 3 ≤ _)⟩)) fun v103 T103 L103 X103 hQ103 => ?_
  obtain ⟨b103, rfl, Nq103, K103, sb103, kb103, V103⟩ := hQ103
  have N103 := Fr.app N0 Nq103
  have ne_a1_b103 : a1 ≠ b103 := Nat.ne_of_lt (Nat.lt_of_lt_of_le E1.lt sb103)
  have gn_b103 : n0 ≤ b103 := Nat.le_trans Z0 sb103
  have sz_b103 : h0.size ≤ b103 := Nat.le_trans (Keep.refl h0 [a1]).1 sb103
  show own_Go p e below Pst (T103.setTop (mkF m 39 #[.val (.ref a1), .val (.ref a2), .val (.int (0 : Int32)), .val (.int (1 : Int32)), .val .null, .unset] [(.ref b103)]))
  refine own_x_astore X103.here hx (hb hby own_d3_39) rfl rfl (l' := #[.val (.ref a1), .val (.ref a2), .val (.int (0 : Int32)), .val (.int (1 : Int32)), .val .null, .val (.ref b103)]) rfl ?_
  refine own_x_aloadN X103.here hx (hb hby own_d3_41) rfl rfl ?_
  refine own_x_aload X103.here hx (hb hby own_d3_42) rfl rfl ?_
  refine own_x_iloadN X103.here hx (hb hby own_d3_44) rfl ?_
  have c105 := (Nat.le_trans Z0 K103.1)
  refine own_cF X103 (Jvm.LawKit.callS X103 hx (y := (⟨"java/lang/StringUTF16", "coderFromArrayLen", "([BI)B"⟩ : MethodName)) hown (mvT hZ (own_w29 hw)) (mvT hZ (own_w30 hw)) (mvT hZ (own_w23 hw)) (mvT hZ (own_w31 hw)) (by decide) (backOf (W := 1) (rm_codl1 l Z a0 hw [] b103 kb103 (own_u16 [c0]) T103.heap n0 c105 V103) hZ (own_w31 hw) (own_w23 hw) (by decide) (by decide)) (g := (mkF m 45 #[.val (.ref a1), .val (.ref a2), .val (.int (0 : Int32)), .val (.int (1 : Int32)), .val .null, .val (.ref b103)] [(.int (1 : Int32)), (.ref b103), (.ref a1)])) rfl (by rw [hml]; rfl) (argsL := [(.ref b103), (.int (1 : Int32))]) (rest := [(.ref a1)]) (lenOf own_pd7 rfl) rfl (by show 2 * 0 + _ ≤ _; exact Nat.le_of_eq rfl) (hb hby own_d3_45) (fun _ _ => ⟨rfl, rfl, (by decide : 2 + 0 ≤ _), (by decide : 3 + 0 ≤ _)⟩)) fun v104 T104 L104 X104 hQ104 => ?_
  obtain ⟨rfl, Nq104, e104⟩ := hQ104
  have N104 := Fr.app N103 Nq104
  show own_Go p e below Pst (T104.setTop (mkF m 48 #[.val (.ref a1), .val (.ref a2), .val (.int (0 : Int32)), .val (.int (1 : Int32)), .val .null, .val (.ref b103)] [(.int (1 : Int32)), (.ref a1)]))
  have c106 := (E1.keep K103)
  have c107 := (F2.keep K103 nin0)
  refine own_h_putFN X104 hx hZ hown (own_w32 hw) Via.refl e104 c107 c106 (Or.inr ⟨(own_w33 hw), rfl, hnm⟩) (own_w8 hw) (ty := .byte) (v' := (.int (1 : Int32))) (by decide) rfl rfl rfl (hb hby own_d3_48) fun T108 h108 X108 e108 W108 => ?_
  have Fw108 := Fld.same W108 c107
  have N108 := Fr.snoc X108 N104 g1
  refine own_x_aloadN X108.here hx (hb hby own_d3_51) rfl rfl ?_
  refine own_x_aload X108.here hx (hb hby own_d3_52) rfl rfl ?_
  have c109 := (c106.wr W108)
  have c110 := ((F1.keep K103 nin0).other W108 (Or.inr (slot_ne (Or.inr (own_w35 hw)) (Or.inr (own_w33 hw)) (by decide) (t := (.array .byte)) (t' := .byte) (by decide) (by decide))))
  refine own_h_putF X108 hx hZ hown (host := "") (Or.inl (own_w34 hw)) Via.refl e108 c110 c109 (Or.inr ⟨(own_w35 hw), rfl, hnm⟩) (own_w8 hw) (ty := (.array .byte)) (by decide) rfl rfl rfl (hb hby own_d3_54) fun T111 h111 X111 e111 W111 => ?_
  have Fw111 := Fld.same W111 c110
  have N111 := Fr.snoc X111 N108 g1
  have c112 := (((Keep.trans (Keep.refl h0 [a1]) K103 all0).wr W108 (Or.inl (List.mem_of_getElem? (i := 0) rfl))).wr W111 (Or.inl (List.mem_of_getElem? (i := 0) rfl)))
  have c113 := (c109.wr W111)
  have c114 := (Fw108.other W111 (Or.inr (slot_ne (Or.inr (own_w33 hw)) (Or.inr (own_w35 hw)) (by decide) (t := .byte) (t' := (.array .byte)) (by decide) (by decide))))
  have c115 := ((V103.other W108 (Ne.symm ne_a1_b103)).other W111 (Ne.symm ne_a1_b103))
  rw [hPst]
  exact own_retP X111 (v := none) (Q := Q_i4u1 Z z a1 a2 kc dv c0 u1 u2 h0 n0) (fun _ => rfl) Bd.notSynchronized (fun fs hr => X111.returnOut hx Bd.returns (hb hby own_d3_57) hr) (by decide) (by decide) (by rw [e111]; exact ⟨rfl, N111, c112, c113, c114, _, _, sz_b103, Fw111, c115⟩)
def Q_i1u1 (Z : State) (z : Int32) (a1 a2 : Addr) (kc : ClassId) (dv : Value) (c0 : Int32) (u1 u2 : Value) (h0 : Heap) (n0 : Nat) (v : Option Value) (h : Heap) (L : List Loc) : Prop := v = none ∧ Fr n0 L ∧ Keep h0 h [a1] ∧ Exa Z h a1 "java/lang/String" ∧ Fld Z h a1 "java/lang/String" "coder" "B" (.int (1 : Int32)) ∧ ∃ (t : Addr) (kb : ClassId), h0.size ≤ t ∧ Fld Z h a1 "java/lang/String" "value" "[B" (.ref t) ∧ Arv Z h t kb .byte (2 : Int32) (own_u16 [c0]) (.int 0)
theorem rm_i1u1 (l : Launch) (Z : State) (a0 : Array Value) (hw : own_H a0 Z) (ws : List Jvm.Cond) (z : Int32) (a1 a2 : Addr) (kc : ClassId) (dv : Value) (c0 : Int32) (u1 u2 : Value) (h0 : Heap) (n0 : Nat) (Z0 : n0 ≤ h0.size) (O : Old Z n0 h0) (SC : Sta Z Z.heap "java/lang/String" "COMPACT_STRINGS" "Z" (.int z)) (hz : ¬ z = 0) (SU0 : Sta Z Z.heap "java/lang/StringUTF16" "$assertionsDisabled" "Z" (.int (1 : Int32))) (SU1 : Sta Z Z.heap "java/lang/StringUTF16" "HI_BYTE_SHIFT" "I" (.int (0 : Int32))) (SU2 : Sta Z Z.heap "java/lang/StringUTF16" "LO_BYTE_SHIFT" "I" (.int (8 : Int32))) (E1 : Exa Z h0 a1 "java/lang/String") (F1 : Fld Z h0 a1 "java/lang/String" "value" "[B" u1) (F2 : Fld Z h0 a1 "java/lang/String" "coder" "B" u2) (g1 : n0 ≤ a1) (A1 : Arv Z h0 a2 kc .char (1 : Int32) [(.int c0)] dv) (hr : ¬ c0 < 0 ∧ ¬ (65535 : Int32) < c0) (hbad : ¬ (¬ (255 : Int32) < c0)) : own_MP l (⟨"java/lang/String", "<init>", "([C)V"⟩ : MethodName) jdk_42_method_3_code 2 none ws ({ frames := 5, cells := 2, slots := 3, locals := 77 } : Room) Z h0 #[(.ref a1), (.ref a2)] (fun _ _ _ _ _ => True) (Q_i1u1 Z z a1 a2 kc dv c0 u1 u2 h0 n0) := by
  refine own_startP (plainFor_of_name own_pn_java_lang_String) fun p e s m below meth c s₁ Bd hx hby hml hown0 X0 e0 hh0 hZ hK Pst hPst => ?_
  have hown : s.vm.findClass "java/lang/String" = some m.cls := hown0
  have hnm := (name_of_methodNamed Bd.named Bd.method).1
  have N0 := Fr.nil n0
  rw [own_ef_RR_2 m a1 a2]
  refine own_x_aloadN X0.here hx (hb hby own_d2_0) rfl rfl ?_
  refine own_x_aloadN X0.here hx (hb hby own_d2_1) rfl rfl ?_
  refine own_x_iconst X0.here hx (hb hby own_d2_2) (z := (0 : Int32)) rfl ?_
  refine own_x_aloadN X0.here hx (hb hby own_d2_3) rfl rfl ?_
  obtain ⟨cl101, Ar101, -, S101, P101, -, -⟩ := id A1
  refine own_Go.of (S' := s₁.setTop (mkF m 5 #[.val (.ref a1), .val (.ref a2)] [(.int (1 : Int32)), (.int (0 : Int32)), (.ref a2), (.ref a1)])) (fun tgt kst => X0.arraylength hx (by rw [e0]; exact Ar101.1) (State.isArrayOf_alike hZ.alike Ar101.2.1) (g := (mkF m 4 #[.val (.ref a1), .val (.ref a2)] [(.ref a2), (.int (0 : Int32)), (.ref a2), (.ref a1)])) rfl rfl (hb hby own_d2_4) _ (by rw [len_of S101 P101]; exact kst)) ?_
  refine own_x_aconstNull X0.here hx (hb hby own_d2_5) ?_
  refine own_cP X0 (X0.specialBack hx (y := (⟨"java/lang/String", "<init>", "([CIILjava/lang/Void;)V"⟩ : MethodName)) rfl hown (mvT hZ (own_w13 hw)) (mvT hZ (own_w14 hw)) (mvT hZ (own_w16 hw)) (by decide) (backOf (W := 0) (rm_i4u1 l Z a0 hw [] z a1 a2 kc dv c0 u1 u2 h0 n0 Z0 O SC hz SU0 SU1 SU2 E1 F1 F2 g1 A1 hr hbad) hZ (own_w16 hw) (own_w9 hw) (by decide) (by decide)) (g := (mkF m 6 #[.val (.ref a1), .val (.ref a2)] [.null, (.int (1 : Int32)), (.int (0 : Int32)), (.ref a2), (.ref a1)])) rfl (by rw [hml]; rfl) (Steps.refl _) (a := a1) (argsL := [(.ref a2), (.int (0 : Int32)), (.int (1 : Int32)), .null]) (rest := []) (lenOf own_pd0 rfl) rfl (by show 2 * 0 + _ ≤ _; exact Nat.le_of_eq rfl) (hb hby own_d2_6) (fun _ _ => ⟨rfl, e0, (by decide : 0 + 2 ≤ _), (by decide : 0 + 3 ≤ _)⟩)) fun v102 T102 L102 X102 hQ102 => ?_
  obtain ⟨rfl, Nq102, K102, A102, C102, t102, kb102, st_102, V102, B102⟩ := hQ102
  have N102 := Fr.app N0 Nq102
  show own_Go p e below Pst (T102.setTop (mkF m 9 #[.val (.ref a1), .val (.ref a2)] []))
  have c103 := (Keep.trans (Keep.refl h0 [a1]) K102 (allS (Or.inl (List.mem_of_getElem? (i := 0) rfl)) all0))
  rw [hPst]
  exact own_retP X102 (v := none) (Q := Q_i1u1 Z z a1 a2 kc dv c0 u1 u2 h0 n0) (fun _ => rfl) Bd.notSynchronized (fun fs hr => X102.returnOut hx Bd.returns (hb hby own_d2_9) hr) (by decide) (by decide) ⟨rfl, N102, c103, A102, C102, _, _, st_102, V102, B102⟩
def Q_nbl2 (Z : State)  (h0 : Heap) (n0 : Nat) (v : Option Value) (h : Heap) (L : List Loc) : Prop := v = some (.int (4 : Int32)) ∧ Fr n0 L ∧ h = h0
theorem rm_nbl2 (l : Launch) (Z : State) (a0 : Array Value) (hw : own_H a0 Z) (ws : List Jvm.Cond)  (h0 : Heap) (n0 : Nat) (Z0 : n0 ≤ h0.size) : own_MP l (⟨"java/lang/StringUTF16", "newBytesLength", "(I)I"⟩ : MethodName) jdk_52_method_3_code 1 (some .int) ws ({ frames := 0, cells := 0, slots := 0, locals := 0 } : Room) Z h0 #[(.int (2 : Int32))] (fun _ _ _ _ _ => True) (Q_nbl2 Z  h0 n0) := by
  refine own_startP (plainFor_of_name own_pn_java_lang_StringUTF16) fun p e s m below meth c s₁ Bd hx hby hml hown0 X0 e0 hh0 hZ hK Pst hPst => ?_
  have hown : s.vm.findClass "java/lang/StringUTF16" = some m.cls := hown0
  have hnm := (name_of_methodNamed Bd.named Bd.method).1
  have N0 := Fr.nil n0
  rw [own_ef_I_1 m (2 : Int32)]
  refine own_x_iloadN X0.here hx (hb hby own_d21_0) rfl ?_
  refine own_x_ifYes X0.here hx (pc0 := 1) (pc' := 12) rfl (hb hby own_d21_1) rfl ((if0 _ _).trans (flt (by decide)).2.1) (by decide) (by decide) ?_
  refine own_x_iloadN X0.here hx (hb hby own_d21_12) rfl ?_
  refine own_Go.of (S' := s₁.setTop (mkF m 15 #[.val (.int (2 : Int32))] [(.int (1073741823 : Int32)), (.int (2 : Int32))])) (fun tgt kst => X0.ldcInt hx hown (mvT hZ (own_w91 hw)) (g := (mkF m 13 #[.val (.int (2 : Int32))] [(.int (2 : Int32))])) rfl (hb hby own_d21_13) _ kst) ?_
  refine own_x_icmpYes X0.here hx (pc0 := 15) (pc' := 55) rfl (hb hby own_d21_15) rfl (tlt (by decide)).1 (by decide) (by decide) ?_
  refine own_x_iloadN X0.here hx (hb hby own_d21_55) rfl ?_
  refine own_x_iconst X0.here hx (hb hby own_d21_56) (z := (1 : Int32)) rfl ?_
  refine own_x_ishl X0.here hx (hb hby own_d21_57) rfl ?_
  rw [show ((2 : Int32) <<< ((1 : Int32) &&& 31)) = (4 : Int32) from by decide]
  show own_Go p e below Pst (s₁.setTop (mkF m 58 #[.val (.int (2 : Int32))] [(.int (4 : Int32))]))
  rw [hPst]
  exact own_retP X0 (v := (some (.int (4 : Int32)))) (Q := Q_nbl2 Z  h0 n0) (fun h => by rw [Bd.returns] at h; cases h) Bd.notSynchronized (fun fs hr => own_retI X0 hx Bd.returns (hb hby own_d21_58) hr) (by decide) (by decide) (by rw [e0]; exact ⟨rfl, N0, rfl⟩)
def Q_nbf2 (Z : State)  (h0 : Heap) (n0 : Nat) (v : Option Value) (h : Heap) (L : List Loc) : Prop := ∃ (b : Addr), v = some (.ref b) ∧ Fr n0 L ∧ Keep h0 h [] ∧ h0.size ≤ b ∧ ∃ kb : ClassId, Arv Z h b kb .byte (4 : Int32) [(.int (0 : Int32)), (.int (0 : Int32)), (.int (0 : Int32)), (.int (0 : Int32))] (.int 0)
theorem rm_nbf2 (l : Launch) (Z : State) (a0 : Array Value) (hw : own_H a0 Z) (ws : List Jvm.Cond)  (h0 : Heap) (n0 : Nat) (Z0 : n0 ≤ h0.size) : own_MP l (⟨"java/lang/StringUTF16", "newBytesFor", "(I)[B"⟩ : MethodName) jdk_52_method_2_code 1 (some (.array .byte)) ws ({ frames := 1, cells := 1, slots := 4, locals := 12 } : Room) Z h0 #[(.int (2 : Int32))] (fun _ _ _ _ _ => True) (Q_nbf2 Z  h0 n0) := by
  refine own_startP (plainFor_of_name own_pn_java_lang_StringUTF16) fun p e s m below meth c s₁ Bd hx hby hml hown0 X0 e0 hh0 hZ hK Pst hPst => ?_
  have hown : s.vm.findClass "java/lang/StringUTF16" = some m.cls := hown0
  have hnm := (name_of_methodNamed Bd.named Bd.method).1
  have N0 := Fr.nil n0
  rw [own_ef_I_1 m (2 : Int32)]
  refine own_x_iloadN X0.here hx (hb hby own_d20_0) rfl ?_
  refine own_cF X0 (Jvm.LawKit.callS X0 hx (y := (⟨"java/lang/StringUTF16", "newBytesLength", "(I)I"⟩ : MethodName)) hown (mvT hZ (own_w88 hw)) (mvT hZ (own_w89 hw)) (mvT hZ (own_w23 hw)) (mvT hZ (own_w90 hw)) (by decide) (backOf (W := 0) (rm_nbl2 l Z a0 hw []  h0 n0 Z0 ) hZ (own_w90 hw) (own_w23 hw) (by decide) (by decide)) (g := (mkF m 1 #[.val (.int (2 : Int32))] [(.int (2 : Int32))])) rfl (by rw [hml]; rfl) (argsL := [(.int (2 : Int32))]) (rest := []) (lenOf own_pd1 rfl) rfl (by show 2 * 0 + _ ≤ _; exact Nat.le_of_eq rfl) (hb hby own_d20_1) (fun _ _ => ⟨rfl, e0, (by decide : 0 + 0 ≤ _), (by decide : 0 + 0 ≤ _)⟩)) fun v101 T101 L101 X101 hQ101 => ?_
  obtain ⟨rfl, Nq101, e101⟩ := hQ101
  have N101 := Fr.app N0 Nq101
  show own_Go p e below Pst (T101.setTop (mkF m 4 #[.val (.int (2 : Int32))] [(.int (4 : Int32))]))
  refine own_h_newP (aty := .byte) X101 hx hZ (own_w25 hw) e101 (hb hby own_d20_4) rfl (by decide) (cap := 4) (by decide) (by decide) (by decide) (by decide) fun T102 h102 k102 b102 g102 X102 e102 E102 A102 => ?_
  have gn_b102 : n0 ≤ b102 := Nat.le_trans Z0 (Nat.le_of_eq g102.symm)
  have sz_b102 : h0.size ≤ b102 := Nat.le_trans (Keep.refl h0 []).1 (Nat.le_of_eq g102.symm)
  have V102 : Arv Z h102 b102 k102 .byte (4 : Int32) [(.int (0 : Int32)), (.int (0 : Int32)), (.int (0 : Int32)), (.int (0 : Int32))] (.int (0 : Int32)) := (Arv.new A102 (by decide)).pad (pad_rep [] (.int (0 : Int32)) 4)
  have c103 := ((Keep.refl h0 []).ext E102)
  rw [hPst]
  exact own_retP X102 (v := (some (.ref b102))) (Q := Q_nbf2 Z  h0 n0) (fun h => by rw [Bd.returns] at h; cases h) Bd.notSynchronized (fun fs hr => retOut X102 hx Bd.returns rfl (Or.inr (Or.inr (Or.inr (Or.inr ⟨rfl, rfl, rfl⟩)))) (hb hby own_d20_6) hr) (by decide) (by decide) (by rw [e102]; exact ⟨_, rfl, N101, c103, sz_b102, _, V102⟩)
def Q_tob2 (Z : State) (a2 : Addr) (kc : ClassId) (dv : Value) (c0 c1 : Int32) (h0 : Heap) (n0 : Nat) (v : Option Value) (h : Heap) (L : List Loc) : Prop := ∃ (b : Addr), v = some (.ref b) ∧ Fr n0 L ∧ Keep h0 h [] ∧ h0.size ≤ b ∧ ∃ kb : ClassId, Arv Z h b kb .byte (4 : Int32) (own_u16 [c0, c1]) (.int 0)
theorem rm_tob2 (l : Launch) (Z : State) (a0 : Array Value) (hw : own_H a0 Z) (ws : List Jvm.Cond) (a2 : Addr) (kc : ClassId) (dv : Value) (c0 c1 : Int32) (h0 : Heap) (n0 : Nat) (Z0 : n0 ≤ h0.size) (O : Old Z n0 h0) (SU0 : Sta Z Z.heap "java/lang/StringUTF16" "$assertionsDisabled" "Z" (.int (1 : Int32))) (SU1 : Sta Z Z.heap "java/lang/StringUTF16" "HI_BYTE_SHIFT" "I" (.int (0 : Int32))) (SU2 : Sta Z Z.heap "java/lang/StringUTF16" "LO_BYTE_SHIFT" "I" (.int (8 : Int32))) (A1 : Arv Z h0 a2 kc .char (2 : Int32) [(.int c0), (.int c1)] dv) : own_MP l (⟨"java/lang/StringUTF16", "toBytes", "([CII)[B"⟩ : MethodName) jdk_52_method_14_code 5 (some (.array .byte)) ws ({ frames := 2, cells := 1, slots := 4, locals := 24 } : Room) Z h0 #[(.ref a2), (.int (0 : Int32)), (.int (2 : Int32))] (fun _ _ _ _ _ => True) (Q_tob2 Z a2 kc dv c0 c1 h0 n0) := by
  refine own_startP (plainFor_of_name own_pn_java_lang_StringUTF16) fun p e s m below meth c s₁ Bd hx hby hml hown0 X0 e0 hh0 hZ hK Pst hPst => ?_
  have hown : s.vm.findClass "java/lang/StringUTF16" = some m.cls := hown0
  have hnm := (name_of_methodNamed Bd.named Bd.method).1
  have N0 := Fr.nil n0
  rw [own_ef_RII_5 m a2 (0 : Int32) (2 : Int32)]
  refine own_x_iloadN X0.here hx (hb hby own_d19_0) rfl ?_
  refine own_cF X0 (Jvm.LawKit.callS X0 hx (y := (⟨"java/lang/StringUTF16", "newBytesFor", "(I)[B"⟩ : MethodName)) hown (mvT hZ (own_w85 hw)) (mvT hZ (own_w86 hw)) (mvT hZ (own_w23 hw)) (mvT hZ (own_w87 hw)) (by decide) (backOf (W := 0) (rm_nbf2 l Z a0 hw []  h0 n0 Z0 ) hZ (own_w87 hw) (own_w23 hw) (by decide) (by decide)) (g := (mkF m 1 #[.val (.ref a2), .val (.int (0 : Int32)), .val (.int (2 : Int32)), .unset, .unset] [(.int (2 : Int32))])) rfl (by rw [hml]; rfl) (argsL := [(.int (2 : Int32))]) (rest := []) (lenOf own_pd2 rfl) rfl (by show 2 * 0 + _ ≤ _; exact Nat.le_of_eq rfl) (hb hby own_d19_1) (fun _ _ => ⟨rfl, e0, (by decide : 0 + 1 ≤ _), (by decide : 0 + 4 ≤ _)⟩)) fun v101 T101 L101 X101 hQ101 => ?_
  obtain ⟨b101, rfl, Nq101, K101, sb101, kb101, V101⟩ := hQ101
  have N101 := Fr.app N0 Nq101
  have ne_a2_b101 : a2 ≠ b101 := Nat.ne_of_lt (Nat.lt_of_lt_of_le A1.lt sb101)
  have gn_b101 : n0 ≤ b101 := Nat.le_trans Z0 sb101
  have sz_b101 : h0.size ≤ b101 := Nat.le_trans (Keep.refl h0 []).1 sb101
  show own_Go p e below Pst (T101.setTop (mkF m 4 #[.val (.ref a2), .val (.int (0 : Int32)), .val (.int (2 : Int32)), .unset, .unset] [(.ref b101)]))
  refine own_x_astoreN X101.here hx (hb hby own_d19_4) rfl rfl (l' := #[.val (.ref a2), .val (.int (0 : Int32)), .val (.int (2 : Int32)), .val (.ref b101), .unset]) rfl ?_
  refine own_x_iconst X101.here hx (hb hby own_d19_5) (z := (0 : Int32)) rfl ?_
  refine own_x_istore X101.here hx (hb hby own_d19_6) rfl (l' := #[.val (.ref a2), .val (.int (0 : Int32)), .val (.int (2 : Int32)), .val (.ref b101), .val (.int (0 : Int32))]) rfl ?_
  refine own_x_iload X101.here hx (hb hby own_d19_8) rfl ?_
  refine own_x_iloadN X101.here hx (hb hby own_d19_10) rfl ?_
  refine own_x_icmpNo X101.here hx (hb hby own_d19_11) rfl (tlt (by decide)).2.1 ?_
  refine own_x_aloadN X101.here hx (hb hby own_d19_14) rfl rfl ?_
  refine own_x_iload X101.here hx (hb hby own_d19_15) rfl ?_
  refine own_x_aloadN X101.here hx (hb hby own_d19_17) rfl rfl ?_
  refine own_x_iloadN X101.here hx (hb hby own_d19_18) rfl ?_
  have c102 := (A1.keep K101 nin0)
  obtain ⟨cl103, Ar103, q103, S103, P103, H103, G103⟩ := id c102
  have hin103 : ¬ ((0 : Int32) < 0 ∨ cl103.slots.size ≤ ((0 : Int32)).toNatClampNeg) := inb_of S103 ⟨by decide, by decide⟩
  have hat103 : cl103.slots[((0 : Int32)).toNatClampNeg]? = some (.int c0) := Has.at H103 hin103 rfl
  refine own_Go.of (S' := T101.setTop (mkF m 20 #[.val (.ref a2), .val (.int (0 : Int32)), .val (.int (2 : Int32)), .val (.ref b101), .val (.int (0 : Int32))] [(.int c0), (.int (0 : Int32)), (.ref b101)])) (fun tgt kst => X101.caload hx (j := (0 : Int32)) (v := (.int c0)) (by exact Ar103.1) (State.isArrayOf_alike hZ.alike Ar103.2.1) Ar103.2.2 hin103 hat103 (g := (mkF m 19 #[.val (.ref a2), .val (.int (0 : Int32)), .val (.int (2 : Int32)), .val (.ref b101), .val (.int (0 : Int32))] [(.int (0 : Int32)), (.ref a2), (.int (0 : Int32)), (.ref b101)])) rfl rfl (hb hby own_d19_19) _ kst) ?_
  have c104 := (O.keep K101 all0)
  have c106 := (Nat.le_trans Z0 K101.1)
  refine own_cF X101 (Jvm.LawKit.callS X101 hx (y := (⟨"java/lang/StringUTF16", "putChar", "([BII)V"⟩ : MethodName)) hown (mvT hZ (own_w92 hw)) (mvT hZ (own_w93 hw)) (mvT hZ (own_w23 hw)) (mvT hZ (own_w94 hw)) (by decide) (backOf (W := 0) (rm_put0 l Z a0 hw [] b101 kb101 (4 : Int32) c0 [(.int (0 : Int32)), (.int (0 : Int32)), (.int (0 : Int32)), (.int (0 : Int32))] T101.heap n0 c106 c104 SU0 SU1 SU2 gn_b101 V101 (by decide) (Nat.le_of_ble_eq_true rfl)) hZ (own_w94 hw) (own_w23 hw) (by decide) (by decide)) (g := (mkF m 20 #[.val (.ref a2), .val (.int (0 : Int32)), .val (.int (2 : Int32)), .val (.ref b101), .val (.int (0 : Int32))] [(.int c0), (.int (0 : Int32)), (.ref b101)])) rfl (by rw [hml]; rfl) (argsL := [(.ref b101), (.int (0 : Int32)), (.int c0)]) (rest := []) (lenOf own_pd3 rfl) rfl (by show 2 * 0 + _ ≤ _; exact Nat.le_of_eq rfl) (hb hby own_d19_20) (fun _ _ => ⟨rfl, rfl, (by decide : 1 + 0 ≤ _), (by decide : 4 + 0 ≤ _)⟩)) fun v105 T105 L105 X105 hQ105 => ?_
  obtain ⟨rfl, Nq105, K105, V105⟩ := hQ105
  have N105 := Fr.app N101 Nq105
  show own_Go p e below Pst (T105.setTop (mkF m 23 #[.val (.ref a2), .val (.int (0 : Int32)), .val (.int (2 : Int32)), .val (.ref b101), .val (.int (0 : Int32))] []))
  refine own_x_iinc X105.here hx (hb hby own_d19_23) rfl (l' := #[.val (.ref a2), .val (.int ((0 : Int32) + (1 : Int32))), .val (.int (2 : Int32)), .val (.ref b101), .val (.int (0 : Int32))]) rfl ?_
  refine own_x_iinc X105.here hx (hb hby own_d19_26) rfl (l' := #[.val (.ref a2), .val (.int ((0 : Int32) + (1 : Int32))), .val (.int (2 : Int32)), .val (.ref b101), .val (.int ((0 : Int32) + (1 : Int32)))]) rfl ?_
  rw [show ((0 : Int32) + (1 : Int32)) = (1 : Int32) from by decide]
  show own_Go p e below Pst (T105.setTop (mkF m 29 #[.val (.ref a2), .val (.int (1 : Int32)), .val (.int (2 : Int32)), .val (.ref b101), .val (.int ((0 : Int32) + (1 : Int32)))] []))
  rw [show ((0 : Int32) + (1 : Int32)) = (1 : Int32) from by decide]
  show own_Go p e below Pst (T105.setTop (mkF m 29 #[.val (.ref a2), .val (.int (1 : Int32)), .val (.int (2 : Int32)), .val (.ref b101), .val (.int (1 : Int32))] []))
  refine own_x_goto X105.here hx (pc0 := 29) (pc' := 8) rfl (hb hby own_d19_29) (by decide) (by decide) ?_
  refine own_x_iload X105.here hx (hb hby own_d19_8) rfl ?_
  refine own_x_iloadN X105.here hx (hb hby own_d19_10) rfl ?_
  refine own_x_icmpNo X105.here hx (hb hby own_d19_11) rfl (tlt (by decide)).2.1 ?_
  refine own_x_aloadN X105.here hx (hb hby own_d19_14) rfl rfl ?_
  refine own_x_iload X105.here hx (hb hby own_d19_15) rfl ?_
  refine own_x_aloadN X105.here hx (hb hby own_d19_17) rfl rfl ?_
  refine own_x_iloadN X105.here hx (hb hby own_d19_18) rfl ?_
  have c107 := (c102.keep K105 (ninS ne_a2_b101 nin0))
  obtain ⟨cl108, Ar108, q108, S108, P108, H108, G108⟩ := id c107
  have hin108 : ¬ ((1 : Int32) < 0 ∨ cl108.slots.size ≤ ((1 : Int32)).toNatClampNeg) := inb_of S108 ⟨by decide, by decide⟩
  have hat108 : cl108.slots[((1 : Int32)).toNatClampNeg]? = some (.int c1) := Has.at H108 hin108 rfl
  refine own_Go.of (S' := T105.setTop (mkF m 20 #[.val (.ref a2), .val (.int (1 : Int32)), .val (.int (2 : Int32)), .val (.ref b101), .val (.int (1 : Int32))] [(.int c1), (.int (1 : Int32)), (.ref b101)])) (fun tgt kst => X105.caload hx (j := (1 : Int32)) (v := (.int c1)) (by exact Ar108.1) (State.isArrayOf_alike hZ.alike Ar108.2.1) Ar108.2.2 hin108 hat108 (g := (mkF m 19 #[.val (.ref a2), .val (.int (1 : Int32)), .val (.int (2 : Int32)), .val (.ref b101), .val (.int (1 : Int32))] [(.int (1 : Int32)), (.ref a2), (.int (1 : Int32)), (.ref b101)])) rfl rfl (hb hby own_d19_19) _ kst) ?_
  have c109 := (c104.keep K105 (allS gn_b101 all0))
  have c111 := (Nat.le_trans c106 K105.1)
  refine own_cF X105 (Jvm.LawKit.callS X105 hx (y := (⟨"java/lang/StringUTF16", "putChar", "([BII)V"⟩ : MethodName)) hown (mvT hZ (own_w92 hw)) (mvT hZ (own_w93 hw)) (mvT hZ (own_w23 hw)) (mvT hZ (own_w94 hw)) (by decide) (backOf (W := 0) (rm_put1 l Z a0 hw [] b101 kb101 (4 : Int32) c1 (([(.int (0 : Int32)), (.int (0 : Int32)), (.int (0 : Int32)), (.int (0 : Int32))].set 0 (.int (own_lo8 c0))).set 1 (.int (own_hi8 c0))) T105.heap n0 c111 c109 SU0 SU1 SU2 gn_b101 V105 (by decide) (Nat.le_of_ble_eq_true rfl)) hZ (own_w94 hw) (own_w23 hw) (by decide) (by decide)) (g := (mkF m 20 #[.val (.ref a2), .val (.int (1 : Int32)), .val (.int (2 : Int32)), .val (.ref b101), .val (.int (1 : Int32))] [(.int c1), (.int (1 : Int32)), (.ref b101)])) rfl (by rw [hml]; rfl) (argsL := [(.ref b101), (.int (1 : Int32)), (.int c1)]) (rest := []) (lenOf own_pd3 rfl) rfl (by show 2 * 0 + _ ≤ _; exact Nat.le_of_eq rfl) (hb hby own_d19_20) (fun _ _ => ⟨rfl, rfl, (by decide : 1 + 0 ≤ _), (by decide : 4 + 0 ≤ _)⟩)) fun v110 T110 L110 X110 hQ110 => ?_
  obtain ⟨rfl, Nq110, K110, V110⟩ := hQ110
  have N110 := Fr.app N105 Nq110
  show own_Go p e below Pst (T110.setTop (mkF m 23 #[.val (.ref a2), .val (.int (1 : Int32)), .val (.int (2 : Int32)), .val (.ref b101), .val (.int (1 : Int32))] []))
  refine own_x_iinc X110.here hx (hb hby own_d19_23) rfl (l' := #[.val (.ref a2), .val (.int ((1 : Int32) + (1 : Int32))), .val (.int (2 : Int32)), .val (.ref b101), .val (.int (1 : Int32))]) rfl ?_
  refine own_x_iinc X110.here hx (hb hby own_d19_26) rfl (l' := #[.val (.ref a2), .val (.int ((1 : Int32) + (1 : Int32))), .val (.int (2 : Int32)), .val (.ref b101), .val (.int ((1 : Int32) + (1 : Int32)))]) rfl ?_
  rw [show ((1 : Int32) + (1 : Int32)) = (2 : Int32) from by decide]
  show own_Go p e below Pst (T110.setTop (mkF m 29 #[.val (.ref a2), .val (.int (2 : Int32)), .val (.int (2 : Int32)), .val (.ref b101), .val (.int ((1 : Int32) + (1 : Int32)))] []))
  rw [show ((1 : Int32) + (1 : Int32)) = (2 : Int32) from by decide]
  show own_Go p e below Pst (T110.setTop (mkF m 29 #[.val (.ref a2), .val (.int (2 : Int32)), .val (.int (2 : Int32)), .val (.ref b101), .val (.int (2 : Int32))] []))
  refine own_x_goto X110.here hx (pc0 := 29) (pc' := 8) rfl (hb hby own_d19_29) (by decide) (by decide) ?_
  refine own_x_iload X110.here hx (hb hby own_d19_8) rfl ?_
  refine own_x_iloadN X110.here hx (hb hby own_d19_10) rfl ?_
  refine own_x_icmpYes X110.here hx (pc0 := 11) (pc' := 32) rfl (hb hby own_d19_11) rfl (flt (by decide)).2.1 (by decide) (by decide) ?_
  refine own_x_aloadN X110.here hx (hb hby own_d19_32) rfl rfl ?_
  have c112 := (Keep.trans (Keep.trans (Keep.trans (Keep.refl h0 []) K101 all0) K105 (allS (Or.inr sz_b101) all0)) K110 (allS (Or.inr sz_b101) all0))
  rw [hPst]
  exact own_retP X110 (v := (some (.ref b101))) (Q := Q_tob2 Z a2 kc dv c0 c1 h0 n0) (fun h => by rw [Bd.returns] at h; cases h) Bd.notSynchronized (fun fs hr => retOut X110 hx Bd.returns rfl (Or.inr (Or.inr (Or.inr (Or.inr ⟨rfl, rfl, rfl⟩)))) (hb hby own_d19_33) hr) (by decide) (by decide) ⟨_, rfl, N110, c112, sz_b101, _, V110⟩
def Q_cmp2_0 (Z : State) (a2 : Addr) (kc : ClassId) (dv : Value) (c0 c1 : Int32) (d : Addr) (kd : ClassId) (h0 : Heap) (n0 : Nat) (v : Option Value) (h : Heap) (L : List Loc) : Prop := v = some (.int (0 : Int32)) ∧ Fr n0 L ∧ Keep h0 h [d]
theorem rm_cmp2_0 (l : Launch) (Z : State) (a0 : Array Value) (hw : own_H a0 Z) (ws : List Jvm.Cond) (a2 : Addr) (kc : ClassId) (dv : Value) (c0 c1 : Int32) (d : Addr) (kd : ClassId) (h0 : Heap) (n0 : Nat) (Z0 : n0 ≤ h0.size) (A1 : Arv Z h0 a2 kc .char (2 : Int32) [(.int c0), (.int c1)] dv) (A2 : Arv Z h0 d kd .byte (2 : Int32) [(.int (0 : Int32)), (.int (0 : Int32))] (.int (0 : Int32))) (gd : n0 ≤ d) (ne : a2 ≠ d) (u : (255 : Int32) < c0) : own_MP l (⟨"java/lang/StringUTF16", "compress", "([CI[BII)I"⟩ : MethodName) jdk_52_method_21_code 7 (some .int) ws ({ frames := 0, cells := 0, slots := 0, locals := 0 } : Room) Z h0 #[(.ref a2), (.int (0 : Int32)), (.ref d), (.int (0 : Int32)), (.int (2 : Int32))] (fun _ _ _ _ _ => True) (Q_cmp2_0 Z a2 kc dv c0 c1 d kd h0 n0) := by
  refine own_startP (plainFor_of_name own_pn_java_lang_StringUTF16) fun p e s m below meth c s₁ Bd hx hby hml hown0 X0 e0 hh0 hZ hK Pst hPst => ?_
  have hown : s.vm.findClass "java/lang/StringUTF16" = some m.cls := hown0
  have hnm := (name_of_methodNamed Bd.named Bd.method).1
  have N0 := Fr.nil n0
  rw [own_ef_RIRII_7 m a2 (0 : Int32) d (0 : Int32) (2 : Int32)]
  refine own_x_iconst X0.here hx (hb hby own_d6_0) (z := (0 : Int32)) rfl ?_
  refine own_x_istore X0.here hx (hb hby own_d6_1) rfl (l' := #[.val (.ref a2), .val (.int (0 : Int32)), .val (.ref d), .val (.int (0 : Int32)), .val (.int (2 : Int32)), .val (.int (0 : Int32)), .unset]) rfl ?_
  refine own_x_iload X0.here hx (hb hby own_d6_3) rfl ?_
  refine own_x_iload X0.here hx (hb hby own_d6_5) rfl ?_
  refine own_x_icmpNo X0.here hx (hb hby own_d6_7) rfl (tlt (by decide)).2.1 ?_
  refine own_x_aloadN X0.here hx (hb hby own_d6_10) rfl rfl ?_
  refine own_x_iloadN X0.here hx (hb hby own_d6_11) rfl ?_
  obtain ⟨cl101, Ar101, q101, S101, P101, H101, G101⟩ := id A1
  have hin101 : ¬ ((0 : Int32) < 0 ∨ cl101.slots.size ≤ ((0 : Int32)).toNatClampNeg) := inb_of S101 ⟨by decide, by decide⟩
  have hat101 : cl101.slots[((0 : Int32)).toNatClampNeg]? = some (.int c0) := Has.at H101 hin101 rfl
  refine own_Go.of (S' := s₁.setTop (mkF m 13 #[.val (.ref a2), .val (.int (0 : Int32)), .val (.ref d), .val (.int (0 : Int32)), .val (.int (2 : Int32)), .val (.int (0 : Int32)), .unset] [(.int c0)])) (fun tgt kst => X0.caload hx (j := (0 : Int32)) (v := (.int c0)) (by rw [e0]; exact Ar101.1) (State.isArrayOf_alike hZ.alike Ar101.2.1) Ar101.2.2 hin101 hat101 (g := (mkF m 12 #[.val (.ref a2), .val (.int (0 : Int32)), .val (.ref d), .val (.int (0 : Int32)), .val (.int (2 : Int32)), .val (.int (0 : Int32)), .unset] [(.int (0 : Int32)), (.ref a2)])) rfl rfl (hb hby own_d6_12) _ kst) ?_
  refine own_x_istore X0.here hx (hb hby own_d6_13) rfl (l' := #[.val (.ref a2), .val (.int (0 : Int32)), .val (.ref d), .val (.int (0 : Int32)), .val (.int (2 : Int32)), .val (.int (0 : Int32)), .val (.int c0)]) rfl ?_
  refine own_x_iload X0.here hx (hb hby own_d6_15) rfl ?_
  refine own_x_sipush X0.here hx (hb hby own_d6_17) (z := (255 : Int32)) rfl ?_
  refine own_x_icmpNo X0.here hx (hb hby own_d6_20) rfl (tlt u).2.2.2 ?_
  refine own_x_iload X0.here hx (hb hby own_d6_23) rfl ?_
  rw [hPst]
  exact own_retP X0 (v := (some (.int (0 : Int32)))) (Q := Q_cmp2_0 Z a2 kc dv c0 c1 d kd h0 n0) (fun h => by rw [Bd.returns] at h; cases h) Bd.notSynchronized (fun fs hr => own_retI X0 hx Bd.returns (hb hby own_d6_25) hr) (by decide) (by decide) (by rw [e0]; exact ⟨rfl, N0, (Keep.refl h0 [d])⟩)
theorem own_d6_26 : decode jdk_52_method_21_code 26 = .ok (.aload_n 2, 1) := by decide +kernel
theorem own_d6_27 : decode jdk_52_method_21_code 27 = .ok (.iload_n 3, 1) := by decide +kernel
theorem own_d6_28 : decode jdk_52_method_21_code 28 = .ok (.iload 6, 2) := by decide +kernel
theorem own_d6_30 : decode jdk_52_method_21_code 30 = .ok (.i2b, 1) := by decide +kernel
theorem own_d6_31 : decode jdk_52_method_21_code 31 = .ok (.bastore, 1) := by decide +kernel
theorem own_d6_32 : decode jdk_52_method_21_code 32 = .ok (.iinc 1 1, 3) := by decide +kernel
theorem own_d6_35 : decode jdk_52_method_21_code 35 = .ok (.iinc 3 1, 3) := by decide +kernel
theorem own_d6_38 : decode jdk_52_method_21_code 38 = .ok (.iinc 5 1, 3) := by decide +kernel
theorem own_d6_41 : decode jdk_52_method_21_code 41 = .ok (.goto (-38), 3) := by decide +kernel
def Q_cmp2_1 (Z : State) (a2 : Addr) (kc : ClassId) (dv : Value) (c0 c1 : Int32) (d : Addr) (kd : ClassId) (h0 : Heap) (n0 : Nat) (v : Option Value) (h : Heap) (L : List Loc) : Prop := v = some (.int (1 : Int32)) ∧ Fr n0 L ∧ Keep h0 h [d]
theorem rm_cmp2_1 (l : Launch) (Z : State) (a0 : Array Value) (hw : own_H a0 Z) (ws : List Jvm.Cond) (a2 : Addr) (kc : ClassId) (dv : Value) (c0 c1 : Int32) (d : Addr) (kd : ClassId) (h0 : Heap) (n0 : Nat) (Z0 : n0 ≤ h0.size) (A1 : Arv Z h0 a2 kc .char (2 : Int32) [(.int c0), (.int c1)] dv) (A2 : Arv Z h0 d kd .byte (2 : Int32) [(.int (0 : Int32)), (.int (0 : Int32))] (.int (0 : Int32))) (gd : n0 ≤ d) (ne : a2 ≠ d) (l0 : ¬ (255 : Int32) < c0) (u : (255 : Int32) < c1) : own_MP l (⟨"java/lang/StringUTF16", "compress", "([CI[BII)I"⟩ : MethodName) jdk_52_method_21_code 7 (some .int) ws ({ frames := 0, cells := 0, slots := 0, locals := 0 } : Room) Z h0 #[(.ref a2), (.int (0 : Int32)), (.ref d), (.int (0 : Int32)), (.int (2 : Int32))] (fun _ _ _ _ _ => True) (Q_cmp2_1 Z a2 kc dv c0 c1 d kd h0 n0) := by
  refine own_startP (plainFor_of_name own_pn_java_lang_StringUTF16) fun p e s m below meth c s₁ Bd hx hby hml hown0 X0 e0 hh0 hZ hK Pst hPst => ?_
  have hown : s.vm.findClass "java/lang/StringUTF16" = some m.cls := hown0
  have hnm := (name_of_methodNamed Bd.named Bd.method).1
  have N0 := Fr.nil n0
  rw [own_ef_RIRII_7 m a2 (0 : Int32) d (0 : Int32) (2 : Int32)]
  refine own_x_iconst X0.here hx (hb hby own_d6_0) (z := (0 : Int32)) rfl ?_
  refine own_x_istore X0.here hx (hb hby own_d6_1) rfl (l' := #[.val (.ref a2), .val (.int (0 : Int32)), .val (.ref d), .val (.int (0 : Int32)), .val (.int (2 : Int32)), .val (.int (0 : Int32)), .unset]) rfl ?_
  refine own_x_iload X0.here hx (hb hby own_d6_3) rfl ?_
  refine own_x_iload X0.here hx (hb hby own_d6_5) rfl ?_
  refine own_x_icmpNo X0.here hx (hb hby own_d6_7) rfl (tlt (by decide)).2.1 ?_
  refine own_x_aloadN X0.here hx (hb hby own_d6_10) rfl rfl ?_
  refine own_x_iloadN X0.here hx (hb hby own_d6_11) rfl ?_
  obtain ⟨cl101, Ar101, q101, S101, P101, H101, G101⟩ := id A1
  have hin101 : ¬ ((0 : Int32) < 0 ∨ cl101.slots.size ≤ ((0 : Int32)).toNatClampNeg) := inb_of S101 ⟨by decide, by decide⟩
  have hat101 : cl101.slots[((0 : Int32)).toNatClampNeg]? = some (.int c0) := Has.at H101 hin101 rfl
  refine own_Go.of (S' := s₁.setTop (mkF m 13 #[.val (.ref a2), .val (.int (0 : Int32)), .val (.ref d), .val (.int (0 : Int32)), .val (.int (2 : Int32)), .val (.int (0 : Int32)), .unset] [(.int c0)])) (fun tgt kst => X0.caload hx (j := (0 : Int32)) (v := (.int c0)) (by rw [e0]; exact Ar101.1) (State.isArrayOf_alike hZ.alike Ar101.2.1) Ar101.2.2 hin101 hat101 (g := (mkF m 12 #[.val (.ref a2), .val (.int (0 : Int32)), .val (.ref d), .val (.int (0 : Int32)), .val (.int (2 : Int32)), .val (.int (0 : Int32)), .unset] [(.int (0 : Int32)), (.ref a2)])) rfl rfl (hb hby own_d6_12) _ kst) ?_
  refine own_x_istore X0.here hx (hb hby own_d6_13) rfl (l' := #[.val (.ref a2), .val (.int (0 : Int32)), .val (.ref d), .val (.int (0 : Int32)), .val (.int (2 : Int32)), .val (.int (0 : Int32)), .val (.int c0)]) rfl ?_
  refine own_x_iload X0.here hx (hb hby own_d6_15) rfl ?_
  refine own_x_sipush X0.here hx (hb hby own_d6_17) (z := (255 : Int32)) rfl ?_
  refine own_x_icmpYes X0.here hx (pc0 := 20) (pc' := 26) rfl (hb hby own_d6_20) rfl (flt l0).2.2.2 (by decide) (by decide) ?_
  refine own_x_aloadN X0.here hx (hb hby own_d6_26) rfl rfl ?_
  refine own_x_iloadN X0.here hx (hb hby own_d6_27) rfl ?_
  refine own_x_iload X0.here hx (hb hby own_d6_28) rfl ?_
  refine own_x_i2b X0.here hx (hb hby own_d6_30) rfl ?_
  refine own_h_arB X0 hx hZ e0 A2 (0 : Int32) 0 ⟨by decide, by decide⟩ rfl (Nat.le_of_ble_eq_true rfl) rfl (hb hby own_d6_31) fun T102 h102 X102 e102 W102 V102 => ?_
  have N102 := Fr.snoc X102 N0 gd
  refine own_x_iinc X102.here hx (hb hby own_d6_32) rfl (l' := #[.val (.ref a2), .val (.int ((0 : Int32) + (1 : Int32))), .val (.ref d), .val (.int (0 : Int32)), .val (.int (2 : Int32)), .val (.int (0 : Int32)), .val (.int c0)]) rfl ?_
  refine own_x_iinc X102.here hx (hb hby own_d6_35) rfl (l' := #[.val (.ref a2), .val (.int ((0 : Int32) + (1 : Int32))), .val (.ref d), .val (.int ((0 : Int32) + (1 : Int32))), .val (.int (2 : Int32)), .val (.int (0 : Int32)), .val (.int c0)]) rfl ?_
  refine own_x_iinc X102.here hx (hb hby own_d6_38) rfl (l' := #[.val (.ref a2), .val (.int ((0 : Int32) + (1 : Int32))), .val (.ref d), .val (.int ((0 : Int32) + (1 : Int32))), .val (.int (2 : Int32)), .val (.int ((0 : Int32) + (1 : Int32))), .val (.int c0)]) rfl ?_
  rw [show ((0 : Int32) + (1 : Int32)) = (1 : Int32) from by decide]
  show own_Go p e below Pst (T102.setTop (mkF m 41 #[.val (.ref a2), .val (.int (1 : Int32)), .val (.ref d), .val (.int ((0 : Int32) + (1 : Int32))), .val (.int (2 : Int32)), .val (.int ((0 : Int32) + (1 : Int32))), .val (.int c0)] []))
  rw [show ((0 : Int32) + (1 : Int32)) = (1 : Int32) from by decide]
  show own_Go p e below Pst (T102.setTop (mkF m 41 #[.val (.ref a2), .val (.int (1 : Int32)), .val (.ref d), .val (.int (1 : Int32)), .val (.int (2 : Int32)), .val (.int ((0 : Int32) + (1 : Int32))), .val (.int c0)] []))
  rw [show ((0 : Int32) + (1 : Int32)) = (1 : Int32) from by decide]
  show own_Go p e below Pst (T102.setTop (mkF m 41 #[.val (.ref a2), .val (.int (1 : Int32)), .val (.ref d), .val (.int (1 : Int32)), .val (.int (2 : Int32)), .val (.int (1 : Int32)), .val (.int c0)] []))
  refine own_x_goto X102.here hx (pc0 := 41) (pc' := 3) rfl (hb hby own_d6_41) (by decide) (by decide) ?_
  refine own_x_iload X102.here hx (hb hby own_d6_3) rfl ?_
  refine own_x_iload X102.here hx (hb hby own_d6_5) rfl ?_
  refine own_x_icmpNo X102.here hx (hb hby own_d6_7) rfl (tlt (by decide)).2.1 ?_
  refine own_x_aloadN X102.here hx (hb hby own_d6_10) rfl rfl ?_
  refine own_x_iloadN X102.here hx (hb hby own_d6_11) rfl ?_
  have c103 := (A1.other W102 ne)
  obtain ⟨cl104, Ar104, q104, S104, P104, H104, G104⟩ := id c103
  have hin104 : ¬ ((1 : Int32) < 0 ∨ cl104.slots.size ≤ ((1 : Int32)).toNatClampNeg) := inb_of S104 ⟨by decide, by decide⟩
  have hat104 : cl104.slots[((1 : Int32)).toNatClampNeg]? = some (.int c1) := Has.at H104 hin104 rfl
  refine own_Go.of (S' := T102.setTop (mkF m 13 #[.val (.ref a2), .val (.int (1 : Int32)), .val (.ref d), .val (.int (1 : Int32)), .val (.int (2 : Int32)), .val (.int (1 : Int32)), .val (.int c0)] [(.int c1)])) (fun tgt kst => X102.caload hx (j := (1 : Int32)) (v := (.int c1)) (by rw [e102]; exact Ar104.1) (State.isArrayOf_alike hZ.alike Ar104.2.1) Ar104.2.2 hin104 hat104 (g := (mkF m 12 #[.val (.ref a2), .val (.int (1 : Int32)), .val (.ref d), .val (.int (1 : Int32)), .val (.int (2 : Int32)), .val (.int (1 : Int32)), .val (.int c0)] [(.int (1 : Int32)), (.ref a2)])) rfl rfl (hb hby own_d6_12) _ kst) ?_
  refine own_x_istore X102.here hx (hb hby own_d6_13) rfl (l' := #[.val (.ref a2), .val (.int (1 : Int32)), .val (.ref d), .val (.int (1 : Int32)), .val (.int (2 : Int32)), .val (.int (1 : Int32)), .val (.int c1)]) rfl ?_
  refine own_x_iload X102.here hx (hb hby own_d6_15) rfl ?_
  refine own_x_sipush X102.here hx (hb hby own_d6_17) (z := (255 : Int32)) rfl ?_
  refine own_x_icmpNo X102.here hx (hb hby own_d6_20) rfl (tlt u).2.2.2 ?_
  refine own_x_iload X102.here hx (hb hby own_d6_23) rfl ?_
  have c105 := ((Keep.refl h0 [d]).wr W102 (Or.inl (List.mem_of_getElem? (i := 0) rfl)))
  rw [hPst]
  exact own_retP X102 (v := (some (.int (1 : Int32)))) (Q := Q_cmp2_1 Z a2 kc dv c0 c1 d kd h0 n0) (fun h => by rw [Bd.returns] at h; cases h) Bd.notSynchronized (fun fs hr => own_retI X102 hx Bd.returns (hb hby own_d6_25) hr) (by decide) (by decide) (by rw [e102]; exact ⟨rfl, N102, c105⟩)
def Q_cu2 (Z : State) (a2 : Addr) (kc : ClassId) (dv : Value) (c0 c1 : Int32) (h0 : Heap) (n0 : Nat) (v : Option Value) (h : Heap) (L : List Loc) : Prop := ∃ (b : Addr), v = some (.ref b) ∧ Fr n0 L ∧ Keep h0 h [] ∧ h0.size ≤ b ∧ ∃ kb : ClassId, Arv Z h b kb .byte (4 : Int32) (own_u16 [c0, c1]) (.int 0)
theorem rm_cu2 (l : Launch) (Z : State) (a0 : Array Value) (hw : own_H a0 Z) (ws : List Jvm.Cond) (a2 : Addr) (kc : ClassId) (dv : Value) (c0 c1 : Int32) (h0 : Heap) (n0 : Nat) (Z0 : n0 ≤ h0.size) (O : Old Z n0 h0) (SU0 : Sta Z Z.heap "java/lang/StringUTF16" "$assertionsDisabled" "Z" (.int (1 : Int32))) (SU1 : Sta Z Z.heap "java/lang/StringUTF16" "HI_BYTE_SHIFT" "I" (.int (0 : Int32))) (SU2 : Sta Z Z.heap "java/lang/StringUTF16" "LO_BYTE_SHIFT" "I" (.int (8 : Int32))) (A1 : Arv Z h0 a2 kc .char (2 : Int32) [(.int c0), (.int c1)] dv) (hr : ¬ c0 < 0 ∧ ¬ (65535 : Int32) < c0 ∧ ¬ c1 < 0 ∧ ¬ (65535 : Int32) < c1) (hbad : ¬ (¬ (255 : Int32) < c0 ∧ ¬ (255 : Int32) < c1)) : own_MP l (⟨"java/lang/StringUTF16", "compress", "([CII)[B"⟩ : MethodName) jdk_52_method_16_code 6 (some (.array .byte)) ws ({ frames := 3, cells := 2, slots := 6, locals := 40 } : Room) Z h0 #[(.ref a2), (.int (0 : Int32)), (.int (2 : Int32))] (fun _ _ _ _ _ => True) (Q_cu2 Z a2 kc dv c0 c1 h0 n0) := by
  refine own_startP (plainFor_of_name own_pn_java_lang_StringUTF16) fun p e s m below meth c s₁ Bd hx hby hml hown0 X0 e0 hh0 hZ hK Pst hPst => ?_
  have hown : s.vm.findClass "java/lang/StringUTF16" = some m.cls := hown0
  have hnm := (name_of_methodNamed Bd.named Bd.method).1
  have N0 := Fr.nil n0
  rw [own_ef_RII_6 m a2 (0 : Int32) (2 : Int32)]
  refine own_x_iloadN X0.here hx (hb hby own_d5_0) rfl ?_
  refine own_h_newP (aty := .byte) X0 hx hZ (own_w25 hw) e0 (hb hby own_d5_1) rfl (by decide) (cap := 2) (by decide) (by decide) (by decide) (by decide) fun T101 h101 k101 b101 g101 X101 e101 E101 A101 => ?_
  have ne_a2_b101 : a2 ≠ b101 := Nat.ne_of_lt (Nat.lt_of_lt_of_le A1.lt (Nat.le_of_eq g101.symm))
  have gn_b101 : n0 ≤ b101 := Nat.le_trans Z0 (Nat.le_of_eq g101.symm)
  have sz_b101 : h0.size ≤ b101 := Nat.le_trans (Keep.refl h0 []).1 (Nat.le_of_eq g101.symm)
  have V101 : Arv Z h101 b101 k101 .byte (2 : Int32) [(.int (0 : Int32)), (.int (0 : Int32))] (.int (0 : Int32)) := (Arv.new A101 (by decide)).pad (pad_rep [] (.int (0 : Int32)) 2)
  refine own_x_astoreN X101.here hx (hb hby own_d5_3) rfl rfl (l' := #[.val (.ref a2), .val (.int (0 : Int32)), .val (.int (2 : Int32)), .val (.ref b101), .unset, .unset]) rfl ?_
  refine own_x_aloadN X101.here hx (hb hby own_d5_4) rfl rfl ?_
  refine own_x_iloadN X101.here hx (hb hby own_d5_5) rfl ?_
  refine own_x_aloadN X101.here hx (hb hby own_d5_6) rfl rfl ?_
  refine own_x_iconst X101.here hx (hb hby own_d5_7) (z := (0 : Int32)) rfl ?_
  refine own_x_iloadN X101.here hx (hb hby own_d5_8) rfl ?_
  by_cases u0 : (255 : Int32) < c0
  · have c102 := (A1.ext E101)
    have c104 := (Nat.le_trans Z0 E101.1)
    refine own_cF X101 (Jvm.LawKit.callS X101 hx (y := (⟨"java/lang/StringUTF16", "compress", "([CI[BII)I"⟩ : MethodName)) hown (mvT hZ (own_w26 hw)) (mvT hZ (own_w27 hw)) (mvT hZ (own_w23 hw)) (mvT hZ (own_w28 hw)) (by decide) (backOf (W := 0) (rm_cmp2_0 l Z a0 hw [] a2 kc dv c0 c1 b101 k101 h101 n0 c104 c102 V101 gn_b101 ne_a2_b101  u0) hZ (own_w28 hw) (own_w23 hw) (by decide) (by decide)) (g := (mkF m 9 #[.val (.ref a2), .val (.int (0 : Int32)), .val (.int (2 : Int32)), .val (.ref b101), .unset, .unset] [(.int (2 : Int32)), (.int (0 : Int32)), (.ref b101), (.int (0 : Int32)), (.ref a2)])) rfl (by rw [hml]; rfl) (argsL := [(.ref a2), (.int (0 : Int32)), (.ref b101), (.int (0 : Int32)), (.int (2 : Int32))]) (rest := []) (lenOf own_pd4 rfl) rfl (by show 2 * 0 + _ ≤ _; exact Nat.le_of_eq rfl) (hb hby own_d5_9) (fun _ _ => ⟨rfl, e101, (by decide : 1 + 0 ≤ _), (by decide : 2 + 0 ≤ _)⟩)) fun v103 T103 L103 X103 hQ103 => ?_
    obtain ⟨rfl, Nq103, K103⟩ := hQ103
    have N103 := Fr.app N0 Nq103
    show own_Go p e below Pst (T103.setTop (mkF m 12 #[.val (.ref a2), .val (.int (0 : Int32)), .val (.int (2 : Int32)), .val (.ref b101), .unset, .unset] [(.int (0 : Int32))]))
    refine own_x_istore X103.here hx (hb hby own_d5_12) rfl (l' := #[.val (.ref a2), .val (.int (0 : Int32)), .val (.int (2 : Int32)), .val (.ref b101), .val (.int (0 : Int32)), .unset]) rfl ?_
    refine own_x_iload X103.here hx (hb hby own_d5_14) rfl ?_
    refine own_x_iloadN X103.here hx (hb hby own_d5_16) rfl ?_
    refine own_x_icmpNo X103.here hx (hb hby own_d5_17) rfl (feq (by decide)).1 ?_
    refine own_x_aloadN X103.here hx (hb hby own_d5_20) rfl rfl ?_
    refine own_x_iloadN X103.here hx (hb hby own_d5_21) rfl ?_
    refine own_x_iloadN X103.here hx (hb hby own_d5_22) rfl ?_
    have c105 := ((O.ext E101).keep K103 (allS gn_b101 all0))
    have c106 := (c102.keep K103 (ninS ne_a2_b101 nin0))
    have c108 := (Nat.le_trans c104 K103.1)
    refine own_cF X103 (Jvm.LawKit.callS X103 hx (y := (⟨"java/lang/StringUTF16", "toBytes", "([CII)[B"⟩ : MethodName)) hown (mvT hZ (own_w82 hw)) (mvT hZ (own_w83 hw)) (mvT hZ (own_w23 hw)) (mvT hZ (own_w84 hw)) (by decide) (backOf (W := 0) (rm_tob2 l Z a0 hw [] a2 kc dv c0 c1 T103.heap n0 c108 c105 SU0 SU1 SU2 c106) hZ (own_w84 hw) (own_w23 hw) (by decide) (by decide)) (g := (mkF m 23 #[.val (.ref a2), .val (.int (0 : Int32)), .val (.int (2 : Int32)), .val (.ref b101), .val (.int (0 : Int32)), .unset] [(.int (2 : Int32)), (.int (0 : Int32)), (.ref a2)])) rfl (by rw [hml]; rfl) (argsL := [(.ref a2), (.int (0 : Int32)), (.int (2 : Int32))]) (rest := []) (lenOf own_pd5 rfl) rfl (by show 2 * 0 + _ ≤ _; exact Nat.le_of_eq rfl) (hb hby own_d5_23) (fun _ _ => ⟨rfl, rfl, (by decide : 1 + 1 ≤ _), (by decide : 2 + 4 ≤ _)⟩)) fun v107 T107 L107 X107 hQ107 => ?_
    obtain ⟨b107, rfl, Nq107, K107, sb107, kb107, V107⟩ := hQ107
    have N107 := Fr.app N103 Nq107
    have ne_a2_b107 : a2 ≠ b107 := Nat.ne_of_lt (Nat.lt_of_lt_of_le c106.lt sb107)
    have gn_b107 : n0 ≤ b107 := Nat.le_trans c108 sb107
    have c109 := (Keep.trans ((Keep.refl h0 []).ext E101) K103 (allS (Or.inr sz_b101) all0))
    have sz_b107 : h0.size ≤ b107 := Nat.le_trans c109.1 sb107
    show own_Go p e below Pst (T107.setTop (mkF m 26 #[.val (.ref a2), .val (.int (0 : Int32)), .val (.int (2 : Int32)), .val (.ref b101), .val (.int (0 : Int32)), .unset] [(.ref b107)]))
    refine own_x_astore X107.here hx (hb hby own_d5_26) rfl rfl (l' := #[.val (.ref a2), .val (.int (0 : Int32)), .val (.int (2 : Int32)), .val (.ref b101), .val (.int (0 : Int32)), .val (.ref b107)]) rfl ?_
    refine own_x_aload X107.here hx (hb hby own_d5_28) rfl rfl ?_
    refine own_x_iload X107.here hx (hb hby own_d5_30) rfl ?_
    have c110 := (c105.keep K107 all0)
    have c112 := (Nat.le_trans c108 K107.1)
    refine own_cF X107 (Jvm.LawKit.callS X107 hx (y := (⟨"java/lang/StringUTF16", "getChar", "([BI)C"⟩ : MethodName)) hown (mvT hZ (own_w98 hw)) (mvT hZ (own_w99 hw)) (mvT hZ (own_w23 hw)) (mvT hZ (own_w100 hw)) (by decide) (backOf (W := 0) (rm_getc0 l Z a0 hw [] b107 kb107 (4 : Int32) (own_lo8 c0) (own_hi8 c0) (own_u16 [c0, c1]) T107.heap n0 c112 c110 SU0 SU1 SU2 V107 (by decide) rfl rfl) hZ (own_w100 hw) (own_w23 hw) (by decide) (by decide)) (g := (mkF m 32 #[.val (.ref a2), .val (.int (0 : Int32)), .val (.int (2 : Int32)), .val (.ref b101), .val (.int (0 : Int32)), .val (.ref b107)] [(.int (0 : Int32)), (.ref b107)])) rfl (by rw [hml]; rfl) (argsL := [(.ref b107), (.int (0 : Int32))]) (rest := []) (lenOf own_pd6 rfl) rfl (by show 2 * 0 + _ ≤ _; exact Nat.le_of_eq rfl) (hb hby own_d5_32) (fun _ _ => ⟨rfl, rfl, (by decide : 2 + 0 ≤ _), (by decide : 6 + 0 ≤ _)⟩)) fun v111 T111 L111 X111 hQ111 => ?_
    obtain ⟨rfl, Nq111, e111⟩ := hQ111
    have N111 := Fr.app N107 Nq111
    show own_Go p e below Pst (T111.setTop (mkF m 35 #[.val (.ref a2), .val (.int (0 : Int32)), .val (.int (2 : Int32)), .val (.ref b101), .val (.int (0 : Int32)), .val (.ref b107)] [(.int (nar .char (own_join (own_lo8 c0) (own_hi8 c0))))]))
    rw [own_join_eq hr.1 hr.2.1]
    show own_Go p e below Pst (T111.setTop (mkF m 35 #[.val (.ref a2), .val (.int (0 : Int32)), .val (.int (2 : Int32)), .val (.ref b101), .val (.int (0 : Int32)), .val (.ref b107)] [(.int c0)]))
    refine own_x_sipush X111.here hx (hb hby own_d5_35) (z := (255 : Int32)) rfl ?_
    refine own_x_icmpYes X111.here hx (pc0 := 38) (pc' := 54) rfl (hb hby own_d5_38) rfl (tlt u0).2.2.1 (by decide) (by decide) ?_
    refine own_x_aload X111.here hx (hb hby own_d5_54) rfl rfl ?_
    have c113 := (Keep.trans c109 K107 all0)
    rw [hPst]
    exact own_retP X111 (v := (some (.ref b107))) (Q := Q_cu2 Z a2 kc dv c0 c1 h0 n0) (fun h => by rw [Bd.returns] at h; cases h) Bd.notSynchronized (fun fs hr => retOut X111 hx Bd.returns rfl (Or.inr (Or.inr (Or.inr (Or.inr ⟨rfl, rfl, rfl⟩)))) (hb hby own_d5_56) hr) (by decide) (by decide) (by rw [e111]; exact ⟨_, rfl, N111, c113, sz_b107, _, V107⟩)
  · have l0 := u0
    clear u0
    have u1 : (255 : Int32) < c1 := by
      by_cases q : (255 : Int32) < c1
      · exact q
      · exact absurd ⟨l0, q⟩ hbad
    have c114 := (A1.ext E101)
    have c116 := (Nat.le_trans Z0 E101.1)
    refine own_cF X101 (Jvm.LawKit.callS X101 hx (y := (⟨"java/lang/StringUTF16", "compress", "([CI[BII)I"⟩ : MethodName)) hown (mvT hZ (own_w26 hw)) (mvT hZ (own_w27 hw)) (mvT hZ (own_w23 hw)) (mvT hZ (own_w28 hw)) (by decide) (backOf (W := 0) (rm_cmp2_1 l Z a0 hw [] a2 kc dv c0 c1 b101 k101 h101 n0 c116 c114 V101 gn_b101 ne_a2_b101 l0 u1) hZ (own_w28 hw) (own_w23 hw) (by decide) (by decide)) (g := (mkF m 9 #[.val (.ref a2), .val (.int (0 : Int32)), .val (.int (2 : Int32)), .val (.ref b101), .unset, .unset] [(.int (2 : Int32)), (.int (0 : Int32)), (.ref b101), (.int (0 : Int32)), (.ref a2)])) rfl (by rw [hml]; rfl) (argsL := [(.ref a2), (.int (0 : Int32)), (.ref b101), (.int (0 : Int32)), (.int (2 : Int32))]) (rest := []) (lenOf own_pd4 rfl) rfl (by show 2 * 0 + _ ≤ _; exact Nat.le_of_eq rfl) (hb hby own_d5_9) (fun _ _ => ⟨rfl, e101, (by decide : 1 + 0 ≤ _), (by decide : 2 + 0 ≤ _)⟩)) fun v115 T115 L115 X115 hQ115 => ?_
    obtain ⟨rfl, Nq115, K115⟩ := hQ115
    have N115 := Fr.app N0 Nq115
    show own_Go p e below Pst (T115.setTop (mkF m 12 #[.val (.ref a2), .val (.int (0 : Int32)), .val (.int (2 : Int32)), .val (.ref b101), .unset, .unset] [(.int (1 : Int32))]))
    refine own_x_istore X115.here hx (hb hby own_d5_12) rfl (l' := #[.val (.ref a2), .val (.int (0 : Int32)), .val (.int (2 : Int32)), .val (.ref b101), .val (.int (1 : Int32)), .unset]) rfl ?_
    refine own_x_iload X115.here hx (hb hby own_d5_14) rfl ?_
    refine own_x_iloadN X115.here hx (hb hby own_d5_16) rfl ?_
    refine own_x_icmpNo X115.here hx (hb hby own_d5_17) rfl (feq (by decide)).1 ?_
    refine own_x_aloadN X115.here hx (hb hby own_d5_20) rfl rfl ?_
    refine own_x_iloadN X115.here hx (hb hby own_d5_21) rfl ?_
    refine own_x_iloadN X115.here hx (hb hby own_d5_22) rfl ?_
    have c117 := ((O.ext E101).keep K115 (allS gn_b101 all0))
    have c118 := (c114.keep K115 (ninS ne_a2_b101 nin0))
    have c120 := (Nat.le_trans c116 K115.1)
    refine own_cF X115 (Jvm.LawKit.callS X115 hx (y := (⟨"java/lang/StringUTF16", "toBytes", "([CII)[B"⟩ : MethodName)) hown (mvT hZ (own_w82 hw)) (mvT hZ (own_w83 hw)) (mvT hZ (own_w23 hw)) (mvT hZ (own_w84 hw)) (by decide) (backOf (W := 0) (rm_tob2 l Z a0 hw [] a2 kc dv c0 c1 T115.heap n0 c120 c117 SU0 SU1 SU2 c118) hZ (own_w84 hw) (own_w23 hw) (by decide) (by decide)) (g := (mkF m 23 #[.val (.ref a2), .val (.int (0 : Int32)), .val (.int (2 : Int32)), .val (.ref b101), .val (.int (1 : Int32)), .unset] [(.int (2 : Int32)), (.int (0 : Int32)), (.ref a2)])) rfl (by rw [hml]; rfl) (argsL := [(.ref a2), (.int (0 : Int32)), (.int (2 : Int32))]) (rest := []) (lenOf own_pd5 rfl) rfl (by show 2 * 0 + _ ≤ _; exact Nat.le_of_eq rfl) (hb hby own_d5_23) (fun _ _ => ⟨rfl, rfl, (by decide : 1 + 1 ≤ _), (by decide : 2 + 4 ≤ _)⟩)) fun v119 T119 L119 X119 hQ119 => ?_
    obtain ⟨b119, rfl, Nq119, K119, sb119, kb119, V119⟩ := hQ119
    have N119 := Fr.app N115 Nq119
    have ne_a2_b119 : a2 ≠ b119 := Nat.ne_of_lt (Nat.lt_of_lt_of_le c118.lt sb119)
    have gn_b119 : n0 ≤ b119 := Nat.le_trans c120 sb119
    have c121 := (Keep.trans ((Keep.refl h0 []).ext E101) K115 (allS (Or.inr sz_b101) all0))
    have sz_b119 : h0.size ≤ b119 := Nat.le_trans c121.1 sb119
    show own_Go p e below Pst (T119.setTop (mkF m 26 #[.val (.ref a2), .val (.int (0 : Int32)), .val (.int (2 : Int32)), .val (.ref b101), .val (.int (1 : Int32)), .unset] [(.ref b119)]))
    refine own_x_astore X119.here hx (hb hby own_d5_26) rfl rfl (l' := #[.val (.ref a2), .val (.int (0 : Int32)), .val (.int (2 : Int32)), .val (.ref b101), .val (.int (1 : Int32)), .val (.ref b119)]) rfl ?_
    refine own_x_aload X119.here hx (hb hby own_d5_28) rfl rfl ?_
    refine own_x_iload X119.here hx (hb hby own_d5_30) rfl ?_
    have c122 := (c117.keep K119 all0)
    have c124 := (Nat.le_trans c120 K119.1)
    refine own_cF X119 (Jvm.LawKit.callS X119 hx (y := (⟨"java/lang/StringUTF16", "getChar", "([BI)C"⟩ : MethodName)) hown (mvT hZ (own_w98 hw)) (mvT hZ (own_w99 hw)) (mvT hZ (own_w23 hw)) (mvT hZ (own_w100 hw)) (by decide) (backOf (W := 0) (rm_getc1 l Z a0 hw [] b119 kb119 (4 : Int32) (own_lo8 c1) (own_hi8 c1) (own_u16 [c0, c1]) T119.heap n0 c124 c122 SU0 SU1 SU2 V119 (by decide) rfl rfl) hZ (own_w100 hw) (own_w23 hw) (by decide) (by decide)) (g := (mkF m 32 #[.val (.ref a2), .val (.int (0 : Int32)), .val (.int (2 : Int32)), .val (.ref b101), .val (.int (1 : Int32)), .val (.ref b119)] [(.int (1 : Int32)), (.ref b119)])) rfl (by rw [hml]; rfl) (argsL := [(.ref b119), (.int (1 : Int32))]) (rest := []) (lenOf own_pd6 rfl) rfl (by show 2 * 0 + _ ≤ _; exact Nat.le_of_eq rfl) (hb hby own_d5_32) (fun _ _ => ⟨rfl, rfl, (by decide : 2 + 0 ≤ _), (by decide : 6 + 0 ≤ _)⟩)) fun v123 T123 L123 X123 hQ123 => ?_
    obtain ⟨rfl, Nq123, e123⟩ := hQ123
    have N123 := Fr.app N119 Nq123
    show own_Go p e below Pst (T123.setTop (mkF m 35 #[.val (.ref a2), .val (.int (0 : Int32)), .val (.int (2 : Int32)), .val (.ref b101), .val (.int (1 : Int32)), .val (.ref b119)] [(.int (nar .char (own_join (own_lo8 c1) (own_hi8 c1))))]))
    rw [own_join_eq hr.2.2.1 hr.2.2.2]
    show own_Go p e below Pst (T123.setTop (mkF m 35 #[.val (.ref a2), .val (.int (0 : Int32)), .val (.int (2 : Int32)), .val (.ref b101), .val (.int (1 : Int32)), .val (.ref b119)] [(.int c1)]))
    refine own_x_sipush X123.here hx (hb hby own_d5_35) (z := (255 : Int32)) rfl ?_
    refine own_x_icmpYes X123.here hx (pc0 := 38) (pc' := 54) rfl (hb hby own_d5_38) rfl (tlt u1).2.2.1 (by decide) (by decide) ?_
    refine own_x_aload X123.here hx (hb hby own_d5_54) rfl rfl ?_
    have c125 := (Keep.trans c121 K119 all0)
    rw [hPst]
    exact own_retP X123 (v := (some (.ref b119))) (Q := Q_cu2 Z a2 kc dv c0 c1 h0 n0) (fun h => by rw [Bd.returns] at h; cases h) Bd.notSynchronized (fun fs hr => retOut X123 hx Bd.returns rfl (Or.inr (Or.inr (Or.inr (Or.inr ⟨rfl, rfl, rfl⟩)))) (hb hby own_d5_56) hr) (by decide) (by decide) (by rw [e123]; exact ⟨_, rfl, N123, c125, sz_b119, _, V119⟩)
def Q_codl2 (Z : State) (b : Addr) (kb : ClassId) (vs : List Value) (h0 : Heap) (n0 : Nat) (v : Option Value) (h : Heap) (L : List Loc) : Prop := v = some (.int (1 : Int32)) ∧ Fr n0 L ∧ h = h0
theorem rm_codl2 (l : Launch) (Z : State) (a0 : Array Value) (hw : own_H a0 Z) (ws : List Jvm.Cond) (b : Addr) (kb : ClassId) (vs : List Value) (h0 : Heap) (n0 : Nat) (Z0 : n0 ≤ h0.size) (A1 : Arv Z h0 b kb .byte (4 : Int32) vs (.int 0)) : own_MP l (⟨"java/lang/StringUTF16", "coderFromArrayLen", "([BI)B"⟩ : MethodName) jdk_52_method_15_code 2 (some .byte) ws ({ frames := 0, cells := 0, slots := 0, locals := 0 } : Room) Z h0 #[(.ref b), (.int (2 : Int32))] (fun _ _ _ _ _ => True) (Q_codl2 Z b kb vs h0 n0) := by
  refine own_startP (plainFor_of_name own_pn_java_lang_StringUTF16) fun p e s m below meth c s₁ Bd hx hby hml hown0 X0 e0 hh0 hZ hK Pst hPst => ?_
  have hown : s.vm.findClass "java/lang/StringUTF16" = some m.cls := hown0
  have hnm := (name_of_methodNamed Bd.named Bd.method).1
  have N0 := Fr.nil n0
  rw [own_ef_RI_2 m b (2 : Int32)]
  refine own_x_iloadN X0.here hx (hb hby own_d7_0) rfl ?_
  refine own_x_aloadN X0.here hx (hb hby own_d7_1) rfl rfl ?_
  obtain ⟨cl101, Ar101, -, S101, P101, -, -⟩ := id A1
  refine own_Go.of (S' := s₁.setTop (mkF m 3 #[.val (.ref b), .val (.int (2 : Int32))] [(.int (4 : Int32)), (.int (2 : Int32))])) (fun tgt kst => X0.arraylength hx (by rw [e0]; exact Ar101.1) (State.isArrayOf_alike hZ.alike Ar101.2.1) (g := (mkF m 2 #[.val (.ref b), .val (.int (2 : Int32))] [(.ref b), (.int (2 : Int32))])) rfl rfl (hb hby own_d7_2) _ (by rw [len_of S101 P101]; exact kst)) ?_
  refine own_x_isub X0.here hx (hb hby own_d7_3) rfl ?_
  refine own_x_bipush X0.here hx (hb hby own_d7_4) (z := (31 : Int32)) rfl ?_
  refine own_x_iushr X0.here hx (hb hby own_d7_6) rfl ?_
  refine own_x_i2b X0.here hx (hb hby own_d7_7) rfl ?_
  rw [show (((((2 : Int32) - (4 : Int32)).toUInt32 >>> ((31 : Int32) &&& 31).toUInt32).toInt32).toInt8.toInt32) = (1 : Int32) from by decide]
  show own_Go p e below Pst (s₁.setTop (mkF m 8 #[.val (.ref b), .val (.int (2 : Int32))] [(.int (1 : Int32))]))
  rw [hPst]
  exact own_retP X0 (v := (some (.int (nar .byte (1 : Int32))))) (Q := Q_codl2 Z b kb vs h0 n0) (fun h => by rw [Bd.returns] at h; cases h) Bd.notSynchronized (fun fs hr => retN X0 hx (t := .byte) Bd.returns (by simp) (hb hby own_d7_8) hr) (by decide) (by decide) (by rw [e0]; exact ⟨rfl, N0, rfl⟩)
def Q_i4u2 (Z : State) (z : Int32) (a1 a2 : Addr) (kc : ClassId) (dv : Value) (c0 c1 : Int32) (u1 u2 : Value) (h0 : Heap) (n0 : Nat) (v : Option Value) (h : Heap) (L : List Loc) : Prop := v = none ∧ Fr n0 L ∧ Keep h0 h [a1] ∧ Exa Z h a1 "java/lang/String" ∧ Fld Z h a1 "java/lang/String" "coder" "B" (.int (1 : Int32)) ∧ ∃ (t : Addr) (kb : ClassId), h0.size ≤ t ∧ Fld Z h a1 "java/lang/String" "value" "[B" (.ref t) ∧ Arv Z h t kb .byte (4 : Int32) (own_u16 [c0, c1]) (.int 0)
theorem rm_i4u2 (l : Launch) (Z : State) (a0 : Array Value) (hw : own_H a0 Z) (ws : List Jvm.Cond) (z : Int32) (a1 a2 : Addr) (kc : ClassId) (dv : Value) (c0 c1 : Int32) (u1 u2 : Value) (h0 : Heap) (n0 : Nat) (Z0 : n0 ≤ h0.size) (O : Old Z n0 h0) (SC : Sta Z Z.heap "java/lang/String" "COMPACT_STRINGS" "Z" (.int z)) (hz : ¬ z = 0) (SU0 : Sta Z Z.heap "java/lang/StringUTF16" "$assertionsDisabled" "Z" (.int (1 : Int32))) (SU1 : Sta Z Z.heap "java/lang/StringUTF16" "HI_BYTE_SHIFT" "I" (.int (0 : Int32))) (SU2 : Sta Z Z.heap "java/lang/StringUTF16" "LO_BYTE_SHIFT" "I" (.int (8 : Int32))) (E1 : Exa Z h0 a1 "java/lang/String") (F1 : Fld Z h0 a1 "java/lang/String" "value" "[B" u1) (F2 : Fld Z h0 a1 "java/lang/String" "coder" "B" u2) (g1 : n0 ≤ a1) (A1 : Arv Z h0 a2 kc .char (2 : Int32) [(.int c0), (.int c1)] dv) (hr : ¬ c0 < 0 ∧ ¬ (65535 : Int32) < c0 ∧ ¬ c1 < 0 ∧ ¬ (65535 : Int32) < c1) (hbad : ¬ (¬ (255 : Int32) < c0 ∧ ¬ (255 : Int32) < c1)) : own_MP l (⟨"java/lang/String", "<init>", "([CIILjava/lang/Void;)V"⟩ : MethodName) jdk_42_method_149_code 6 none ws ({ frames := 4, cells := 2, slots := 6, locals := 60 } : Room) Z h0 #[(.ref a1), (.ref a2), (.int (0 : Int32)), (.int (2 : Int32)), .null] (fun _ _ _ _ _ => True) (Q_i4u2 Z z a1 a2 kc dv c0 c1 u1 u2 h0 n0) := by
  refine own_startP (plainFor_of_name own_pn_java_lang_String) fun p e s m below meth c s₁ Bd hx hby hml hown0 X0 e0 hh0 hZ hK Pst hPst => ?_
  have hown : s.vm.findClass "java/lang/String" = some m.cls := hown0
  have hnm := (name_of_methodNamed Bd.named Bd.method).1
  have N0 := Fr.nil n0
  rw [own_ef_RRIIN_6 m a1 a2 (0 : Int32) (2 : Int32)]
  refine own_x_aloadN X0.here hx (hb hby own_d3_0) rfl rfl ?_
  refine own_h_initO X0 hx hZ hown (own_w17 hw) (own_w18 hw) (own_w19 hw) e0 (by rw [hml]; rfl) rfl (hb hby own_d3_1) (by decide) (W := 0) (by show 2 * 0 + _ ≤ _; exact Nat.le_of_eq rfl) (by decide) fun T101 X101 e101 => ?_
  refine own_x_iloadN X101.here hx (hb hby own_d3_4) rfl ?_
  refine own_x_ifYes X101.here hx (pc0 := 5) (pc' := 27) rfl (hb hby own_d3_5) rfl ((if0 _ _).trans (feq (by decide)).2) (by decide) (by decide) ?_
  refine own_h_getS2 X101 hx hZ hown (host := "") (Or.inl (own_w20 hw)) Via.refl e101 (SC.ext O.2) (hb hby own_d3_27) fun T102 X102 e102 => ?_
  refine own_x_ifNo X102.here hx (hb hby own_d3_30) rfl ((if0 _ _).trans (feq hz).1) ?_
  refine own_x_aloadN X102.here hx (hb hby own_d3_33) rfl rfl ?_
  refine own_x_iloadN X102.here hx (hb hby own_d3_34) rfl ?_
  refine own_x_iloadN X102.here hx (hb hby own_d3_35) rfl ?_
  refine own_cF X102 (Jvm.LawKit.callS X102 hx (y := (⟨"java/lang/StringUTF16", "compress", "([CII)[B"⟩ : MethodName)) hown (mvT hZ (own_w21 hw)) (mvT hZ (own_w22 hw)) (mvT hZ (own_w23 hw)) (mvT hZ (own_w24 hw)) (by decide) (backOf (W := 0) (rm_cu2 l Z a0 hw [] a2 kc dv c0 c1 h0 n0 Z0 O SU0 SU1 SU2 A1 hr hbad) hZ (own_w24 hw) (own_w23 hw) (by decide) (by decide)) (g := (mkF m 36 #[.val (.ref a1), .val (.ref a2), .val (.int (0 : Int32)), .val (.int (2 : Int32)), .val .null, .unset] [(.int (2 : Int32)), (.int (0 : Int32)), (.ref a2)])) rfl (by rw [hml]; rfl) (argsL := [(.ref a2), (.int (0 : Int32)), (.int (2 : Int32))]) (rest := []) (lenOf own_pd5 rfl) rfl (by show 2 * 0 + _ ≤ _; exact Nat.le_of_eq rfl) (hb hby own_d3_36) (fun _ _ => ⟨rfl, e102, (by decide : 0 + 2 ≤ _), (by decide : 0 + 6 ≤ _)⟩)) fun v103 T103 L103 X103 hQ103 => ?_
  obtain ⟨b103, rfl, Nq103, K103, sb103, kb103, V103⟩ := hQ103
  have N103 := Fr.app N0 Nq103
  have ne_a1_b103 : a1 ≠ b103 := Nat.ne_of_lt (Nat.lt_of_lt_of_le E1.lt sb103)
  have gn_b103 : n0 ≤ b103 := Nat.le_trans Z0 sb103
  have sz_b103 : h0.size ≤ b103 := Nat.le_trans (Keep.refl h0 [a1]).1 sb103
  show own_Go p e below Pst (T103.setTop (mkF m 39 #[.val (.ref a1), .val (.ref a2), .val (.int (0 : Int32)), .val (.int (2 : Int32)), .val .null, .unset] [(.ref b103)]))
  refine own_x_astore X103.here hx (hb hby own_d3_39) rfl rfl (l' := #[.val (.ref a1), .val (.ref a2), .val (.int (0 : Int32)), .val (.int (2 : Int32)), .val .null, .val (.ref b103)]) rfl ?_
  refine own_x_aloadN X103.here hx (hb hby own_d3_41) rfl rfl ?_
  refine own_x_aload X103.here hx (hb hby own_d3_42) rfl rfl ?_
  refine own_x_iloadN X103.here hx (hb hby own_d3_44) rfl ?_
  have c105 := (Nat.le_trans Z0 K103.1)
  refine own_cF X103 (Jvm.LawKit.callS X103 hx (y := (⟨"java/lang/StringUTF16", "coderFromArrayLen", "([BI)B"⟩ : MethodName)) hown (mvT hZ (own_w29 hw)) (mvT hZ (own_w30 hw)) (mvT hZ (own_w23 hw)) (mvT hZ (own_w31 hw)) (by decide) (backOf (W := 1) (rm_codl2 l Z a0 hw [] b103 kb103 (own_u16 [c0, c1]) T103.heap n0 c105 V103) hZ (own_w31 hw) (own_w23 hw) (by decide) (by decide)) (g := (mkF m 45 #[.val (.ref a1), .val (.ref a2), .val (.int (0 : Int32)), .val (.int (2 : Int32)), .val .null, .val (.ref b103)] [(.int (2 : Int32)), (.ref b103), (.ref a1)])) rfl (by rw [hml]; rfl) (argsL := [(.ref b103), (.int (2 : Int32))]) (rest := [(.ref a1)]) (lenOf own_pd7 rfl) rfl (by show 2 * 0 + _ ≤ _; exact Nat.le_of_eq rfl) (hb hby own_d3_45) (fun _ _ => ⟨rfl, rfl, (by decide : 2 + 0 ≤ _), (by decide : 6 + 0 ≤ _)⟩)) fun v104 T104 L104 X104 hQ104 => ?_
  obtain ⟨rfl, Nq104, e104⟩ := hQ104
  have N104 := Fr.app N103 Nq104
  show own_Go p e below Pst (T104.setTop (mkF m 48 #[.val (.ref a1), .val (.ref a2), .val (.int (0 : Int32)), .val (.int (2 : Int32)), .val .null, .val (.ref b103)] [(.int (1 : Int32)), (.ref a1)]))
  have c106 := (E1.keep K103)
  have c107 := (F2.keep K103 nin0)
  refine own_h_putFN X104 hx hZ hown (own_w32 hw) Via.refl e104 c107 c106 (Or.inr ⟨(own_w33 hw), rfl, hnm⟩) (own_w8 hw) (ty := .byte) (v' := (.int (1 : Int32))) (by decide) rfl rfl rfl (hb hby own_d3_48) fun T108 h108 X108 e108 W108 => ?_
  have Fw108 := Fld.same W108 c107
  have N108 := Fr.snoc X108 N104 g1
  refine own_x_aloadN X108.here hx (hb hby own_d3_51) rfl rfl ?_
  refine own_x_aload X108.here hx (hb hby own_d3_52) rfl rfl ?_
  have c109 := (c106.wr W108)
  have c110 := ((F1.keep K103 nin0).other W108 (Or.inr (slot_ne (Or.inr (own_w35 hw)) (Or.inr (own_w33 hw)) (by decide) (t := (.array .byte)) (t' := .byte) (by decide) (by decide))))
  refine own_h_putF X108 hx hZ hown (host := "") (Or.inl (own_w34 hw)) Via.refl e108 c110 c109 (Or.inr ⟨(own_w35 hw), rfl, hnm⟩) (own_w8 hw) (ty := (.array .byte)) (by decide) rfl rfl rfl (hb hby own_d3_54) fun T111 h111 X111 e111 W111 => ?_
  have Fw111 := Fld.same W111 c110
  have N111 := Fr.snoc X111 N108 g1
  have c112 := (((Keep.trans (Keep.refl h0 [a1]) K103 all0).wr W108 (Or.inl (List.mem_of_getElem? (i := 0) rfl))).wr W111 (Or.inl (List.mem_of_getElem? (i := 0) rfl)))
  have c113 := (c109.wr W111)
  have c114 := (Fw108.other W111 (Or.inr (slot_ne (Or.inr (own_w33 hw)) (Or.inr (own_w35 hw)) (by decide) (t := .byte) (t' := (.array .byte)) (by decide) (by decide))))
  have c115 := ((V103.other W108 (Ne.symm ne_a1_b103)).other W111 (Ne.symm ne_a1_b103))
  rw [hPst]
  exact own_retP X111 (v := none) (Q := Q_i4u2 Z z a1 a2 kc dv c0 c1 u1 u2 h0 n0) (fun _ => rfl) Bd.notSynchronized (fun fs hr => X111.returnOut hx Bd.returns (hb hby own_d3_57) hr) (by decide) (by decide) (by rw [e111]; exact ⟨rfl, N111, c112, c113, c114, _, _, sz_b103, Fw111, c115⟩)
def Q_i1u2 (Z : State) (z : Int32) (a1 a2 : Addr) (kc : ClassId) (dv : Value) (c0 c1 : Int32) (u1 u2 : Value) (h0 : Heap) (n0 : Nat) (v : Option Value) (h : Heap) (L : List Loc) : Prop := v = none ∧ Fr n0 L ∧ Keep h0 h [a1] ∧ Exa Z h a1 "java/lang/String" ∧ Fld Z h a1 "java/lang/String" "coder" "B" (.int (1 : Int32)) ∧ ∃ (t : Addr) (kb : ClassId), h0.size ≤ t ∧ Fld Z h a1 "java/lang/String" "value" "[B" (.ref t) ∧ Arv Z h t kb .byte (4 : Int32) (own_u16 [c0, c1]) (.int 0)
theorem rm_i1u2 (l : Launch) (Z : State) (a0 : Array Value) (hw : own_H a0 Z) (ws : List Jvm.Cond) (z : Int32) (a1 a2 : Addr) (kc : ClassId) (dv : Value) (c0 c1 : Int32) (u1 u2 : Value) (h0 : Heap) (n0 : Nat) (Z0 : n0 ≤ h0.size) (O : Old Z n0 h0) (SC : Sta Z Z.heap "java/lang/String" "COMPACT_STRINGS" "Z" (.int z)) (hz : ¬ z = 0) (SU0 : Sta Z Z.heap "java/lang/StringUTF16" "$assertionsDisabled" "Z" (.int (1 : Int32))) (SU1 : Sta Z Z.heap "java/lang/StringUTF16" "HI_BYTE_SHIFT" "I" (.int (0 : Int32))) (SU2 : Sta Z Z.heap "java/lang/StringUTF16" "LO_BYTE_SHIFT" "I" (.int (8 : Int32))) (E1 : Exa Z h0 a1 "java/lang/String") (F1 : Fld Z h0 a1 "java/lang/String" "value" "[B" u1) (F2 : Fld Z h0 a1 "java/lang/String" "coder" "B" u2) (g1 : n0 ≤ a1) (A1 : Arv Z h0 a2 kc .char (2 : Int32) [(.int c0), (.int c1)] dv) (hr : ¬ c0 < 0 ∧ ¬ (65535 : Int32) < c0 ∧ ¬ c1 < 0 ∧ ¬ (65535 : Int32) < c1) (hbad : ¬ (¬ (255 : Int32) < c0 ∧ ¬ (255 : Int32) < c1)) : own_MP l (⟨"java/lang/String", "<init>", "([C)V"⟩ : MethodName) jdk_42_method_3_code 2 none ws ({ frames := 5, cells := 2, slots := 6, locals := 77 } : Room) Z h0 #[(.ref a1), (.ref a2)] (fun _ _ _ _ _ => True) (Q_i1u2 Z z a1 a2 kc dv c0 c1 u1 u2 h0 n0) := by
  refine own_startP (plainFor_of_name own_pn_java_lang_String) fun p e s m below meth c s₁ Bd hx hby hml hown0 X0 e0 hh0 hZ hK Pst hPst => ?_
  have hown : s.vm.findClass "java/lang/String" = some m.cls := hown0
  have hnm := (name_of_methodNamed Bd.named Bd.method).1
  have N0 := Fr.nil n0
  rw [own_ef_RR_2 m a1 a2]
  refine own_x_aloadN X0.here hx (hb hby own_d2_0) rfl rfl ?_
  refine own_x_aloadN X0.here hx (hb hby own_d2_1) rfl rfl ?_
  refine own_x_iconst X0.here hx (hb hby own_d2_2) (z := (0 : Int32)) rfl ?_
  refine own_x_aloadN X0.here hx (hb hby own_d2_3) rfl rfl ?_
  obtain ⟨cl101, Ar101, -, S101, P101, -, -⟩ := id A1
  refine own_Go.of (S' := s₁.setTop (mkF m 5 #[.val (.ref a1), .val (.ref a2)] [(.int (2 : Int32)), (.int (0 : Int32)), (.ref a2), (.ref a1)])) (fun tgt kst => X0.arraylength hx (by rw [e0]; exact Ar101.1) (State.isArrayOf_alike hZ.alike Ar101.2.1) (g := (mkF m 4 #[.val (.ref a1), .val (.ref a2)] [(.ref a2), (.int (0 : Int32)), (.ref a2), (.ref a1)])) rfl rfl (hb hby own_d2_4) _ (by rw [len_of S101 P101]; exact kst)) ?_
  refine own_x_aconstNull X0.here hx (hb hby own_d2_5) ?_
  refine own_cP X0 (X0.specialBack hx (y := (⟨"java/lang/String", "<init>", "([CIILjava/lang/Void;)V"⟩ : MethodName)) rfl hown (mvT hZ (own_w13 hw)) (mvT hZ (own_w14 hw)) (mvT hZ (own_w16 hw)) (by decide) (backOf (W := 0) (rm_i4u2 l Z a0 hw [] z a1 a2 kc dv c0 c1 u1 u2 h0 n0 Z0 O SC hz SU0 SU1 SU2 E1 F1 F2 g1 A1 hr hbad) hZ (own_w16 hw) (own_w9 hw) (by decide) (by decide)) (g := (mkF m 6 #[.val (.ref a1), .val (.ref a2)] [.null, (.int (2 : Int32)), (.int (0 : Int32)), (.ref a2), (.ref a1)])) rfl (by rw [hml]; rfl) (Steps.refl _) (a := a1) (argsL := [(.ref a2), (.int (0 : Int32)), (.int (2 : Int32)), .null]) (rest := []) (lenOf own_pd0 rfl) rfl (by show 2 * 0 + _ ≤ _; exact Nat.le_of_eq rfl) (hb hby own_d2_6) (fun _ _ => ⟨rfl, e0, (by decide : 0 + 2 ≤ _), (by decide : 0 + 6 ≤ _)⟩)) fun v102 T102 L102 X102 hQ102 => ?_
  obtain ⟨rfl, Nq102, K102, A102, C102, t102, kb102, st_102, V102, B102⟩ := hQ102
  have N102 := Fr.app N0 Nq102
  show own_Go p e below Pst (T102.setTop (mkF m 9 #[.val (.ref a1), .val (.ref a2)] []))
  have c103 := (Keep.trans (Keep.refl h0 [a1]) K102 (allS (Or.inl (List.mem_of_getElem? (i := 0) rfl)) all0))
  rw [hPst]
  exact own_retP X102 (v := none) (Q := Q_i1u2 Z z a1 a2 kc dv c0 c1 u1 u2 h0 n0) (fun _ => rfl) Bd.notSynchronized (fun fs hr => X102.returnOut hx Bd.returns (hb hby own_d2_9) hr) (by decide) (by decide) ⟨rfl, N102, c103, A102, C102, _, _, st_102, V102, B102⟩
def Q_nbl3 (Z : State)  (h0 : Heap) (n0 : Nat) (v : Option Value) (h : Heap) (L : List Loc) : Prop := v = some (.int (6 : Int32)) ∧ Fr n0 L ∧ h = h0
theorem rm_nbl3 (l : Launch) (Z : State) (a0 : Array Value) (hw : own_H a0 Z) (ws : List Jvm.Cond)  (h0 : Heap) (n0 : Nat) (Z0 : n0 ≤ h0.size) : own_MP l (⟨"java/lang/StringUTF16", "newBytesLength", "(I)I"⟩ : MethodName) jdk_52_method_3_code 1 (some .int) ws ({ frames := 0, cells := 0, slots := 0, locals := 0 } : Room) Z h0 #[(.int (3 : Int32))] (fun _ _ _ _ _ => True) (Q_nbl3 Z  h0 n0) := by
  refine own_startP (plainFor_of_name own_pn_java_lang_StringUTF16) fun p e s m below meth c s₁ Bd hx hby hml hown0 X0 e0 hh0 hZ hK Pst hPst => ?_
  have hown : s.vm.findClass "java/lang/StringUTF16" = some m.cls := hown0
  have hnm := (name_of_methodNamed Bd.named Bd.method).1
  have N0 := Fr.nil n0
  rw [own_ef_I_1 m (3 : Int32)]
  refine own_x_iloadN X0.here hx (hb hby own_d21_0) rfl ?_
  refine own_x_ifYes X0.here hx (pc0 := 1) (pc' := 12) rfl (hb hby own_d21_1) rfl ((if0 _ _).trans (flt (by decide)).2.1) (by decide) (by decide) ?_
  refine own_x_iloadN X0.here hx (hb hby own_d21_12) rfl ?_
  refine own_Go.of (S' := s₁.setTop (mkF m 15 #[.val (.int (3 : Int32))] [(.int (1073741823 : Int32)), (.int (3 : Int32))])) (fun tgt kst => X0.ldcInt hx hown (mvT hZ (own_w91 hw)) (g := (mkF m 13 #[.val (.int (3 : Int32))] [(.int (3 : Int32))])) rfl (hb hby own_d21_13) _ kst) ?_
  refine own_x_icmpYes X0.here hx (pc0 := 15) (pc' := 55) rfl (hb hby own_d21_15) rfl (tlt (by decide)).1 (by decide) (by decide) ?_
  refine own_x_iloadN X0.here hx (hb hby own_d21_55) rfl ?_
  refine own_x_iconst X0.here hx (hb hby own_d21_56) (z := (1 : Int32)) rfl ?_
  refine own_x_ishl X0.here hx (hb hby own_d21_57) rfl ?_
  rw [show ((3 : Int32) <<< ((1 : Int32) &&& 31)) = (6 : Int32) from by decide]
  show own_Go p e below Pst (s₁.setTop (mkF m 58 #[.val (.int (3 : Int32))] [(.int (6 : Int32))]))
  rw [hPst]
  exact own_retP X0 (v := (some (.int (6 : Int32)))) (Q := Q_nbl3 Z  h0 n0) (fun h => by rw [Bd.returns] at h; cases h) Bd.notSynchronized (fun fs hr => own_retI X0 hx Bd.returns (hb hby own_d21_58) hr) (by decide) (by decide) (by rw [e0]; exact ⟨rfl, N0, rfl⟩)
def Q_nbf3 (Z : State)  (h0 : Heap) (n0 : Nat) (v : Option Value) (h : Heap) (L : List Loc) : Prop := ∃ (b : Addr), v = some (.ref b) ∧ Fr n0 L ∧ Keep h0 h [] ∧ h0.size ≤ b ∧ ∃ kb : ClassId, Arv Z h b kb .byte (6 : Int32) [(.int (0 : Int32)), (.int (0 : Int32)), (.int (0 : Int32)), (.int (0 : Int32)), (.int (0 : Int32)), (.int (0 : Int32))] (.int 0)
theorem rm_nbf3 (l : Launch) (Z : State) (a0 : Array Value) (hw : own_H a0 Z) (ws : List Jvm.Cond)  (h0 : Heap) (n0 : Nat) (Z0 : n0 ≤ h0.size) : own_MP l (⟨"java/lang/StringUTF16", "newBytesFor", "(I)[B"⟩ : MethodName) jdk_52_method_2_code 1 (some (.array .byte)) ws ({ frames := 1, cells := 1, slots := 6, locals := 12 } : Room) Z h0 #[(.int (3 : Int32))] (fun _ _ _ _ _ => True) (Q_nbf3 Z  h0 n0) := by
  refine own_startP (plainFor_of_name own_pn_java_lang_StringUTF16) fun p e s m below meth c s₁ Bd hx hby hml hown0 X0 e0 hh0 hZ hK Pst hPst => ?_
  have hown : s.vm.findClass "java/lang/StringUTF16" = some m.cls := hown0
  have hnm := (name_of_methodNamed Bd.named Bd.method).1
  have N0 := Fr.nil n0
  rw [own_ef_I_1 m (3 : Int32)]
  refine own_x_iloadN X0.here hx (hb hby own_d20_0) rfl ?_
  refine own_cF X0 (Jvm.LawKit.callS X0 hx (y := (⟨"java/lang/StringUTF16", "newBytesLength", "(I)I"⟩ : MethodName)) hown (mvT hZ (own_w88 hw)) (mvT hZ (own_w89 hw)) (mvT hZ (own_w23 hw)) (mvT hZ (own_w90 hw)) (by decide) (backOf (W := 0) (rm_nbl3 l Z a0 hw []  h0 n0 Z0 ) hZ (own_w90 hw) (own_w23 hw) (by decide) (by decide)) (g := (mkF m 1 #[.val (.int (3 : Int32))] [(.int (3 : Int32))])) rfl (by rw [hml]; rfl) (argsL := [(.int (3 : Int32))]) (rest := []) (lenOf own_pd1 rfl) rfl (by show 2 * 0 + _ ≤ _; exact Nat.le_of_eq rfl) (hb hby own_d20_1) (fun _ _ => ⟨rfl, e0, (by decide : 0 + 0 ≤ _), (by decide : 0 + 0 ≤ _)⟩)) fun v101 T101 L101 X101 hQ101 => ?_
  obtain ⟨rfl, Nq101, e101⟩ := hQ101
  have N101 := Fr.app N0 Nq101
  show own_Go p e below Pst (T101.setTop (mkF m 4 #[.val (.int (3 : Int32))] [(.int (6 : Int32))]))
  refine own_h_newP (aty := .byte) X101 hx hZ (own_w25 hw) e101 (hb hby own_d20_4) rfl (by decide) (cap := 6) (by decide) (by decide) (by decide) (by decide) fun T102 h102 k102 b102 g102 X102 e102 E102 A102 => ?_
  have gn_b102 : n0 ≤ b102 := Nat.le_trans Z0 (Nat.le_of_eq g102.symm)
  have sz_b102 : h0.size ≤ b102 := Nat.le_trans (Keep.refl h0 []).1 (Nat.le_of_eq g102.symm)
  have V102 : Arv Z h102 b102 k102 .byte (6 : Int32) [(.int (0 : Int32)), (.int (0 : Int32)), (.int (0 : Int32)), (.int (0 : Int32)), (.int (0 : Int32)), (.int (0 : Int32))] (.int (0 : Int32)) := (Arv.new A102 (by decide)).pad (pad_rep [] (.int (0 : Int32)) 6)
  have c103 := ((Keep.refl h0 []).ext E102)
  rw [hPst]
  exact own_retP X102 (v := (some (.ref b102))) (Q := Q_nbf3 Z  h0 n0) (fun h => by rw [Bd.returns] at h; cases h) Bd.notSynchronized (fun fs hr => retOut X102 hx Bd.returns rfl (Or.inr (Or.inr (Or.inr (Or.inr ⟨rfl, rfl, rfl⟩)))) (hb hby own_d20_6) hr) (by decide) (by decide) (by rw [e102]; exact ⟨_, rfl, N101, c103, sz_b102, _, V102⟩)
def Q_tob3 (Z : State) (a2 : Addr) (kc : ClassId) (dv : Value) (c0 c1 c2 : Int32) (h0 : Heap) (n0 : Nat) (v : Option Value) (h : Heap) (L : List Loc) : Prop := ∃ (b : Addr), v = some (.ref b) ∧ Fr n0 L ∧ Keep h0 h [] ∧ h0.size ≤ b ∧ ∃ kb : ClassId, Arv Z h b kb .byte (6 : Int32) (own_u16 [c0, c1, c2]) (.int 0)
theorem rm_tob3 (l : Launch) (Z : State) (a0 : Array Value) (hw : own_H a0 Z) (ws : List Jvm.Cond) (a2 : Addr) (kc : ClassId) (dv : Value) (c0 c1 c2 : Int32) (h0 : Heap) (n0 : Nat) (Z0 : n0 ≤ h0.size) (O : Old Z n0 h0) (SU0 : Sta Z Z.heap "java/lang/StringUTF16" "$assertionsDisabled" "Z" (.int (1 : Int32))) (SU1 : Sta Z Z.heap "java/lang/StringUTF16" "HI_BYTE_SHIFT" "I" (.int (0 : Int32))) (SU2 : Sta Z Z.heap "java/lang/StringUTF16" "LO_BYTE_SHIFT" "I" (.int (8 : Int32))) (A1 : Arv Z h0 a2 kc .char (3 : Int32) [(.int c0), (.int c1), (.int c2)] dv) : own_MP l (⟨"java/lang/StringUTF16", "toBytes", "([CII)[B"⟩ : MethodName) jdk_52_method_14_code 5 (some (.array .byte)) ws ({ frames := 2, cells := 1, slots := 6, locals := 24 } : Room) Z h0 #[(.ref a2), (.int (0 : Int32)), (.int (3 : Int32))] (fun _ _ _ _ _ => True) (Q_tob3 Z a2 kc dv c0 c1 c2 h0 n0) := by
  refine own_startP (plainFor_of_name own_pn_java_lang_StringUTF16) fun p e s m below meth c s₁ Bd hx hby hml hown0 X0 e0 hh0 hZ hK Pst hPst => ?_
  have hown : s.vm.findClass "java/lang/StringUTF16" = some m.cls := hown0
  have hnm := (name_of_methodNamed Bd.named Bd.method).1
  have N0 := Fr.nil n0
  rw [own_ef_RII_5 m a2 (0 : Int32) (3 : Int32)]
  refine own_x_iloadN X0.here hx (hb hby own_d19_0) rfl ?_
  refine own_cF X0 (Jvm.LawKit.callS X0 hx (y := (⟨"java/lang/StringUTF16", "newBytesFor", "(I)[B"⟩ : MethodName)) hown (mvT hZ (own_w85 hw)) (mvT hZ (own_w86 hw)) (mvT hZ (own_w23 hw)) (mvT hZ (own_w87 hw)) (by decide) (backOf (W := 0) (rm_nbf3 l Z a0 hw []  h0 n0 Z0 ) hZ (own_w87 hw) (own_w23 hw) (by decide) (by decide)) (g := (mkF m 1 #[.val (.ref a2), .val (.int (0 : Int32)), .val (.int (3 : Int32)), .unset, .unset] [(.int (3 : Int32))])) rfl (by rw [hml]; rfl) (argsL := [(.int (3 : Int32))]) (rest := []) (lenOf own_pd2 rfl) rfl (by show 2 * 0 + _ ≤ _; exact Nat.le_of_eq rfl) (hb hby own_d19_1) (fun _ _ => ⟨rfl, e0, (by decide : 0 + 1 ≤ _), (by decide : 0 + 6 ≤ _)⟩)) fun v101 T101 L101 X101 hQ101 => ?_
  obtain ⟨b101, rfl, Nq101, K101, sb101, kb101, V101⟩ := hQ101
  have N101 := Fr.app N0 Nq101
  have ne_a2_b101 : a2 ≠ b101 := Nat.ne_of_lt (Nat.lt_of_lt_of_le A1.lt sb101)
  have gn_b101 : n0 ≤ b101 := Nat.le_trans Z0 sb101
  have sz_b101 : h0.size ≤ b101 := Nat.le_trans (Keep.refl h0 []).1 sb101
  show own_Go p e below Pst (T101.setTop (mkF m 4 #[.val (.ref a2), .val (.int (0 : Int32)), .val (.int (3 : Int32)), .unset, .unset] [(.ref b101)]))
  refine own_x_astoreN X101.here hx (hb hby own_d19_4) rfl rfl (l' := #[.val (.ref a2), .val (.int (0 : Int32)), .val (.int (3 : Int32)), .val (.ref b101), .unset]) rfl ?_
  refine own_x_iconst X101.here hx (hb hby own_d19_5) (z := (0 : Int32)) rfl ?_
  refine own_x_istore X101.here hx (hb hby own_d19_6) rfl (l' := #[.val (.ref a2), .val (.int (0 : Int32)), .val (.int (3 : Int32)), .val (.ref b101), .val (.int (0 : Int32))]) rfl ?_
  refine own_x_iload X101.here hx (hb hby own_d19_8) rfl ?_
  refine own_x_iloadN X101.here hx (hb hby own_d19_10) rfl ?_
  refine own_x_icmpNo X101.here hx (hb hby own_d19_11) rfl (tlt (by decide)).2.1 ?_
  refine own_x_aloadN X101.here hx (hb hby own_d19_14) rfl rfl ?_
  refine own_x_iload X101.here hx (hb hby own_d19_15) rfl ?_
  refine own_x_aloadN X101.here hx (hb hby own_d19_17) rfl rfl ?_
  refine own_x_iloadN X101.here hx (hb hby own_d19_18) rfl ?_
  have c102 := (A1.keep K101 nin0)
  obtain ⟨cl103, Ar103, q103, S103, P103, H103, G103⟩ := id c102
  have hin103 : ¬ ((0 : Int32) < 0 ∨ cl103.slots.size ≤ ((0 : Int32)).toNatClampNeg) := inb_of S103 ⟨by decide, by decide⟩
  have hat103 : cl103.slots[((0 : Int32)).toNatClampNeg]? = some (.int c0) := Has.at H103 hin103 rfl
  refine own_Go.of (S' := T101.setTop (mkF m 20 #[.val (.ref a2), .val (.int (0 : Int32)), .val (.int (3 : Int32)), .val (.ref b101), .val (.int (0 : Int32))] [(.int c0), (.int (0 : Int32)), (.ref b101)])) (fun tgt kst => X101.caload hx (j := (0 : Int32)) (v := (.int c0)) (by exact Ar103.1) (State.isArrayOf_alike hZ.alike Ar103.2.1) Ar103.2.2 hin103 hat103 (g := (mkF m 19 #[.val (.ref a2), .val (.int (0 : Int32)), .val (.int (3 : Int32)), .val (.ref b101), .val (.int (0 : Int32))] [(.int (0 : Int32)), (.ref a2), (.int (0 : Int32)), (.ref b101)])) rfl rfl (hb hby own_d19_19) _ kst) ?_
  have c104 := (O.keep K101 all0)
  have c106 := (Nat.le_trans Z0 K101.1)
  refine own_cF X101 (Jvm.LawKit.callS X101 hx (y := (⟨"java/lang/StringUTF16", "putChar", "([BII)V"⟩ : MethodName)) hown (mvT hZ (own_w92 hw)) (mvT hZ (own_w93 hw)) (mvT hZ (own_w23 hw)) (mvT hZ (own_w94 hw)) (by decide) (backOf (W := 0) (rm_put0 l Z a0 hw [] b101 kb101 (6 : Int32) c0 [(.int (0 : Int32)), (.int (0 : Int32)), (.int (0 : Int32)), (.int (0 : Int32)), (.int (0 : Int32)), (.int (0 : Int32))] T101.heap n0 c106 c104 SU0 SU1 SU2 gn_b101 V101 (by decide) (Nat.le_of_ble_eq_true rfl)) hZ (own_w94 hw) (own_w23 hw) (by decide) (by decide)) (g := (mkF m 20 #[.val (.ref a2), .val (.int (0 : Int32)), .val (.int (3 : Int32)), .val (.ref b101), .val (.int (0 : Int32))] [(.int c0), (.int (0 : Int32)), (.ref b101)])) rfl (by rw [hml]; rfl) (argsL := [(.ref b101), (.int (0 : Int32)), (.int c0)]) (rest := []) (lenOf own_pd3 rfl) rfl (by show 2 * 0 + _ ≤ _; exact Nat.le_of_eq rfl) (hb hby own_d19_20) (fun _ _ => ⟨rfl, rfl, (by decide : 1 + 0 ≤ _), (by decide : 6 + 0 ≤ _)⟩)) fun v105 T105 L105 X105 hQ105 => ?_
  obtain ⟨rfl, Nq105, K105, V105⟩ := hQ105
  have N105 := Fr.app N101 Nq105
  show own_Go p e below Pst (T105.setTop (mkF m 23 #[.val (.ref a2), .val (.int (0 : Int32)), .val (.int (3 : Int32)), .val (.ref b101), .val (.int (0 : Int32))] []))
  refine own_x_iinc X105.here hx (hb hby own_d19_23) rfl (l' := #[.val (.ref a2), .val (.int ((0 : Int32) + (1 : Int32))), .val (.int (3 : Int32)), .val (.ref b101), .val (.int (0 : Int32))]) rfl ?_
  refine own_x_iinc X105.here hx (hb hby own_d19_26) rfl (l' := #[.val (.ref a2), .val (.int ((0 : Int32) + (1 : Int32))), .val (.int (3 : Int32)), .val (.ref b101), .val (.int ((0 : Int32) + (1 : Int32)))]) rfl ?_
  rw [show ((0 : Int32) + (1 : Int32)) = (1 : Int32) from by decide]
  show own_Go p e below Pst (T105.setTop (mkF m 29 #[.val (.ref a2), .val (.int (1 : Int32)), .val (.int (3 : Int32)), .val (.ref b101), .val (.int ((0 : Int32) + (1 : Int32)))] []))
  rw [show ((0 : Int32) + (1 : Int32)) = (1 : Int32) from by decide]
  show own_Go p e below Pst (T105.setTop (mkF m 29 #[.val (.ref a2), .val (.int (1 : Int32)), .val (.int (3 : Int32)), .val (.ref b101), .val (.int (1 : Int32))] []))
  refine own_x_goto X105.here hx (pc0 := 29) (pc' := 8) rfl (hb hby own_d19_29) (by decide) (by decide) ?_
  refine own_x_iload X105.here hx (hb hby own_d19_8) rfl ?_
  refine own_x_iloadN X105.here hx (hb hby own_d19_10) rfl ?_
  refine own_x_icmpNo X105.here hx (hb hby own_d19_11) rfl (tlt (by decide)).2.1 ?_
  refine own_x_aloadN X105.here hx (hb hby own_d19_14) rfl rfl ?_
  refine own_x_iload X105.here hx (hb hby own_d19_15) rfl ?_
  refine own_x_aloadN X105.here hx (hb hby own_d19_17) rfl rfl ?_
  refine own_x_iloadN X105.here hx (hb hby own_d19_18) rfl ?_
  have c107 := (c102.keep K105 (ninS ne_a2_b101 nin0))
  obtain ⟨cl108, Ar108, q108, S108, P108, H108, G108⟩ := id c107
  have hin108 : ¬ ((1 : Int32) < 0 ∨ cl108.slots.size ≤ ((1 : Int32)).toNatClampNeg) := inb_of S108 ⟨by decide, by decide⟩
  have hat108 : cl108.slots[((1 : Int32)).toNatClampNeg]? = some (.int c1) := Has.at H108 hin108 rfl
  refine own_Go.of (S' := T105.setTop (mkF m 20 #[.val (.ref a2), .val (.int (1 : Int32)), .val (.int (3 : Int32)), .val (.ref b101), .val (.int (1 : Int32))] [(.int c1), (.int (1 : Int32)), (.ref b101)])) (fun tgt kst => X105.caload hx (j := (1 : Int32)) (v := (.int c1)) (by exact Ar108.1) (State.isArrayOf_alike hZ.alike Ar108.2.1) Ar108.2.2 hin108 hat108 (g := (mkF m 19 #[.val (.ref a2), .val (.int (1 : Int32)), .val (.int (3 : Int32)), .val (.ref b101), .val (.int (1 : Int32))] [(.int (1 : Int32)), (.ref a2), (.int (1 : Int32)), (.ref b101)])) rfl rfl (hb hby own_d19_19) _ kst) ?_
  have c109 := (c104.keep K105 (allS gn_b101 all0))
  have c111 := (Nat.le_trans c106 K105.1)
  refine own_cF X105 (Jvm.LawKit.callS X105 hx (y := (⟨"java/lang/StringUTF16", "putChar", "([BII)V"⟩ : MethodName)) hown (mvT hZ (own_w92 hw)) (mvT hZ (own_w93 hw)) (mvT hZ (own_w23 hw)) (mvT hZ (own_w94 hw)) (by decide) (backOf (W := 0) (rm_put1 l Z a0 hw [] b101 kb101 (6 : Int32) c1 (([(.int (0 : Int32)), (.int (0 : Int32)), (.int (0 : Int32)), (.int (0 : Int32)), (.int (0 : Int32)), (.int (0 : Int32))].set 0 (.int (own_lo8 c0))).set 1 (.int (own_hi8 c0))) T105.heap n0 c111 c109 SU0 SU1 SU2 gn_b101 V105 (by decide) (Nat.le_of_ble_eq_true rfl)) hZ (own_w94 hw) (own_w23 hw) (by decide) (by decide)) (g := (mkF m 20 #[.val (.ref a2), .val (.int (1 : Int32)), .val (.int (3 : Int32)), .val (.ref b101), .val (.int (1 : Int32))] [(.int c1), (.int (1 : Int32)), (.ref b101)])) rfl (by rw [hml]; rfl) (argsL := [(.ref b101), (.int (1 : Int32)), (.int c1)]) (rest := []) (lenOf own_pd3 rfl) rfl (by show 2 * 0 + _ ≤ _; exact Nat.le_of_eq rfl) (hb hby own_d19_20) (fun _ _ => ⟨rfl, rfl, (by decide : 1 + 0 ≤ _), (by decide : 6 + 0 ≤ _)⟩)) fun v110 T110 L110 X110 hQ110 => ?_
  obtain ⟨rfl, Nq110, K110, V110⟩ := hQ110
  have N110 := Fr.app N105 Nq110
  show own_Go p e below Pst (T110.setTop (mkF m 23 #[.val (.ref a2), .val (.int (1 : Int32)), .val (.int (3 : Int32)), .val (.ref b101), .val (.int (1 : Int32))] []))
  refine own_x_iinc X110.here hx (hb hby own_d19_23) rfl (l' := #[.val (.ref a2), .val (.int ((1 : Int32) + (1 : Int32))), .val (.int (3 : Int32)), .val (.ref b101), .val (.int (1 : Int32))]) rfl ?_
  refine own_x_iinc X110.here hx (hb hby own_d19_26) rfl (l' := #[.val (.ref a2), .val (.int ((1 : Int32) + (1 : Int32))), .val (.int (3 : Int32)), .val (.ref b101), .val (.int ((1 : Int32) + (1 : Int32)))]) rfl ?_
  rw [show ((1 : Int32) + (1 : Int32)) = (2 : Int32) from by decide]
  show own_Go p e below Pst (T110.setTop (mkF m 29 #[.val (.ref a2), .val (.int (2 : Int32)), .val (.int (3 : Int32)), .val (.ref b101), .val (.int ((1 : Int32) + (1 : Int32)))] []))
  rw [show ((1 : Int32) + (1 : Int32)) = (2 : Int32) from by decide]
  show own_Go p e below Pst (T110.setTop (mkF m 29 #[.val (.ref a2), .val (.int (2 : Int32)), .val (.int (3 : Int32)), .val (.ref b101), .val (.int (2 : Int32))] []))
  refine own_x_goto X110.here hx (pc0 := 29) (pc' := 8) rfl (hb hby own_d19_29) (by decide) (by decide) ?_
  refine own_x_iload X110.here hx (hb hby own_d19_8) rfl ?_
  refine own_x_iloadN X110.here hx (hb hby own_d19_10) rfl ?_
  refine own_x_icmpNo X110.here hx (hb hby own_d19_11) rfl (tlt (by decide)).2.1 ?_
  refine own_x_aloadN X110.here hx (hb hby own_d19_14) rfl rfl ?_
  refine own_x_iload X110.here hx (hb hby own_d19_15) rfl ?_
  refine own_x_aloadN X110.here hx (hb hby own_d19_17) rfl rfl ?_
  refine own_x_iloadN X110.here hx (hb hby own_d19_18) rfl ?_
  have c112 := (c107.keep K110 (ninS ne_a2_b101 nin0))
  obtain ⟨cl113, Ar113, q113, S113, P113, H113, G113⟩ := id c112
  have hin113 : ¬ ((2 : Int32) < 0 ∨ cl113.slots.size ≤ ((2 : Int32)).toNatClampNeg) := inb_of S113 ⟨by decide, by decide⟩
  have hat113 : cl113.slots[((2 : Int32)).toNatClampNeg]? = some (.int c2) := Has.at H113 hin113 rfl
  refine own_Go.of (S' := T110.setTop (mkF m 20 #[.val (.ref a2), .val (.int (2 : Int32)), .val (.int (3 : Int32)), .val (.ref b101), .val (.int (2 : Int32))] [(.int c2), (.int (2 : Int32)), (.ref b101)])) (fun tgt kst => X110.caload hx (j := (2 : Int32)) (v := (.int c2)) (by exact Ar113.1) (State.isArrayOf_alike hZ.alike Ar113.2.1) Ar113.2.2 hin113 hat113 (g := (mkF m 19 #[.val (.ref a2), .val (.int (2 : Int32)), .val (.int (3 : Int32)), .val (.ref b101), .val (.int (2 : Int32))] [(.int (2 : Int32)), (.ref a2), (.int (2 : Int32)), (.ref b101)])) rfl rfl (hb hby own_d19_19) _ kst) ?_
  have c114 := (c109.keep K110 (allS gn_b101 all0))
  have c116 := (Nat.le_trans c111 K110.1)
  refine own_cF X110 (Jvm.LawKit.callS X110 hx (y := (⟨"java/lang/StringUTF16", "putChar", "([BII)V"⟩ : MethodName)) hown (mvT hZ (own_w92 hw)) (mvT hZ (own_w93 hw)) (mvT hZ (own_w23 hw)) (mvT hZ (own_w94 hw)) (by decide) (backOf (W := 0) (rm_put2 l Z a0 hw [] b101 kb101 (6 : Int32) c2 (((([(.int (0 : Int32)), (.int (0 : Int32)), (.int (0 : Int32)), (.int (0 : Int32)), (.int (0 : Int32)), (.int (0 : Int32))].set 0 (.int (own_lo8 c0))).set 1 (.int (own_hi8 c0))).set 2 (.int (own_lo8 c1))).set 3 (.int (own_hi8 c1))) T110.heap n0 c116 c114 SU0 SU1 SU2 gn_b101 V110 (by decide) (Nat.le_of_ble_eq_true rfl)) hZ (own_w94 hw) (own_w23 hw) (by decide) (by decide)) (g := (mkF m 20 #[.val (.ref a2), .val (.int (2 : Int32)), .val (.int (3 : Int32)), .val (.ref b101), .val (.int (2 : Int32))] [(.int c2), (.int (2 : Int32)), (.ref b101)])) rfl (by rw [hml]; rfl) (argsL := [(.ref b101), (.int (2 : Int32)), (.int c2)]) (rest := []) (lenOf own_pd3 rfl) rfl (by show 2 * 0 + _ ≤ _; exact Nat.le_of_eq rfl) (hb hby own_d19_20) (fun _ _ => ⟨rfl, rfl, (by decide : 1 + 0 ≤ _), (by decide : 6 + 0 ≤ _)⟩)) fun v115 T115 L115 X115 hQ115 => ?_
  obtain ⟨rfl, Nq115, K115, V115⟩ := hQ115
  have N115 := Fr.app N110 Nq115
  show own_Go p e below Pst (T115.setTop (mkF m 23 #[.val (.ref a2), .val (.int (2 : Int32)), .val (.int (3 : Int32)), .val (.ref b101), .val (.int (2 : Int32))] []))
  refine own_x_iinc X115.here hx (hb hby own_d19_23) rfl (l' := #[.val (.ref a2), .val (.int ((2 : Int32) + (1 : Int32))), .val (.int (3 : Int32)), .val (.ref b101), .val (.int (2 : Int32))]) rfl ?_
  refine own_x_iinc X115.here hx (hb hby own_d19_26) rfl (l' := #[.val (.ref a2), .val (.int ((2 : Int32) + (1 : Int32))), .val (.int (3 : Int32)), .val (.ref b101), .val (.int ((2 : Int32) + (1 : Int32)))]) rfl ?_
  rw [show ((2 : Int32) + (1 : Int32)) = (3 : Int32) from by decide]
  show own_Go p e below Pst (T115.setTop (mkF m 29 #[.val (.ref a2), .val (.int (3 : Int32)), .val (.int (3 : Int32)), .val (.ref b101), .val (.int ((2 : Int32) + (1 : Int32)))] []))
  rw [show ((2 : Int32) + (1 : Int32)) = (3 : Int32) from by decide]
  show own_Go p e below Pst (T115.setTop (mkF m 29 #[.val (.ref a2), .val (.int (3 : Int32)), .val (.int (3 : Int32)), .val (.ref b101), .val (.int (3 : Int32))] []))
  refine own_x_goto X115.here hx (pc0 := 29) (pc' := 8) rfl (hb hby own_d19_29) (by decide) (by decide) ?_
  refine own_x_iload X115.here hx (hb hby own_d19_8) rfl ?_
  refine own_x_iloadN X115.here hx (hb hby own_d19_10) rfl ?_
  refine own_x_icmpYes X115.here hx (pc0 := 11) (pc' := 32) rfl (hb hby own_d19_11) rfl (flt (by decide)).2.1 (by decide) (by decide) ?_
  refine own_x_aloadN X115.here hx (hb hby own_d19_32) rfl rfl ?_
  have c117 := (Keep.trans (Keep.trans (Keep.trans (Keep.trans (Keep.refl h0 []) K101 all0) K105 (allS (Or.inr sz_b101) all0)) K110 (allS (Or.inr sz_b101) all0)) K115 (allS (Or.inr sz_b101) all0))
  rw [hPst]
  exact own_retP X115 (v := (some (.ref b101))) (Q := Q_tob3 Z a2 kc dv c0 c1 c2 h0 n0) (fun h => by rw [Bd.returns] at h; cases h) Bd.notSynchronized (fun fs hr => retOut X115 hx Bd.returns rfl (Or.inr (Or.inr (Or.inr (Or.inr ⟨rfl, rfl, rfl⟩)))) (hb hby own_d19_33) hr) (by decide) (by decide) ⟨_, rfl, N115, c117, sz_b101, _, V115⟩
def Q_cmp3_0 (Z : State) (a2 : Addr) (kc : ClassId) (dv : Value) (c0 c1 c2 : Int32) (d : Addr) (kd : ClassId) (h0 : Heap) (n0 : Nat) (v : Option Value) (h : Heap) (L : List Loc) : Prop := v = some (.int (0 : Int32)) ∧ Fr n0 L ∧ Keep h0 h [d]
theorem rm_cmp3_0 (l : Launch) (Z : State) (a0 : Array Value) (hw : own_H a0 Z) (ws : List Jvm.Cond) (a2 : Addr) (kc : ClassId) (dv : Value) (c0 c1 c2 : Int32) (d : Addr) (kd : ClassId) (h0 : Heap) (n0 : Nat) (Z0 : n0 ≤ h0.size) (A1 : Arv Z h0 a2 kc .char (3 : Int32) [(.int c0), (.int c1), (.int c2)] dv) (A2 : Arv Z h0 d kd .byte (3 : Int32) [(.int (0 : Int32)), (.int (0 : Int32)), (.int (0 : Int32))] (.int (0 : Int32))) (gd : n0 ≤ d) (ne : a2 ≠ d) (u : (255 : Int32) < c0) : own_MP l (⟨"java/lang/StringUTF16", "compress", "([CI[BII)I"⟩ : MethodName) jdk_52_method_21_code 7 (some .int) ws ({ frames := 0, cells := 0, slots := 0, locals := 0 } : Room) Z h0 #[(.ref a2), (.int (0 : Int32)), (.ref d), (.int (0 : Int32)), (.int (3 : Int32))] (fun _ _ _ _ _ => True) (Q_cmp3_0 Z a2 kc dv c0 c1 c2 d kd h0 n0) := by
  refine own_startP (plainFor_of_name own_pn_java_lang_StringUTF16) fun p e s m below meth c s₁ Bd hx hby hml hown0 X0 e0 hh0 hZ hK Pst hPst => ?_
  have hown : s.vm.findClass "java/lang/StringUTF16" = some m.cls := hown0
  have hnm := (name_of_methodNamed Bd.named Bd.method).1
  have N0 := Fr.nil n0
  rw [own_ef_RIRII_7 m a2 (0 : Int32) d (0 : Int32) (3 : Int32)]
  refine own_x_iconst X0.here hx (hb hby own_d6_0) (z := (0 : Int32)) rfl ?_
  refine own_x_istore X0.here hx (hb hby own_d6_1) rfl (l' := #[.val (.ref a2), .val (.int (0 : Int32)), .val (.ref d), .val (.int (0 : Int32)), .val (.int (3 : Int32)), .val (.int (0 : Int32)), .unset]) rfl ?_
  refine own_x_iload X0.here hx (hb hby own_d6_3) rfl ?_
  refine own_x_iload X0.here hx (hb hby own_d6_5) rfl ?_
  refine own_x_icmpNo X0.here hx (hb hby own_d6_7) rfl (tlt (by decide)).2.1 ?_
  refine own_x_aloadN X0.here hx (hb hby own_d6_10) rfl rfl ?_
  refine own_x_iloadN X0.here hx (hb hby own_d6_11) rfl ?_
  obtain ⟨cl101, Ar101, q101, S101, P101, H101, G101⟩ := id A1
  have hin101 : ¬ ((0 : Int32) < 0 ∨ cl101.slots.size ≤ ((0 : Int32)).toNatClampNeg) := inb_of S101 ⟨by decide, by decide⟩
  have hat101 : cl101.slots[((0 : Int32)).toNatClampNeg]? = some (.int c0) := Has.at H101 hin101 rfl
  refine own_Go.of (S' := s₁.setTop (mkF m 13 #[.val (.ref a2), .val (.int (0 : Int32)), .val (.ref d), .val (.int (0 : Int32)), .val (.int (3 : Int32)), .val (.int (0 : Int32)), .unset] [(.int c0)])) (fun tgt kst => X0.caload hx (j := (0 : Int32)) (v := (.int c0)) (by rw [e0]; exact Ar101.1) (State.isArrayOf_alike hZ.alike Ar101.2.1) Ar101.2.2 hin101 hat101 (g := (mkF m 12 #[.val (.ref a2), .val (.int (0 : Int32)), .val (.ref d), .val (.int (0 : Int32)), .val (.int (3 : Int32)), .val (.int (0 : Int32)), .unset] [(.int (0 : Int32)), (.ref a2)])) rfl rfl (hb hby own_d6_12) _ kst) ?_
  refine own_x_istore X0.here hx (hb hby own_d6_13) rfl (l' := #[.val (.ref a2), .val (.int (0 : Int32)), .val (.ref d), .val (.int (0 : Int32)), .val (.int (3 : Int32)), .val (.int (0 : Int32)), .val (.int c0)]) rfl ?_
  refine own_x_iload X0.here hx (hb hby own_d6_15) rfl ?_
  refine own_x_sipush X0.here hx (hb hby own_d6_17) (z := (255 : Int32)) rfl ?_
  refine own_x_icmpNo X0.here hx (hb hby own_d6_20) rfl (tlt u).2.2.2 ?_
  refine own_x_iload X0.here hx (hb hby own_d6_23) rfl ?_
  rw [hPst]
  exact own_retP X0 (v := (some (.int (0 : Int32)))) (Q := Q_cmp3_0 Z a2 kc dv c0 c1 c2 d kd h0 n0) (fun h => by rw [Bd.returns] at h; cases h) Bd.notSynchronized (fun fs hr => own_retI X0 hx Bd.returns (hb hby own_d6_25) hr) (by decide) (by decide) (by rw [e0]; exact ⟨rfl, N0, (Keep.refl h0 [d])⟩)
def Q_cmp3_1 (Z : State) (a2 : Addr) (kc : ClassId) (dv : Value) (c0 c1 c2 : Int32) (d : Addr) (kd : ClassId) (h0 : Heap) (n0 : Nat) (v : Option Value) (h : Heap) (L : List Loc) : Prop := v = some (.int (1 : Int32)) ∧ Fr n0 L ∧ Keep h0 h [d]
theorem rm_cmp3_1 (l : Launch) (Z : State) (a0 : Array Value) (hw : own_H a0 Z) (ws : List Jvm.Cond) (a2 : Addr) (kc : ClassId) (dv : Value) (c0 c1 c2 : Int32) (d : Addr) (kd : ClassId) (h0 : Heap) (n0 : Nat) (Z0 : n0 ≤ h0.size) (A1 : Arv Z h0 a2 kc .char (3 : Int32) [(.int c0), (.int c1), (.int c2)] dv) (A2 : Arv Z h0 d kd .byte (3 : Int32) [(.int (0 : Int32)), (.int (0 : Int32)), (.int (0 : Int32))] (.int (0 : Int32))) (gd : n0 ≤ d) (ne : a2 ≠ d) (l0 : ¬ (255 : Int32) < c0) (u : (255 : Int32) < c1) : own_MP l (⟨"java/lang/StringUTF16", "compress", "([CI[BII)I"⟩ : MethodName) jdk_52_method_21_code 7 (some .int) ws ({ frames := 0, cells := 0, slots := 0, locals := 0 } : Room) Z h0 #[(.ref a2), (.int (0 : Int32)), (.ref d), (.int (0 : Int32)), (.int (3 : Int32))] (fun _ _ _ _ _ => True) (Q_cmp3_1 Z a2 kc dv c0 c1 c2 d kd h0 n0) := by
  refine own_startP (plainFor_of_name own_pn_java_lang_StringUTF16) fun p e s m below meth c s₁ Bd hx hby hml hown0 X0 e0 hh0 hZ hK Pst hPst => ?_
  have hown : s.vm.findClass "java/lang/StringUTF16" = some m.cls := hown0
  have hnm := (name_of_methodNamed Bd.named Bd.method).1
  have N0 := Fr.nil n0
  rw [own_ef_RIRII_7 m a2 (0 : Int32) d (0 : Int32) (3 : Int32)]
  refine own_x_iconst X0.here hx (hb hby own_d6_0) (z := (0 : Int32)) rfl ?_
  refine own_x_istore X0.here hx (hb hby own_d6_1) rfl (l' := #[.val (.ref a2), .val (.int (0 : Int32)), .val (.ref d), .val (.int (0 : Int32)), .val (.int (3 : Int32)), .val (.int (0 : Int32)), .unset]) rfl ?_
  refine own_x_iload X0.here hx (hb hby own_d6_3) rfl ?_
  refine own_x_iload X0.here hx (hb hby own_d6_5) rfl ?_
  refine own_x_icmpNo X0.here hx (hb hby own_d6_7) rfl (tlt (by decide)).2.1 ?_
  refine own_x_aloadN X0.here hx (hb hby own_d6_10) rfl rfl ?_
  refine own_x_iloadN X0.here hx (hb hby own_d6_11) rfl ?_
  obtain ⟨cl101, Ar101, q101, S101, P101, H101, G101⟩ := id A1
  have hin101 : ¬ ((0 : Int32) < 0 ∨ cl101.slots.size ≤ ((0 : Int32)).toNatClampNeg) := inb_of S101 ⟨by decide, by decide⟩
  have hat101 : cl101.slots[((0 : Int32)).toNatClampNeg]? = some (.int c0) := Has.at H101 hin101 rfl
  refine own_Go.of (S' := s₁.setTop (mkF m 13 #[.val (.ref a2), .val (.int (0 : Int32)), .val (.ref d), .val (.int (0 : Int32)), .val (.int (3 : Int32)), .val (.int (0 : Int32)), .unset] [(.int c0)])) (fun tgt kst => X0.caload hx (j := (0 : Int32)) (v := (.int c0)) (by rw [e0]; exact Ar101.1) (State.isArrayOf_alike hZ.alike Ar101.2.1) Ar101.2.2 hin101 hat101 (g := (mkF m 12 #[.val (.ref a2), .val (.int (0 : Int32)), .val (.ref d), .val (.int (0 : Int32)), .val (.int (3 : Int32)), .val (.int (0 : Int32)), .unset] [(.int (0 : Int32)), (.ref a2)])) rfl rfl (hb hby own_d6_12) _ kst) ?_
  refine own_x_istore X0.here hx (hb hby own_d6_13) rfl (l' := #[.val (.ref a2), .val (.int (0 : Int32)), .val (.ref d), .val (.int (0 : Int32)), .val (.int (3 : Int32)), .val (.int (0 : Int32)), .val (.int c0)]) rfl ?_
  refine own_x_iload X0.here hx (hb hby own_d6_15) rfl ?_
  refine own_x_sipush X0.here hx (hb hby own_d6_17) (z := (255 : Int32)) rfl ?_
  refine own_x_icmpYes X0.here hx (pc0 := 20) (pc' := 26) rfl (hb hby own_d6_20) rfl (flt l0).2.2.2 (by decide) (by decide) ?_
  refine own_x_aloadN X0.here hx (hb hby own_d6_26) rfl rfl ?_
  refine own_x_iloadN X0.here hx (hb hby own_d6_27) rfl ?_
  refine own_x_iload X0.here hx (hb hby own_d6_28) rfl ?_
  refine own_x_i2b X0.here hx (hb hby own_d6_30) rfl ?_
  refine own_h_arB X0 hx hZ e0 A2 (0 : Int32) 0 ⟨by decide, by decide⟩ rfl (Nat.le_of_ble_eq_true rfl) rfl (hb hby own_d6_31) fun T102 h102 X102 e102 W102 V102 => ?_
  have N102 := Fr.snoc X102 N0 gd
  refine own_x_iinc X102.here hx (hb hby own_d6_32) rfl (l' := #[.val (.ref a2), .val (.int ((0 : Int32) + (1 : Int32))), .val (.ref d), .val (.int (0 : Int32)), .val (.int (3 : Int32)), .val (.int (0 : Int32)), .val (.int c0)]) rfl ?_
  refine own_x_iinc X102.here hx (hb hby own_d6_35) rfl (l' := #[.val (.ref a2), .val (.int ((0 : Int32) + (1 : Int32))), .val (.ref d), .val (.int ((0 : Int32) + (1 : Int32))), .val (.int (3 : Int32)), .val (.int (0 : Int32)), .val (.int c0)]) rfl ?_
  refine own_x_iinc X102.here hx (hb hby own_d6_38) rfl (l' := #[.val (.ref a2), .val (.int ((0 : Int32) + (1 : Int32))), .val (.ref d), .val (.int ((0 : Int32) + (1 : Int32))), .val (.int (3 : Int32)), .val (.int ((0 : Int32) + (1 : Int32))), .val (.int c0)]) rfl ?_
  rw [show ((0 : Int32) + (1 : Int32)) = (1 : Int32) from by decide]
  show own_Go p e below Pst (T102.setTop (mkF m 41 #[.val (.ref a2), .val (.int (1 : Int32)), .val (.ref d), .val (.int ((0 : Int32) + (1 : Int32))), .val (.int (3 : Int32)), .val (.int ((0 : Int32) + (1 : Int32))), .val (.int c0)] []))
  rw [show ((0 : Int32) + (1 : Int32)) = (1 : Int32) from by decide]
  show own_Go p e below Pst (T102.setTop (mkF m 41 #[.val (.ref a2), .val (.int (1 : Int32)), .val (.ref d), .val (.int (1 : Int32)), .val (.int (3 : Int32)), .val (.int ((0 : Int32) + (1 : Int32))), .val (.int c0)] []))
  rw [show ((0 : Int32) + (1 : Int32)) = (1 : Int32) from by decide]
  show own_Go p e below Pst (T102.setTop (mkF m 41 #[.val (.ref a2), .val (.int (1 : Int32)), .val (.ref d), .val (.int (1 : Int32)), .val (.int (3 : Int32)), .val (.int (1 : Int32)), .val (.int c0)] []))
  refine own_x_goto X102.here hx (pc0 := 41) (pc' := 3) rfl (hb hby own_d6_41) (by decide) (by decide) ?_
  refine own_x_iload X102.here hx (hb hby own_d6_3) rfl ?_
  refine own_x_iload X102.here hx (hb hby own_d6_5) rfl ?_
  refine own_x_icmpNo X102.here hx (hb hby own_d6_7) rfl (tlt (by decide)).2.1 ?_
  refine own_x_aloadN X102.here hx (hb hby own_d6_10) rfl rfl ?_
  refine own_x_iloadN X102.here hx (hb hby own_d6_11) rfl ?_
  have c103 := (A1.other W102 ne)
  obtain ⟨cl104, Ar104, q104, S104, P104, H104, G104⟩ := id c103
  have hin104 : ¬ ((1 : Int32) < 0 ∨ cl104.slots.size ≤ ((1 : Int32)).toNatClampNeg) := inb_of S104 ⟨by decide, by decide⟩
  have hat104 : cl104.slots[((1 : Int32)).toNatClampNeg]? = some (.int c1) := Has.at H104 hin104 rfl
  refine own_Go.of (S' := T102.setTop (mkF m 13 #[.val (.ref a2), .val (.int (1 : Int32)), .val (.ref d), .val (.int (1 : Int32)), .val (.int (3 : Int32)), .val (.int (1 : Int32)), .val (.int c0)] [(.int c1)])) (fun tgt kst => X102.caload hx (j := (1 : Int32)) (v := (.int c1)) (by rw [e102]; exact Ar104.1) (State.isArrayOf_alike hZ.alike Ar104.2.1) Ar104.2.2 hin104 hat104 (g := (mkF m 12 #[.val (.ref a2), .val (.int (1 : Int32)), .val (.ref d), .val (.int (1 : Int32)), .val (.int (3 : Int32)), .val (.int (1 : Int32)), .val (.int c0)] [(.int (1 : Int32)), (.ref a2)])) rfl rfl (hb hby own_d6_12) _ kst) ?_
  refine own_x_istore X102.here hx (hb hby own_d6_13) rfl (l' := #[.val (.ref a2), .val (.int (1 : Int32)), .val (.ref d), .val (.int (1 : Int32)), .val (.int (3 : Int32)), .val (.int (1 : Int32)), .val (.int c1)]) rfl ?_
  refine own_x_iload X102.here hx (hb hby own_d6_15) rfl ?_
  refine own_x_sipush X102.here hx (hb hby own_d6_17) (z := (255 : Int32)) rfl ?_
  refine own_x_icmpNo X102.here hx (hb hby own_d6_20) rfl (tlt u).2.2.2 ?_
  refine own_x_iload X102.here hx (hb hby own_d6_23) rfl ?_
  have c105 := ((Keep.refl h0 [d]).wr W102 (Or.inl (List.mem_of_getElem? (i := 0) rfl)))
  rw [hPst]
  exact own_retP X102 (v := (some (.int (1 : Int32)))) (Q := Q_cmp3_1 Z a2 kc dv c0 c1 c2 d kd h0 n0) (fun h => by rw [Bd.returns] at h; cases h) Bd.notSynchronized (fun fs hr => own_retI X102 hx Bd.returns (hb hby own_d6_25) hr) (by decide) (by decide) (by rw [e102]; exact ⟨rfl, N102, c105⟩)
def Q_cmp3_2 (Z : State) (a2 : Addr) (kc : ClassId) (dv : Value) (c0 c1 c2 : Int32) (d : Addr) (kd : ClassId) (h0 : Heap) (n0 : Nat) (v : Option Value) (h : Heap) (L : List Loc) : Prop := v = some (.int (2 : Int32)) ∧ Fr n0 L ∧ Keep h0 h [d]
theorem rm_cmp3_2 (l : Launch) (Z : State) (a0 : Array Value) (hw : own_H a0 Z) (ws : List Jvm.Cond) (a2 : Addr) (kc : ClassId) (dv : Value) (c0 c1 c2 : Int32) (d : Addr) (kd : ClassId) (h0 : Heap) (n0 : Nat) (Z0 : n0 ≤ h0.size) (A1 : Arv Z h0 a2 kc .char (3 : Int32) [(.int c0), (.int c1), (.int c2)] dv) (A2 : Arv Z h0 d kd .byte (3 : Int32) [(.int (0 : Int32)), (.int (0 : Int32)), (.int (0 : Int32))] (.int (0 : Int32))) (gd : n0 ≤ d) (ne : a2 ≠ d) (l0 : ¬ (255 : Int32) < c0) (l1 : ¬ (255 : Int32) < c1) (u : (255 : Int32) < c2) : own_MP l (⟨"java/lang/StringUTF16", "compress", "([CI[BII)I"⟩ : MethodName) jdk_52_method_21_code 7 (some .int) ws ({ frames := 0, cells := 0, slots := 0, locals := 0 } : Room) Z h0 #[(.ref a2), (.int (0 : Int32)), (.ref d), (.int (0 : Int32)), (.int (3 : Int32))] (fun _ _ _ _ _ => True) (Q_cmp3_2 Z a2 kc dv c0 c1 c2 d kd h0 n0) := by
  refine own_startP (plainFor_of_name own_pn_java_lang_StringUTF16) fun p e s m below meth c s₁ Bd hx hby hml hown0 X0 e0 hh0 hZ hK Pst hPst => ?_
  have hown : s.vm.findClass "java/lang/StringUTF16" = some m.cls := hown0
  have hnm := (name_of_methodNamed Bd.named Bd.method).1
  have N0 := Fr.nil n0
  rw [own_ef_RIRII_7 m a2 (0 : Int32) d (0 : Int32) (3 : Int32)]
  refine own_x_iconst X0.here hx (hb hby own_d6_0) (z := (0 : Int32)) rfl ?_
  refine own_x_istore X0.here hx (hb hby own_d6_1) rfl (l' := #[.val (.ref a2), .val (.int (0 : Int32)), .val (.ref d), .val (.int (0 : Int32)), .val (.int (3 : Int32)), .val (.int (0 : Int32)), .unset]) rfl ?_
  refine own_x_iload X0.here hx (hb hby own_d6_3) rfl ?_
  refine own_x_iload X0.here hx (hb hby own_d6_5) rfl ?_
  refine own_x_icmpNo X0.here hx (hb hby own_d6_7) rfl (tlt (by decide)).2.1 ?_
  refine own_x_aloadN X0.here hx (hb hby own_d6_10) rfl rfl ?_
  refine own_x_iloadN X0.here hx (hb hby own_d6_11) rfl ?_
  obtain ⟨cl101, Ar101, q101, S101, P101, H101, G101⟩ := id A1
  have hin101 : ¬ ((0 : Int32) < 0 ∨ cl101.slots.size ≤ ((0 : Int32)).toNatClampNeg) := inb_of S101 ⟨by decide, by decide⟩
  have hat101 : cl101.slots[((0 : Int32)).toNatClampNeg]? = some (.int c0) := Has.at H101 hin101 rfl
  refine own_Go.of (S' := s₁.setTop (mkF m 13 #[.val (.ref a2), .val (.int (0 : Int32)), .val (.ref d), .val (.int (0 : Int32)), .val (.int (3 : Int32)), .val (.int (0 : Int32)), .unset] [(.int c0)])) (fun tgt kst => X0.caload hx (j := (0 : Int32)) (v := (.int c0)) (by rw [e0]; exact Ar101.1) (State.isArrayOf_alike hZ.alike Ar101.2.1) Ar101.2.2 hin101 hat101 (g := (mkF m 12 #[.val (.ref a2), .val (.int (0 : Int32)), .val (.ref d), .val (.int (0 : Int32)), .val (.int (3 : Int32)), .val (.int (0 : Int32)), .unset] [(.int (0 : Int32)), (.ref a2)])) rfl rfl (hb hby own_d6_12) _ kst) ?_
  refine own_x_istore X0.here hx (hb hby own_d6_13) rfl (l' := #[.val (.ref a2), .val (.int (0 : Int32)), .val (.ref d), .val (.int (0 : Int32)), .val (.int (3 : Int32)), .val (.int (0 : Int32)), .val (.int c0)]) rfl ?_
  refine own_x_iload X0.here hx (hb hby own_d6_15) rfl ?_
  refine own_x_sipush X0.here hx (hb hby own_d6_17) (z := (255 : Int32)) rfl ?_
  refine own_x_icmpYes X0.here hx (pc0 := 20) (pc' := 26) rfl (hb hby own_d6_20) rfl (flt l0).2.2.2 (by decide) (by decide) ?_
  refine own_x_aloadN X0.here hx (hb hby own_d6_26) rfl rfl ?_
  refine own_x_iloadN X0.here hx (hb hby own_d6_27) rfl ?_
  refine own_x_iload X0.here hx (hb hby own_d6_28) rfl ?_
  refine own_x_i2b X0.here hx (hb hby own_d6_30) rfl ?_
  refine own_h_arB X0 hx hZ e0 A2 (0 : Int32) 0 ⟨by decide, by decide⟩ rfl (Nat.le_of_ble_eq_true rfl) rfl (hb hby own_d6_31) fun T102 h102 X102 e102 W102 V102 => ?_
  have N102 := Fr.snoc X102 N0 gd
  refine own_x_iinc X102.here hx (hb hby own_d6_32) rfl (l' := #[.val (.ref a2), .val (.int ((0 : Int32) + (1 : Int32))), .val (.ref d), .val (.int (0 : Int32)), .val (.int (3 : Int32)), .val (.int (0 : Int32)), .val (.int c0)]) rfl ?_
  refine own_x_iinc X102.here hx (hb hby own_d6_35) rfl (l' := #[.val (.ref a2), .val (.int ((0 : Int32) + (1 : Int32))), .val (.ref d), .val (.int ((0 : Int32) + (1 : Int32))), .val (.int (3 : Int32)), .val (.int (0 : Int32)), .val (.int c0)]) rfl ?_
  refine own_x_iinc X102.here hx (hb hby own_d6_38) rfl (l' := #[.val (.ref a2), .val (.int ((0 : Int32) + (1 : Int32))), .val (.ref d), .val (.int ((0 : Int32) + (1 : Int32))), .val (.int (3 : Int32)), .val (.int ((0 : Int32) + (1 : Int32))), .val (.int c0)]) rfl ?_
  rw [show ((0 : Int32) + (1 : Int32)) = (1 : Int32) from by decide]
  show own_Go p e below Pst (T102.setTop (mkF m 41 #[.val (.ref a2), .val (.int (1 : Int32)), .val (.ref d), .val (.int ((0 : Int32) + (1 : Int32))), .val (.int (3 : Int32)), .val (.int ((0 : Int32) + (1 : Int32))), .val (.int c0)] []))
  rw [show ((0 : Int32) + (1 : Int32)) = (1 : Int32) from by decide]
  show own_Go p e below Pst (T102.setTop (mkF m 41 #[.val (.ref a2), .val (.int (1 : Int32)), .val (.ref d), .val (.int (1 : Int32)), .val (.int (3 : Int32)), .val (.int ((0 : Int32) + (1 : Int32))), .val (.int c0)] []))
  rw [show ((0 : Int32) + (1 : Int32)) = (1 : Int32) from by decide]
  show own_Go p e below Pst (T102.setTop (mkF m 41 #[.val (.ref a2), .val (.int (1 : Int32)), .val (.ref d), .val (.int (1 : Int32)), .val (.int (3 : Int32)), .val (.int (1 : Int32)), .val (.int c0)] []))
  refine own_x_goto X102.here hx (pc0 := 41) (pc' := 3) rfl (hb hby own_d6_41) (by decide) (by decide) ?_
  refine own_x_iload X102.here hx (hb hby own_d6_3) rfl ?_
  refine own_x_iload X102.here hx (hb hby own_d6_5) rfl ?_
  refine own_x_icmpNo X102.here hx (hb hby own_d6_7) rfl (tlt (by decide)).2.1 ?_
  refine own_x_aloadN X102.here hx (hb hby own_d6_10) rfl rfl ?_
  refine own_x_iloadN X102.here hx (hb hby own_d6_11) rfl ?_
  have c103 := (A1.other W102 ne)
  obtain ⟨cl104, Ar104, q104, S104, P104, H104, G104⟩ := id c103
  have hin104 : ¬ ((1 : Int32) < 0 ∨ cl104.slots.size ≤ ((1 : Int32)).toNatClampNeg) := inb_of S104 ⟨by decide, by decide⟩
  have hat104 : cl104.slots[((1 : Int32)).toNatClampNeg]? = some (.int c1) := Has.at H104 hin104 rfl
  refine own_Go.of (S' := T102.setTop (mkF m 13 #[.val (.ref a2), .val (.int (1 : Int32)), .val (.ref d), .val (.int (1 : Int32)), .val (.int (3 : Int32)), .val (.int (1 : Int32)), .val (.int c0)] [(.int c1)])) (fun tgt kst => X102.caload hx (j := (1 : Int32)) (v := (.int c1)) (by rw [e102]; exact Ar104.1) (State.isArrayOf_alike hZ.alike Ar104.2.1) Ar104.2.2 hin104 hat104 (g := (mkF m 12 #[.val (.ref a2), .val (.int (1 : Int32)), .val (.ref d), .val (.int (1 : Int32)), .val (.int (3 : Int32)), .val (.int (1 : Int32)), .val (.int c0)] [(.int (1 : Int32)), (.ref a2)])) rfl rfl (hb hby own_d6_12) _ kst) ?_
  refine own_x_istore X102.here hx (hb hby own_d6_13) rfl (l' := #[.val (.ref a2), .val (.int (1 : Int32)), .val (.ref d), .val (.int (1 : Int32)), .val (.int (3 : Int32)), .val (.int (1 : Int32)), .val (.int c1)]) rfl ?_
  refine own_x_iload X102.here hx (hb hby own_d6_15) rfl ?_
  refine own_x_sipush X102.here hx (hb hby own_d6_17) (z := (255 : Int32)) rfl ?_
  refine own_x_icmpYes X102.here hx (pc0 := 20) (pc' := 26) rfl (hb hby own_d6_20) rfl (flt l1).2.2.2 (by decide) (by decide) ?_
  refine own_x_aloadN X102.here hx (hb hby own_d6_26) rfl rfl ?_
  refine own_x_iloadN X102.here hx (hb hby own_d6_27) rfl ?_
  refine own_x_iload X102.here hx (hb hby own_d6_28) rfl ?_
  refine own_x_i2b X102.here hx (hb hby own_d6_30) rfl ?_
  refine own_h_arB X102 hx hZ e102 V102 (1 : Int32) 1 ⟨by decide, by decide⟩ rfl (Nat.le_of_ble_eq_true rfl) rfl (hb hby own_d6_31) fun T105 h105 X105 e105 W105 V105 => ?_
  have N105 := Fr.snoc X105 N102 gd
  refine own_x_iinc X105.here hx (hb hby own_d6_32) rfl (l' := #[.val (.ref a2), .val (.int ((1 : Int32) + (1 : Int32))), .val (.ref d), .val (.int (1 : Int32)), .val (.int (3 : Int32)), .val (.int (1 : Int32)), .val (.int c1)]) rfl ?_
  refine own_x_iinc X105.here hx (hb hby own_d6_35) rfl (l' := #[.val (.ref a2), .val (.int ((1 : Int32) + (1 : Int32))), .val (.ref d), .val (.int ((1 : Int32) + (1 : Int32))), .val (.int (3 : Int32)), .val (.int (1 : Int32)), .val (.int c1)]) rfl ?_
  refine own_x_iinc X105.here hx (hb hby own_d6_38) rfl (l' := #[.val (.ref a2), .val (.int ((1 : Int32) + (1 : Int32))), .val (.ref d), .val (.int ((1 : Int32) + (1 : Int32))), .val (.int (3 : Int32)), .val (.int ((1 : Int32) + (1 : Int32))), .val (.int c1)]) rfl ?_
  rw [show ((1 : Int32) + (1 : Int32)) = (2 : Int32) from by decide]
  show own_Go p e below Pst (T105.setTop (mkF m 41 #[.val (.ref a2), .val (.int (2 : Int32)), .val (.ref d), .val (.int ((1 : Int32) + (1 : Int32))), .val (.int (3 : Int32)), .val (.int ((1 : Int32) + (1 : Int32))), .val (.int c1)] []))
  rw [show ((1 : Int32) + (1 : Int32)) = (2 : Int32) from by decide]
  show own_Go p e below Pst (T105.setTop (mkF m 41 #[.val (.ref a2), .val (.int (2 : Int32)), .val (.ref d), .val (.int (2 : Int32)), .val (.int (3 : Int32)), .val (.int ((1 : Int32) + (1 : Int32))), .val (.int c1)] []))
  rw [show ((1 : Int32) + (1 : Int32)) = (2 : Int32) from by decide]
  show own_Go p e below Pst (T105.setTop (mkF m 41 #[.val (.ref a2), .val (.int (2 : Int32)), .val (.ref d), .val (.int (2 : Int32)), .val (.int (3 : Int32)), .val (.int (2 : Int32)), .val (.int c1)] []))
  refine own_x_goto X105.here hx (pc0 := 41) (pc' := 3) rfl (hb hby own_d6_41) (by decide) (by decide) ?_
  refine own_x_iload X105.here hx (hb hby own_d6_3) rfl ?_
  refine own_x_iload X105.here hx (hb hby own_d6_5) rfl ?_
  refine own_x_icmpNo X105.here hx (hb hby own_d6_7) rfl (tlt (by decide)).2.1 ?_
  refine own_x_aloadN X105.here hx (hb hby own_d6_10) rfl rfl ?_
  refine own_x_iloadN X105.here hx (hb hby own_d6_11) rfl ?_
  have c106 := (c103.other W105 ne)
  obtain ⟨cl107, Ar107, q107, S107, P107, H107, G107⟩ := id c106
  have hin107 : ¬ ((2 : Int32) < 0 ∨ cl107.slots.size ≤ ((2 : Int32)).toNatClampNeg) := inb_of S107 ⟨by decide, by decide⟩
  have hat107 : cl107.slots[((2 : Int32)).toNatClampNeg]? = some (.int c2) := Has.at H107 hin107 rfl
  refine own_Go.of (S' := T105.setTop (mkF m 13 #[.val (.ref a2), .val (.int (2 : Int32)), .val (.ref d), .val (.int (2 : Int32)), .val (.int (3 : Int32)), .val (.int (2 : Int32)), .val (.int c1)] [(.int c2)])) (fun tgt kst => X105.caload hx (j := (2 : Int32)) (v := (.int c2)) (by rw [e105]; exact Ar107.1) (State.isArrayOf_alike hZ.alike Ar107.2.1) Ar107.2.2 hin107 hat107 (g := (mkF m 12 #[.val (.ref a2), .val (.int (2 : Int32)), .val (.ref d), .val (.int (2 : Int32)), .val (.int (3 : Int32)), .val (.int (2 : Int32)), .val (.int c1)] [(.int (2 : Int32)), (.ref a2)])) rfl rfl (hb hby own_d6_12) _ kst) ?_
  refine own_x_istore X105.here hx (hb hby own_d6_13) rfl (l' := #[.val (.ref a2), .val (.int (2 : Int32)), .val (.ref d), .val (.int (2 : Int32)), .val (.int (3 : Int32)), .val (.int (2 : Int32)), .val (.int c2)]) rfl ?_
  refine own_x_iload X105.here hx (hb hby own_d6_15) rfl ?_
  refine own_x_sipush X105.here hx (hb hby own_d6_17) (z := (255 : Int32)) rfl ?_
  refine own_x_icmpNo X105.here hx (hb hby own_d6_20) rfl (tlt u).2.2.2 ?_
  refine own_x_iload X105.here hx (hb hby own_d6_23) rfl ?_
  have c108 := (((Keep.refl h0 [d]).wr W102 (Or.inl (List.mem_of_getElem? (i := 0) rfl))).wr W105 (Or.inl (List.mem_of_getElem? (i := 0) rfl)))
  rw [hPst]
  exact own_retP X105 (v := (some (.int (2 : Int32)))) (Q := Q_cmp3_2 Z a2 kc dv c0 c1 c2 d kd h0 n0) (fun h => by rw [Bd.returns] at h; cases h) Bd.notSynchronized (fun fs hr => own_retI X105 hx Bd.returns (hb hby own_d6_25) hr) (by decide) (by decide) (by rw [e105]; exact ⟨rfl, N105, c108⟩)
def Q_cu3 (Z : State) (a2 : Addr) (kc : ClassId) (dv : Value) (c0 c1 c2 : Int32) (h0 : Heap) (n0 : Nat) (v : Option Value) (h : Heap) (L : List Loc) : Prop := ∃ (b : Addr), v = some (.ref b) ∧ Fr n0 L ∧ Keep h0 h [] ∧ h0.size ≤ b ∧ ∃ kb : ClassId, Arv Z h b kb .byte (6 : Int32) (own_u16 [c0, c1, c2]) (.int 0)
theorem rm_cu3 (l : Launch) (Z : State) (a0 : Array Value) (hw : own_H a0 Z) (ws : List Jvm.Cond) (a2 : Addr) (kc : ClassId) (dv : Value) (c0 c1 c2 : Int32) (h0 : Heap) (n0 : Nat) (Z0 : n0 ≤ h0.size) (O : Old Z n0 h0) (SU0 : Sta Z Z.heap "java/lang/StringUTF16" "$assertionsDisabled" "Z" (.int (1 : Int32))) (SU1 : Sta Z Z.heap "java/lang/StringUTF16" "HI_BYTE_SHIFT" "I" (.int (0 : Int32))) (SU2 : Sta Z Z.heap "java/lang/StringUTF16" "LO_BYTE_SHIFT" "I" (.int (8 : Int32))) (A1 : Arv Z h0 a2 kc .char (3 : Int32) [(.int c0), (.int c1), (.int c2)] dv) (hr : ¬ c0 < 0 ∧ ¬ (65535 : Int32) < c0 ∧ ¬ c1 < 0 ∧ ¬ (65535 : Int32) < c1 ∧ ¬ c2 < 0 ∧ ¬ (65535 : Int32) < c2) (hbad : ¬ (¬ (255 : Int32) < c0 ∧ ¬ (255 : Int32) < c1 ∧ ¬ (255 : Int32) < c2)) : own_MP l (⟨"java/lang/StringUTF16", "compress", "([CII)[B"⟩ : MethodName) jdk_52_method_16_code 6 (some (.array .byte)) ws ({ frames := 3, cells := 2, slots := 9, locals := 40 } : Room) Z h0 #[(.ref a2), (.int (0 : Int32)), (.int (3 : Int32))] (fun _ _ _ _ _ => True) (Q_cu3 Z a2 kc dv c0 c1 c2 h0 n0) := by
  refine own_startP (plainFor_of_name own_pn_java_lang_StringUTF16) fun p e s m below meth c s₁ Bd hx hby hml hown0 X0 e0 hh0 hZ hK Pst hPst => ?_
  have hown : s.vm.findClass "java/lang/StringUTF16" = some m.cls := hown0
  have hnm := (name_of_methodNamed Bd.named Bd.method).1
  have N0 := Fr.nil n0
  rw [own_ef_RII_6 m a2 (0 : Int32) (3 : Int32)]
  refine own_x_iloadN X0.here hx (hb hby own_d5_0) rfl ?_
  refine own_h_newP (aty := .byte) X0 hx hZ (own_w25 hw) e0 (hb hby own_d5_1) rfl (by decide) (cap := 3) (by decide) (by decide) (by decide) (by decide) fun T101 h101 k101 b101 g101 X101 e101 E101 A101 => ?_
  have ne_a2_b101 : a2 ≠ b101 := Nat.ne_of_lt (Nat.lt_of_lt_of_le A1.lt (Nat.le_of_eq g101.symm))
  have gn_b101 : n0 ≤ b101 := Nat.le_trans Z0 (Nat.le_of_eq g101.symm)
  have sz_b101 : h0.size ≤ b101 := Nat.le_trans (Keep.refl h0 []).1 (Nat.le_of_eq g101.symm)
  have V101 : Arv Z h101 b101 k101 .byte (3 : Int32) [(.int (0 : Int32)), (.int (0 : Int32)), (.int (0 : Int32))] (.int (0 : Int32)) := (Arv.new A101 (by decide)).pad (pad_rep [] (.int (0 : Int32)) 3)
  refine own_x_astoreN X101.here hx (hb hby own_d5_3) rfl rfl (l' := #[.val (.ref a2), .val (.int (0 : Int32)), .val (.int (3 : Int32)), .val (.ref b101), .unset, .unset]) rfl ?_
  refine own_x_aloadN X101.here hx (hb hby own_d5_4) rfl rfl ?_
  refine own_x_iloadN X101.here hx (hb hby own_d5_5) rfl ?_
  refine own_x_aloadN X101.here hx (hb hby own_d5_6) rfl rfl ?_
  refine own_x_iconst X101.here hx (hb hby own_d5_7) (z := (0 : Int32)) rfl ?_
  refine own_x_iloadN X101.here hx (hb hby own_d5_8) rfl ?_
  by_cases u0 : (255 : Int32) < c0
  · have c102 := (A1.ext E101)
    have c104 := (Nat.le_trans Z0 E101.1)
    refine own_cF X101 (Jvm.LawKit.callS X101 hx (y := (⟨"java/lang/StringUTF16", "compress", "([CI[BII)I"⟩ : MethodName)) hown (mvT hZ (own_w26 hw)) (mvT hZ (own_w27 hw)) (mvT hZ (own_w23 hw)) (mvT hZ (own_w28 hw)) (by decide) (backOf (W := 0) (rm_cmp3_0 l Z a0 hw [] a2 kc dv c0 c1 c2 b101 k101 h101 n0 c104 c102 V101 gn_b101 ne_a2_b101  u0) hZ (own_w28 hw) (own_w23 hw) (by decide) (by decide)) (g := (mkF m 9 #[.val (.ref a2), .val (.int (0 : Int32)), .val (.int (3 : Int32)), .val (.ref b101), .unset, .unset] [(.int (3 : Int32)), (.int (0 : Int32)), (.ref b101), (.int (0 : Int32)), (.ref a2)])) rfl (by rw [hml]; rfl) (argsL := [(.ref a2), (.int (0 : Int32)), (.ref b101), (.int (0 : Int32)), (.int (3 : Int32))]) (rest := []) (lenOf own_pd4 rfl) rfl (by show 2 * 0 + _ ≤ _; exact Nat.le_of_eq rfl) (hb hby own_d5_9) (fun _ _ => ⟨rfl, e101, (by decide : 1 + 0 ≤ _), (by decide : 3 + 0 ≤ _)⟩)) fun v103 T103 L103 X103 hQ103 => ?_
    obtain ⟨rfl, Nq103, K103⟩ := hQ103
    have N103 := Fr.app N0 Nq103
    show own_Go p e below Pst (T103.setTop (mkF m 12 #[.val (.ref a2), .val (.int (0 : Int32)), .val (.int (3 : Int32)), .val (.ref b101), .unset, .unset] [(.int (0 : Int32))]))
    refine own_x_istore X103.here hx (hb hby own_d5_12) rfl (l' := #[.val (.ref a2), .val (.int (0 : Int32)), .val (.int (3 : Int32)), .val (.ref b101), .val (.int (0 : Int32)), .unset]) rfl ?_
    refine own_x_iload X103.here hx (hb hby own_d5_14) rfl ?_
    refine own_x_iloadN X103.here hx (hb hby own_d5_16) rfl ?_
    refine own_x_icmpNo X103.here hx (hb hby own_d5_17) rfl (feq (by decide)).1 ?_
    refine own_x_aloadN X103.here hx (hb hby own_d5_20) rfl rfl ?_
    refine own_x_iloadN X103.here hx (hb hby own_d5_21) rfl ?_
    refine own_x_iloadN X103.here hx (hb hby own_d5_22) rfl ?_
    have c105 := ((O.ext E101).keep K103 (allS gn_b101 all0))
    have c106 := (c102.keep K103 (ninS ne_a2_b101 nin0))
    have c108 := (Nat.le_trans c104 K103.1)
    refine own_cF X103 (Jvm.LawKit.callS X103 hx (y := (⟨"java/lang/StringUTF16", "toBytes", "([CII)[B"⟩ : MethodName)) hown (mvT hZ (own_w82 hw)) (mvT hZ (own_w83 hw)) (mvT hZ (own_w23 hw)) (mvT hZ (own_w84 hw)) (by decide) (backOf (W := 0) (rm_tob3 l Z a0 hw [] a2 kc dv c0 c1 c2 T103.heap n0 c108 c105 SU0 SU1 SU2 c106) hZ (own_w84 hw) (own_w23 hw) (by decide) (by decide)) (g := (mkF m 23 #[.val (.ref a2), .val (.int (0 : Int32)), .val (.int (3 : Int32)), .val (.ref b101), .val (.int (0 : Int32)), .unset] [(.int (3 : Int32)), (.int (0 : Int32)), (.ref a2)])) rfl (by rw [hml]; rfl) (argsL := [(.ref a2), (.int (0 : Int32)), (.int (3 : Int32))]) (rest := []) (lenOf own_pd5 rfl) rfl (by show 2 * 0 + _ ≤ _; exact Nat.le_of_eq rfl) (hb hby own_d5_23) (fun _ _ => ⟨rfl, rfl, (by decide : 1 + 1 ≤ _), (by decide : 3 + 6 ≤ _)⟩)) fun v107 T107 L107 X107 hQ107 => ?_
    obtain ⟨b107, rfl, Nq107, K107, sb107, kb107, V107⟩ := hQ107
    have N107 := Fr.app N103 Nq107
    have ne_a2_b107 : a2 ≠ b107 := Nat.ne_of_lt (Nat.lt_of_lt_of_le c106.lt sb107)
    have gn_b107 : n0 ≤ b107 := Nat.le_trans c108 sb107
    have c109 := (Keep.trans ((Keep.refl h0 []).ext E101) K103 (allS (Or.inr sz_b101) all0))
    have sz_b107 : h0.size ≤ b107 := Nat.le_trans c109.1 sb107
    show own_Go p e below Pst (T107.setTop (mkF m 26 #[.val (.ref a2), .val (.int (0 : Int32)), .val (.int (3 : Int32)), .val (.ref b101), .val (.int (0 : Int32)), .unset] [(.ref b107)]))
    refine own_x_astore X107.here hx (hb hby own_d5_26) rfl rfl (l' := #[.val (.ref a2), .val (.int (0 : Int32)), .val (.int (3 : Int32)), .val (.ref b101), .val (.int (0 : Int32)), .val (.ref b107)]) rfl ?_
    refine own_x_aload X107.here hx (hb hby own_d5_28) rfl rfl ?_
    refine own_x_iload X107.here hx (hb hby own_d5_30) rfl ?_
    have c110 := (c105.keep K107 all0)
    have c112 := (Nat.le_trans c108 K107.1)
    refine own_cF X107 (Jvm.LawKit.callS X107 hx (y := (⟨"java/lang/StringUTF16", "getChar", "([BI)C"⟩ : MethodName)) hown (mvT hZ (own_w98 hw)) (mvT hZ (own_w99 hw)) (mvT hZ (own_w23 hw)) (mvT hZ (own_w100 hw)) (by decide) (backOf (W := 0) (rm_getc0 l Z a0 hw [] b107 kb107 (6 : Int32) (own_lo8 c0) (own_hi8 c0) (own_u16 [c0, c1, c2]) T107.heap n0 c112 c110 SU0 SU1 SU2 V107 (by decide) rfl rfl) hZ (own_w100 hw) (own_w23 hw) (by decide) (by decide)) (g := (mkF m 32 #[.val (.ref a2), .val (.int (0 : Int32)), .val (.int (3 : Int32)), .val (.ref b101), .val (.int (0 : Int32)), .val (.ref b107)] [(.int (0 : Int32)), (.ref b107)])) rfl (by rw [hml]; rfl) (argsL := [(.ref b107), (.int (0 : Int32))]) (rest := []) (lenOf own_pd6 rfl) rfl (by show 2 * 0 + _ ≤ _; exact Nat.le_of_eq rfl) (hb hby own_d5_32) (fun _ _ => ⟨rfl, rfl, (by decide : 2 + 0 ≤ _), (by decide : 9 + 0 ≤ _)⟩)) fun v111 T111 L111 X111 hQ111 => ?_
    obtain ⟨rfl, Nq111, e111⟩ := hQ111
    have N111 := Fr.app N107 Nq111
    show own_Go p e below Pst (T111.setTop (mkF m 35 #[.val (.ref a2), .val (.int (0 : Int32)), .val (.int (3 : Int32)), .val (.ref b101), .val (.int (0 : Int32)), .val (.ref b107)] [(.int (nar .char (own_join (own_lo8 c0) (own_hi8 c0))))]))
    rw [own_join_eq hr.1 hr.2.1]
    show own_Go p e below Pst (T111.setTop (mkF m 35 #[.val (.ref a2), .val (.int (0 : Int32)), .val (.int (3 : Int32)), .val (.ref b101), .val (.int (0 : Int32)), .val (.ref b107)] [(.int c0)]))
    refine own_x_sipush X111.here hx (hb hby own_d5_35) (z := (255 : Int32)) rfl ?_
    refine own_x_icmpYes X111.here hx (pc0 := 38) (pc' := 54) rfl (hb hby own_d5_38) rfl (tlt u0).2.2.1 (by decide) (by decide) ?_
    refine own_x_aload X111.here hx (hb hby own_d5_54) rfl rfl ?_
    have c113 := (Keep.trans c109 K107 all0)
    rw [hPst]
    exact own_retP X111 (v := (some (.ref b107))) (Q := Q_cu3 Z a2 kc dv c0 c1 c2 h0 n0) (fun h => by rw [Bd.returns] at h; cases h) Bd.notSynchronized (fun fs hr => retOut X111 hx Bd.returns rfl (Or.inr (Or.inr (Or.inr (Or.inr ⟨rfl, rfl, rfl⟩)))) (hb hby own_d5_56) hr) (by decide) (by decide) (by rw [e111]; exact ⟨_, rfl, N111, c113, sz_b107, _, V107⟩)
  · have l0 := u0
    clear u0
    by_cases u1 : (255 : Int32) < c1
    · have c114 := (A1.ext E101)
      have c116 := (Nat.le_trans Z0 E101.1)
      refine own_cF X101 (Jvm.LawKit.callS X101 hx (y := (⟨"java/lang/StringUTF16", "compress", "([CI[BII)I"⟩ : MethodName)) hown (mvT hZ (own_w26 hw)) (mvT hZ (own_w27 hw)) (mvT hZ (own_w23 hw)) (mvT hZ (own_w28 hw)) (by decide) (backOf (W := 0) (rm_cmp3_1 l Z a0 hw [] a2 kc dv c0 c1 c2 b101 k101 h101 n0 c116 c114 V101 gn_b101 ne_a2_b101 l0 u1) hZ (own_w28 hw) (own_w23 hw) (by decide) (by decide)) (g := (mkF m 9 #[.val (.ref a2), .val (.int (0 : Int32)), .val (.int (3 : Int32)), .val (.ref b101), .unset, .unset] [(.int (3 : Int32)), (.int (0 : Int32)), (.ref b101), (.int (0 : Int32)), (.ref a2)])) rfl (by rw [hml]; rfl) (argsL := [(.ref a2), (.int (0 : Int32)), (.ref b101), (.int (0 : Int32)), (.int (3 : Int32))]) (rest := []) (lenOf own_pd4 rfl) rfl (by show 2 * 0 + _ ≤ _; exact Nat.le_of_eq rfl) (hb hby own_d5_9) (fun _ _ => ⟨rfl, e101, (by decide : 1 + 0 ≤ _), (by decide : 3 + 0 ≤ _)⟩)) fun v115 T115 L115 X115 hQ115 => ?_
      obtain ⟨rfl, Nq115, K115⟩ := hQ115
      have N115 := Fr.app N0 Nq115
      show own_Go p e below Pst (T115.setTop (mkF m 12 #[.val (.ref a2), .val (.int (0 : Int32)), .val (.int (3 : Int32)), .val (.ref b101), .unset, .unset] [(.int (1 : Int32))]))
      refine own_x_istore X115.here hx (hb hby own_d5_12) rfl (l' := #[.val (.ref a2), .val (.int (0 : Int32)), .val (.int (3 : Int32)), .val (.ref b101), .val (.int (1 : Int32)), .unset]) rfl ?_
      refine own_x_iload X115.here hx (hb hby own_d5_14) rfl ?_
      refine own_x_iloadN X115.here hx (hb hby own_d5_16) rfl ?_
      refine own_x_icmpNo X115.here hx (hb hby own_d5_17) rfl (feq (by decide)).1 ?_
      refine own_x_aloadN X115.here hx (hb hby own_d5_20) rfl rfl ?_
      refine own_x_iloadN X115.here hx (hb hby own_d5_21) rfl ?_
      refine own_x_iloadN X115.here hx (hb hby own_d5_22) rfl ?_
      have c117 := ((O.ext E101).keep K115 (allS gn_b101 all0))
      have c118 := (c114.keep K115 (ninS ne_a2_b101 nin0))
      have c120 := (Nat.le_trans c116 K115.1)
      refine own_cF X115 (Jvm.LawKit.callS X115 hx (y := (⟨"java/lang/StringUTF16", "toBytes", "([CII)[B"⟩ : MethodName)) hown (mvT hZ (own_w82 hw)) (mvT hZ (own_w83 hw)) (mvT hZ (own_w23 hw)) (mvT hZ (own_w84 hw)) (by decide) (backOf (W := 0) (rm_tob3 l Z a0 hw [] a2 kc dv c0 c1 c2 T115.heap n0 c120 c117 SU0 SU1 SU2 c118) hZ (own_w84 hw) (own_w23 hw) (by decide) (by decide)) (g := (mkF m 23 #[.val (.ref a2), .val (.int (0 : Int32)), .val (.int (3 : Int32)), .val (.ref b101), .val (.int (1 : Int32)), .unset] [(.int (3 : Int32)), (.int (0 : Int32)), (.ref a2)])) rfl (by rw [hml]; rfl) (argsL := [(.ref a2), (.int (0 : Int32)), (.int (3 : Int32))]) (rest := []) (lenOf own_pd5 rfl) rfl (by show 2 * 0 + _ ≤ _; exact Nat.le_of_eq rfl) (hb hby own_d5_23) (fun _ _ => ⟨rfl, rfl, (by decide : 1 + 1 ≤ _), (by decide : 3 + 6 ≤ _)⟩)) fun v119 T119 L119 X119 hQ119 => ?_
      obtain ⟨b119, rfl, Nq119, K119, sb119, kb119, V119⟩ := hQ119
      have N119 := Fr.app N115 Nq119
      have ne_a2_b119 : a2 ≠ b119 := Nat.ne_of_lt (Nat.lt_of_lt_of_le c118.lt sb119)
      have gn_b119 : n0 ≤ b119 := Nat.le_trans c120 sb119
      have c121 := (Keep.trans ((Keep.refl h0 []).ext E101) K115 (allS (Or.inr sz_b101) all0))
      have sz_b119 : h0.size ≤ b119 := Nat.le_trans c121.1 sb119
      show own_Go p e below Pst (T119.setTop (mkF m 26 #[.val (.ref a2), .val (.int (0 : Int32)), .val (.int (3 : Int32)), .val (.ref b101), .val (.int (1 : Int32)), .unset] [(.ref b119)]))
      refine own_x_astore X119.here hx (hb hby own_d5_26) rfl rfl (l' := #[.val (.ref a2), .val (.int (0 : Int32)), .val (.int (3 : Int32)), .val (.ref b101), .val (.int (1 : Int32)), .val (.ref b119)]) rfl ?_
      refine own_x_aload X119.here hx (hb hby own_d5_28) rfl rfl ?_
      refine own_x_iload X119.here hx (hb hby own_d5_30) rfl ?_
      have c122 := (c117.keep K119 all0)
      have c124 := (Nat.le_trans c120 K119.1)
      refine own_cF X119 (Jvm.LawKit.callS X119 hx (y := (⟨"java/lang/StringUTF16", "getChar", "([BI)C"⟩ : MethodName)) hown (mvT hZ (own_w98 hw)) (mvT hZ (own_w99 hw)) (mvT hZ (own_w23 hw)) (mvT hZ (own_w100 hw)) (by decide) (backOf (W := 0) (rm_getc1 l Z a0 hw [] b119 kb119 (6 : Int32) (own_lo8 c1) (own_hi8 c1) (own_u16 [c0, c1, c2]) T119.heap n0 c124 c122 SU0 SU1 SU2 V119 (by decide) rfl rfl) hZ (own_w100 hw) (own_w23 hw) (by decide) (by decide)) (g := (mkF m 32 #[.val (.ref a2), .val (.int (0 : Int32)), .val (.int (3 : Int32)), .val (.ref b101), .val (.int (1 : Int32)), .val (.ref b119)] [(.int (1 : Int32)), (.ref b119)])) rfl (by rw [hml]; rfl) (argsL := [(.ref b119), (.int (1 : Int32))]) (rest := []) (lenOf own_pd6 rfl) rfl (by show 2 * 0 + _ ≤ _; exact Nat.le_of_eq rfl) (hb hby own_d5_32) (fun _ _ => ⟨rfl, rfl, (by decide : 2 + 0 ≤ _), (by decide : 9 + 0 ≤ _)⟩)) fun v123 T123 L123 X123 hQ123 => ?_
      obtain ⟨rfl, Nq123, e123⟩ := hQ123
      have N123 := Fr.app N119 Nq123
      show own_Go p e below Pst (T123.setTop (mkF m 35 #[.val (.ref a2), .val (.int (0 : Int32)), .val (.int (3 : Int32)), .val (.ref b101), .val (.int (1 : Int32)), .val (.ref b119)] [(.int (nar .char (own_join (own_lo8 c1) (own_hi8 c1))))]))
      rw [own_join_eq hr.2.2.1 hr.2.2.2.1]
      show own_Go p e below Pst (T123.setTop (mkF m 35 #[.val (.ref a2), .val (.int (0 : Int32)), .val (.int (3 : Int32)), .val (.ref b101), .val (.int (1 : Int32)), .val (.ref b119)] [(.int c1)]))
      refine own_x_sipush X123.here hx (hb hby own_d5_35) (z := (255 : Int32)) rfl ?_
      refine own_x_icmpYes X123.here hx (pc0 := 38) (pc' := 54) rfl (hb hby own_d5_38) rfl (tlt u1).2.2.1 (by decide) (by decide) ?_
      refine own_x_aload X123.here hx (hb hby own_d5_54) rfl rfl ?_
      have c125 := (Keep.trans c121 K119 all0)
      rw [hPst]
      exact own_retP X123 (v := (some (.ref b119))) (Q := Q_cu3 Z a2 kc dv c0 c1 c2 h0 n0) (fun h => by rw [Bd.returns] at h; cases h) Bd.notSynchronized (fun fs hr => retOut X123 hx Bd.returns rfl (Or.inr (Or.inr (Or.inr (Or.inr ⟨rfl, rfl, rfl⟩)))) (hb hby own_d5_56) hr) (by decide) (by decide) (by rw [e123]; exact ⟨_, rfl, N123, c125, sz_b119, _, V119⟩)
    · have l1 := u1
      clear u1
      have u2 : (255 : Int32) < c2 := by
        by_cases q : (255 : Int32) < c2
        · exact q
        · exact absurd ⟨l0, l1, q⟩ hbad
      have c126 := (A1.ext E101)
      have c128 := (Nat.le_trans Z0 E101.1)
      refine own_cF X101 (Jvm.LawKit.callS X101 hx (y := (⟨"java/lang/StringUTF16", "compress", "([CI[BII)I"⟩ : MethodName)) hown (mvT hZ (own_w26 hw)) (mvT hZ (own_w27 hw)) (mvT hZ (own_w23 hw)) (mvT hZ (own_w28 hw)) (by decide) (backOf (W := 0) (rm_cmp3_2 l Z a0 hw [] a2 kc dv c0 c1 c2 b101 k101 h101 n0 c128 c126 V101 gn_b101 ne_a2_b101 l0 l1 u2) hZ (own_w28 hw) (own_w23 hw) (by decide) (by decide)) (g := (mkF m 9 #[.val (.ref a2), .val (.int (0 : Int32)), .val (.int (3 : Int32)), .val (.ref b101), .unset, .unset] [(.int (3 : Int32)), (.int (0 : Int32)), (.ref b101), (.int (0 : Int32)), (.ref a2)])) rfl (by rw [hml]; rfl) (argsL := [(.ref a2), (.int (0 : Int32)), (.ref b101), (.int (0 : Int32)), (.int (3 : Int32))]) (rest := []) (lenOf own_pd4 rfl) rfl (by show 2 * 0 + _ ≤ _; exact Nat.le_of_eq rfl) (hb hby own_d5_9) (fun _ _ => ⟨rfl, e101, (by decide : 1 + 0 ≤ _), (by decide : 3 + 0 ≤ _)⟩)) fun v127 T127 L127 X127 hQ127 => ?_
      obtain ⟨rfl, Nq127, K127⟩ := hQ127
      have N127 := Fr.app N0 Nq127
      show own_Go p e below Pst (T127.setTop (mkF m 12 #[.val (.ref a2), .val (.int (0 : Int32)), .val (.int (3 : Int32)), .val (.ref b101), .unset, .unset] [(.int (2 : Int32))]))
      refine own_x_istore X127.here hx (hb hby own_d5_12) rfl (l' := #[.val (.ref a2), .val (.int (0 : Int32)), .val (.int (3 : Int32)), .val (.ref b101), .val (.int (2 : Int32)), .unset]) rfl ?_
      refine own_x_iload X127.here hx (hb hby own_d5_14) rfl ?_
      refine own_x_iloadN X127.here hx (hb hby own_d5_16) rfl ?_
      refine own_x_icmpNo X127.here hx (hb hby own_d5_17) rfl (feq (by decide)).1 ?_
      refine own_x_aloadN X127.here hx (hb hby own_d5_20) rfl rfl ?_
      refine own_x_iloadN X127.here hx (hb hby own_d5_21) rfl ?_
      refine own_x_iloadN X127.here hx (hb hby own_d5_22) rfl ?_
      have c129 := ((O.ext E101).keep K127 (allS gn_b101 all0))
      have c130 := (c126.keep K127 (ninS ne_a2_b101 nin0))
      have c132 := (Nat.le_trans c128 K127.1)
      refine own_cF X127 (Jvm.LawKit.callS X127 hx (y := (⟨"java/lang/StringUTF16", "toBytes", "([CII)[B"⟩ : MethodName)) hown (mvT hZ (own_w82 hw)) (mvT hZ (own_w83 hw)) (mvT hZ (own_w23 hw)) (mvT hZ (own_w84 hw)) (by decide) (backOf (W := 0) (rm_tob3 l Z a0 hw [] a2 kc dv c0 c1 c2 T127.heap n0 c132 c129 SU0 SU1 SU2 c130) hZ (own_w84 hw) (own_w23 hw) (by decide) (by decide)) (g := (mkF m 23 #[.val (.ref a2), .val (.int (0 : Int32)), .val (.int (3 : Int32)), .val (.ref b101), .val (.int (2 : Int32)), .unset] [(.int (3 : Int32)), (.int (0 : Int32)), (.ref a2)])) rfl (by rw [hml]; rfl) (argsL := [(.ref a2), (.int (0 : Int32)), (.int (3 : Int32))]) (rest := []) (lenOf own_pd5 rfl) rfl (by show 2 * 0 + _ ≤ _; exact Nat.le_of_eq rfl) (hb hby own_d5_23) (fun _ _ => ⟨rfl, rfl, (by decide : 1 + 1 ≤ _), (by decide : 3 + 6 ≤ _)⟩)) fun v131 T131 L131 X131 hQ131 => ?_
      obtain ⟨b131, rfl, Nq131, K131, sb131, kb131, V131⟩ := hQ131
      have N131 := Fr.app N127 Nq131
      have ne_a2_b131 : a2 ≠ b131 := Nat.ne_of_lt (Nat.lt_of_lt_of_le c130.lt sb131)
      have gn_b131 : n0 ≤ b131 := Nat.le_trans c132 sb131
      have c133 := (Keep.trans ((Keep.refl h0 []).ext E101) K127 (allS (Or.inr sz_b101) all0))
      have sz_b131 : h0.size ≤ b131 := Nat.le_trans c133.1 sb131
      show own_Go p e below Pst (T131.setTop (mkF m 26 #[.val (.ref a2), .val (.int (0 : Int32)), .val (.int (3 : Int32)), .val (.ref b101), .val (.int (2 : Int32)), .unset] [(.ref b131)]))
      refine own_x_astore X131.here hx (hb hby own_d5_26) rfl rfl (l' := #[.val (.ref a2), .val (.int (0 : Int32)), .val (.int (3 : Int32)), .val (.ref b101), .val (.int (2 : Int32)), .val (.ref b131)]) rfl ?_
      refine own_x_aload X131.here hx (hb hby own_d5_28) rfl rfl ?_
      refine own_x_iload X131.here hx (hb hby own_d5_30) rfl ?_
      have c134 := (c129.keep K131 all0)
      have c136 := (Nat.le_trans c132 K131.1)
      refine own_cF X131 (Jvm.LawKit.callS X131 hx (y := (⟨"java/lang/StringUTF16", "getChar", "([BI)C"⟩ : MethodName)) hown (mvT hZ (own_w98 hw)) (mvT hZ (own_w99 hw)) (mvT hZ (own_w23 hw)) (mvT hZ (own_w100 hw)) (by decide) (backOf (W := 0) (rm_getc2 l Z a0 hw [] b131 kb131 (6 : Int32) (own_lo8 c2) (own_hi8 c2) (own_u16 [c0, c1, c2]) T131.heap n0 c136 c134 SU0 SU1 SU2 V131 (by decide) rfl rfl) hZ (own_w100 hw) (own_w23 hw) (by decide) (by decide)) (g := (mkF m 32 #[.val (.ref a2), .val (.int (0 : Int32)), .val (.int (3 : Int32)), .val (.ref b101), .val (.int (2 : Int32)), .val (.ref b131)] [(.int (2 : Int32)), (.ref b131)])) rfl (by rw [hml]; rfl) (argsL := [(.ref b131), (.int (2 : Int32))]) (rest := []) (lenOf own_pd6 rfl) rfl (by show 2 * 0 + _ ≤ _; exact Nat.le_of_eq rfl) (hb hby own_d5_32) (fun _ _ => ⟨rfl, rfl, (by decide : 2 + 0 ≤ _), (by decide : 9 + 0 ≤ _)⟩)) fun v135 T135 L135 X135 hQ135 => ?_
      obtain ⟨rfl, Nq135, e135⟩ := hQ135
      have N135 := Fr.app N131 Nq135
      show own_Go p e below Pst (T135.setTop (mkF m 35 #[.val (.ref a2), .val (.int (0 : Int32)), .val (.int (3 : Int32)), .val (.ref b101), .val (.int (2 : Int32)), .val (.ref b131)] [(.int (nar .char (own_join (own_lo8 c2) (own_hi8 c2))))]))
      rw [own_join_eq hr.2.2.2.2.1 hr.2.2.2.2.2]
      show own_Go p e below Pst (T135.setTop (mkF m 35 #[.val (.ref a2), .val (.int (0 : Int32)), .val (.int (3 : Int32)), .val (.ref b101), .val (.int (2 : Int32)), .val (.ref b131)] [(.int c2)]))
      refine own_x_sipush X135.here hx (hb hby own_d5_35) (z := (255 : Int32)) rfl ?_
      refine own_x_icmpYes X135.here hx (pc0 := 38) (pc' := 54) rfl (hb hby own_d5_38) rfl (tlt u2).2.2.1 (by decide) (by decide) ?_
      refine own_x_aload X135.here hx (hb hby own_d5_54) rfl rfl ?_
      have c137 := (Keep.trans c133 K131 all0)
      rw [hPst]
      exact own_retP X135 (v := (some (.ref b131))) (Q := Q_cu3 Z a2 kc dv c0 c1 c2 h0 n0) (fun h => by rw [Bd.returns] at h; cases h) Bd.notSynchronized (fun fs hr => retOut X135 hx Bd.returns rfl (Or.inr (Or.inr (Or.inr (Or.inr ⟨rfl, rfl, rfl⟩)))) (hb hby own_d5_56) hr) (by decide) (by decide) (by rw [e135]; exact ⟨_, rfl, N135, c137, sz_b131, _, V131⟩)
def Q_codl3 (Z : State) (b : Addr) (kb : ClassId) (vs : List Value) (h0 : Heap) (n0 : Nat) (v : Option Value) (h : Heap) (L : List Loc) : Prop := v = some (.int (1 : Int32)) ∧ Fr n0 L ∧ h = h0
theorem rm_codl3 (l : Launch) (Z : State) (a0 : Array Value) (hw : own_H a0 Z) (ws : List Jvm.Cond) (b : Addr) (kb : ClassId) (vs : List Value) (h0 : Heap) (n0 : Nat) (Z0 : n0 ≤ h0.size) (A1 : Arv Z h0 b kb .byte (6 : Int32) vs (.int 0)) : own_MP l (⟨"java/lang/StringUTF16", "coderFromArrayLen", "([BI)B"⟩ : MethodName) jdk_52_method_15_code 2 (some .byte) ws ({ frames := 0, cells := 0, slots := 0, locals := 0 } : Room) Z h0 #[(.ref b), (.int (3 : Int32))] (fun _ _ _ _ _ => True) (Q_codl3 Z b kb vs h0 n0) := by
  refine own_startP (plainFor_of_name own_pn_java_lang_StringUTF16) fun p e s m below meth c s₁ Bd hx hby hml hown0 X0 e0 hh0 hZ hK Pst hPst => ?_
  have hown : s.vm.findClass "java/lang/StringUTF16" = some m.cls := hown0
  have hnm := (name_of_methodNamed Bd.named Bd.method).1
  have N0 := Fr.nil n0
  rw [own_ef_RI_2 m b (3 : Int32)]
  refine own_x_iloadN X0.here hx (hb hby own_d7_0) rfl ?_
  refine own_x_aloadN X0.here hx (hb hby own_d7_1) rfl rfl ?_
  obtain ⟨cl101, Ar101, -, S101, P101, -, -⟩ := id A1
  refine own_Go.of (S' := s₁.setTop (mkF m 3 #[.val (.ref b), .val (.int (3 : Int32))] [(.int (6 : Int32)), (.int (3 : Int32))])) (fun tgt kst => X0.arraylength hx (by rw [e0]; exact Ar101.1) (State.isArrayOf_alike hZ.alike Ar101.2.1) (g := (mkF m 2 #[.val (.ref b), .val (.int (3 : Int32))] [(.ref b), (.int (3 : Int32))])) rfl rfl (hb hby own_d7_2) _ (by rw [len_of S101 P101]; exact kst)) ?_
  refine own_x_isub X0.here hx (hb hby own_d7_3) rfl ?_
  refine own_x_bipush X0.here hx (hb hby own_d7_4) (z := (31 : Int32)) rfl ?_
  refine own_x_iushr X0.here hx (hb hby own_d7_6) rfl ?_
  refine own_x_i2b X0.here hx (hb hby own_d7_7) rfl ?_
  rw [show (((((3 : Int32) - (6 : Int32)).toUInt32 >>> ((31 : Int32) &&& 31).toUInt32).toInt32).toInt8.toInt32) = (1 : Int32) from by decide]
  show own_Go p e below Pst (s₁.setTop (mkF m 8 #[.val (.ref b), .val (.int (3 : Int32))] [(.int (1 : Int32))]))
  rw [hPst]
  exact own_retP X0 (v := (some (.int (nar .byte (1 : Int32))))) (Q := Q_codl3 Z b kb vs h0 n0) (fun h => by rw [Bd.returns] at h; cases h) Bd.notSynchronized (fun fs hr => retN X0 hx (t := .byte) Bd.returns (by simp) (hb hby own_d7_8) hr) (by decide) (by decide) (by rw [e0]; exact ⟨rfl, N0, rfl⟩)
def Q_i4u3 (Z : State) (z : Int32) (a1 a2 : Addr) (kc : ClassId) (dv : Value) (c0 c1 c2 : Int32) (u1 u2 : Value) (h0 : Heap) (n0 : Nat) (v : Option Value) (h : Heap) (L : List Loc) : Prop := v = none ∧ Fr n0 L ∧ Keep h0 h [a1] ∧ Exa Z h a1 "java/lang/String" ∧ Fld Z h a1 "java/lang/String" "coder" "B" (.int (1 : Int32)) ∧ ∃ (t : Addr) (kb : ClassId), h0.size ≤ t ∧ Fld Z h a1 "java/lang/String" "value" "[B" (.ref t) ∧ Arv Z h t kb .byte (6 : Int32) (own_u16 [c0, c1, c2]) (.int 0)
theorem rm_i4u3 (l : Launch) (Z : State) (a0 : Array Value) (hw : own_H a0 Z) (ws : List Jvm.Cond) (z : Int32) (a1 a2 : Addr) (kc : ClassId) (dv : Value) (c0 c1 c2 : Int32) (u1 u2 : Value) (h0 : Heap) (n0 : Nat) (Z0 : n0 ≤ h0.size) (O : Old Z n0 h0) (SC : Sta Z Z.heap "java/lang/String" "COMPACT_STRINGS" "Z" (.int z)) (hz : ¬ z = 0) (SU0 : Sta Z Z.heap "java/lang/StringUTF16" "$assertionsDisabled" "Z" (.int (1 : Int32))) (SU1 : Sta Z Z.heap "java/lang/StringUTF16" "HI_BYTE_SHIFT" "I" (.int (0 : Int32))) (SU2 : Sta Z Z.heap "java/lang/StringUTF16" "LO_BYTE_SHIFT" "I" (.int (8 : Int32))) (E1 : Exa Z h0 a1 "java/lang/String") (F1 : Fld Z h0 a1 "java/lang/String" "value" "[B" u1) (F2 : Fld Z h0 a1 "java/lang/String" "coder" "B" u2) (g1 : n0 ≤ a1) (A1 : Arv Z h0 a2 kc .char (3 : Int32) [(.int c0), (.int c1), (.int c2)] dv) (hr : ¬ c0 < 0 ∧ ¬ (65535 : Int32) < c0 ∧ ¬ c1 < 0 ∧ ¬ (65535 : Int32) < c1 ∧ ¬ c2 < 0 ∧ ¬ (65535 : Int32) < c2) (hbad : ¬ (¬ (255 : Int32) < c0 ∧ ¬ (255 : Int32) < c1 ∧ ¬ (255 : Int32) < c2)) : own_MP l (⟨"java/lang/String", "<init>", "([CIILjava/lang/Void;)V"⟩ : MethodName) jdk_42_method_149_code 6 none ws ({ frames := 4, cells := 2, slots := 9, locals := 60 } : Room) Z h0 #[(.ref a1), (.ref a2), (.int (0 : Int32)), (.int (3 : Int32)), .null] (fun _ _ _ _ _ => True) (Q_i4u3 Z z a1 a2 kc dv c0 c1 c2 u1 u2 h0 n0) := by
  refine own_startP (plainFor_of_name own_pn_java_lang_String) fun p e s m below meth c s₁ Bd hx hby hml hown0 X0 e0 hh0 hZ hK Pst hPst => ?_
  have hown : s.vm.findClass "java/lang/String" = some m.cls := hown0
  have hnm := (name_of_methodNamed Bd.named Bd.method).1
  have N0 := Fr.nil n0
  rw [own_ef_RRIIN_6 m a1 a2 (0 : Int32) (3 : Int32)]
  refine own_x_aloadN X0.here hx (hb hby own_d3_0) rfl rfl ?_
  refine own_h_initO X0 hx hZ hown (own_w17 hw) (own_w18 hw) (own_w19 hw) e0 (by rw [hml]; rfl) rfl (hb hby own_d3_1) (by decide) (W := 0) (by show 2 * 0 + _ ≤ _; exact Nat.le_of_eq rfl) (by decide) fun T101 X101 e101 => ?_
  refine own_x_iloadN X101.here hx (hb hby own_d3_4) rfl ?_
  refine own_x_ifYes X101.here hx (pc0 := 5) (pc' := 27) rfl (hb hby own_d3_5) rfl ((if0 _ _).trans (feq (by decide)).2) (by decide) (by decide) ?_
  refine own_h_getS2 X101 hx hZ hown (host := "") (Or.inl (own_w20 hw)) Via.refl e101 (SC.ext O.2) (hb hby own_d3_27) fun T102 X102 e102 => ?_
  refine own_x_ifNo X102.here hx (hb hby own_d3_30) rfl ((if0 _ _).trans (feq hz).1) ?_
  refine own_x_aloadN X102.here hx (hb hby own_d3_33) rfl rfl ?_
  refine own_x_iloadN X102.here hx (hb hby own_d3_34) rfl ?_
  refine own_x_iloadN X102.here hx (hb hby own_d3_35) rfl ?_
  refine own_cF X102 (Jvm.LawKit.callS X102 hx (y := (⟨"java/lang/StringUTF16", "compress", "([CII)[B"⟩ : MethodName)) hown (mvT hZ (own_w21 hw)) (mvT hZ (own_w22 hw)) (mvT hZ (own_w23 hw)) (mvT hZ (own_w24 hw)) (by decide) (backOf (W := 0) (rm_cu3 l Z a0 hw [] a2 kc dv c0 c1 c2 h0 n0 Z0 O SU0 SU1 SU2 A1 hr hbad) hZ (own_w24 hw) (own_w23 hw) (by decide) (by decide)) (g := (mkF m 36 #[.val (.ref a1), .val (.ref a2), .val (.int (0 : Int32)), .val (.int (3 : Int32)), .val .null, .unset] [(.int (3 : Int32)), (.int (0 : Int32)), (.ref a2)])) rfl (by rw [hml]; rfl) (argsL := [(.ref a2), (.int (0 : Int32)), (.int (3 : Int32))]) (rest := []) (lenOf own_pd5 rfl) rfl (by show 2 * 0 + _ ≤ _; exact Nat.le_of_eq rfl) (hb hby own_d3_36) (fun _ _ => ⟨rfl, e102, (by decide : 0 + 2 ≤ _), (by decide : 0 + 9 ≤ _)⟩)) fun v103 T103 L103 X103 hQ103 => ?_
  obtain ⟨b103, rfl, Nq103, K103, sb103, kb103, V103⟩ := hQ103
  have N103 := Fr.app N0 Nq103
  have ne_a1_b103 : a1 ≠ b103 := Nat.ne_of_lt (Nat.lt_of_lt_of_le E1.lt sb103)
  have gn_b103 : n0 ≤ b103 := Nat.le_trans Z0 sb103
  have sz_b103 : h0.size ≤ b103 := Nat.le_trans (Keep.refl h0 [a1]).1 sb103
  show own_Go p e below Pst (T103.setTop (mkF m 39 #[.val (.ref a1), .val (.ref a2), .val (.int (0 : Int32)), .val (.int (3 : Int32)), .val .null, .unset] [(.ref b103)]))
  refine own_x_astore X103.here hx (hb hby own_d3_39) rfl rfl (l' := #[.val (.ref a1), .val (.ref a2), .val (.int (0 : Int32)), .val (.int (3 : Int32)), .val .null, .val (.ref b103)]) rfl ?_
  refine own_x_aloadN X103.here hx (hb hby own_d3_41) rfl rfl ?_
  refine own_x_aload X103.here hx (hb hby own_d3_42) rfl rfl ?_
  refine own_x_iloadN X103.here hx (hb hby own_d3_44) rfl ?_
  have c105 := (Nat.le_trans Z0 K103.1)
  refine own_cF X103 (Jvm.LawKit.callS X103 hx (y := (⟨"java/lang/StringUTF16", "coderFromArrayLen", "([BI)B"⟩ : MethodName)) hown (mvT hZ (own_w29 hw)) (mvT hZ (own_w30 hw)) (mvT hZ (own_w23 hw)) (mvT hZ (own_w31 hw)) (by decide) (backOf (W := 1) (rm_codl3 l Z a0 hw [] b103 kb103 (own_u16 [c0, c1, c2]) T103.heap n0 c105 V103) hZ (own_w31 hw) (own_w23 hw) (by decide) (by decide)) (g := (mkF m 45 #[.val (.ref a1), .val (.ref a2), .val (.int (0 : Int32)), .val (.int (3 : Int32)), .val .null, .val (.ref b103)] [(.int (3 : Int32)), (.ref b103), (.ref a1)])) rfl (by rw [hml]; rfl) (argsL := [(.ref b103), (.int (3 : Int32))]) (rest := [(.ref a1)]) (lenOf own_pd7 rfl) rfl (by show 2 * 0 + _ ≤ _; exact Nat.le_of_eq rfl) (hb hby own_d3_45) (fun _ _ => ⟨rfl, rfl, (by decide : 2 + 0 ≤ _), (by decide : 9 + 0 ≤ _)⟩)) fun v104 T104 L104 X104 hQ104 => ?_
  obtain ⟨rfl, Nq104, e104⟩ := hQ104
  have N104 := Fr.app N103 Nq104
  show own_Go p e below Pst (T104.setTop (mkF m 48 #[.val (.ref a1), .val (.ref a2), .val (.int (0 : Int32)), .val (.int (3 : Int32)), .val .null, .val (.ref b103)] [(.int (1 : Int32)), (.ref a1)]))
  have c106 := (E1.keep K103)
  have c107 := (F2.keep K103 nin0)
  refine own_h_putFN X104 hx hZ hown (own_w32 hw) Via.refl e104 c107 c106 (Or.inr ⟨(own_w33 hw), rfl, hnm⟩) (own_w8 hw) (ty := .byte) (v' := (.int (1 : Int32))) (by decide) rfl rfl rfl (hb hby own_d3_48) fun T108 h108 X108 e108 W108 => ?_
  have Fw108 := Fld.same W108 c107
  have N108 := Fr.snoc X108 N104 g1
  refine own_x_aloadN X108.here hx (hb hby own_d3_51) rfl rfl ?_
  refine own_x_aload X108.here hx (hb hby own_d3_52) rfl rfl ?_
  have c109 := (c106.wr W108)
  have c110 := ((F1.keep K103 nin0).other W108 (Or.inr (slot_ne (Or.inr (own_w35 hw)) (Or.inr (own_w33 hw)) (by decide) (t := (.array .byte)) (t' := .byte) (by decide) (by decide))))
  refine own_h_putF X108 hx hZ hown (host := "") (Or.inl (own_w34 hw)) Via.refl e108 c110 c109 (Or.inr ⟨(own_w35 hw), rfl, hnm⟩) (own_w8 hw) (ty := (.array .byte)) (by decide) rfl rfl rfl (hb hby own_d3_54) fun T111 h111 X111 e111 W111 => ?_
  have Fw111 := Fld.same W111 c110
  have N111 := Fr.snoc X111 N108 g1
  have c112 := (((Keep.trans (Keep.refl h0 [a1]) K103 all0).wr W108 (Or.inl (List.mem_of_getElem? (i := 0) rfl))).wr W111 (Or.inl (List.mem_of_getElem? (i := 0) rfl)))
  have c113 := (c109.wr W111)
  have c114 := (Fw108.other W111 (Or.inr (slot_ne (Or.inr (own_w33 hw)) (Or.inr (own_w35 hw)) (by decide) (t := .byte) (t' := (.array .byte)) (by decide) (by decide))))
  have c115 := ((V103.other W108 (Ne.symm ne_a1_b103)).other W111 (Ne.symm ne_a1_b103))
  rw [hPst]
  exact own_retP X111 (v := none) (Q := Q_i4u3 Z z a1 a2 kc dv c0 c1 c2 u1 u2 h0 n0) (fun _ => rfl) Bd.notSynchronized (fun fs hr => X111.returnOut hx Bd.returns (hb hby own_d3_57) hr) (by decide) (by decide) (by rw [e111]; exact ⟨rfl, N111, c112, c113, c114, _, _, sz_b103, Fw111, c115⟩)
def Q_i1u3 (Z : State) (z : Int32) (a1 a2 : Addr) (kc : ClassId) (dv : Value) (c0 c1 c2 : Int32) (u1 u2 : Value) (h0 : Heap) (n0 : Nat) (v : Option Value) (h : Heap) (L : List Loc) : Prop := v = none ∧ Fr n0 L ∧ Keep h0 h [a1] ∧ Exa Z h a1 "java/lang/String" ∧ Fld Z h a1 "java/lang/String" "coder" "B" (.int (1 : Int32)) ∧ ∃ (t : Addr) (kb : ClassId), h0.size ≤ t ∧ Fld Z h a1 "java/lang/String" "value" "[B" (.ref t) ∧ Arv Z h t kb .byte (6 : Int32) (own_u16 [c0, c1, c2]) (.int 0)
theorem rm_i1u3 (l : Launch) (Z : State) (a0 : Array Value) (hw : own_H a0 Z) (ws : List Jvm.Cond) (z : Int32) (a1 a2 : Addr) (kc : ClassId) (dv : Value) (c0 c1 c2 : Int32) (u1 u2 : Value) (h0 : Heap) (n0 : Nat) (Z0 : n0 ≤ h0.size) (O : Old Z n0 h0) (SC : Sta Z Z.heap "java/lang/String" "COMPACT_STRINGS" "Z" (.int z)) (hz : ¬ z = 0) (SU0 : Sta Z Z.heap "java/lang/StringUTF16" "$assertionsDisabled" "Z" (.int (1 : Int32))) (SU1 : Sta Z Z.heap "java/lang/StringUTF16" "HI_BYTE_SHIFT" "I" (.int (0 : Int32))) (SU2 : Sta Z Z.heap "java/lang/StringUTF16" "LO_BYTE_SHIFT" "I" (.int (8 : Int32))) (E1 : Exa Z h0 a1 "java/lang/String") (F1 : Fld Z h0 a1 "java/lang/String" "value" "[B" u1) (F2 : Fld Z h0 a1 "java/lang/String" "coder" "B" u2) (g1 : n0 ≤ a1) (A1 : Arv Z h0 a2 kc .char (3 : Int32) [(.int c0), (.int c1), (.int c2)] dv) (hr : ¬ c0 < 0 ∧ ¬ (65535 : Int32) < c0 ∧ ¬ c1 < 0 ∧ ¬ (65535 : Int32) < c1 ∧ ¬ c2 < 0 ∧ ¬ (65535 : Int32) < c2) (hbad : ¬ (¬ (255 : Int32) < c0 ∧ ¬ (255 : Int32) < c1 ∧ ¬ (255 : Int32) < c2)) : own_MP l (⟨"java/lang/String", "<init>", "([C)V"⟩ : MethodName) jdk_42_method_3_code 2 none ws ({ frames := 5, cells := 2, slots := 9, locals := 77 } : Room) Z h0 #[(.ref a1), (.ref a2)] (fun _ _ _ _ _ => True) (Q_i1u3 Z z a1 a2 kc dv c0 c1 c2 u1 u2 h0 n0) := by
  refine own_startP (plainFor_of_name own_pn_java_lang_String) fun p e s m below meth c s₁ Bd hx hby hml hown0 X0 e0 hh0 hZ hK Pst hPst => ?_
  have hown : s.vm.findClass "java/lang/String" = some m.cls := hown0
  have hnm := (name_of_methodNamed Bd.named Bd.method).1
  have N0 := Fr.nil n0
  rw [own_ef_RR_2 m a1 a2]
  refine own_x_aloadN X0.here hx (hb hby own_d2_0) rfl rfl ?_
  refine own_x_aloadN X0.here hx (hb hby own_d2_1) rfl rfl ?_
  refine own_x_iconst X0.here hx (hb hby own_d2_2) (z := (0 : Int32)) rfl ?_
  refine own_x_aloadN X0.here hx (hb hby own_d2_3) rfl rfl ?_
  obtain ⟨cl101, Ar101, -, S101, P101, -, -⟩ := id A1
  refine own_Go.of (S' := s₁.setTop (mkF m 5 #[.val (.ref a1), .val (.ref a2)] [(.int (3 : Int32)), (.int (0 : Int32)), (.ref a2), (.ref a1)])) (fun tgt kst => X0.arraylength hx (by rw [e0]; exact Ar101.1) (State.isArrayOf_alike hZ.alike Ar101.2.1) (g := (mkF m 4 #[.val (.ref a1), .val (.ref a2)] [(.ref a2), (.int (0 : Int32)), (.ref a2), (.ref a1)])) rfl rfl (hb hby own_d2_4) _ (by rw [len_of S101 P101]; exact kst)) ?_
  refine own_x_aconstNull X0.here hx (hb hby own_d2_5) ?_
  refine own_cP X0 (X0.specialBack hx (y := (⟨"java/lang/String", "<init>", "([CIILjava/lang/Void;)V"⟩ : MethodName)) rfl hown (mvT hZ (own_w13 hw)) (mvT hZ (own_w14 hw)) (mvT hZ (own_w16 hw)) (by decide) (backOf (W := 0) (rm_i4u3 l Z a0 hw [] z a1 a2 kc dv c0 c1 c2 u1 u2 h0 n0 Z0 O SC hz SU0 SU1 SU2 E1 F1 F2 g1 A1 hr hbad) hZ (own_w16 hw) (own_w9 hw) (by decide) (by decide)) (g := (mkF m 6 #[.val (.ref a1), .val (.ref a2)] [.null, (.int (3 : Int32)), (.int (0 : Int32)), (.ref a2), (.ref a1)])) rfl (by rw [hml]; rfl) (Steps.refl _) (a := a1) (argsL := [(.ref a2), (.int (0 : Int32)), (.int (3 : Int32)), .null]) (rest := []) (lenOf own_pd0 rfl) rfl (by show 2 * 0 + _ ≤ _; exact Nat.le_of_eq rfl) (hb hby own_d2_6) (fun _ _ => ⟨rfl, e0, (by decide : 0 + 2 ≤ _), (by decide : 0 + 9 ≤ _)⟩)) fun v102 T102 L102 X102 hQ102 => ?_
  obtain ⟨rfl, Nq102, K102, A102, C102, t102, kb102, st_102, V102, B102⟩ := hQ102
  have N102 := Fr.app N0 Nq102
  show own_Go p e below Pst (T102.setTop (mkF m 9 #[.val (.ref a1), .val (.ref a2)] []))
  have c103 := (Keep.trans (Keep.refl h0 [a1]) K102 (allS (Or.inl (List.mem_of_getElem? (i := 0) rfl)) all0))
  rw [hPst]
  exact own_retP X102 (v := none) (Q := Q_i1u3 Z z a1 a2 kc dv c0 c1 c2 u1 u2 h0 n0) (fun _ => rfl) Bd.notSynchronized (fun fs hr => X102.returnOut hx Bd.returns (hb hby own_d2_9) hr) (by decide) (by decide) ⟨rfl, N102, c103, A102, C102, _, _, st_102, V102, B102⟩
def Q_nbl4 (Z : State)  (h0 : Heap) (n0 : Nat) (v : Option Value) (h : Heap) (L : List Loc) : Prop := v = some (.int (8 : Int32)) ∧ Fr n0 L ∧ h = h0
theorem rm_nbl4 (l : Launch) (Z : State) (a0 : Array Value) (hw : own_H a0 Z) (ws : List Jvm.Cond)  (h0 : Heap) (n0 : Nat) (Z0 : n0 ≤ h0.size) : own_MP l (⟨"java/lang/StringUTF16", "newBytesLength", "(I)I"⟩ : MethodName) jdk_52_method_3_code 1 (some .int) ws ({ frames := 0, cells := 0, slots := 0, locals := 0 } : Room) Z h0 #[(.int (4 : Int32))] (fun _ _ _ _ _ => True) (Q_nbl4 Z  h0 n0) := by
  refine own_startP (plainFor_of_name own_pn_java_lang_StringUTF16) fun p e s m below meth c s₁ Bd hx hby hml hown0 X0 e0 hh0 hZ hK Pst hPst => ?_
  have hown : s.vm.findClass "java/lang/StringUTF16" = some m.cls := hown0
  have hnm := (name_of_methodNamed Bd.named Bd.method).1
  have N0 := Fr.nil n0
  rw [own_ef_I_1 m (4 : Int32)]
  refine own_x_iloadN X0.here hx (hb hby own_d21_0) rfl ?_
  refine own_x_ifYes X0.here hx (pc0 := 1) (pc' := 12) rfl (hb hby own_d21_1) rfl ((if0 _ _).trans (flt (by decide)).2.1) (by decide) (by decide) ?_
  refine own_x_iloadN X0.here hx (hb hby own_d21_12) rfl ?_
  refine own_Go.of (S' := s₁.setTop (mkF m 15 #[.val (.int (4 : Int32))] [(.int (1073741823 : Int32)), (.int (4 : Int32))])) (fun tgt kst => X0.ldcInt hx hown (mvT hZ (own_w91 hw)) (g := (mkF m 13 #[.val (.int (4 : Int32))] [(.int (4 : Int32))])) rfl (hb hby own_d21_13) _ kst) ?_
  refine own_x_icmpYes X0.here hx (pc0 := 15) (pc' := 55) rfl (hb hby own_d21_15) rfl (tlt (by decide)).1 (by decide) (by decide) ?_
  refine own_x_iloadN X0.here hx (hb hby own_d21_55) rfl ?_
  refine own_x_iconst X0.here hx (hb hby own_d21_56) (z := (1 : Int32)) rfl ?_
  refine own_x_ishl X0.here hx (hb hby own_d21_57) rfl ?_
  rw [show ((4 : Int32) <<< ((1 : Int32) &&& 31)) = (8 : Int32) from by decide]
  show own_Go p e below Pst (s₁.setTop (mkF m 58 #[.val (.int (4 : Int32))] [(.int (8 : Int32))]))
  rw [hPst]
  exact own_retP X0 (v := (some (.int (8 : Int32)))) (Q := Q_nbl4 Z  h0 n0) (fun h => by rw [Bd.returns] at h; cases h) Bd.notSynchronized (fun fs hr => own_retI X0 hx Bd.returns (hb hby own_d21_58) hr) (by decide) (by decide) (by rw [e0]; exact ⟨rfl, N0, rfl⟩)
def Q_nbf4 (Z : State)  (h0 : Heap) (n0 : Nat) (v : Option Value) (h : Heap) (L : List Loc) : Prop := ∃ (b : Addr), v = some (.ref b) ∧ Fr n0 L ∧ Keep h0 h [] ∧ h0.size ≤ b ∧ ∃ kb : ClassId, Arv Z h b kb .byte (8 : Int32) [(.int (0 : Int32)), (.int (0 : Int32)), (.int (0 : Int32)), (.int (0 : Int32)), (.int (0 : Int32)), (.int (0 : Int32)), (.int (0 : Int32)), (.int (0 : Int32))] (.int 0)
theorem rm_nbf4 (l : Launch) (Z : State) (a0 : Array Value) (hw : own_H a0 Z) (ws : List Jvm.Cond)  (h0 : Heap) (n0 : Nat) (Z0 : n0 ≤ h0.size) : own_MP l (⟨"java/lang/StringUTF16", "newBytesFor", "(I)[B"⟩ : MethodName) jdk_52_method_2_code 1 (some (.array .byte)) ws ({ frames := 1, cells := 1, slots := 8, locals := 12 } : Room) Z h0 #[(.int (4 : Int32))] (fun _ _ _ _ _ => True) (Q_nbf4 Z  h0 n0) := by
  refine own_startP (plainFor_of_name own_pn_java_lang_StringUTF16) fun p e s m below meth c s₁ Bd hx hby hml hown0 X0 e0 hh0 hZ hK Pst hPst => ?_
  have hown : s.vm.findClass "java/lang/StringUTF16" = some m.cls := hown0
  have hnm := (name_of_methodNamed Bd.named Bd.method).1
  have N0 := Fr.nil n0
  rw [own_ef_I_1 m (4 : Int32)]
  refine own_x_iloadN X0.here hx (hb hby own_d20_0) rfl ?_
  refine own_cF X0 (Jvm.LawKit.callS X0 hx (y := (⟨"java/lang/StringUTF16", "newBytesLength", "(I)I"⟩ : MethodName)) hown (mvT hZ (own_w88 hw)) (mvT hZ (own_w89 hw)) (mvT hZ (own_w23 hw)) (mvT hZ (own_w90 hw)) (by decide) (backOf (W := 0) (rm_nbl4 l Z a0 hw []  h0 n0 Z0 ) hZ (own_w90 hw) (own_w23 hw) (by decide) (by decide)) (g := (mkF m 1 #[.val (.int (4 : Int32))] [(.int (4 : Int32))])) rfl (by rw [hml]; rfl) (argsL := [(.int (4 : Int32))]) (rest := []) (lenOf own_pd1 rfl) rfl (by show 2 * 0 + _ ≤ _; exact Nat.le_of_eq rfl) (hb hby own_d20_1) (fun _ _ => ⟨rfl, e0, (by decide : 0 + 0 ≤ _), (by decide : 0 + 0 ≤ _)⟩)) fun v101 T101 L101 X101 hQ101 => ?_
  obtain ⟨rfl, Nq101, e101⟩ := hQ101
  have N101 := Fr.app N0 Nq101
  show own_Go p e below Pst (T101.setTop (mkF m 4 #[.val (.int (4 : Int32))] [(.int (8 : Int32))]))
  refine own_h_newP (aty := .byte) X101 hx hZ (own_w25 hw) e101 (hb hby own_d20_4) rfl (by decide) (cap := 8) (by decide) (by decide) (by decide) (by decide) fun T102 h102 k102 b102 g102 X102 e102 E102 A102 => ?_
  have gn_b102 : n0 ≤ b102 := Nat.le_trans Z0 (Nat.le_of_eq g102.symm)
  have sz_b102 : h0.size ≤ b102 := Nat.le_trans (Keep.refl h0 []).1 (Nat.le_of_eq g102.symm)
  have V102 : Arv Z h102 b102 k102 .byte (8 : Int32) [(.int (0 : Int32)), (.int (0 : Int32)), (.int (0 : Int32)), (.int (0 : Int32)), (.int (0 : Int32)), (.int (0 : Int32)), (.int (0 : Int32)), (.int (0 : Int32))] (.int (0 : Int32)) := (Arv.new A102 (by decide)).pad (pad_rep [] (.int (0 : Int32)) 8)
  have c103 := ((Keep.refl h0 []).ext E102)
  rw [hPst]
  exact own_retP X102 (v := (some (.ref b102))) (Q := Q_nbf4 Z  h0 n0) (fun h => by rw [Bd.returns] at h; cases h) Bd.notSynchronized (fun fs hr => retOut X102 hx Bd.returns rfl (Or.inr (Or.inr (Or.inr (Or.inr ⟨rfl, rfl, rfl⟩)))) (hb hby own_d20_6) hr) (by decide) (by decide) (by rw [e102]; exact ⟨_, rfl, N101, c103, sz_b102, _, V102⟩)
def Q_tob4 (Z : State) (a2 : Addr) (kc : ClassId) (dv : Value) (c0 c1 c2 c3 : Int32) (h0 : Heap) (n0 : Nat) (v : Option Value) (h : Heap) (L : List Loc) : Prop := ∃ (b : Addr), v = some (.ref b) ∧ Fr n0 L ∧ Keep h0 h [] ∧ h0.size ≤ b ∧ ∃ kb : ClassId, Arv Z h b kb .byte (8 : Int32) (own_u16 [c0, c1, c2, c3]) (.int 0)
theorem rm_tob4 (l : Launch) (Z : State) (a0 : Array Value) (hw : own_H a0 Z) (ws : List Jvm.Cond) (a2 : Addr) (kc : ClassId) (dv : Value) (c0 c1 c2 c3 : Int32) (h0 : Heap) (n0 : Nat) (Z0 : n0 ≤ h0.size) (O : Old Z n0 h0) (SU0 : Sta Z Z.heap "java/lang/StringUTF16" "$assertionsDisabled" "Z" (.int (1 : Int32))) (SU1 : Sta Z Z.heap "java/lang/StringUTF16" "HI_BYTE_SHIFT" "I" (.int (0 : Int32))) (SU2 : Sta Z Z.heap "java/lang/StringUTF16" "LO_BYTE_SHIFT" "I" (.int (8 : Int32))) (A1 : Arv Z h0 a2 kc .char (4 : Int32) [(.int c0), (.int c1), (.int c2), (.int c3)] dv) : own_MP l (⟨"java/lang/StringUTF16", "toBytes", "([CII)[B"⟩ : MethodName) jdk_52_method_14_code 5 (some (.array .byte)) ws ({ frames := 2, cells := 1, slots := 8, locals := 24 } : Room) Z h0 #[(.ref a2), (.int (0 : Int32)), (.int (4 : Int32))] (fun _ _ _ _ _ => True) (Q_tob4 Z a2 kc dv c0 c1 c2 c3 h0 n0) := by
  refine own_startP (plainFor_of_name own_pn_java_lang_StringUTF16) fun p e s m below meth c s₁ Bd hx hby hml hown0 X0 e0 hh0 hZ hK Pst hPst => ?_
  have hown : s.vm.findClass "java/lang/StringUTF16" = some m.cls := hown0
  have hnm := (name_of_methodNamed Bd.named Bd.method).1
  have N0 := Fr.nil n0
  rw [own_ef_RII_5 m a2 (0 : Int32) (4 : Int32)]
  refine own_x_iloadN X0.here hx (hb hby own_d19_0) rfl ?_
  refine own_cF X0 (Jvm.LawKit.callS X0 hx (y := (⟨"java/lang/StringUTF16", "newBytesFor", "(I)[B"⟩ : MethodName)) hown (mvT hZ (own_w85 hw)) (mvT hZ (own_w86 hw)) (mvT hZ (own_w23 hw)) (mvT hZ (own_w87 hw)) (by decide) (backOf (W := 0) (rm_nbf4 l Z a0 hw []  h0 n0 Z0 ) hZ (own_w87 hw) (own_w23 hw) (by decide) (by decide)) (g := (mkF m 1 #[.val (.ref a2), .val (.int (0 : Int32)), .val (.int (4 : Int32)), .unset, .unset] [(.int (4 : Int32))])) rfl (by rw [hml]; rfl) (argsL := [(.int (4 : Int32))]) (rest := []) (lenOf own_pd2 rfl) rfl (by show 2 * 0 + _ ≤ _; exact Nat.le_of_eq rfl) (hb hby own_d19_1) (fun _ _ => ⟨rfl, e0, (by decide : 0 + 1 ≤ _), (by decide : 0 + 8 ≤ _)⟩)) fun v101 T101 L101 X101 hQ101 => ?_
  obtain ⟨b101, rfl, Nq101, K101, sb101, kb101, V101⟩ := hQ101
  have N101 := Fr.app N0 Nq101
  have ne_a2_b101 : a2 ≠ b101 := Nat.ne_of_lt (Nat.lt_of_lt_of_le A1.lt sb101)
  have gn_b101 : n0 ≤ b101 := Nat.le_trans Z0 sb101
  have sz_b101 : h0.size ≤ b101 := Nat.le_trans (Keep.refl h0 []).1 sb101
  show own_Go p e below Pst (T101.setTop (mkF m 4 #[.val (.ref a2), .val (.int (0 : Int32)), .val (.int (4 : Int32)), .unset, .unset] [(.ref b101)]))
  refine own_x_astoreN X101.here hx (hb hby own_d19_4) rfl rfl (l' := #[.val (.ref a2), .val (.int (0 : Int32)), .val (.int (4 : Int32)), .val (.ref b101), .unset]) rfl ?_
  refine own_x_iconst X101.here hx (hb hby own_d19_5) (z := (0 : Int32)) rfl ?_
  refine own_x_istore X101.here hx (hb hby own_d19_6) rfl (l' := #[.val (.ref a2), .val (.int (0 : Int32)), .val (.int (4 : Int32)), .val (.ref b101), .val (.int (0 : Int32))]) rfl ?_
  refine own_x_iload X101.here hx (hb hby own_d19_8) rfl ?_
  refine own_x_iloadN X101.here hx (hb hby own_d19_10) rfl ?_
  refine own_x_icmpNo X101.here hx (hb hby own_d19_11) rfl (tlt (by decide)).2.1 ?_
  refine own_x_aloadN X101.here hx (hb hby own_d19_14) rfl rfl ?_
  refine own_x_iload X101.here hx (hb hby own_d19_15) rfl ?_
  refine own_x_aloadN X101.here hx (hb hby own_d19_17) rfl rfl ?_
  refine own_x_iloadN X101.here hx (hb hby own_d19_18) rfl ?_
  have c102 := (A1.keep K101 nin0)
  obtain ⟨cl103, Ar103, q103, S103, P103, H103, G103⟩ := id c102
  have hin103 : ¬ ((0 : Int32) < 0 ∨ cl103.slots.size ≤ ((0 : Int32)).toNatClampNeg) := inb_of S103 ⟨by decide, by decide⟩
  have hat103 : cl103.slots[((0 : Int32)).toNatClampNeg]? = some (.int c0) := Has.at H103 hin103 rfl
  refine own_Go.of (S' := T101.setTop (mkF m 20 #[.val (.ref a2), .val (.int (0 : Int32)), .val (.int (4 : Int32)), .val (.ref b101), .val (.int (0 : Int32))] [(.int c0), (.int (0 : Int32)), (.ref b101)])) (fun tgt kst => X101.caload hx (j := (0 : Int32)) (v := (.int c0)) (by exact Ar103.1) (State.isArrayOf_alike hZ.alike Ar103.2.1) Ar103.2.2 hin103 hat103 (g := (mkF m 19 #[.val (.ref a2), .val (.int (0 : Int32)), .val (.int (4 : Int32)), .val (.ref b101), .val (.int (0 : Int32))] [(.int (0 : Int32)), (.ref a2), (.int (0 : Int32)), (.ref b101)])) rfl rfl (hb hby own_d19_19) _ kst) ?_
  have c104 := (O.keep K101 all0)
  have c106 := (Nat.le_trans Z0 K101.1)
  refine own_cF X101 (Jvm.LawKit.callS X101 hx (y := (⟨"java/lang/StringUTF16", "putChar", "([BII)V"⟩ : MethodName)) hown (mvT hZ (own_w92 hw)) (mvT hZ (own_w93 hw)) (mvT hZ (own_w23 hw)) (mvT hZ (own_w94 hw)) (by decide) (backOf (W := 0) (rm_put0 l Z a0 hw [] b101 kb101 (8 : Int32) c0 [(.int (0 : Int32)), (.int (0 : Int32)), (.int (0 : Int32)), (.int (0 : Int32)), (.int (0 : Int32)), (.int (0 : Int32)), (.int (0 : Int32)), (.int (0 : Int32))] T101.heap n0 c106 c104 SU0 SU1 SU2 gn_b101 V101 (by decide) (Nat.le_of_ble_eq_true rfl)) hZ (own_w94 hw) (own_w23 hw) (by decide) (by decide)) (g := (mkF m 20 #[.val (.ref a2), .val (.int (0 : Int32)), .val (.int (4 : Int32)), .val (.ref b101), .val (.int (0 : Int32))] [(.int c0), (.int (0 : Int32)), (.ref b101)])) rfl (by rw [hml]; rfl) (argsL := [(.ref b101), (.int (0 : Int32)), (.int c0)]) (rest := []) (lenOf own_pd3 rfl) rfl (by show 2 * 0 + _ ≤ _; exact Nat.le_of_eq rfl) (hb hby own_d19_20) (fun _ _ => ⟨rfl, rfl, (by decide : 1 + 0 ≤ _), (by decide : 8 + 0 ≤ _)⟩)) fun v105 T105 L105 X105 hQ105 => ?_
  obtain ⟨rfl, Nq105, K105, V105⟩ := hQ105
  have N105 := Fr.app N101 Nq105
  show own_Go p e below Pst (T105.setTop (mkF m 23 #[.val (.ref a2), .val (.int (0 : Int32)), .val (.int (4 : Int32)), .val (.ref b101), .val (.int (0 : Int32))] []))
  refine own_x_iinc X105.here hx (hb hby own_d19_23) rfl (l' := #[.val (.ref a2), .val (.int ((0 : Int32) + (1 : Int32))), .val (.int (4 : Int32)), .val (.ref b101), .val (.int (0 : Int32))]) rfl ?_
  refine own_x_iinc X105.here hx (hb hby own_d19_26) rfl (l' := #[.val (.ref a2), .val (.int ((0 : Int32) + (1 : Int32))), .val (.int (4 : Int32)), .val (.ref b101), .val (.int ((0 : Int32) + (1 : Int32)))]) rfl ?_
  rw [show ((0 : Int32) + (1 : Int32)) = (1 : Int32) from by decide]
  show own_Go p e below Pst (T105.setTop (mkF m 29 #[.val (.ref a2), .val (.int (1 : Int32)), .val (.int (4 : Int32)), .val (.ref b101), .val (.int ((0 : Int32) + (1 : Int32)))] []))
  rw [show ((0 : Int32) + (1 : Int32)) = (1 : Int32) from by decide]
  show own_Go p e below Pst (T105.setTop (mkF m 29 #[.val (.ref a2), .val (.int (1 : Int32)), .val (.int (4 : Int32)), .val (.ref b101), .val (.int (1 : Int32))] []))
  refine own_x_goto X105.here hx (pc0 := 29) (pc' := 8) rfl (hb hby own_d19_29) (by decide) (by decide) ?_
  refine own_x_iload X105.here hx (hb hby own_d19_8) rfl ?_
  refine own_x_iloadN X105.here hx (hb hby own_d19_10) rfl ?_
  refine own_x_icmpNo X105.here hx (hb hby own_d19_11) rfl (tlt (by decide)).2.1 ?_
  refine own_x_aloadN X105.here hx (hb hby own_d19_14) rfl rfl ?_
  refine own_x_iload X105.here hx (hb hby own_d19_15) rfl ?_
  refine own_x_aloadN X105.here hx (hb hby own_d19_17) rfl rfl ?_
  refine own_x_iloadN X105.here hx (hb hby own_d19_18) rfl ?_
  have c107 := (c102.keep K105 (ninS ne_a2_b101 nin0))
  obtain ⟨cl108, Ar108, q108, S108, P108, H108, G108⟩ := id c107
  have hin108 : ¬ ((1 : Int32) < 0 ∨ cl108.slots.size ≤ ((1 : Int32)).toNatClampNeg) := inb_of S108 ⟨by decide, by decide⟩
  have hat108 : cl108.slots[((1 : Int32)).toNatClampNeg]? = some (.int c1) := Has.at H108 hin108 rfl
  refine own_Go.of (S' := T105.setTop (mkF m 20 #[.val (.ref a2), .val (.int (1 : Int32)), .val (.int (4 : Int32)), .val (.ref b101), .val (.int (1 : Int32))] [(.int c1), (.int (1 : Int32)), (.ref b101)])) (fun tgt kst => X105.caload hx (j := (1 : Int32)) (v := (.int c1)) (by exact Ar108.1) (State.isArrayOf_alike hZ.alike Ar108.2.1) Ar108.2.2 hin108 hat108 (g := (mkF m 19 #[.val (.ref a2), .val (.int (1 : Int32)), .val (.int (4 : Int32)), .val (.ref b101), .val (.int (1 : Int32))] [(.int (1 : Int32)), (.ref a2), (.int (1 : Int32)), (.ref b101)])) rfl rfl (hb hby own_d19_19) _ kst) ?_
  have c109 := (c104.keep K105 (allS gn_b101 all0))
  have c111 := (Nat.le_trans c106 K105.1)
  refine own_cF X105 (Jvm.LawKit.callS X105 hx (y := (⟨"java/lang/StringUTF16", "putChar", "([BII)V"⟩ : MethodName)) hown (mvT hZ (own_w92 hw)) (mvT hZ (own_w93 hw)) (mvT hZ (own_w23 hw)) (mvT hZ (own_w94 hw)) (by decide) (backOf (W := 0) (rm_put1 l Z a0 hw [] b101 kb101 (8 : Int32) c1 (([(.int (0 : Int32)), (.int (0 : Int32)), (.int (0 : Int32)), (.int (0 : Int32)), (.int (0 : Int32)), (.int (0 : Int32)), (.int (0 : Int32)), (.int (0 : Int32))].set 0 (.int (own_lo8 c0))).set 1 (.int (own_hi8 c0))) T105.heap n0 c111 c109 SU0 SU1 SU2 gn_b101 V105 (by decide) (Nat.le_of_ble_eq_true rfl)) hZ (own_w94 hw) (own_w23 hw) (by decide) (by decide)) (g := (mkF m 20 #[.val (.ref a2), .val (.int (1 : Int32)), .val (.int (4 : Int32)), .val (.ref b101), .val (.int (1 : Int32))] [(.int c1), (.int (1 : Int32)), (.ref b101)])) rfl (by rw [hml]; rfl) (argsL := [(.ref b101), (.int (1 : Int32)), (.int c1)]) (rest := []) (lenOf own_pd3 rfl) rfl (by show 2 * 0 + _ ≤ _; exact Nat.le_of_eq rfl) (hb hby own_d19_20) (fun _ _ => ⟨rfl, rfl, (by decide : 1 + 0 ≤ _), (by decide : 8 + 0 ≤ _)⟩)) fun v110 T110 L110 X110 hQ110 => ?_
  obtain ⟨rfl, Nq110, K110, V110⟩ := hQ110
  have N110 := Fr.app N105 Nq110
  show own_Go p e below Pst (T110.setTop (mkF m 23 #[.val (.ref a2), .val (.int (1 : Int32)), .val (.int (4 : Int32)), .val (.ref b101), .val (.int (1 : Int32))] []))
  refine own_x_iinc X110.here hx (hb hby own_d19_23) rfl (l' := #[.val (.ref a2), .val (.int ((1 : Int32) + (1 : Int32))), .val (.int (4 : Int32)), .val (.ref b101), .val (.int (1 : Int32))]) rfl ?_
  refine own_x_iinc X110.here hx (hb hby own_d19_26) rfl (l' := #[.val (.ref a2), .val (.int ((1 : Int32) + (1 : Int32))), .val (.int (4 : Int32)), .val (.ref b101), .val (.int ((1 : Int32) + (1 : Int32)))]) rfl ?_
  rw [show ((1 : Int32) + (1 : Int32)) = (2 : Int32) from by decide]
  show own_Go p e below Pst (T110.setTop (mkF m 29 #[.val (.ref a2), .val (.int (2 : Int32)), .val (.int (4 : Int32)), .val (.ref b101), .val (.int ((1 : Int32) + (1 : Int32)))] []))
  rw [show ((1 : Int32) + (1 : Int32)) = (2 : Int32) from by decide]
  show own_Go p e below Pst (T110.setTop (mkF m 29 #[.val (.ref a2), .val (.int (2 : Int32)), .val (.int (4 : Int32)), .val (.ref b101), .val (.int (2 : Int32))] []))
  refine own_x_goto X110.here hx (pc0 := 29) (pc' := 8) rfl (hb hby own_d19_29) (by decide) (by decide) ?_
  refine own_x_iload X110.here hx (hb hby own_d19_8) rfl ?_
  refine own_x_iloadN X110.here hx (hb hby own_d19_10) rfl ?_
  refine own_x_icmpNo X110.here hx (hb hby own_d19_11) rfl (tlt (by decide)).2.1 ?_
  refine own_x_aloadN X110.here hx (hb hby own_d19_14) rfl rfl ?_
  refine own_x_iload X110.here hx (hb hby own_d19_15) rfl ?_
  refine own_x_aloadN X110.here hx (hb hby own_d19_17) rfl rfl ?_
  refine own_x_iloadN X110.here hx (hb hby own_d19_18) rfl ?_
  have c112 := (c107.keep K110 (ninS ne_a2_b101 nin0))
  obtain ⟨cl113, Ar113, q113, S113, P113, H113, G113⟩ := id c112
  have hin113 : ¬ ((2 : Int32) < 0 ∨ cl113.slots.size ≤ ((2 : Int32)).toNatClampNeg) := inb_of S113 ⟨by decide, by decide⟩
  have hat113 : cl113.slots[((2 : Int32)).toNatClampNeg]? = some (.int c2) := Has.at H113 hin113 rfl
  refine own_Go.of (S' := T110.setTop (mkF m 20 #[.val (.ref a2), .val (.int (2 : Int32)), .val (.int (4 : Int32)), .val (.ref b101), .val (.int (2 : Int32))] [(.int c2), (.int (2 : Int32)), (.ref b101)])) (fun tgt kst => X110.caload hx (j := (2 : Int32)) (v := (.int c2)) (by exact Ar113.1) (State.isArrayOf_alike hZ.alike Ar113.2.1) Ar113.2.2 hin113 hat113 (g := (mkF m 19 #[.val (.ref a2), .val (.int (2 : Int32)), .val (.int (4 : Int32)), .val (.ref b101), .val (.int (2 : Int32))] [(.int (2 : Int32)), (.ref a2), (.int (2 : Int32)), (.ref b101)])) rfl rfl (hb hby own_d19_19) _ kst) ?_
  have c114 := (c109.keep K110 (allS gn_b101 all0))
  have c116 := (Nat.le_trans c111 K110.1)
  refine own_cF X110 (Jvm.LawKit.callS X110 hx (y := (⟨"java/lang/StringUTF16", "putChar", "([BII)V"⟩ : MethodName)) hown (mvT hZ (own_w92 hw)) (mvT hZ (own_w93 hw)) (mvT hZ (own_w23 hw)) (mvT hZ (own_w94 hw)) (by decide) (backOf (W := 0) (rm_put2 l Z a0 hw [] b101 kb101 (8 : Int32) c2 (((([(.int (0 : Int32)), (.int (0 : Int32)), (.int (0 : Int32)), (.int (0 : Int32)), (.int (0 : Int32)), (.int (0 : Int32)), (.int (0 : Int32)), (.int (0 : Int32))].set 0 (.int (own_lo8 c0))).set 1 (.int (own_hi8 c0))).set 2 (.int (own_lo8 c1))).set 3 (.int (own_hi8 c1))) T110.heap n0 c116 c114 SU0 SU1 SU2 gn_b101 V110 (by decide) (Nat.le_of_ble_eq_true rfl)) hZ (own_w94 hw) (own_w23 hw) (by decide) (by decide)) (g := (mkF m 20 #[.val (.ref a2), .val (.int (2 : Int32)), .val (.int (4 : Int32)), .val (.ref b101), .val (.int (2 : Int32))] [(.int c2), (.int (2 : Int32)), (.ref b101)])) rfl (by rw [hml]; rfl) (argsL := [(.ref b101), (.int (2 : Int32)), (.int c2)]) (rest := []) (lenOf own_pd3 rfl) rfl (by show 2 * 0 + _ ≤ _; exact Nat.le_of_eq rfl) (hb hby own_d19_20) (fun _ _ => ⟨rfl, rfl, (by decide : 1 + 0 ≤ _), (by decide : 8 + 0 ≤ _)⟩)) fun v115 T115 L115 X115 hQ115 => ?_
  obtain ⟨rfl, Nq115, K115, V115⟩ := hQ115
  have N115 := Fr.app N110 Nq115
  show own_Go p e below Pst (T115.setTop (mkF m 23 #[.val (.ref a2), .val (.int (2 : Int32)), .val (.int (4 : Int32)), .val (.ref b101), .val (.int (2 : Int32))] []))
  refine own_x_iinc X115.here hx (hb hby own_d19_23) rfl (l' := #[.val (.ref a2), .val (.int ((2 : Int32) + (1 : Int32))), .val (.int (4 : Int32)), .val (.ref b101), .val (.int (2 : Int32))]) rfl ?_
  refine own_x_iinc X115.here hx (hb hby own_d19_26) rfl (l' := #[.val (.ref a2), .val (.int ((2 : Int32) + (1 : Int32))), .val (.int (4 : Int32)), .val (.ref b101), .val (.int ((2 : Int32) + (1 : Int32)))]) rfl ?_
  rw [show ((2 : Int32) + (1 : Int32)) = (3 : Int32) from by decide]
  show own_Go p e below Pst (T115.setTop (mkF m 29 #[.val (.ref a2), .val (.int (3 : Int32)), .val (.int (4 : Int32)), .val (.ref b101), .val (.int ((2 : Int32) + (1 : Int32)))] []))
  rw [show ((2 : Int32) + (1 : Int32)) = (3 : Int32) from by decide]
  show own_Go p e below Pst (T115.setTop (mkF m 29 #[.val (.ref a2), .val (.int (3 : Int32)), .val (.int (4 : Int32)), .val (.ref b101), .val (.int (3 : Int32))] []))
  refine own_x_goto X115.here hx (pc0 := 29) (pc' := 8) rfl (hb hby own_d19_29) (by decide) (by decide) ?_
  refine own_x_iload X115.here hx (hb hby own_d19_8) rfl ?_
  refine own_x_iloadN X115.here hx (hb hby own_d19_10) rfl ?_
  refine own_x_icmpNo X115.here hx (hb hby own_d19_11) rfl (tlt (by decide)).2.1 ?_
  refine own_x_aloadN X115.here hx (hb hby own_d19_14) rfl rfl ?_
  refine own_x_iload X115.here hx (hb hby own_d19_15) rfl ?_
  refine own_x_aloadN X115.here hx (hb hby own_d19_17) rfl rfl ?_
  refine own_x_iloadN X115.here hx (hb hby own_d19_18) rfl ?_
  have c117 := (c112.keep K115 (ninS ne_a2_b101 nin0))
  obtain ⟨cl118, Ar118, q118, S118, P118, H118, G118⟩ := id c117
  have hin118 : ¬ ((3 : Int32) < 0 ∨ cl118.slots.size ≤ ((3 : Int32)).toNatClampNeg) := inb_of S118 ⟨by decide, by decide⟩
  have hat118 : cl118.slots[((3 : Int32)).toNatClampNeg]? = some (.int c3) := Has.at H118 hin118 rfl
  refine own_Go.of (S' := T115.setTop (mkF m 20 #[.val (.ref a2), .val (.int (3 : Int32)), .val (.int (4 : Int32)), .val (.ref b101), .val (.int (3 : Int32))] [(.int c3), (.int (3 : Int32)), (.ref b101)])) (fun tgt kst => X115.caload hx (j := (3 : Int32)) (v := (.int c3)) (by exact Ar118.1) (State.isArrayOf_alike hZ.alike Ar118.2.1) Ar118.2.2 hin118 hat118 (g := (mkF m 19 #[.val (.ref a2), .val (.int (3 : Int32)), .val (.int (4 : Int32)), .val (.ref b101), .val (.int (3 : Int32))] [(.int (3 : Int32)), (.ref a2), (.int (3 : Int32)), (.ref b101)])) rfl rfl (hb hby own_d19_19) _ kst) ?_
  have c119 := (c114.keep K115 (allS gn_b101 all0))
  have c121 := (Nat.le_trans c116 K115.1)
  refine own_cF X115 (Jvm.LawKit.callS X115 hx (y := (⟨"java/lang/StringUTF16", "putChar", "([BII)V"⟩ : MethodName)) hown (mvT hZ (own_w92 hw)) (mvT hZ (own_w93 hw)) (mvT hZ (own_w23 hw)) (mvT hZ (own_w94 hw)) (by decide) (backOf (W := 0) (rm_put3 l Z a0 hw [] b101 kb101 (8 : Int32) c3 (((((([(.int (0 : Int32)), (.int (0 : Int32)), (.int (0 : Int32)), (.int (0 : Int32)), (.int (0 : Int32)), (.int (0 : Int32)), (.int (0 : Int32)), (.int (0 : Int32))].set 0 (.int (own_lo8 c0))).set 1 (.int (own_hi8 c0))).set 2 (.int (own_lo8 c1))).set 3 (.int (own_hi8 c1))).set 4 (.int (own_lo8 c2))).set 5 (.int (own_hi8 c2))) T115.heap n0 c121 c119 SU0 SU1 SU2 gn_b101 V115 (by decide) (Nat.le_of_ble_eq_true rfl)) hZ (own_w94 hw) (own_w23 hw) (by decide) (by decide)) (g := (mkF m 20 #[.val (.ref a2), .val (.int (3 : Int32)), .val (.int (4 : Int32)), .val (.ref b101), .val (.int (3 : Int32))] [(.int c3), (.int (3 : Int32)), (.ref b101)])) rfl (by rw [hml]; rfl) (argsL := [(.ref b101), (.int (3 : Int32)), (.int c3)]) (rest := []) (lenOf own_pd3 rfl) rfl (by show 2 * 0 + _ ≤ _; exact Nat.le_of_eq rfl) (hb hby own_d19_20) (fun _ _ => ⟨rfl, rfl, (by decide : 1 + 0 ≤ _), (by decide : 8 + 0 ≤ _)⟩)) fun v120 T120 L120 X120 hQ120 => ?_
  obtain ⟨rfl, Nq120, K120, V120⟩ := hQ120
  have N120 := Fr.app N115 Nq120
  show own_Go p e below Pst (T120.setTop (mkF m 23 #[.val (.ref a2), .val (.int (3 : Int32)), .val (.int (4 : Int32)), .val (.ref b101), .val (.int (3 : Int32))] []))
  refine own_x_iinc X120.here hx (hb hby own_d19_23) rfl (l' := #[.val (.ref a2), .val (.int ((3 : Int32) + (1 : Int32))), .val (.int (4 : Int32)), .val (.ref b101), .val (.int (3 : Int32))]) rfl ?_
  refine own_x_iinc X120.here hx (hb hby own_d19_26) rfl (l' := #[.val (.ref a2), .val (.int ((3 : Int32) + (1 : Int32))), .val (.int (4 : Int32)), .val (.ref b101), .val (.int ((3 : Int32) + (1 : Int32)))]) rfl ?_
  rw [show ((3 : Int32) + (1 : Int32)) = (4 : Int32) from by decide]
  show own_Go p e below Pst (T120.setTop (mkF m 29 #[.val (.ref a2), .val (.int (4 : Int32)), .val (.int (4 : Int32)), .val (.ref b101), .val (.int ((3 : Int32) + (1 : Int32)))] []))
  rw [show ((3 : Int32) + (1 : Int32)) = (4 : Int32) from by decide]
  show own_Go p e below Pst (T120.setTop (mkF m 29 #[.val (.ref a2), .val (.int (4 : Int32)), .val (.int (4 : Int32)), .val (.ref b101), .val (.int (4 : Int32))] []))
  refine own_x_goto X120.here hx (pc0 := 29) (pc' := 8) rfl (hb hby own_d19_29) (by decide) (by decide) ?_
  refine own_x_iload X120.here hx (hb hby own_d19_8) rfl ?_
  refine own_x_iloadN X120.here hx (hb hby own_d19_10) rfl ?_
  refine own_x_icmpYes X120.here hx (pc0 := 11) (pc' := 32) rfl (hb hby own_d19_11) rfl (flt (by decide)).2.1 (by decide) (by decide) ?_
  refine own_x_aloadN X120.here hx (hb hby own_d19_32) rfl rfl ?_
  have c122 := (Keep.trans (Keep.trans (Keep.trans (Keep.trans (Keep.trans (Keep.refl h0 []) K101 all0) K105 (allS (Or.inr sz_b101) all0)) K110 (allS (Or.inr sz_b101) all0)) K115 (allS (Or.inr sz_b101) all0)) K120 (allS (Or.inr sz_b101) all0))
  rw [hPst]
  exact own_retP X120 (v := (some (.ref b101))) (Q := Q_tob4 Z a2 kc dv c0 c1 c2 c3 h0 n0) (fun h => by rw [Bd.returns] at h; cases h) Bd.notSynchronized (fun fs hr => retOut X120 hx Bd.returns rfl (Or.inr (Or.inr (Or.inr (Or.inr ⟨rfl, rfl, rfl⟩)))) (hb hby own_d19_33) hr) (by decide) (by decide) ⟨_, rfl, N120, c122, sz_b101, _, V120⟩
def Q_cmp4_0 (Z : State) (a2 : Addr) (kc : ClassId) (dv : Value) (c0 c1 c2 c3 : Int32) (d : Addr) (kd : ClassId) (h0 : Heap) (n0 : Nat) (v : Option Value) (h : Heap) (L : List Loc) : Prop := v = some (.int (0 : Int32)) ∧ Fr n0 L ∧ Keep h0 h [d]
theorem rm_cmp4_0 (l : Launch) (Z : State) (a0 : Array Value) (hw : own_H a0 Z) (ws : List Jvm.Cond) (a2 : Addr) (kc : ClassId) (dv : Value) (c0 c1 c2 c3 : Int32) (d : Addr) (kd : ClassId) (h0 : Heap) (n0 : Nat) (Z0 : n0 ≤ h0.size) (A1 : Arv Z h0 a2 kc .char (4 : Int32) [(.int c0), (.int c1), (.int c2), (.int c3)] dv) (A2 : Arv Z h0 d kd .byte (4 : Int32) [(.int (0 : Int32)), (.int (0 : Int32)), (.int (0 : Int32)), (.int (0 : Int32))] (.int (0 : Int32))) (gd : n0 ≤ d) (ne : a2 ≠ d) (u : (255 : Int32) < c0) : own_MP l (⟨"java/lang/StringUTF16", "compress", "([CI[BII)I"⟩ : MethodName) jdk_52_method_21_code 7 (some .int) ws ({ frames := 0, cells := 0, slots := 0, locals := 0 } : Room) Z h0 #[(.ref a2), (.int (0 : Int32)), (.ref d), (.int (0 : Int32)), (.int (4 : Int32))] (fun _ _ _ _ _ => True) (Q_cmp4_0 Z a2 kc dv c0 c1 c2 c3 d kd h0 n0) := by
  refine own_startP (plainFor_of_name own_pn_java_lang_StringUTF16) fun p e s m below meth c s₁ Bd hx hby hml hown0 X0 e0 hh0 hZ hK Pst hPst => ?_
  have hown : s.vm.findClass "java/lang/StringUTF16" = some m.cls := hown0
  have hnm := (name_of_methodNamed Bd.named Bd.method).1
  have N0 := Fr.nil n0
  rw [own_ef_RIRII_7 m a2 (0 : Int32) d (0 : Int32) (4 : Int32)]
  refine own_x_iconst X0.here hx (hb hby own_d6_0) (z := (0 : Int32)) rfl ?_
  refine own_x_istore X0.here hx (hb hby own_d6_1) rfl (l' := #[.val (.ref a2), .val (.int (0 : Int32)), .val (.ref d), .val (.int (0 : Int32)), .val (.int (4 : Int32)), .val (.int (0 : Int32)), .unset]) rfl ?_
  refine own_x_iload X0.here hx (hb hby own_d6_3) rfl ?_
  refine own_x_iload X0.here hx (hb hby own_d6_5) rfl ?_
  refine own_x_icmpNo X0.here hx (hb hby own_d6_7) rfl (tlt (by decide)).2.1 ?_
  refine own_x_aloadN X0.here hx (hb hby own_d6_10) rfl rfl ?_
  refine own_x_iloadN X0.here hx (hb hby own_d6_11) rfl ?_
  obtain ⟨cl101, Ar101, q101, S101, P101, H101, G101⟩ := id A1
  have hin101 : ¬ ((0 : Int32) < 0 ∨ cl101.slots.size ≤ ((0 : Int32)).toNatClampNeg) := inb_of S101 ⟨by decide, by decide⟩
  have hat101 : cl101.slots[((0 : Int32)).toNatClampNeg]? = some (.int c0) := Has.at H101 hin101 rfl
  refine own_Go.of (S' := s₁.setTop (mkF m 13 #[.val (.ref a2), .val (.int (0 : Int32)), .val (.ref d), .val (.int (0 : Int32)), .val (.int (4 : Int32)), .val (.int (0 : Int32)), .unset] [(.int c0)])) (fun tgt kst => X0.caload hx (j := (0 : Int32)) (v := (.int c0)) (by rw [e0]; exact Ar101.1) (State.isArrayOf_alike hZ.alike Ar101.2.1) Ar101.2.2 hin101 hat101 (g := (mkF m 12 #[.val (.ref a2), .val (.int (0 : Int32)), .val (.ref d), .val (.int (0 : Int32)), .val (.int (4 : Int32)), .val (.int (0 : Int32)), .unset] [(.int (0 : Int32)), (.ref a2)])) rfl rfl (hb hby own_d6_12) _ kst) ?_
  refine own_x_istore X0.here hx (hb hby own_d6_13) rfl (l' := #[.val (.ref a2), .val (.int (0 : Int32)), .val (.ref d), .val (.int (0 : Int32)), .val (.int (4 : Int32)), .val (.int (0 : Int32)), .val (.int c0)]) rfl ?_
  refine own_x_iload X0.here hx (hb hby own_d6_15) rfl ?_
  refine own_x_sipush X0.here hx (hb hby own_d6_17) (z := (255 : Int32)) rfl ?_
  refine own_x_icmpNo X0.here hx (hb hby own_d6_20) rfl (tlt u).2.2.2 ?_
  refine own_x_iload X0.here hx (hb hby own_d6_23) rfl ?_
  rw [hPst]
  exact own_retP X0 (v := (some (.int (0 : Int32)))) (Q := Q_cmp4_0 Z a2 kc dv c0 c1 c2 c3 d kd h0 n0) (fun h => by rw [Bd.returns] at h; cases h) Bd.notSynchronized (fun fs hr => own_retI X0 hx Bd.returns (hb hby own_d6_25) hr) (by decide) (by decide) (by rw [e0]; exact ⟨rfl, N0, (Keep.refl h0 [d])⟩)
def Q_cmp4_1 (Z : State) (a2 : Addr) (kc : ClassId) (dv : Value) (c0 c1 c2 c3 : Int32) (d : Addr) (kd : ClassId) (h0 : Heap) (n0 : Nat) (v : Option Value) (h : Heap) (L : List Loc) : Prop := v = some (.int (1 : Int32)) ∧ Fr n0 L ∧ Keep h0 h [d]
theorem rm_cmp4_1 (l : Launch) (Z : State) (a0 : Array Value) (hw : own_H a0 Z) (ws : List Jvm.Cond) (a2 : Addr) (kc : ClassId) (dv : Value) (c0 c1 c2 c3 : Int32) (d : Addr) (kd : ClassId) (h0 : Heap) (n0 : Nat) (Z0 : n0 ≤ h0.size) (A1 : Arv Z h0 a2 kc .char (4 : Int32) [(.int c0), (.int c1), (.int c2), (.int c3)] dv) (A2 : Arv Z h0 d kd .byte (4 : Int32) [(.int (0 : Int32)), (.int (0 : Int32)), (.int (0 : Int32)), (.int (0 : Int32))] (.int (0 : Int32))) (gd : n0 ≤ d) (ne : a2 ≠ d) (l0 : ¬ (255 : Int32) < c0) (u : (255 : Int32) < c1) : own_MP l (⟨"java/lang/StringUTF16", "compress", "([CI[BII)I"⟩ : MethodName) jdk_52_method_21_code 7 (some .int) ws ({ frames := 0, cells := 0, slots := 0, locals := 0 } : Room) Z h0 #[(.ref a2), (.int (0 : Int32)), (.ref d), (.int (0 : Int32)), (.int (4 : Int32))] (fun _ _ _ _ _ => True) (Q_cmp4_1 Z a2 kc dv c0 c1 c2 c3 d kd h0 n0) := by
  refine own_startP (plainFor_of_name own_pn_java_lang_StringUTF16) fun p e s m below meth c s₁ Bd hx hby hml hown0 X0 e0 hh0 hZ hK Pst hPst => ?_
  have hown : s.vm.findClass "java/lang/StringUTF16" = some m.cls := hown0
  have hnm := (name_of_methodNamed Bd.named Bd.method).1
  have N0 := Fr.nil n0
  rw [own_ef_RIRII_7 m a2 (0 : Int32) d (0 : Int32) (4 : Int32)]
  refine own_x_iconst X0.here hx (hb hby own_d6_0) (z := (0 : Int32)) rfl ?_
  refine own_x_istore X0.here hx (hb hby own_d6_1) rfl (l' := #[.val (.ref a2), .val (.int (0 : Int32)), .val (.ref d), .val (.int (0 : Int32)), .val (.int (4 : Int32)), .val (.int (0 : Int32)), .unset]) rfl ?_
  refine own_x_iload X0.here hx (hb hby own_d6_3) rfl ?_
  refine own_x_iload X0.here hx (hb hby own_d6_5) rfl ?_
  refine own_x_icmpNo X0.here hx (hb hby own_d6_7) rfl (tlt (by decide)).2.1 ?_
  refine own_x_aloadN X0.here hx (hb hby own_d6_10) rfl rfl ?_
  refine own_x_iloadN X0.here hx (hb hby own_d6_11) rfl ?_
  obtain ⟨cl101, Ar101, q101, S101, P101, H101, G101⟩ := id A1
  have hin101 : ¬ ((0 : Int32) < 0 ∨ cl101.slots.size ≤ ((0 : Int32)).toNatClampNeg) := inb_of S101 ⟨by decide, by decide⟩
  have hat101 : cl101.slots[((0 : Int32)).toNatClampNeg]? = some (.int c0) := Has.at H101 hin101 rfl
  refine own_Go.of (S' := s₁.setTop (mkF m 13 #[.val (.ref a2), .val (.int (0 : Int32)), .val (.ref d), .val (.int (0 : Int32)), .val (.int (4 : Int32)), .val (.int (0 : Int32)), .unset] [(.int c0)])) (fun tgt kst => X0.caload hx (j := (0 : Int32)) (v := (.int c0)) (by rw [e0]; exact Ar101.1) (State.isArrayOf_alike hZ.alike Ar101.2.1) Ar101.2.2 hin101 hat101 (g := (mkF m 12 #[.val (.ref a2), .val (.int (0 : Int32)), .val (.ref d), .val (.int (0 : Int32)), .val (.int (4 : Int32)), .val (.int (0 : Int32)), .unset] [(.int (0 : Int32)), (.ref a2)])) rfl rfl (hb hby own_d6_12) _ kst) ?_
  refine own_x_istore X0.here hx (hb hby own_d6_13) rfl (l' := #[.val (.ref a2), .val (.int (0 : Int32)), .val (.ref d), .val (.int (0 : Int32)), .val (.int (4 : Int32)), .val (.int (0 : Int32)), .val (.int c0)]) rfl ?_
  refine own_x_iload X0.here hx (hb hby own_d6_15) rfl ?_
  refine own_x_sipush X0.here hx (hb hby own_d6_17) (z := (255 : Int32)) rfl ?_
  refine own_x_icmpYes X0.here hx (pc0 := 20) (pc' := 26) rfl (hb hby own_d6_20) rfl (flt l0).2.2.2 (by decide) (by decide) ?_
  refine own_x_aloadN X0.here hx (hb hby own_d6_26) rfl rfl ?_
  refine own_x_iloadN X0.here hx (hb hby own_d6_27) rfl ?_
  refine own_x_iload X0.here hx (hb hby own_d6_28) rfl ?_
  refine own_x_i2b X0.here hx (hb hby own_d6_30) rfl ?_
  refine own_h_arB X0 hx hZ e0 A2 (0 : Int32) 0 ⟨by decide, by decide⟩ rfl (Nat.le_of_ble_eq_true rfl) rfl (hb hby own_d6_31) fun T102 h102 X102 e102 W102 V102 => ?_
  have N102 := Fr.snoc X102 N0 gd
  refine own_x_iinc X102.here hx (hb hby own_d6_32) rfl (l' := #[.val (.ref a2), .val (.int ((0 : Int32) + (1 : Int32))), .val (.ref d), .val (.int (0 : Int32)), .val (.int (4 : Int32)), .val (.int (0 : Int32)), .val (.int c0)]) rfl ?_
  refine own_x_iinc X102.here hx (hb hby own_d6_35) rfl (l' := #[.val (.ref a2), .val (.int ((0 : Int32) + (1 : Int32))), .val (.ref d), .val (.int ((0 : Int32) + (1 : Int32))), .val (.int (4 : Int32)), .val (.int (0 : Int32)), .val (.int c0)]) rfl ?_
  refine own_x_iinc X102.here hx (hb hby own_d6_38) rfl (l' := #[.val (.ref a2), .val (.int ((0 : Int32) + (1 : Int32))), .val (.ref d), .val (.int ((0 : Int32) + (1 : Int32))), .val (.int (4 : Int32)), .val (.int ((0 : Int32) + (1 : Int32))), .val (.int c0)]) rfl ?_
  rw [show ((0 : Int32) + (1 : Int32)) = (1 : Int32) from by decide]
  show own_Go p e below Pst (T102.setTop (mkF m 41 #[.val (.ref a2), .val (.int (1 : Int32)), .val (.ref d), .val (.int ((0 : Int32) + (1 : Int32))), .val (.int (4 : Int32)), .val (.int ((0 : Int32) + (1 : Int32))), .val (.int c0)] []))
  rw [show ((0 : Int32) + (1 : Int32)) = (1 : Int32) from by decide]
  show own_Go p e below Pst (T102.setTop (mkF m 41 #[.val (.ref a2), .val (.int (1 : Int32)), .val (.ref d), .val (.int (1 : Int32)), .val (.int (4 : Int32)), .val (.int ((0 : Int32) + (1 : Int32))), .val (.int c0)] []))
  rw [show ((0 : Int32) + (1 : Int32)) = (1 : Int32) from by decide]
  show own_Go p e below Pst (T102.setTop (mkF m 41 #[.val (.ref a2), .val (.int (1 : Int32)), .val (.ref d), .val (.int (1 : Int32)), .val (.int (4 : Int32)), .val (.int (1 : Int32)), .val (.int c0)] []))
  refine own_x_goto X102.here hx (pc0 := 41) (pc' := 3) rfl (hb hby own_d6_41) (by decide) (by decide) ?_
  refine own_x_iload X102.here hx (hb hby own_d6_3) rfl ?_
  refine own_x_iload X102.here hx (hb hby own_d6_5) rfl ?_
  refine own_x_icmpNo X102.here hx (hb hby own_d6_7) rfl (tlt (by decide)).2.1 ?_
  refine own_x_aloadN X102.here hx (hb hby own_d6_10) rfl rfl ?_
  refine own_x_iloadN X102.here hx (hb hby own_d6_11) rfl ?_
  have c103 := (A1.other W102 ne)
  obtain ⟨cl104, Ar104, q104, S104, P104, H104, G104⟩ := id c103
  have hin104 : ¬ ((1 : Int32) < 0 ∨ cl104.slots.size ≤ ((1 : Int32)).toNatClampNeg) := inb_of S104 ⟨by decide, by decide⟩
  have hat104 : cl104.slots[((1 : Int32)).toNatClampNeg]? = some (.int c1) := Has.at H104 hin104 rfl
  refine own_Go.of (S' := T102.setTop (mkF m 13 #[.val (.ref a2), .val (.int (1 : Int32)), .val (.ref d), .val (.int (1 : Int32)), .val (.int (4 : Int32)), .val (.int (1 : Int32)), .val (.int c0)] [(.int c1)])) (fun tgt kst => X102.caload hx (j := (1 : Int32)) (v := (.int c1)) (by rw [e102]; exact Ar104.1) (State.isArrayOf_alike hZ.alike Ar104.2.1) Ar104.2.2 hin104 hat104 (g := (mkF m 12 #[.val (.ref a2), .val (.int (1 : Int32)), .val (.ref d), .val (.int (1 : Int32)), .val (.int (4 : Int32)), .val (.int (1 : Int32)), .val (.int c0)] [(.int (1 : Int32)), (.ref a2)])) rfl rfl (hb hby own_d6_12) _ kst) ?_
  refine own_x_istore X102.here hx (hb hby own_d6_13) rfl (l' := #[.val (.ref a2), .val (.int (1 : Int32)), .val (.ref d), .val (.int (1 : Int32)), .val (.int (4 : Int32)), .val (.int (1 : Int32)), .val (.int c1)]) rfl ?_
  refine own_x_iload X102.here hx (hb hby own_d6_15) rfl ?_
  refine own_x_sipush X102.here hx (hb hby own_d6_17) (z := (255 : Int32)) rfl ?_
  refine own_x_icmpNo X102.here hx (hb hby own_d6_20) rfl (tlt u).2.2.2 ?_
  refine own_x_iload X102.here hx (hb hby own_d6_23) rfl ?_
  have c105 := ((Keep.refl h0 [d]).wr W102 (Or.inl (List.mem_of_getElem? (i := 0) rfl)))
  rw [hPst]
  exact own_retP X102 (v := (some (.int (1 : Int32)))) (Q := Q_cmp4_1 Z a2 kc dv c0 c1 c2 c3 d kd h0 n0) (fun h => by rw [Bd.returns] at h; cases h) Bd.notSynchronized (fun fs hr => own_retI X102 hx Bd.returns (hb hby own_d6_25) hr) (by decide) (by decide) (by rw [e102]; exact ⟨rfl, N102, c105⟩)
def Q_cmp4_2 (Z : State) (a2 : Addr) (kc : ClassId) (dv : Value) (c0 c1 c2 c3 : Int32) (d : Addr) (kd : ClassId) (h0 : Heap) (n0 : Nat) (v : Option Value) (h : Heap) (L : List Loc) : Prop := v = some (.int (2 : Int32)) ∧ Fr n0 L ∧ Keep h0 h [d]
theorem rm_cmp4_2 (l : Launch) (Z : State) (a0 : Array Value) (hw : own_H a0 Z) (ws : List Jvm.Cond) (a2 : Addr) (kc : ClassId) (dv : Value) (c0 c1 c2 c3 : Int32) (d : Addr) (kd : ClassId) (h0 : Heap) (n0 : Nat) (Z0 : n0 ≤ h0.size) (A1 : Arv Z h0 a2 kc .char (4 : Int32) [(.int c0), (.int c1), (.int c2), (.int c3)] dv) (A2 : Arv Z h0 d kd .byte (4 : Int32) [(.int (0 : Int32)), (.int (0 : Int32)), (.int (0 : Int32)), (.int (0 : Int32))] (.int (0 : Int32))) (gd : n0 ≤ d) (ne : a2 ≠ d) (l0 : ¬ (255 : Int32) < c0) (l1 : ¬ (255 : Int32) < c1) (u : (255 : Int32) < c2) : own_MP l (⟨"java/lang/StringUTF16", "compress", "([CI[BII)I"⟩ : MethodName) jdk_52_method_21_code 7 (some .int) ws ({ frames := 0, cells := 0, slots := 0, locals := 0 } : Room) Z h0 #[(.ref a2), (.int (0 : Int32)), (.ref d), (.int (0 : Int32)), (.int (4 : Int32))] (fun _ _ _ _ _ => True) (Q_cmp4_2 Z a2 kc dv c0 c1 c2 c3 d kd h0 n0) := by
  refine own_startP (plainFor_of_name own_pn_java_lang_StringUTF16) fun p e s m below meth c s₁ Bd hx hby hml hown0 X0 e0 hh0 hZ hK Pst hPst => ?_
  have hown : s.vm.findClass "java/lang/StringUTF16" = some m.cls := hown0
  have hnm := (name_of_methodNamed Bd.named Bd.method).1
  have N0 := Fr.nil n0
  rw [own_ef_RIRII_7 m a2 (0 : Int32) d (0 : Int32) (4 : Int32)]
  refine own_x_iconst X0.here hx (hb hby own_d6_0) (z := (0 : Int32)) rfl ?_
  refine own_x_istore X0.here hx (hb hby own_d6_1) rfl (l' := #[.val (.ref a2), .val (.int (0 : Int32)), .val (.ref d), .val (.int (0 : Int32)), .val (.int (4 : Int32)), .val (.int (0 : Int32)), .unset]) rfl ?_
  refine own_x_iload X0.here hx (hb hby own_d6_3) rfl ?_
  refine own_x_iload X0.here hx (hb hby own_d6_5) rfl ?_
  refine own_x_icmpNo X0.here hx (hb hby own_d6_7) rfl (tlt (by decide)).2.1 ?_
  refine own_x_aloadN X0.here hx (hb hby own_d6_10) rfl rfl ?_
  refine own_x_iloadN X0.here hx (hb hby own_d6_11) rfl ?_
  obtain ⟨cl101, Ar101, q101, S101, P101, H101, G101⟩ := id A1
  have hin101 : ¬ ((0 : Int32) < 0 ∨ cl101.slots.size ≤ ((0 : Int32)).toNatClampNeg) := inb_of S101 ⟨by decide, by decide⟩
  have hat101 : cl101.slots[((0 : Int32)).toNatClampNeg]? = some (.int c0) := Has.at H101 hin101 rfl
  refine own_Go.of (S' := s₁.setTop (mkF m 13 #[.val (.ref a2), .val (.int (0 : Int32)), .val (.ref d), .val (.int (0 : Int32)), .val (.int (4 : Int32)), .val (.int (0 : Int32)), .unset] [(.int c0)])) (fun tgt kst => X0.caload hx (j := (0 : Int32)) (v := (.int c0)) (by rw [e0]; exact Ar101.1) (State.isArrayOf_alike hZ.alike Ar101.2.1) Ar101.2.2 hin101 hat101 (g := (mkF m 12 #[.val (.ref a2), .val (.int (0 : Int32)), .val (.ref d), .val (.int (0 : Int32)), .val (.int (4 : Int32)), .val (.int (0 : Int32)), .unset] [(.int (0 : Int32)), (.ref a2)])) rfl rfl (hb hby own_d6_12) _ kst) ?_
  refine own_x_istore X0.here hx (hb hby own_d6_13) rfl (l' := #[.val (.ref a2), .val (.int (0 : Int32)), .val (.ref d), .val (.int (0 : Int32)), .val (.int (4 : Int32)), .val (.int (0 : Int32)), .val (.int c0)]) rfl ?_
  refine own_x_iload X0.here hx (hb hby own_d6_15) rfl ?_
  refine own_x_sipush X0.here hx (hb hby own_d6_17) (z := (255 : Int32)) rfl ?_
  refine own_x_icmpYes X0.here hx (pc0 := 20) (pc' := 26) rfl (hb hby own_d6_20) rfl (flt l0).2.2.2 (by decide) (by decide) ?_
  refine own_x_aloadN X0.here hx (hb hby own_d6_26) rfl rfl ?_
  refine own_x_iloadN X0.here hx (hb hby own_d6_27) rfl ?_
  refine own_x_iload X0.here hx (hb hby own_d6_28) rfl ?_
  refine own_x_i2b X0.here hx (hb hby own_d6_30) rfl ?_
  refine own_h_arB X0 hx hZ e0 A2 (0 : Int32) 0 ⟨by decide, by decide⟩ rfl (Nat.le_of_ble_eq_true rfl) rfl (hb hby own_d6_31) fun T102 h102 X102 e102 W102 V102 => ?_
  have N102 := Fr.snoc X102 N0 gd
  refine own_x_iinc X102.here hx (hb hby own_d6_32) rfl (l' := #[.val (.ref a2), .val (.int ((0 : Int32) + (1 : Int32))), .val (.ref d), .val (.int (0 : Int32)), .val (.int (4 : Int32)), .val (.int (0 : Int32)), .val (.int c0)]) rfl ?_
  refine own_x_iinc X102.here hx (hb hby own_d6_35) rfl (l' := #[.val (.ref a2), .val (.int ((0 : Int32) + (1 : Int32))), .val (.ref d), .val (.int ((0 : Int32) + (1 : Int32))), .val (.int (4 : Int32)), .val (.int (0 : Int32)), .val (.int c0)]) rfl ?_
  refine own_x_iinc X102.here hx (hb hby own_d6_38) rfl (l' := #[.val (.ref a2), .val (.int ((0 : Int32) + (1 : Int32))), .val (.ref d), .val (.int ((0 : Int32) + (1 : Int32))), .val (.int (4 : Int32)), .val (.int ((0 : Int32) + (1 : Int32))), .val (.int c0)]) rfl ?_
  rw [show ((0 : Int32) + (1 : Int32)) = (1 : Int32) from by decide]
  show own_Go p e below Pst (T102.setTop (mkF m 41 #[.val (.ref a2), .val (.int (1 : Int32)), .val (.ref d), .val (.int ((0 : Int32) + (1 : Int32))), .val (.int (4 : Int32)), .val (.int ((0 : Int32) + (1 : Int32))), .val (.int c0)] []))
  rw [show ((0 : Int32) + (1 : Int32)) = (1 : Int32) from by decide]
  show own_Go p e below Pst (T102.setTop (mkF m 41 #[.val (.ref a2), .val (.int (1 : Int32)), .val (.ref d), .val (.int (1 : Int32)), .val (.int (4 : Int32)), .val (.int ((0 : Int32) + (1 : Int32))), .val (.int c0)] []))
  rw [show ((0 : Int32) + (1 : Int32)) = (1 : Int32) from by decide]
  show own_Go p e below Pst (T102.setTop (mkF m 41 #[.val (.ref a2), .val (.int (1 : Int32)), .val (.ref d), .val (.int (1 : Int32)), .val (.int (4 : Int32)), .val (.int (1 : Int32)), .val (.int c0)] []))
  refine own_x_goto X102.here hx (pc0 := 41) (pc' := 3) rfl (hb hby own_d6_41) (by decide) (by decide) ?_
  refine own_x_iload X102.here hx (hb hby own_d6_3) rfl ?_
  refine own_x_iload X102.here hx (hb hby own_d6_5) rfl ?_
  refine own_x_icmpNo X102.here hx (hb hby own_d6_7) rfl (tlt (by decide)).2.1 ?_
  refine own_x_aloadN X102.here hx (hb hby own_d6_10) rfl rfl ?_
  refine own_x_iloadN X102.here hx (hb hby own_d6_11) rfl ?_
  have c103 := (A1.other W102 ne)
  obtain ⟨cl104, Ar104, q104, S104, P104, H104, G104⟩ := id c103
  have hin104 : ¬ ((1 : Int32) < 0 ∨ cl104.slots.size ≤ ((1 : Int32)).toNatClampNeg) := inb_of S104 ⟨by decide, by decide⟩
  have hat104 : cl104.slots[((1 : Int32)).toNatClampNeg]? = some (.int c1) := Has.at H104 hin104 rfl
  refine own_Go.of (S' := T102.setTop (mkF m 13 #[.val (.ref a2), .val (.int (1 : Int32)), .val (.ref d), .val (.int (1 : Int32)), .val (.int (4 : Int32)), .val (.int (1 : Int32)), .val (.int c0)] [(.int c1)])) (fun tgt kst => X102.caload hx (j := (1 : Int32)) (v := (.int c1)) (by rw [e102]; exact Ar104.1) (State.isArrayOf_alike hZ.alike Ar104.2.1) Ar104.2.2 hin104 hat104 (g := (mkF m 12 #[.val (.ref a2), .val (.int (1 : Int32)), .val (.ref d), .val (.int (1 : Int32)), .val (.int (4 : Int32)), .val (.int (1 : Int32)), .val (.int c0)] [(.int (1 : Int32)), (.ref a2)])) rfl rfl (hb hby own_d6_12) _ kst) ?_
  refine own_x_istore X102.here hx (hb hby own_d6_13) rfl (l' := #[.val (.ref a2), .val (.int (1 : Int32)), .val (.ref d), .val (.int (1 : Int32)), .val (.int (4 : Int32)), .val (.int (1 : Int32)), .val (.int c1)]) rfl ?_
  refine own_x_iload X102.here hx (hb hby own_d6_15) rfl ?_
  refine own_x_sipush X102.here hx (hb hby own_d6_17) (z := (255 : Int32)) rfl ?_
  refine own_x_icmpYes X102.here hx (pc0 := 20) (pc' := 26) rfl (hb hby own_d6_20) rfl (flt l1).2.2.2 (by decide) (by decide) ?_
  refine own_x_aloadN X102.here hx (hb hby own_d6_26) rfl rfl ?_
  refine own_x_iloadN X102.here hx (hb hby own_d6_27) rfl ?_
  refine own_x_iload X102.here hx (hb hby own_d6_28) rfl ?_
  refine own_x_i2b X102.here hx (hb hby own_d6_30) rfl ?_
  refine own_h_arB X102 hx hZ e102 V102 (1 : Int32) 1 ⟨by decide, by decide⟩ rfl (Nat.le_of_ble_eq_true rfl) rfl (hb hby own_d6_31) fun T105 h105 X105 e105 W105 V105 => ?_
  have N105 := Fr.snoc X105 N102 gd
  refine own_x_iinc X105.here hx (hb hby own_d6_32) rfl (l' := #[.val (.ref a2), .val (.int ((1 : Int32) + (1 : Int32))), .val (.ref d), .val (.int (1 : Int32)), .val (.int (4 : Int32)), .val (.int (1 : Int32)), .val (.int c1)]) rfl ?_
  refine own_x_iinc X105.here hx (hb hby own_d6_35) rfl (l' := #[.val (.ref a2), .val (.int ((1 : Int32) + (1 : Int32))), .val (.ref d), .val (.int ((1 : Int32) + (1 : Int32))), .val (.int (4 : Int32)), .val (.int (1 : Int32)), .val (.int c1)]) rfl ?_
  refine own_x_iinc X105.here hx (hb hby own_d6_38) rfl (l' := #[.val (.ref a2), .val (.int ((1 : Int32) + (1 : Int32))), .val (.ref d), .val (.int ((1 : Int32) + (1 : Int32))), .val (.int (4 : Int32)), .val (.int ((1 : Int32) + (1 : Int32))), .val (.int c1)]) rfl ?_
  rw [show ((1 : Int32) + (1 : Int32)) = (2 : Int32) from by decide]
  show own_Go p e below Pst (T105.setTop (mkF m 41 #[.val (.ref a2), .val (.int (2 : Int32)), .val (.ref d), .val (.int ((1 : Int32) + (1 : Int32))), .val (.int (4 : Int32)), .val (.int ((1 : Int32) + (1 : Int32))), .val (.int c1)] []))
  rw [show ((1 : Int32) + (1 : Int32)) = (2 : Int32) from by decide]
  show own_Go p e below Pst (T105.setTop (mkF m 41 #[.val (.ref a2), .val (.int (2 : Int32)), .val (.ref d), .val (.int (2 : Int32)), .val (.int (4 : Int32)), .val (.int ((1 : Int32) + (1 : Int32))), .val (.int c1)] []))
  rw [show ((1 : Int32) + (1 : Int32)) = (2 : Int32) from by decide]
  show own_Go p e below Pst (T105.setTop (mkF m 41 #[.val (.ref a2), .val (.int (2 : Int32)), .val (.ref d), .val (.int (2 : Int32)), .val (.int (4 : Int32)), .val (.int (2 : Int32)), .val (.int c1)] []))
  refine own_x_goto X105.here hx (pc0 := 41) (pc' := 3) rfl (hb hby own_d6_41) (by decide) (by decide) ?_
  refine own_x_iload X105.here hx (hb hby own_d6_3) rfl ?_
  refine own_x_iload X105.here hx (hb hby own_d6_5) rfl ?_
  refine own_x_icmpNo X105.here hx (hb hby own_d6_7) rfl (tlt (by decide)).2.1 ?_
  refine own_x_aloadN X105.here hx (hb hby own_d6_10) rfl rfl ?_
  refine own_x_iloadN X105.here hx (hb hby own_d6_11) rfl ?_
  have c106 := (c103.other W105 ne)
  obtain ⟨cl107, Ar107, q107, S107, P107, H107, G107⟩ := id c106
  have hin107 : ¬ ((2 : Int32) < 0 ∨ cl107.slots.size ≤ ((2 : Int32)).toNatClampNeg) := inb_of S107 ⟨by decide, by decide⟩
  have hat107 : cl107.slots[((2 : Int32)).toNatClampNeg]? = some (.int c2) := Has.at H107 hin107 rfl
  refine own_Go.of (S' := T105.setTop (mkF m 13 #[.val (.ref a2), .val (.int (2 : Int32)), .val (.ref d), .val (.int (2 : Int32)), .val (.int (4 : Int32)), .val (.int (2 : Int32)), .val (.int c1)] [(.int c2)])) (fun tgt kst => X105.caload hx (j := (2 : Int32)) (v := (.int c2)) (by rw [e105]; exact Ar107.1) (State.isArrayOf_alike hZ.alike Ar107.2.1) Ar107.2.2 hin107 hat107 (g := (mkF m 12 #[.val (.ref a2), .val (.int (2 : Int32)), .val (.ref d), .val (.int (2 : Int32)), .val (.int (4 : Int32)), .val (.int (2 : Int32)), .val (.int c1)] [(.int (2 : Int32)), (.ref a2)])) rfl rfl (hb hby own_d6_12) _ kst) ?_
  refine own_x_istore X105.here hx (hb hby own_d6_13) rfl (l' := #[.val (.ref a2), .val (.int (2 : Int32)), .val (.ref d), .val (.int (2 : Int32)), .val (.int (4 : Int32)), .val (.int (2 : Int32)), .val (.int c2)]) rfl ?_
  refine own_x_iload X105.here hx (hb hby own_d6_15) rfl ?_
  refine own_x_sipush X105.here hx (hb hby own_d6_17) (z := (255 : Int32)) rfl ?_
  refine own_x_icmpNo X105.here hx (hb hby own_d6_20) rfl (tlt u).2.2.2 ?_
  refine own_x_iload X105.here hx (hb hby own_d6_23) rfl ?_
  have c108 := (((Keep.refl h0 [d]).wr W102 (Or.inl (List.mem_of_getElem? (i := 0) rfl))).wr W105 (Or.inl (List.mem_of_getElem? (i := 0) rfl)))
  rw [hPst]
  exact own_retP X105 (v := (some (.int (2 : Int32)))) (Q := Q_cmp4_2 Z a2 kc dv c0 c1 c2 c3 d kd h0 n0) (fun h => by rw [Bd.returns] at h; cases h) Bd.notSynchronized (fun fs hr => own_retI X105 hx Bd.returns (hb hby own_d6_25) hr) (by decide) (by decide) (by rw [e105]; exact ⟨rfl, N105, c108⟩)
def Q_cmp4_3 (Z : State) (a2 : Addr) (kc : ClassId) (dv : Value) (c0 c1 c2 c3 : Int32) (d : Addr) (kd : ClassId) (h0 : Heap) (n0 : Nat) (v : Option Value) (h : Heap) (L : List Loc) : Prop := v = some (.int (3 : Int32)) ∧ Fr n0 L ∧ Keep h0 h [d]
theorem rm_cmp4_3 (l : Launch) (Z : State) (a0 : Array Value) (hw : own_H a0 Z) (ws : List Jvm.Cond) (a2 : Addr) (kc : ClassId) (dv : Value) (c0 c1 c2 c3 : Int32) (d : Addr) (kd : ClassId) (h0 : Heap) (n0 : Nat) (Z0 : n0 ≤ h0.size) (A1 : Arv Z h0 a2 kc .char (4 : Int32) [(.int c0), (.int c1), (.int c2), (.int c3)] dv) (A2 : Arv Z h0 d kd .byte (4 : Int32) [(.int (0 : Int32)), (.int (0 : Int32)), (.int (0 : Int32)), (.int (0 : Int32))] (.int (0 : Int32))) (gd : n0 ≤ d) (ne : a2 ≠ d) (l0 : ¬ (255 : Int32) < c0) (l1 : ¬ (255 : Int32) < c1) (l2 : ¬ (255 : Int32) < c2) (u : (255 : Int32) < c3) : own_MP l (⟨"java/lang/StringUTF16", "compress", "([CI[BII)I"⟩ : MethodName) jdk_52_method_21_code 7 (some .int) ws ({ frames := 0, cells := 0, slots := 0, locals := 0 } : Room) Z h0 #[(.ref a2), (.int (0 : Int32)), (.ref d), (.int (0 : Int32)), (.int (4 : Int32))] (fun _ _ _ _ _ => True) (Q_cmp4_3 Z a2 kc dv c0 c1 c2 c3 d kd h0 n0) := by
  refine own_startP (plainFor_of_name own_pn_java_lang_StringUTF16) fun p e s m below meth c s₁ Bd hx hby hml hown0 X0 e0 hh0 hZ hK Pst hPst => ?_
  have hown : s.vm.findClass "java/lang/StringUTF16" = some m.cls := hown0
  have hnm := (name_of_methodNamed Bd.named Bd.method).1
  have N0 := Fr.nil n0
  rw [own_ef_RIRII_7 m a2 (0 : Int32) d (0 : Int32) (4 : Int32)]
  refine own_x_iconst X0.here hx (hb hby own_d6_0) (z := (0 : Int32)) rfl ?_
  refine own_x_istore X0.here hx (hb hby own_d6_1) rfl (l' := #[.val (.ref a2), .val (.int (0 : Int32)), .val (.ref d), .val (.int (0 : Int32)), .val (.int (4 : Int32)), .val (.int (0 : Int32)), .unset]) rfl ?_
  refine own_x_iload X0.here hx (hb hby own_d6_3) rfl ?_
  refine own_x_iload X0.here hx (hb hby own_d6_5) rfl ?_
  refine own_x_icmpNo X0.here hx (hb hby own_d6_7) rfl (tlt (by decide)).2.1 ?_
  refine own_x_aloadN X0.here hx (hb hby own_d6_10) rfl rfl ?_
  refine own_x_iloadN X0.here hx (hb hby own_d6_11) rfl ?_
  obtain ⟨cl101, Ar101, q101, S101, P101, H101, G101⟩ := id A1
  have hin101 : ¬ ((0 : Int32) < 0 ∨ cl101.slots.size ≤ ((0 : Int32)).toNatClampNeg) := inb_of S101 ⟨by decide, by decide⟩
  have hat101 : cl101.slots[((0 : Int32)).toNatClampNeg]? = some (.int c0) := Has.at H101 hin101 rfl
  refine own_Go.of (S' := s₁.setTop (mkF m 13 #[.val (.ref a2), .val (.int (0 : Int32)), .val (.ref d), .val (.int (0 : Int32)), .val (.int (4 : Int32)), .val (.int (0 : Int32)), .unset] [(.int c0)])) (fun tgt kst => X0.caload hx (j := (0 : Int32)) (v := (.int c0)) (by rw [e0]; exact Ar101.1) (State.isArrayOf_alike hZ.alike Ar101.2.1) Ar101.2.2 hin101 hat101 (g := (mkF m 12 #[.val (.ref a2), .val (.int (0 : Int32)), .val (.ref d), .val (.int (0 : Int32)), .val (.int (4 : Int32)), .val (.int (0 : Int32)), .unset] [(.int (0 : Int32)), (.ref a2)])) rfl rfl (hb hby own_d6_12) _ kst) ?_
  refine own_x_istore X0.here hx (hb hby own_d6_13) rfl (l' := #[.val (.ref a2), .val (.int (0 : Int32)), .val (.ref d), .val (.int (0 : Int32)), .val (.int (4 : Int32)), .val (.int (0 : Int32)), .val (.int c0)]) rfl ?_
  refine own_x_iload X0.here hx (hb hby own_d6_15) rfl ?_
  refine own_x_sipush X0.here hx (hb hby own_d6_17) (z := (255 : Int32)) rfl ?_
  refine own_x_icmpYes X0.here hx (pc0 := 20) (pc' := 26) rfl (hb hby own_d6_20) rfl (flt l0).2.2.2 (by decide) (by decide) ?_
  refine own_x_aloadN X0.here hx (hb hby own_d6_26) rfl rfl ?_
  refine own_x_iloadN X0.here hx (hb hby own_d6_27) rfl ?_
  refine own_x_iload X0.here hx (hb hby own_d6_28) rfl ?_
  refine own_x_i2b X0.here hx (hb hby own_d6_30) rfl ?_
  refine own_h_arB X0 hx hZ e0 A2 (0 : Int32) 0 ⟨by decide, by decide⟩ rfl (Nat.le_of_ble_eq_true rfl) rfl (hb hby own_d6_31) fun T102 h102 X102 e102 W102 V102 => ?_
  have N102 := Fr.snoc X102 N0 gd
  refine own_x_iinc X102.here hx (hb hby own_d6_32) rfl (l' := #[.val (.ref a2), .val (.int ((0 : Int32) + (1 : Int32))), .val (.ref d), .val (.int (0 : Int32)), .val (.int (4 : Int32)), .val (.int (0 : Int32)), .val (.int c0)]) rfl ?_
  refine own_x_iinc X102.here hx (hb hby own_d6_35) rfl (l' := #[.val (.ref a2), .val (.int ((0 : Int32) + (1 : Int32))), .val (.ref d), .val (.int ((0 : Int32) + (1 : Int32))), .val (.int (4 : Int32)), .val (.int (0 : Int32)), .val (.int c0)]) rfl ?_
  refine own_x_iinc X102.here hx (hb hby own_d6_38) rfl (l' := #[.val (.ref a2), .val (.int ((0 : Int32) + (1 : Int32))), .val (.ref d), .val (.int ((0 : Int32) + (1 : Int32))), .val (.int (4 : Int32)), .val (.int ((0 : Int32) + (1 : Int32))), .val (.int c0)]) rfl ?_
  rw [show ((0 : Int32) + (1 : Int32)) = (1 : Int32) from by decide]
  show own_Go p e below Pst (T102.setTop (mkF m 41 #[.val (.ref a2), .val (.int (1 : Int32)), .val (.ref d), .val (.int ((0 : Int32) + (1 : Int32))), .val (.int (4 : Int32)), .val (.int ((0 : Int32) + (1 : Int32))), .val (.int c0)] []))
  rw [show ((0 : Int32) + (1 : Int32)) = (1 : Int32) from by decide]
  show own_Go p e below Pst (T102.setTop (mkF m 41 #[.val (.ref a2), .val (.int (1 : Int32)), .val (.ref d), .val (.int (1 : Int32)), .val (.int (4 : Int32)), .val (.int ((0 : Int32) + (1 : Int32))), .val (.int c0)] []))
  rw [show ((0 : Int32) + (1 : Int32)) = (1 : Int32) from by decide]
  show own_Go p e below Pst (T102.setTop (mkF m 41 #[.val (.ref a2), .val (.int (1 : Int32)), .val (.ref d), .val (.int (1 : Int32)), .val (.int (4 : Int32)), .val (.int (1 : Int32)), .val (.int c0)] []))
  refine own_x_goto X102.here hx (pc0 := 41) (pc' := 3) rfl (hb hby own_d6_41) (by decide) (by decide) ?_
  refine own_x_iload X102.here hx (hb hby own_d6_3) rfl ?_
  refine own_x_iload X102.here hx (hb hby own_d6_5) rfl ?_
  refine own_x_icmpNo X102.here hx (hb hby own_d6_7) rfl (tlt (by decide)).2.1 ?_
  refine own_x_aloadN X102.here hx (hb hby own_d6_10) rfl rfl ?_
  refine own_x_iloadN X102.here hx (hb hby own_d6_11) rfl ?_
  have c103 := (A1.other W102 ne)
  obtain ⟨cl104, Ar104, q104, S104, P104, H104, G104⟩ := id c103
  have hin104 : ¬ ((1 : Int32) < 0 ∨ cl104.slots.size ≤ ((1 : Int32)).toNatClampNeg) := inb_of S104 ⟨by decide, by decide⟩
  have hat104 : cl104.slots[((1 : Int32)).toNatClampNeg]? = some (.int c1) := Has.at H104 hin104 rfl
  refine own_Go.of (S' := T102.setTop (mkF m 13 #[.val (.ref a2), .val (.int (1 : Int32)), .val (.ref d), .val (.int (1 : Int32)), .val (.int (4 : Int32)), .val (.int (1 : Int32)), .val (.int c0)] [(.int c1)])) (fun tgt kst => X102.caload hx (j := (1 : Int32)) (v := (.int c1)) (by rw [e102]; exact Ar104.1) (State.isArrayOf_alike hZ.alike Ar104.2.1) Ar104.2.2 hin104 hat104 (g := (mkF m 12 #[.val (.ref a2), .val (.int (1 : Int32)), .val (.ref d), .val (.int (1 : Int32)), .val (.int (4 : Int32)), .val (.int (1 : Int32)), .val (.int c0)] [(.int (1 : Int32)), (.ref a2)])) rfl rfl (hb hby own_d6_12) _ kst) ?_
  refine own_x_istore X102.here hx (hb hby own_d6_13) rfl (l' := #[.val (.ref a2), .val (.int (1 : Int32)), .val (.ref d), .val (.int (1 : Int32)), .val (.int (4 : Int32)), .val (.int (1 : Int32)), .val (.int c1)]) rfl ?_
  refine own_x_iload X102.here hx (hb hby own_d6_15) rfl ?_
  refine own_x_sipush X102.here hx (hb hby own_d6_17) (z := (255 : Int32)) rfl ?_
  refine own_x_icmpYes X102.here hx (pc0 := 20) (pc' := 26) rfl (hb hby own_d6_20) rfl (flt l1).2.2.2 (by decide) (by decide) ?_
  refine own_x_aloadN X102.here hx (hb hby own_d6_26) rfl rfl ?_
  refine own_x_iloadN X102.here hx (hb hby own_d6_27) rfl ?_
  refine own_x_iload X102.here hx (hb hby own_d6_28) rfl ?_
  refine own_x_i2b X102.here hx (hb hby own_d6_30) rfl ?_
  refine own_h_arB X102 hx hZ e102 V102 (1 : Int32) 1 ⟨by decide, by decide⟩ rfl (Nat.le_of_ble_eq_true rfl) rfl (hb hby own_d6_31) fun T105 h105 X105 e105 W105 V105 => ?_
  have N105 := Fr.snoc X105 N102 gd
  refine own_x_iinc X105.here hx (hb hby own_d6_32) rfl (l' := #[.val (.ref a2), .val (.int ((1 : Int32) + (1 : Int32))), .val (.ref d), .val (.int (1 : Int32)), .val (.int (4 : Int32)), .val (.int (1 : Int32)), .val (.int c1)]) rfl ?_
  refine own_x_iinc X105.here hx (hb hby own_d6_35) rfl (l' := #[.val (.ref a2), .val (.int ((1 : Int32) + (1 : Int32))), .val (.ref d), .val (.int ((1 : Int32) + (1 : Int32))), .val (.int (4 : Int32)), .val (.int (1 : Int32)), .val (.int c1)]) rfl ?_
  refine own_x_iinc X105.here hx (hb hby own_d6_38) rfl (l' := #[.val (.ref a2), .val (.int ((1 : Int32) + (1 : Int32))), .val (.ref d), .val (.int ((1 : Int32) + (1 : Int32))), .val (.int (4 : Int32)), .val (.int ((1 : Int32) + (1 : Int32))), .val (.int c1)]) rfl ?_
  rw [show ((1 : Int32) + (1 : Int32)) = (2 : Int32) from by decide]
  show own_Go p e below Pst (T105.setTop (mkF m 41 #[.val (.ref a2), .val (.int (2 : Int32)), .val (.ref d), .val (.int ((1 : Int32) + (1 : Int32))), .val (.int (4 : Int32)), .val (.int ((1 : Int32) + (1 : Int32))), .val (.int c1)] []))
  rw [show ((1 : Int32) + (1 : Int32)) = (2 : Int32) from by decide]
  show own_Go p e below Pst (T105.setTop (mkF m 41 #[.val (.ref a2), .val (.int (2 : Int32)), .val (.ref d), .val (.int (2 : Int32)), .val (.int (4 : Int32)), .val (.int ((1 : Int32) + (1 : Int32))), .val (.int c1)] []))
  rw [show ((1 : Int32) + (1 : Int32)) = (2 : Int32) from by decide]
  show own_Go p e below Pst (T105.setTop (mkF m 41 #[.val (.ref a2), .val (.int (2 : Int32)), .val (.ref d), .val (.int (2 : Int32)), .val (.int (4 : Int32)), .val (.int (2 : Int32)), .val (.int c1)] []))
  refine own_x_goto X105.here hx (pc0 := 41) (pc' := 3) rfl (hb hby own_d6_41) (by decide) (by decide) ?_
  refine own_x_iload X105.here hx (hb hby own_d6_3) rfl ?_
  refine own_x_iload X105.here hx (hb hby own_d6_5) rfl ?_
  refine own_x_icmpNo X105.here hx (hb hby own_d6_7) rfl (tlt (by decide)).2.1 ?_
  refine own_x_aloadN X105.here hx (hb hby own_d6_10) rfl rfl ?_
  refine own_x_iloadN X105.here hx (hb hby own_d6_11) rfl ?_
  have c106 := (c103.other W105 ne)
  obtain ⟨cl107, Ar107, q107, S107, P107, H107, G107⟩ := id c106
  have hin107 : ¬ ((2 : Int32) < 0 ∨ cl107.slots.size ≤ ((2 : Int32)).toNatClampNeg) := inb_of S107 ⟨by decide, by decide⟩
  have hat107 : cl107.slots[((2 : Int32)).toNatClampNeg]? = some (.int c2) := Has.at H107 hin107 rfl
  refine own_Go.of (S' := T105.setTop (mkF m 13 #[.val (.ref a2), .val (.int (2 : Int32)), .val (.ref d), .val (.int (2 : Int32)), .val (.int (4 : Int32)), .val (.int (2 : Int32)), .val (.int c1)] [(.int c2)])) (fun tgt kst => X105.caload hx (j := (2 : Int32)) (v := (.int c2)) (by rw [e105]; exact Ar107.1) (State.isArrayOf_alike hZ.alike Ar107.2.1) Ar107.2.2 hin107 hat107 (g := (mkF m 12 #[.val (.ref a2), .val (.int (2 : Int32)), .val (.ref d), .val (.int (2 : Int32)), .val (.int (4 : Int32)), .val (.int (2 : Int32)), .val (.int c1)] [(.int (2 : Int32)), (.ref a2)])) rfl rfl (hb hby own_d6_12) _ kst) ?_
  refine own_x_istore X105.here hx (hb hby own_d6_13) rfl (l' := #[.val (.ref a2), .val (.int (2 : Int32)), .val (.ref d), .val (.int (2 : Int32)), .val (.int (4 : Int32)), .val (.int (2 : Int32)), .val (.int c2)]) rfl ?_
  refine own_x_iload X105.here hx (hb hby own_d6_15) rfl ?_
  refine own_x_sipush X105.here hx (hb hby own_d6_17) (z := (255 : Int32)) rfl ?_
  refine own_x_icmpYes X105.here hx (pc0 := 20) (pc' := 26) rfl (hb hby own_d6_20) rfl (flt l2).2.2.2 (by decide) (by decide) ?_
  refine own_x_aloadN X105.here hx (hb hby own_d6_26) rfl rfl ?_
  refine own_x_iloadN X105.here hx (hb hby own_d6_27) rfl ?_
  refine own_x_iload X105.here hx (hb hby own_d6_28) rfl ?_
  refine own_x_i2b X105.here hx (hb hby own_d6_30) rfl ?_
  refine own_h_arB X105 hx hZ e105 V105 (2 : Int32) 2 ⟨by decide, by decide⟩ rfl (Nat.le_of_ble_eq_true rfl) rfl (hb hby own_d6_31) fun T108 h108 X108 e108 W108 V108 => ?_
  have N108 := Fr.snoc X108 N105 gd
  refine own_x_iinc X108.here hx (hb hby own_d6_32) rfl (l' := #[.val (.ref a2), .val (.int ((2 : Int32) + (1 : Int32))), .val (.ref d), .val (.int (2 : Int32)), .val (.int (4 : Int32)), .val (.int (2 : Int32)), .val (.int c2)]) rfl ?_
  refine own_x_iinc X108.here hx (hb hby own_d6_35) rfl (l' := #[.val (.ref a2), .val (.int ((2 : Int32) + (1 : Int32))), .val (.ref d), .val (.int ((2 : Int32) + (1 : Int32))), .val (.int (4 : Int32)), .val (.int (2 : Int32)), .val (.int c2)]) rfl ?_
  refine own_x_iinc X108.here hx (hb hby own_d6_38) rfl (l' := #[.val (.ref a2), .val (.int ((2 : Int32) + (1 : Int32))), .val (.ref d), .val (.int ((2 : Int32) + (1 : Int32))), .val (.int (4 : Int32)), .val (.int ((2 : Int32) + (1 : Int32))), .val (.int c2)]) rfl ?_
  rw [show ((2 : Int32) + (1 : Int32)) = (3 : Int32) from by decide]
  show own_Go p e below Pst (T108.setTop (mkF m 41 #[.val (.ref a2), .val (.int (3 : Int32)), .val (.ref d), .val (.int ((2 : Int32) + (1 : Int32))), .val (.int (4 : Int32)), .val (.int ((2 : Int32) + (1 : Int32))), .val (.int c2)] []))
  rw [show ((2 : Int32) + (1 : Int32)) = (3 : Int32) from by decide]
  show own_Go p e below Pst (T108.setTop (mkF m 41 #[.val (.ref a2), .val (.int (3 : Int32)), .val (.ref d), .val (.int (3 : Int32)), .val (.int (4 : Int32)), .val (.int ((2 : Int32) + (1 : Int32))), .val (.int c2)] []))
  rw [show ((2 : Int32) + (1 : Int32)) = (3 : Int32) from by decide]
  show own_Go p e below Pst (T108.setTop (mkF m 41 #[.val (.ref a2), .val (.int (3 : Int32)), .val (.ref d), .val (.int (3 : Int32)), .val (.int (4 : Int32)), .val (.int (3 : Int32)), .val (.int c2)] []))
  refine own_x_goto X108.here hx (pc0 := 41) (pc' := 3) rfl (hb hby own_d6_41) (by decide) (by decide) ?_
  refine own_x_iload X108.here hx (hb hby own_d6_3) rfl ?_
  refine own_x_iload X108.here hx (hb hby own_d6_5) rfl ?_
  refine own_x_icmpNo X108.here hx (hb hby own_d6_7) rfl (tlt (by decide)).2.1 ?_
  refine own_x_aloadN X108.here hx (hb hby own_d6_10) rfl rfl ?_
  refine own_x_iloadN X108.here hx (hb hby own_d6_11) rfl ?_
  have c109 := (c106.other W108 ne)
  obtain ⟨cl110, Ar110, q110, S110, P110, H110, G110⟩ := id c109
  have hin110 : ¬ ((3 : Int32) < 0 ∨ cl110.slots.size ≤ ((3 : Int32)).toNatClampNeg) := inb_of S110 ⟨by decide, by decide⟩
  have hat110 : cl110.slots[((3 : Int32)).toNatClampNeg]? = some (.int c3) := Has.at H110 hin110 rfl
  refine own_Go.of (S' := T108.setTop (mkF m 13 #[.val (.ref a2), .val (.int (3 : Int32)), .val (.ref d), .val (.int (3 : Int32)), .val (.int (4 : Int32)), .val (.int (3 : Int32)), .val (.int c2)] [(.int c3)])) (fun tgt kst => X108.caload hx (j := (3 : Int32)) (v := (.int c3)) (by rw [e108]; exact Ar110.1) (State.isArrayOf_alike hZ.alike Ar110.2.1) Ar110.2.2 hin110 hat110 (g := (mkF m 12 #[.val (.ref a2), .val (.int (3 : Int32)), .val (.ref d), .val (.int (3 : Int32)), .val (.int (4 : Int32)), .val (.int (3 : Int32)), .val (.int c2)] [(.int (3 : Int32)), (.ref a2)])) rfl rfl (hb hby own_d6_12) _ kst) ?_
  refine own_x_istore X108.here hx (hb hby own_d6_13) rfl (l' := #[.val (.ref a2), .val (.int (3 : Int32)), .val (.ref d), .val (.int (3 : Int32)), .val (.int (4 : Int32)), .val (.int (3 : Int32)), .val (.int c3)]) rfl ?_
  refine own_x_iload X108.here hx (hb hby own_d6_15) rfl ?_
  refine own_x_sipush X108.here hx (hb hby own_d6_17) (z := (255 : Int32)) rfl ?_
  refine own_x_icmpNo X108.here hx (hb hby own_d6_20) rfl (tlt u).2.2.2 ?_
  refine own_x_iload X108.here hx (hb hby own_d6_23) rfl ?_
  have c111 := ((((Keep.refl h0 [d]).wr W102 (Or.inl (List.mem_of_getElem? (i := 0) rfl))).wr W105 (Or.inl (List.mem_of_getElem? (i := 0) rfl))).wr W108 (Or.inl (List.mem_of_getElem? (i := 0) rfl)))
  rw [hPst]
  exact own_retP X108 (v := (some (.int (3 : Int32)))) (Q := Q_cmp4_3 Z a2 kc dv c0 c1 c2 c3 d kd h0 n0) (fun h => by rw [Bd.returns] at h; cases h) Bd.notSynchronized (fun fs hr => own_retI X108 hx Bd.returns (hb hby own_d6_25) hr) (by decide) (by decide) (by rw [e108]; exact ⟨rfl, N108, c111⟩)
def Q_cu4 (Z : State) (a2 : Addr) (kc : ClassId) (dv : Value) (c0 c1 c2 c3 : Int32) (h0 : Heap) (n0 : Nat) (v : Option Value) (h : Heap) (L : List Loc) : Prop := ∃ (b : Addr), v = some (.ref b) ∧ Fr n0 L ∧ Keep h0 h [] ∧ h0.size ≤ b ∧ ∃ kb : ClassId, Arv Z h b kb .byte (8 : Int32) (own_u16 [c0, c1, c2, c3]) (.int 0)
theorem rm_cu4 (l : Launch) (Z : State) (a0 : Array Value) (hw : own_H a0 Z) (ws : List Jvm.Cond) (a2 : Addr) (kc : ClassId) (dv : Value) (c0 c1 c2 c3 : Int32) (h0 : Heap) (n0 : Nat) (Z0 : n0 ≤ h0.size) (O : Old Z n0 h0) (SU0 : Sta Z Z.heap "java/lang/StringUTF16" "$assertionsDisabled" "Z" (.int (1 : Int32))) (SU1 : Sta Z Z.heap "java/lang/StringUTF16" "HI_BYTE_SHIFT" "I" (.int (0 : Int32))) (SU2 : Sta Z Z.heap "java/lang/StringUTF16" "LO_BYTE_SHIFT" "I" (.int (8 : Int32))) (A1 : Arv Z h0 a2 kc .char (4 : Int32) [(.int c0), (.int c1), (.int c2), (.int c3)] dv) (hr : ¬ c0 < 0 ∧ ¬ (65535 : Int32) < c0 ∧ ¬ c1 < 0 ∧ ¬ (65535 : Int32) < c1 ∧ ¬ c2 < 0 ∧ ¬ (65535 : Int32) < c2 ∧ ¬ c3 < 0 ∧ ¬ (65535 : Int32) < c3) (hbad : ¬ (¬ (255 : Int32) < c0 ∧ ¬ (255 : Int32) < c1 ∧ ¬ (255 : Int32) < c2 ∧ ¬ (255 : Int32) < c3)) : own_MP l (⟨"java/lang/StringUTF16", "compress", "([CII)[B"⟩ : MethodName) jdk_52_method_16_code 6 (some (.array .byte)) ws ({ frames := 3, cells := 2, slots := 12, locals := 40 } : Room) Z h0 #[(.ref a2), (.int (0 : Int32)), (.int (4 : Int32))] (fun _ _ _ _ _ => True) (Q_cu4 Z a2 kc dv c0 c1 c2 c3 h0 n0) := by
  refine own_startP (plainFor_of_name own_pn_java_lang_StringUTF16) fun p e s m below meth c s₁ Bd hx hby hml hown0 X0 e0 hh0 hZ hK Pst hPst => ?_
  have hown : s.vm.findClass "java/lang/StringUTF16" = some m.cls := hown0
  have hnm := (name_of_methodNamed Bd.named Bd.method).1
  have N0 := Fr.nil n0
  rw [own_ef_RII_6 m a2 (0 : Int32) (4 : Int32)]
  refine own_x_iloadN X0.here hx (hb hby own_d5_0) rfl ?_
  refine own_h_newP (aty := .byte) X0 hx hZ (own_w25 hw) e0 (hb hby own_d5_1) rfl (by decide) (cap := 4) (by decide) (by decide) (by decide) (by decide) fun T101 h101 k101 b101 g101 X101 e101 E101 A101 => ?_
  have ne_a2_b101 : a2 ≠ b101 := Nat.ne_of_lt (Nat.lt_of_lt_of_le A1.lt (Nat.le_of_eq g101.symm))
  have gn_b101 : n0 ≤ b101 := Nat.le_trans Z0 (Nat.le_of_eq g101.symm)
  have sz_b101 : h0.size ≤ b101 := Nat.le_trans (Keep.refl h0 []).1 (Nat.le_of_eq g101.symm)
  have V101 : Arv Z h101 b101 k101 .byte (4 : Int32) [(.int (0 : Int32)), (.int (0 : Int32)), (.int (0 : Int32)), (.int (0 : Int32))] (.int (0 : Int32)) := (Arv.new A101 (by decide)).pad (pad_rep [] (.int (0 : Int32)) 4)
  refine own_x_astoreN X101.here hx (hb hby own_d5_3) rfl rfl (l' := #[.val (.ref a2), .val (.int (0 : Int32)), .val (.int (4 : Int32)), .val (.ref b101), .unset, .unset]) rfl ?_
  refine own_x_aloadN X101.here hx (hb hby own_d5_4) rfl rfl ?_
  refine own_x_iloadN X101.here hx (hb hby own_d5_5) rfl ?_
  refine own_x_aloadN X101.here hx (hb hby own_d5_6) rfl rfl ?_
  refine own_x_iconst X101.here hx (hb hby own_d5_7) (z := (0 : Int32)) rfl ?_
  refine own_x_iloadN X101.here hx (hb hby own_d5_8) rfl ?_
  by_cases u0 : (255 : Int32) < c0
  · have c102 := (A1.ext E101)
    have c104 := (Nat.le_trans Z0 E101.1)
    refine own_cF X101 (Jvm.LawKit.callS X101 hx (y := (⟨"java/lang/StringUTF16", "compress", "([CI[BII)I"⟩ : MethodName)) hown (mvT hZ (own_w26 hw)) (mvT hZ (own_w27 hw)) (mvT hZ (own_w23 hw)) (mvT hZ (own_w28 hw)) (by decide) (backOf (W := 0) (rm_cmp4_0 l Z a0 hw [] a2 kc dv c0 c1 c2 c3 b101 k101 h101 n0 c104 c102 V101 gn_b101 ne_a2_b101  u0) hZ (own_w28 hw) (own_w23 hw) (by decide) (by decide)) (g := (mkF m 9 #[.val (.ref a2), .val (.int (0 : Int32)), .val (.int (4 : Int32)), .val (.ref b101), .unset, .unset] [(.int (4 : Int32)), (.int (0 : Int32)), (.ref b101), (.int (0 : Int32)), (.ref a2)])) rfl (by rw [hml]; rfl) (argsL := [(.ref a2), (.int (0 : Int32)), (.ref b101), (.int (0 : Int32)), (.int (4 : Int32))]) (rest := []) (lenOf own_pd4 rfl) rfl (by show 2 * 0 + _ ≤ _; exact Nat.le_of_eq rfl) (hb hby own_d5_9) (fun _ _ => ⟨rfl, e101, (by decide : 1 + 0 ≤ _), (by decide : 4 + 0 ≤ _)⟩)) fun v103 T103 L103 X103 hQ103 => ?_
    obtain ⟨rfl, Nq103, K103⟩ := hQ103
    have N103 := Fr.app N0 Nq103
    show own_Go p e below Pst (T103.setTop (mkF m 12 #[.val (.ref a2), .val (.int (0 : Int32)), .val (.int (4 : Int32)), .val (.ref b101), .unset, .unset] [(.int (0 : Int32))]))
    refine own_x_istore X103.here hx (hb hby own_d5_12) rfl (l' := #[.val (.ref a2), .val (.int (0 : Int32)), .val (.int (4 : Int32)), .val (.ref b101), .val (.int (0 : Int32)), .unset]) rfl ?_
    refine own_x_iload X103.here hx (hb hby own_d5_14) rfl ?_
    refine own_x_iloadN X103.here hx (hb hby own_d5_16) rfl ?_
    refine own_x_icmpNo X103.here hx (hb hby own_d5_17) rfl (feq (by decide)).1 ?_
    refine own_x_aloadN X103.here hx (hb hby own_d5_20) rfl rfl ?_
    refine own_x_iloadN X103.here hx (hb hby own_d5_21) rfl ?_
    refine own_x_iloadN X103.here hx (hb hby own_d5_22) rfl ?_
    have c105 := ((O.ext E101).keep K103 (allS gn_b101 all0))
    have c106 := (c102.keep K103 (ninS ne_a2_b101 nin0))
    have c108 := (Nat.le_trans c104 K103.1)
    refine own_cF X103 (Jvm.LawKit.callS X103 hx (y := (⟨"java/lang/StringUTF16", "toBytes", "([CII)[B"⟩ : MethodName)) hown (mvT hZ (own_w82 hw)) (mvT hZ (own_w83 hw)) (mvT hZ (own_w23 hw)) (mvT hZ (own_w84 hw)) (by decide) (backOf (W := 0) (rm_tob4 l Z a0 hw [] a2 kc dv c0 c1 c2 c3 T103.heap n0 c108 c105 SU0 SU1 SU2 c106) hZ (own_w84 hw) (own_w23 hw) (by decide) (by decide)) (g := (mkF m 23 #[.val (.ref a2), .val (.int (0 : Int32)), .val (.int (4 : Int32)), .val (.ref b101), .val (.int (0 : Int32)), .unset] [(.int (4 : Int32)), (.int (0 : Int32)), (.ref a2)])) rfl (by rw [hml]; rfl) (argsL := [(.ref a2), (.int (0 : Int32)), (.int (4 : Int32))]) (rest := []) (lenOf own_pd5 rfl) rfl (by show 2 * 0 + _ ≤ _; exact Nat.le_of_eq rfl) (hb hby own_d5_23) (fun _ _ => ⟨rfl, rfl, (by decide : 1 + 1 ≤ _), (by decide : 4 + 8 ≤ _)⟩)) fun v107 T107 L107 X107 hQ107 => ?_
    obtain ⟨b107, rfl, Nq107, K107, sb107, kb107, V107⟩ := hQ107
    have N107 := Fr.app N103 Nq107
    have ne_a2_b107 : a2 ≠ b107 := Nat.ne_of_lt (Nat.lt_of_lt_of_le c106.lt sb107)
    have gn_b107 : n0 ≤ b107 := Nat.le_trans c108 sb107
    have c109 := (Keep.trans ((Keep.refl h0 []).ext E101) K103 (allS (Or.inr sz_b101) all0))
    have sz_b107 : h0.size ≤ b107 := Nat.le_trans c109.1 sb107
    show own_Go p e below Pst (T107.setTop (mkF m 26 #[.val (.ref a2), .val (.int (0 : Int32)), .val (.int (4 : Int32)), .val (.ref b101), .val (.int (0 : Int32)), .unset] [(.ref b107)]))
    refine own_x_astore X107.here hx (hb hby own_d5_26) rfl rfl (l' := #[.val (.ref a2), .val (.int (0 : Int32)), .val (.int (4 : Int32)), .val (.ref b101), .val (.int (0 : Int32)), .val (.ref b107)]) rfl ?_
    refine own_x_aload X107.here hx (hb hby own_d5_28) rfl rfl ?_
    refine own_x_iload X107.here hx (hb hby own_d5_30) rfl ?_
    have c110 := (c105.keep K107 all0)
    have c112 := (Nat.le_trans c108 K107.1)
    refine own_cF X107 (Jvm.LawKit.callS X107 hx (y := (⟨"java/lang/StringUTF16", "getChar", "([BI)C"⟩ : MethodName)) hown (mvT hZ (own_w98 hw)) (mvT hZ (own_w99 hw)) (mvT hZ (own_w23 hw)) (mvT hZ (own_w100 hw)) (by decide) (backOf (W := 0) (rm_getc0 l Z a0 hw [] b107 kb107 (8 : Int32) (own_lo8 c0) (own_hi8 c0) (own_u16 [c0, c1, c2, c3]) T107.heap n0 c112 c110 SU0 SU1 SU2 V107 (by decide) rfl rfl) hZ (own_w100 hw) (own_w23 hw) (by decide) (by decide)) (g := (mkF m 32 #[.val (.ref a2), .val (.int (0 : Int32)), .val (.int (4 : Int32)), .val (.ref b101), .val (.int (0 : Int32)), .val (.ref b107)] [(.int (0 : Int32)), (.ref b107)])) rfl (by rw [hml]; rfl) (argsL := [(.ref b107), (.int (0 : Int32))]) (rest := []) (lenOf own_pd6 rfl) rfl (by show 2 * 0 + _ ≤ _; exact Nat.le_of_eq rfl) (hb hby own_d5_32) (fun _ _ => ⟨rfl, rfl, (by decide : 2 + 0 ≤ _), (by decide : 12 + 0 ≤ _)⟩)) fun v111 T111 L111 X111 hQ111 => ?_
    obtain ⟨rfl, Nq111, e111⟩ := hQ111
    have N111 := Fr.app N107 Nq111
    show own_Go p e below Pst (T111.setTop (mkF m 35 #[.val (.ref a2), .val (.int (0 : Int32)), .val (.int (4 : Int32)), .val (.ref b101), .val (.int (0 : Int32)), .val (.ref b107)] [(.int (nar .char (own_join (own_lo8 c0) (own_hi8 c0))))]))
    rw [own_join_eq hr.1 hr.2.1]
    show own_Go p e below Pst (T111.setTop (mkF m 35 #[.val (.ref a2), .val (.int (0 : Int32)), .val (.int (4 : Int32)), .val (.ref b101), .val (.int (0 : Int32)), .val (.ref b107)] [(.int c0)]))
    refine own_x_sipush X111.here hx (hb hby own_d5_35) (z := (255 : Int32)) rfl ?_
    refine own_x_icmpYes X111.here hx (pc0 := 38) (pc' := 54) rfl (hb hby own_d5_38) rfl (tlt u0).2.2.1 (by decide) (by decide) ?_
    refine own_x_aload X111.here hx (hb hby own_d5_54) rfl rfl ?_
    have c113 := (Keep.trans c109 K107 all0)
    rw [hPst]
    exact own_retP X111 (v := (some (.ref b107))) (Q := Q_cu4 Z a2 kc dv c0 c1 c2 c3 h0 n0) (fun h => by rw [Bd.returns] at h; cases h) Bd.notSynchronized (fun fs hr => retOut X111 hx Bd.returns rfl (Or.inr (Or.inr (Or.inr (Or.inr ⟨rfl, rfl, rfl⟩)))) (hb hby own_d5_56) hr) (by decide) (by decide) (by rw [e111]; exact ⟨_, rfl, N111, c113, sz_b107, _, V107⟩)
  · have l0 := u0
    clear u0
    by_cases u1 : (255 : Int32) < c1
    · have c114 := (A1.ext E101)
      have c116 := (Nat.le_trans Z0 E101.1)
      refine own_cF X101 (Jvm.LawKit.callS X101 hx (y := (⟨"java/lang/StringUTF16", "compress", "([CI[BII)I"⟩ : MethodName)) hown (mvT hZ (own_w26 hw)) (mvT hZ (own_w27 hw)) (mvT hZ (own_w23 hw)) (mvT hZ (own_w28 hw)) (by decide) (backOf (W := 0) (rm_cmp4_1 l Z a0 hw [] a2 kc dv c0 c1 c2 c3 b101 k101 h101 n0 c116 c114 V101 gn_b101 ne_a2_b101 l0 u1) hZ (own_w28 hw) (own_w23 hw) (by decide) (by decide)) (g := (mkF m 9 #[.val (.ref a2), .val (.int (0 : Int32)), .val (.int (4 : Int32)), .val (.ref b101), .unset, .unset] [(.int (4 : Int32)), (.int (0 : Int32)), (.ref b101), (.int (0 : Int32)), (.ref a2)])) rfl (by rw [hml]; rfl) (argsL := [(.ref a2), (.int (0 : Int32)), (.ref b101), (.int (0 : Int32)), (.int (4 : Int32))]) (rest := []) (lenOf own_pd4 rfl) rfl (by show 2 * 0 + _ ≤ _; exact Nat.le_of_eq rfl) (hb hby own_d5_9) (fun _ _ => ⟨rfl, e101, (by decide : 1 + 0 ≤ _), (by decide : 4 + 0 ≤ _)⟩)) fun v115 T115 L115 X115 hQ115 => ?_
      obtain ⟨rfl, Nq115, K115⟩ := hQ115
      have N115 := Fr.app N0 Nq115
      show own_Go p e below Pst (T115.setTop (mkF m 12 #[.val (.ref a2), .val (.int (0 : Int32)), .val (.int (4 : Int32)), .val (.ref b101), .unset, .unset] [(.int (1 : Int32))]))
      refine own_x_istore X115.here hx (hb hby own_d5_12) rfl (l' := #[.val (.ref a2), .val (.int (0 : Int32)), .val (.int (4 : Int32)), .val (.ref b101), .val (.int (1 : Int32)), .unset]) rfl ?_
      refine own_x_iload X115.here hx (hb hby own_d5_14) rfl ?_
      refine own_x_iloadN X115.here hx (hb hby own_d5_16) rfl ?_
      refine own_x_icmpNo X115.here hx (hb hby own_d5_17) rfl (feq (by decide)).1 ?_
      refine own_x_aloadN X115.here hx (hb hby own_d5_20) rfl rfl ?_
      refine own_x_iloadN X115.here hx (hb hby own_d5_21) rfl ?_
      refine own_x_iloadN X115.here hx (hb hby own_d5_22) rfl ?_
      have c117 := ((O.ext E101).keep K115 (allS gn_b101 all0))
      have c118 := (c114.keep K115 (ninS ne_a2_b101 nin0))
      have c120 := (Nat.le_trans c116 K115.1)
      refine own_cF X115 (Jvm.LawKit.callS X115 hx (y := (⟨"java/lang/StringUTF16", "toBytes", "([CII)[B"⟩ : MethodName)) hown (mvT hZ (own_w82 hw)) (mvT hZ (own_w83 hw)) (mvT hZ (own_w23 hw)) (mvT hZ (own_w84 hw)) (by decide) (backOf (W := 0) (rm_tob4 l Z a0 hw [] a2 kc dv c0 c1 c2 c3 T115.heap n0 c120 c117 SU0 SU1 SU2 c118) hZ (own_w84 hw) (own_w23 hw) (by decide) (by decide)) (g := (mkF m 23 #[.val (.ref a2), .val (.int (0 : Int32)), .val (.int (4 : Int32)), .val (.ref b101), .val (.int (1 : Int32)), .unset] [(.int (4 : Int32)), (.int (0 : Int32)), (.ref a2)])) rfl (by rw [hml]; rfl) (argsL := [(.ref a2), (.int (0 : Int32)), (.int (4 : Int32))]) (rest := []) (lenOf own_pd5 rfl) rfl (by show 2 * 0 + _ ≤ _; exact Nat.le_of_eq rfl) (hb hby own_d5_23) (fun _ _ => ⟨rfl, rfl, (by decide : 1 + 1 ≤ _), (by decide : 4 + 8 ≤ _)⟩)) fun v119 T119 L119 X119 hQ119 => ?_
      obtain ⟨b119, rfl, Nq119, K119, sb119, kb119, V119⟩ := hQ119
      have N119 := Fr.app N115 Nq119
      have ne_a2_b119 : a2 ≠ b119 := Nat.ne_of_lt (Nat.lt_of_lt_of_le c118.lt sb119)
      have gn_b119 : n0 ≤ b119 := Nat.le_trans c120 sb119
      have c121 := (Keep.trans ((Keep.refl h0 []).ext E101) K115 (allS (Or.inr sz_b101) all0))
      have sz_b119 : h0.size ≤ b119 := Nat.le_trans c121.1 sb119
      show own_Go p e below Pst (T119.setTop (mkF m 26 #[.val (.ref a2), .val (.int (0 : Int32)), .val (.int (4 : Int32)), .val (.ref b101), .val (.int (1 : Int32)), .unset] [(.ref b119)]))
      refine own_x_astore X119.here hx (hb hby own_d5_26) rfl rfl (l' := #[.val (.ref a2), .val (.int (0 : Int32)), .val (.int (4 : Int32)), .val (.ref b101), .val (.int (1 : Int32)), .val (.ref b119)]) rfl ?_
      refine own_x_aload X119.here hx (hb hby own_d5_28) rfl rfl ?_
      refine own_x_iload X119.here hx (hb hby own_d5_30) rfl ?_
      have c122 := (c117.keep K119 all0)
      have c124 := (Nat.le_trans c120 K119.1)
      refine own_cF X119 (Jvm.LawKit.callS X119 hx (y := (⟨"java/lang/StringUTF16", "getChar", "([BI)C"⟩ : MethodName)) hown (mvT hZ (own_w98 hw)) (mvT hZ (own_w99 hw)) (mvT hZ (own_w23 hw)) (mvT hZ (own_w100 hw)) (by decide) (backOf (W := 0) (rm_getc1 l Z a0 hw [] b119 kb119 (8 : Int32) (own_lo8 c1) (own_hi8 c1) (own_u16 [c0, c1, c2, c3]) T119.heap n0 c124 c122 SU0 SU1 SU2 V119 (by decide) rfl rfl) hZ (own_w100 hw) (own_w23 hw) (by decide) (by decide)) (g := (mkF m 32 #[.val (.ref a2), .val (.int (0 : Int32)), .val (.int (4 : Int32)), .val (.ref b101), .val (.int (1 : Int32)), .val (.ref b119)] [(.int (1 : Int32)), (.ref b119)])) rfl (by rw [hml]; rfl) (argsL := [(.ref b119), (.int (1 : Int32))]) (rest := []) (lenOf own_pd6 rfl) rfl (by show 2 * 0 + _ ≤ _; exact Nat.le_of_eq rfl) (hb hby own_d5_32) (fun _ _ => ⟨rfl, rfl, (by decide : 2 + 0 ≤ _), (by decide : 12 + 0 ≤ _)⟩)) fun v123 T123 L123 X123 hQ123 => ?_
      obtain ⟨rfl, Nq123, e123⟩ := hQ123
      have N123 := Fr.app N119 Nq123
      show own_Go p e below Pst (T123.setTop (mkF m 35 #[.val (.ref a2), .val (.int (0 : Int32)), .val (.int (4 : Int32)), .val (.ref b101), .val (.int (1 : Int32)), .val (.ref b119)] [(.int (nar .char (own_join (own_lo8 c1) (own_hi8 c1))))]))
      rw [own_join_eq hr.2.2.1 hr.2.2.2.1]
      show own_Go p e below Pst (T123.setTop (mkF m 35 #[.val (.ref a2), .val (.int (0 : Int32)), .val (.int (4 : Int32)), .val (.ref b101), .val (.int (1 : Int32)), .val (.ref b119)] [(.int c1)]))
      refine own_x_sipush X123.here hx (hb hby own_d5_35) (z := (255 : Int32)) rfl ?_
      refine own_x_icmpYes X123.here hx (pc0 := 38) (pc' := 54) rfl (hb hby own_d5_38) rfl (tlt u1).2.2.1 (by decide) (by decide) ?_
      refine own_x_aload X123.here hx (hb hby own_d5_54) rfl rfl ?_
      have c125 := (Keep.trans c121 K119 all0)
      rw [hPst]
      exact own_retP X123 (v := (some (.ref b119))) (Q := Q_cu4 Z a2 kc dv c0 c1 c2 c3 h0 n0) (fun h => by rw [Bd.returns] at h; cases h) Bd.notSynchronized (fun fs hr => retOut X123 hx Bd.returns rfl (Or.inr (Or.inr (Or.inr (Or.inr ⟨rfl, rfl, rfl⟩)))) (hb hby own_d5_56) hr) (by decide) (by decide) (by rw [e123]; exact ⟨_, rfl, N123, c125, sz_b119, _, V119⟩)
    · have l1 := u1
      clear u1
      by_cases u2 : (255 : Int32) < c2
      · have c126 := (A1.ext E101)
        have c128 := (Nat.le_trans Z0 E101.1)
        refine own_cF X101 (Jvm.LawKit.callS X101 hx (y := (⟨"java/lang/StringUTF16", "compress", "([CI[BII)I"⟩ : MethodName)) hown (mvT hZ (own_w26 hw)) (mvT hZ (own_w27 hw)) (mvT hZ (own_w23 hw)) (mvT hZ (own_w28 hw)) (by decide) (backOf (W := 0) (rm_cmp4_2 l Z a0 hw [] a2 kc dv c0 c1 c2 c3 b101 k101 h101 n0 c128 c126 V101 gn_b101 ne_a2_b101 l0 l1 u2) hZ (own_w28 hw) (own_w23 hw) (by decide) (by decide)) (g := (mkF m 9 #[.val (.ref a2), .val (.int (0 : Int32)), .val (.int (4 : Int32)), .val (.ref b101), .unset, .unset] [(.int (4 : Int32)), (.int (0 : Int32)), (.ref b101), (.int (0 : Int32)), (.ref a2)])) rfl (by rw [hml]; rfl) (argsL := [(.ref a2), (.int (0 : Int32)), (.ref b101), (.int (0 : Int32)), (.int (4 : Int32))]) (rest := []) (lenOf own_pd4 rfl) rfl (by show 2 * 0 + _ ≤ _; exact Nat.le_of_eq rfl) (hb hby own_d5_9) (fun _ _ => ⟨rfl, e101, (by decide : 1 + 0 ≤ _), (by decide : 4 + 0 ≤ _)⟩)) fun v127 T127 L127 X127 hQ127 => ?_
        obtain ⟨rfl, Nq127, K127⟩ := hQ127
        have N127 := Fr.app N0 Nq127
        show own_Go p e below Pst (T127.setTop (mkF m 12 #[.val (.ref a2), .val (.int (0 : Int32)), .val (.int (4 : Int32)), .val (.ref b101), .unset, .unset] [(.int (2 : Int32))]))
        refine own_x_istore X127.here hx (hb hby own_d5_12) rfl (l' := #[.val (.ref a2), .val (.int (0 : Int32)), .val (.int (4 : Int32)), .val (.ref b101), .val (.int (2 : Int32)), .unset]) rfl ?_
        refine own_x_iload X127.here hx (hb hby own_d5_14) rfl ?_
        refine own_x_iloadN X127.here hx (hb hby own_d5_16) rfl ?_
        refine own_x_icmpNo X127.here hx (hb hby own_d5_17) rfl (feq (by decide)).1 ?_
        refine own_x_aloadN X127.here hx (hb hby own_d5_20) rfl rfl ?_
        refine own_x_iloadN X127.here hx (hb hby own_d5_21) rfl ?_
        refine own_x_iloadN X127.here hx (hb hby own_d5_22) rfl ?_
        have c129 := ((O.ext E101).keep K127 (allS gn_b101 all0))
        have c130 := (c126.keep K127 (ninS ne_a2_b101 nin0))
        have c132 := (Nat.le_trans c128 K127.1)
        refine own_cF X127 (Jvm.LawKit.callS X127 hx (y := (⟨"java/lang/StringUTF16", "toBytes", "([CII)[B"⟩ : MethodName)) hown (mvT hZ (own_w82 hw)) (mvT hZ (own_w83 hw)) (mvT hZ (own_w23 hw)) (mvT hZ (own_w84 hw)) (by decide) (backOf (W := 0) (rm_tob4 l Z a0 hw [] a2 kc dv c0 c1 c2 c3 T127.heap n0 c132 c129 SU0 SU1 SU2 c130) hZ (own_w84 hw) (own_w23 hw) (by decide) (by decide)) (g := (mkF m 23 #[.val (.ref a2), .val (.int (0 : Int32)), .val (.int (4 : Int32)), .val (.ref b101), .val (.int (2 : Int32)), .unset] [(.int (4 : Int32)), (.int (0 : Int32)), (.ref a2)])) rfl (by rw [hml]; rfl) (argsL := [(.ref a2), (.int (0 : Int32)), (.int (4 : Int32))]) (rest := []) (lenOf own_pd5 rfl) rfl (by show 2 * 0 + _ ≤ _; exact Nat.le_of_eq rfl) (hb hby own_d5_23) (fun _ _ => ⟨rfl, rfl, (by decide : 1 + 1 ≤ _), (by decide : 4 + 8 ≤ _)⟩)) fun v131 T131 L131 X131 hQ131 => ?_
        obtain ⟨b131, rfl, Nq131, K131, sb131, kb131, V131⟩ := hQ131
        have N131 := Fr.app N127 Nq131
        have ne_a2_b131 : a2 ≠ b131 := Nat.ne_of_lt (Nat.lt_of_lt_of_le c130.lt sb131)
        have gn_b131 : n0 ≤ b131 := Nat.le_trans c132 sb131
        have c133 := (Keep.trans ((Keep.refl h0 []).ext E101) K127 (allS (Or.inr sz_b101) all0))
        have sz_b131 : h0.size ≤ b131 := Nat.le_trans c133.1 sb131
        show own_Go p e below Pst (T131.setTop (mkF m 26 #[.val (.ref a2), .val (.int (0 : Int32)), .val (.int (4 : Int32)), .val (.ref b101), .val (.int (2 : Int32)), .unset] [(.ref b131)]))
        refine own_x_astore X131.here hx (hb hby own_d5_26) rfl rfl (l' := #[.val (.ref a2), .val (.int (0 : Int32)), .val (.int (4 : Int32)), .val (.ref b101), .val (.int (2 : Int32)), .val (.ref b131)]) rfl ?_
        refine own_x_aload X131.here hx (hb hby own_d5_28) rfl rfl ?_
        refine own_x_iload X131.here hx (hb hby own_d5_30) rfl ?_
        have c134 := (c129.keep K131 all0)
        have c136 := (Nat.le_trans c132 K131.1)
        refine own_cF X131 (Jvm.LawKit.callS X131 hx (y := (⟨"java/lang/StringUTF16", "getChar", "([BI)C"⟩ : MethodName)) hown (mvT hZ (own_w98 hw)) (mvT hZ (own_w99 hw)) (mvT hZ (own_w23 hw)) (mvT hZ (own_w100 hw)) (by decide) (backOf (W := 0) (rm_getc2 l Z a0 hw [] b131 kb131 (8 : Int32) (own_lo8 c2) (own_hi8 c2) (own_u16 [c0, c1, c2, c3]) T131.heap n0 c136 c134 SU0 SU1 SU2 V131 (by decide) rfl rfl) hZ (own_w100 hw) (own_w23 hw) (by decide) (by decide)) (g := (mkF m 32 #[.val (.ref a2), .val (.int (0 : Int32)), .val (.int (4 : Int32)), .val (.ref b101), .val (.int (2 : Int32)), .val (.ref b131)] [(.int (2 : Int32)), (.ref b131)])) rfl (by rw [hml]; rfl) (argsL := [(.ref b131), (.int (2 : Int32))]) (rest := []) (lenOf own_pd6 rfl) rfl (by show 2 * 0 + _ ≤ _; exact Nat.le_of_eq rfl) (hb hby own_d5_32) (fun _ _ => ⟨rfl, rfl, (by decide : 2 + 0 ≤ _), (by decide : 12 + 0 ≤ _)⟩)) fun v135 T135 L135 X135 hQ135 => ?_
        obtain ⟨rfl, Nq135, e135⟩ := hQ135
        have N135 := Fr.app N131 Nq135
        show own_Go p e below Pst (T135.setTop (mkF m 35 #[.val (.ref a2), .val (.int (0 : Int32)), .val (.int (4 : Int32)), .val (.ref b101), .val (.int (2 : Int32)), .val (.ref b131)] [(.int (nar .char (own_join (own_lo8 c2) (own_hi8 c2))))]))
        rw [own_join_eq hr.2.2.2.2.1 hr.2.2.2.2.2.1]
        show own_Go p e below Pst (T135.setTop (mkF m 35 #[.val (.ref a2), .val (.int (0 : Int32)), .val (.int (4 : Int32)), .val (.ref b101), .val (.int (2 : Int32)), .val (.ref b131)] [(.int c2)]))
        refine own_x_sipush X135.here hx (hb hby own_d5_35) (z := (255 : Int32)) rfl ?_
        refine own_x_icmpYes X135.here hx (pc0 := 38) (pc' := 54) rfl (hb hby own_d5_38) rfl (tlt u2).2.2.1 (by decide) (by decide) ?_
        refine own_x_aload X135.here hx (hb hby own_d5_54) rfl rfl ?_
        have c137 := (Keep.trans c133 K131 all0)
        rw [hPst]
        exact own_retP X135 (v := (some (.ref b131))) (Q := Q_cu4 Z a2 kc dv c0 c1 c2 c3 h0 n0) (fun h => by rw [Bd.returns] at h; cases h) Bd.notSynchronized (fun fs hr => retOut X135 hx Bd.returns rfl (Or.inr (Or.inr (Or.inr (Or.inr ⟨rfl, rfl, rfl⟩)))) (hb hby own_d5_56) hr) (by decide) (by decide) (by rw [e135]; exact ⟨_, rfl, N135, c137, sz_b131, _, V131⟩)
      · have l2 := u2
        clear u2
        have u3 : (255 : Int32) < c3 := by
          by_cases q : (255 : Int32) < c3
          · exact q
          · exact absurd ⟨l0, l1, l2, q⟩ hbad
        have c138 := (A1.ext E101)
        have c140 := (Nat.le_trans Z0 E101.1)
        refine own_cF X101 (Jvm.LawKit.callS X101 hx (y := (⟨"java/lang/StringUTF16", "compress", "([CI[BII)I"⟩ : MethodName)) hown (mvT hZ (own_w26 hw)) (mvT hZ (own_w27 hw)) (mvT hZ (own_w23 hw)) (mvT hZ (own_w28 hw)) (by decide) (backOf (W := 0) (rm_cmp4_3 l Z a0 hw [] a2 kc dv c0 c1 c2 c3 b101 k101 h101 n0 c140 c138 V101 gn_b101 ne_a2_b101 l0 l1 l2 u3) hZ (own_w28 hw) (own_w23 hw) (by decide) (by decide)) (g := (mkF m 9 #[.val (.ref a2), .val (.int (0 : Int32)), .val (.int (4 : Int32)), .val (.ref b101), .unset, .unset] [(.int (4 : Int32)), (.int (0 : Int32)), (.ref b101), (.int (0 : Int32)), (.ref a2)])) rfl (by rw [hml]; rfl) (argsL := [(.ref a2), (.int (0 : Int32)), (.ref b101), (.int (0 : Int32)), (.int (4 : Int32))]) (rest := []) (lenOf own_pd4 rfl) rfl (by show 2 * 0 + _ ≤ _; exact Nat.le_of_eq rfl) (hb hby own_d5_9) (fun _ _ => ⟨rfl, e101, (by decide : 1 + 0 ≤ _), (by decide : 4 + 0 ≤ _)⟩)) fun v139 T139 L139 X139 hQ139 => ?_
        obtain ⟨rfl, Nq139, K139⟩ := hQ139
        have N139 := Fr.app N0 Nq139
        show own_Go p e below Pst (T139.setTop (mkF m 12 #[.val (.ref a2), .val (.int (0 : Int32)), .val (.int (4 : Int32)), .val (.ref b101), .unset, .unset] [(.int (3 : Int32))]))
        refine own_x_istore X139.here hx (hb hby own_d5_12) rfl (l' := #[.val (.ref a2), .val (.int (0 : Int32)), .val (.int (4 : Int32)), .val (.ref b101), .val (.int (3 : Int32)), .unset]) rfl ?_
        refine own_x_iload X139.here hx (hb hby own_d5_14) rfl ?_
        refine own_x_iloadN X139.here hx (hb hby own_d5_16) rfl ?_
        refine own_x_icmpNo X139.here hx (hb hby own_d5_17) rfl (feq (by decide)).1 ?_
        refine own_x_aloadN X139.here hx (hb hby own_d5_20) rfl rfl ?_
        refine own_x_iloadN X139.here hx (hb hby own_d5_21) rfl ?_
        refine own_x_iloadN X139.here hx (hb hby own_d5_22) rfl ?_
        have c141 := ((O.ext E101).keep K139 (allS gn_b101 all0))
        have c142 := (c138.keep K139 (ninS ne_a2_b101 nin0))
        have c144 := (Nat.le_trans c140 K139.1)
        refine own_cF X139 (Jvm.LawKit.callS X139 hx (y := (⟨"java/lang/StringUTF16", "toBytes", "([CII)[B"⟩ : MethodName)) hown (mvT hZ (own_w82 hw)) (mvT hZ (own_w83 hw)) (mvT hZ (own_w23 hw)) (mvT hZ (own_w84 hw)) (by decide) (backOf (W := 0) (rm_tob4 l Z a0 hw [] a2 kc dv c0 c1 c2 c3 T139.heap n0 c144 c141 SU0 SU1 SU2 c142) hZ (own_w84 hw) (own_w23 hw) (by decide) (by decide)) (g := (mkF m 23 #[.val (.ref a2), .val (.int (0 : Int32)), .val (.int (4 : Int32)), .val (.ref b101), .val (.int (3 : Int32)), .unset] [(.int (4 : Int32)), (.int (0 : Int32)), (.ref a2)])) rfl (by rw [hml]; rfl) (argsL := [(.ref a2), (.int (0 : Int32)), (.int (4 : Int32))]) (rest := []) (lenOf own_pd5 rfl) rfl (by show 2 * 0 + _ ≤ _; exact Nat.le_of_eq rfl) (hb hby own_d5_23) (fun _ _ => ⟨rfl, rfl, (by decide : 1 + 1 ≤ _), (by decide : 4 + 8 ≤ _)⟩)) fun v143 T143 L143 X143 hQ143 => ?_
        obtain ⟨b143, rfl, Nq143, K143, sb143, kb143, V143⟩ := hQ143
        have N143 := Fr.app N139 Nq143
        have ne_a2_b143 : a2 ≠ b143 := Nat.ne_of_lt (Nat.lt_of_lt_of_le c142.lt sb143)
        have gn_b143 : n0 ≤ b143 := Nat.le_trans c144 sb143
        have c145 := (Keep.trans ((Keep.refl h0 []).ext E101) K139 (allS (Or.inr sz_b101) all0))
        have sz_b143 : h0.size ≤ b143 := Nat.le_trans c145.1 sb143
        show own_Go p e below Pst (T143.setTop (mkF m 26 #[.val (.ref a2), .val (.int (0 : Int32)), .val (.int (4 : Int32)), .val (.ref b101), .val (.int (3 : Int32)), .unset] [(.ref b143)]))
        refine own_x_astore X143.here hx (hb hby own_d5_26) rfl rfl (l' := #[.val (.ref a2), .val (.int (0 : Int32)), .val (.int (4 : Int32)), .val (.ref b101), .val (.int (3 : Int32)), .val (.ref b143)]) rfl ?_
        refine own_x_aload X143.here hx (hb hby own_d5_28) rfl rfl ?_
        refine own_x_iload X143.here hx (hb hby own_d5_30) rfl ?_
        have c146 := (c141.keep K143 all0)
        have c148 := (Nat.le_trans c144 K143.1)
        refine own_cF X143 (Jvm.LawKit.callS X143 hx (y := (⟨"java/lang/StringUTF16", "getChar", "([BI)C"⟩ : MethodName)) hown (mvT hZ (own_w98 hw)) (mvT hZ (own_w99 hw)) (mvT hZ (own_w23 hw)) (mvT hZ (own_w100 hw)) (by decide) (backOf (W := 0) (rm_getc3 l Z a0 hw [] b143 kb143 (8 : Int32) (own_lo8 c3) (own_hi8 c3) (own_u16 [c0, c1, c2, c3]) T143.heap n0 c148 c146 SU0 SU1 SU2 V143 (by decide) rfl rfl) hZ (own_w100 hw) (own_w23 hw) (by decide) (by decide)) (g := (mkF m 32 #[.val (.ref a2), .val (.int (0 : Int32)), .val (.int (4 : Int32)), .val (.ref b101), .val (.int (3 : Int32)), .val (.ref b143)] [(.int (3 : Int32)), (.ref b143)])) rfl (by rw [hml]; rfl) (argsL := [(.ref b143), (.int (3 : Int32))]) (rest := []) (lenOf own_pd6 rfl) rfl (by show 2 * 0 + _ ≤ _; exact Nat.le_of_eq rfl) (hb hby own_d5_32) (fun _ _ => ⟨rfl, rfl, (by decide : 2 + 0 ≤ _), (by decide : 12 + 0 ≤ _)⟩)) fun v147 T147 L147 X147 hQ147 => ?_
        obtain ⟨rfl, Nq147, e147⟩ := hQ147
        have N147 := Fr.app N143 Nq147
        show own_Go p e below Pst (T147.setTop (mkF m 35 #[.val (.ref a2), .val (.int (0 : Int32)), .val (.int (4 : Int32)), .val (.ref b101), .val (.int (3 : Int32)), .val (.ref b143)] [(.int (nar .char (own_join (own_lo8 c3) (own_hi8 c3))))]))
        rw [own_join_eq hr.2.2.2.2.2.2.1 hr.2.2.2.2.2.2.2]
        show own_Go p e below Pst (T147.setTop (mkF m 35 #[.val (.ref a2), .val (.int (0 : Int32)), .val (.int (4 : Int32)), .val (.ref b101), .val (.int (3 : Int32)), .val (.ref b143)] [(.int c3)]))
        refine own_x_sipush X147.here hx (hb hby own_d5_35) (z := (255 : Int32)) rfl ?_
        refine own_x_icmpYes X147.here hx (pc0 := 38) (pc' := 54) rfl (hb hby own_d5_38) rfl (tlt u3).2.2.1 (by decide) (by decide) ?_
        refine own_x_aload X147.here hx (hb hby own_d5_54) rfl rfl ?_
        have c149 := (Keep.trans c145 K143 all0)
        rw [hPst]
        exact own_retP X147 (v := (some (.ref b143))) (Q := Q_cu4 Z a2 kc dv c0 c1 c2 c3 h0 n0) (fun h => by rw [Bd.returns] at h; cases h) Bd.notSynchronized (fun fs hr => retOut X147 hx Bd.returns rfl (Or.inr (Or.inr (Or.inr (Or.inr ⟨rfl, rfl, rfl⟩)))) (hb hby own_d5_56) hr) (by decide) (by decide) (by rw [e147]; exact ⟨_, rfl, N147, c149, sz_b143, _, V143⟩)
def Q_codl4 (Z : State) (b : Addr) (kb : ClassId) (vs : List Value) (h0 : Heap) (n0 : Nat) (v : Option Value) (h : Heap) (L : List Loc) : Prop := v = some (.int (1 : Int32)) ∧ Fr n0 L ∧ h = h0
theorem rm_codl4 (l : Launch) (Z : State) (a0 : Array Value) (hw : own_H a0 Z) (ws : List Jvm.Cond) (b : Addr) (kb : ClassId) (vs : List Value) (h0 : Heap) (n0 : Nat) (Z0 : n0 ≤ h0.size) (A1 : Arv Z h0 b kb .byte (8 : Int32) vs (.int 0)) : own_MP l (⟨"java/lang/StringUTF16", "coderFromArrayLen", "([BI)B"⟩ : MethodName) jdk_52_method_15_code 2 (some .byte) ws ({ frames := 0, cells := 0, slots := 0, locals := 0 } : Room) Z h0 #[(.ref b), (.int (4 : Int32))] (fun _ _ _ _ _ => True) (Q_codl4 Z b kb vs h0 n0) := by
  refine own_startP (plainFor_of_name own_pn_java_lang_StringUTF16) fun p e s m below meth c s₁ Bd hx hby hml hown0 X0 e0 hh0 hZ hK Pst hPst => ?_
  have hown : s.vm.findClass "java/lang/StringUTF16" = some m.cls := hown0
  have hnm := (name_of_methodNamed Bd.named Bd.method).1
  have N0 := Fr.nil n0
  rw [own_ef_RI_2 m b (4 : Int32)]
  refine own_x_iloadN X0.here hx (hb hby own_d7_0) rfl ?_
  refine own_x_aloadN X0.here hx (hb hby own_d7_1) rfl rfl ?_
  obtain ⟨cl101, Ar101, -, S101, P101, -, -⟩ := id A1
  refine own_Go.of (S' := s₁.setTop (mkF m 3 #[.val (.ref b), .val (.int (4 : Int32))] [(.int (8 : Int32)), (.int (4 : Int32))])) (fun tgt kst => X0.arraylength hx (by rw [e0]; exact Ar101.1) (State.isArrayOf_alike hZ.alike Ar101.2.1) (g := (mkF m 2 #[.val (.ref b), .val (.int (4 : Int32))] [(.ref b), (.int (4 : Int32))])) rfl rfl (hb hby own_d7_2) _ (by rw [len_of S101 P101]; exact kst)) ?_
  refine own_x_isub X0.here hx (hb hby own_d7_3) rfl ?_
  refine own_x_bipush X0.here hx (hb hby own_d7_4) (z := (31 : Int32)) rfl ?_
  refine own_x_iushr X0.here hx (hb hby own_d7_6) rfl ?_
  refine own_x_i2b X0.here hx (hb hby own_d7_7) rfl ?_
  rw [show (((((4 : Int32) - (8 : Int32)).toUInt32 >>> ((31 : Int32) &&& 31).toUInt32).toInt32).toInt8.toInt32) = (1 : Int32) from by decide]
  show own_Go p e below Pst (s₁.setTop (mkF m 8 #[.val (.ref b), .val (.int (4 : Int32))] [(.int (1 : Int32))]))
  rw [hPst]
  exact own_retP X0 (v := (some (.int (nar .byte (1 : Int32))))) (Q := Q_codl4 Z b kb vs h0 n0) (fun h => by rw [Bd.returns] at h; cases h) Bd.notSynchronized (fun fs hr => retN X0 hx (t := .byte) Bd.returns (by simp) (hb hby own_d7_8) hr) (by decide) (by decide) (by rw [e0]; exact ⟨rfl, N0, rfl⟩)
def Q_i4u4 (Z : State) (z : Int32) (a1 a2 : Addr) (kc : ClassId) (dv : Value) (c0 c1 c2 c3 : Int32) (u1 u2 : Value) (h0 : Heap) (n0 : Nat) (v : Option Value) (h : Heap) (L : List Loc) : Prop := v = none ∧ Fr n0 L ∧ Keep h0 h [a1] ∧ Exa Z h a1 "java/lang/String" ∧ Fld Z h a1 "java/lang/String" "coder" "B" (.int (1 : Int32)) ∧ ∃ (t : Addr) (kb : ClassId), h0.size ≤ t ∧ Fld Z h a1 "java/lang/String" "value" "[B" (.ref t) ∧ Arv Z h t kb .byte (8 : Int32) (own_u16 [c0, c1, c2, c3]) (.int 0)
theorem rm_i4u4 (l : Launch) (Z : State) (a0 : Array Value) (hw : own_H a0 Z) (ws : List Jvm.Cond) (z : Int32) (a1 a2 : Addr) (kc : ClassId) (dv : Value) (c0 c1 c2 c3 : Int32) (u1 u2 : Value) (h0 : Heap) (n0 : Nat) (Z0 : n0 ≤ h0.size) (O : Old Z n0 h0) (SC : Sta Z Z.heap "java/lang/String" "COMPACT_STRINGS" "Z" (.int z)) (hz : ¬ z = 0) (SU0 : Sta Z Z.heap "java/lang/StringUTF16" "$assertionsDisabled" "Z" (.int (1 : Int32))) (SU1 : Sta Z Z.heap "java/lang/StringUTF16" "HI_BYTE_SHIFT" "I" (.int (0 : Int32))) (SU2 : Sta Z Z.heap "java/lang/StringUTF16" "LO_BYTE_SHIFT" "I" (.int (8 : Int32))) (E1 : Exa Z h0 a1 "java/lang/String") (F1 : Fld Z h0 a1 "java/lang/String" "value" "[B" u1) (F2 : Fld Z h0 a1 "java/lang/String" "coder" "B" u2) (g1 : n0 ≤ a1) (A1 : Arv Z h0 a2 kc .char (4 : Int32) [(.int c0), (.int c1), (.int c2), (.int c3)] dv) (hr : ¬ c0 < 0 ∧ ¬ (65535 : Int32) < c0 ∧ ¬ c1 < 0 ∧ ¬ (65535 : Int32) < c1 ∧ ¬ c2 < 0 ∧ ¬ (65535 : Int32) < c2 ∧ ¬ c3 < 0 ∧ ¬ (65535 : Int32) < c3) (hbad : ¬ (¬ (255 : Int32) < c0 ∧ ¬ (255 : Int32) < c1 ∧ ¬ (255 : Int32) < c2 ∧ ¬ (255 : Int32) < c3)) : own_MP l (⟨"java/lang/String", "<init>", "([CIILjava/lang/Void;)V"⟩ : MethodName) jdk_42_method_149_code 6 none ws ({ frames := 4, cells := 2, slots := 12, locals := 60 } : Room) Z h0 #[(.ref a1), (.ref a2), (.int (0 : Int32)), (.int (4 : Int32)), .null] (fun _ _ _ _ _ => True) (Q_i4u4 Z z a1 a2 kc dv c0 c1 c2 c3 u1 u2 h0 n0) := by
  refine own_startP (plainFor_of_name own_pn_java_lang_String) fun p e s m below meth c s₁ Bd hx hby hml hown0 X0 e0 hh0 hZ hK Pst hPst => ?_
  have hown : s.vm.findClass "java/lang/String" = some m.cls := hown0
  have hnm := (name_of_methodNamed Bd.named Bd.method).1
  have N0 := Fr.nil n0
  rw [own_ef_RRIIN_6 m a1 a2 (0 : Int32) (4 : Int32)]
  refine own_x_aloadN X0.here hx (hb hby own_d3_0) rfl rfl ?_
  refine own_h_initO X0 hx hZ hown (own_w17 hw) (own_w18 hw) (own_w19 hw) e0 (by rw [hml]; rfl) rfl (hb hby own_d3_1) (by decide) (W := 0) (by show 2 * 0 + _ ≤ _; exact Nat.le_of_eq rfl) (by decide) fun T101 X101 e101 => ?_
  refine own_x_iloadN X101.here hx (hb hby own_d3_4) rfl ?_
  refine own_x_ifYes X101.here hx (pc0 := 5) (pc' := 27) rfl (hb hby own_d3_5) rfl ((if0 _ _).trans (feq (by decide)).2) (by decide) (by decide) ?_
  refine own_h_getS2 X101 hx hZ hown (host := "") (Or.inl (own_w20 hw)) Via.refl e101 (SC.ext O.2) (hb hby own_d3_27) fun T102 X102 e102 => ?_
  refine own_x_ifNo X102.here hx (hb hby own_d3_30) rfl ((if0 _ _).trans (feq hz).1) ?_
  refine own_x_aloadN X102.here hx (hb hby own_d3_33) rfl rfl ?_
  refine own_x_iloadN X102.here hx (hb hby own_d3_34) rfl ?_
  refine own_x_iloadN X102.here hx (hb hby own_d3_35) rfl ?_
  refine own_cF X102 (Jvm.LawKit.callS X102 hx (y := (⟨"java/lang/StringUTF16", "compress", "([CII)[B"⟩ : MethodName)) hown (mvT hZ (own_w21 hw)) (mvT hZ (own_w22 hw)) (mvT hZ (own_w23 hw)) (mvT hZ (own_w24 hw)) (by decide) (backOf (W := 0) (rm_cu4 l Z a0 hw [] a2 kc dv c0 c1 c2 c3 h0 n0 Z0 O SU0 SU1 SU2 A1 hr hbad) hZ (own_w24 hw) (own_w23 hw) (by decide) (by decide)) (g := (mkF m 36 #[.val (.ref a1), .val (.ref a2), .val (.int (0 : Int32)), .val (.int (4 : Int32)), .val .null, .unset] [(.int (4 : Int32)), (.int (0 : Int32)), (.ref a2)])) rfl (by rw [hml]; rfl) (argsL := [(.ref a2), (.int (0 : Int32)), (.int (4 : Int32))]) (rest := []) (lenOf own_pd5 rfl) rfl (by show 2 * 0 + _ ≤ _; exact Nat.le_of_eq rfl) (hb hby own_d3_36) (fun _ _ => ⟨rfl, e102, (by decide : 0 + 2 ≤ _), (by decide : 0 + 12 ≤ _)⟩)) fun v103 T103 L103 X103 hQ103 => ?_
  obtain ⟨b103, rfl, Nq103, K103, sb103, kb103, V103⟩ := hQ103
  have N103 := Fr.app N0 Nq103
  have ne_a1_b103 : a1 ≠ b103 := Nat.ne_of_lt (Nat.lt_of_lt_of_le E1.lt sb103)
  have gn_b103 : n0 ≤ b103 := Nat.le_trans Z0 sb103
  have sz_b103 : h0.size ≤ b103 := Nat.le_trans (Keep.refl h0 [a1]).1 sb103
  show own_Go p e below Pst (T103.setTop (mkF m 39 #[.val (.ref a1), .val (.ref a2), .val (.int (0 : Int32)), .val (.int (4 : Int32)), .val .null, .unset] [(.ref b103)]))
  refine own_x_astore X103.here hx (hb hby own_d3_39) rfl rfl (l' := #[.val (.ref a1), .val (.ref a2), .val (.int (0 : Int32)), .val (.int (4 : Int32)), .val .null, .val (.ref b103)]) rfl ?_
  refine own_x_aloadN X103.here hx (hb hby own_d3_41) rfl rfl ?_
  refine own_x_aload X103.here hx (hb hby own_d3_42) rfl rfl ?_
  refine own_x_iloadN X103.here hx (hb hby own_d3_44) rfl ?_
  have c105 := (Nat.le_trans Z0 K103.1)
  refine own_cF X103 (Jvm.LawKit.callS X103 hx (y := (⟨"java/lang/StringUTF16", "coderFromArrayLen", "([BI)B"⟩ : MethodName)) hown (mvT hZ (own_w29 hw)) (mvT hZ (own_w30 hw)) (mvT hZ (own_w23 hw)) (mvT hZ (own_w31 hw)) (by decide) (backOf (W := 1) (rm_codl4 l Z a0 hw [] b103 kb103 (own_u16 [c0, c1, c2, c3]) T103.heap n0 c105 V103) hZ (own_w31 hw) (own_w23 hw) (by decide) (by decide)) (g := (mkF m 45 #[.val (.ref a1), .val (.ref a2), .val (.int (0 : Int32)), .val (.int (4 : Int32)), .val .null, .val (.ref b103)] [(.int (4 : Int32)), (.ref b103), (.ref a1)])) rfl (by rw [hml]; rfl) (argsL := [(.ref b103), (.int (4 : Int32))]) (rest := [(.ref a1)]) (lenOf own_pd7 rfl) rfl (by show 2 * 0 + _ ≤ _; exact Nat.le_of_eq rfl) (hb hby own_d3_45) (fun _ _ => ⟨rfl, rfl, (by decide : 2 + 0 ≤ _), (by decide : 12 + 0 ≤ _)⟩)) fun v104 T104 L104 X104 hQ104 => ?_
  obtain ⟨rfl, Nq104, e104⟩ := hQ104
  have N104 := Fr.app N103 Nq104
  show own_Go p e below Pst (T104.setTop (mkF m 48 #[.val (.ref a1), .val (.ref a2), .val (.int (0 : Int32)), .val (.int (4 : Int32)), .val .null, .val (.ref b103)] [(.int (1 : Int32)), (.ref a1)]))
  have c106 := (E1.keep K103)
  have c107 := (F2.keep K103 nin0)
  refine own_h_putFN X104 hx hZ hown (own_w32 hw) Via.refl e104 c107 c106 (Or.inr ⟨(own_w33 hw), rfl, hnm⟩) (own_w8 hw) (ty := .byte) (v' := (.int (1 : Int32))) (by decide) rfl rfl rfl (hb hby own_d3_48) fun T108 h108 X108 e108 W108 => ?_
  have Fw108 := Fld.same W108 c107
  have N108 := Fr.snoc X108 N104 g1
  refine own_x_aloadN X108.here hx (hb hby own_d3_51) rfl rfl ?_
  refine own_x_aload X108.here hx (hb hby own_d3_52) rfl rfl ?_
  have c109 := (c106.wr W108)
  have c110 := ((F1.keep K103 nin0).other W108 (Or.inr (slot_ne (Or.inr (own_w35 hw)) (Or.inr (own_w33 hw)) (by decide) (t := (.array .byte)) (t' := .byte) (by decide) (by decide))))
  refine own_h_putF X108 hx hZ hown (host := "") (Or.inl (own_w34 hw)) Via.refl e108 c110 c109 (Or.inr ⟨(own_w35 hw), rfl, hnm⟩) (own_w8 hw) (ty := (.array .byte)) (by decide) rfl rfl rfl (hb hby own_d3_54) fun T111 h111 X111 e111 W111 => ?_
  have Fw111 := Fld.same W111 c110
  have N111 := Fr.snoc X111 N108 g1
  have c112 := (((Keep.trans (Keep.refl h0 [a1]) K103 all0).wr W108 (Or.inl (List.mem_of_getElem? (i := 0) rfl))).wr W111 (Or.inl (List.mem_of_getElem? (i := 0) rfl)))
  have c113 := (c109.wr W111)
  have c114 := (Fw108.other W111 (Or.inr (slot_ne (Or.inr (own_w33 hw)) (Or.inr (own_w35 hw)) (by decide) (t := .byte) (t' := (.array .byte)) (by decide) (by decide))))
  have c115 := ((V103.other W108 (Ne.symm ne_a1_b103)).other W111 (Ne.symm ne_a1_b103))
  rw [hPst]
  exact own_retP X111 (v := none) (Q := Q_i4u4 Z z a1 a2 kc dv c0 c1 c2 c3 u1 u2 h0 n0) (fun _ => rfl) Bd.notSynchronized (fun fs hr => X111.returnOut hx Bd.returns (hb hby own_d3_57) hr) (by decide) (by decide) (by rw [e111]; exact ⟨rfl, N111, c112, c113, c114, _, _, sz_b103, Fw111, c115⟩)
def Q_i1u4 (Z : State) (z : Int32) (a1 a2 : Addr) (kc : ClassId) (dv : Value) (c0 c1 c2 c3 : Int32) (u1 u2 : Value) (h0 : Heap) (n0 : Nat) (v : Option Value) (h : Heap) (L : List Loc) : Prop := v = none ∧ Fr n0 L ∧ Keep h0 h [a1] ∧ Exa Z h a1 "java/lang/String" ∧ Fld Z h a1 "java/lang/String" "coder" "B" (.int (1 : Int32)) ∧ ∃ (t : Addr) (kb : ClassId), h0.size ≤ t ∧ Fld Z h a1 "java/lang/String" "value" "[B" (.ref t) ∧ Arv Z h t kb .byte (8 : Int32) (own_u16 [c0, c1, c2, c3]) (.int 0)
theorem rm_i1u4 (l : Launch) (Z : State) (a0 : Array Value) (hw : own_H a0 Z) (ws : List Jvm.Cond) (z : Int32) (a1 a2 : Addr) (kc : ClassId) (dv : Value) (c0 c1 c2 c3 : Int32) (u1 u2 : Value) (h0 : Heap) (n0 : Nat) (Z0 : n0 ≤ h0.size) (O : Old Z n0 h0) (SC : Sta Z Z.heap "java/lang/String" "COMPACT_STRINGS" "Z" (.int z)) (hz : ¬ z = 0) (SU0 : Sta Z Z.heap "java/lang/StringUTF16" "$assertionsDisabled" "Z" (.int (1 : Int32))) (SU1 : Sta Z Z.heap "java/lang/StringUTF16" "HI_BYTE_SHIFT" "I" (.int (0 : Int32))) (SU2 : Sta Z Z.heap "java/lang/StringUTF16" "LO_BYTE_SHIFT" "I" (.int (8 : Int32))) (E1 : Exa Z h0 a1 "java/lang/String") (F1 : Fld Z h0 a1 "java/lang/String" "value" "[B" u1) (F2 : Fld Z h0 a1 "java/lang/String" "coder" "B" u2) (g1 : n0 ≤ a1) (A1 : Arv Z h0 a2 kc .char (4 : Int32) [(.int c0), (.int c1), (.int c2), (.int c3)] dv) (hr : ¬ c0 < 0 ∧ ¬ (65535 : Int32) < c0 ∧ ¬ c1 < 0 ∧ ¬ (65535 : Int32) < c1 ∧ ¬ c2 < 0 ∧ ¬ (65535 : Int32) < c2 ∧ ¬ c3 < 0 ∧ ¬ (65535 : Int32) < c3) (hbad : ¬ (¬ (255 : Int32) < c0 ∧ ¬ (255 : Int32) < c1 ∧ ¬ (255 : Int32) < c2 ∧ ¬ (255 : Int32) < c3)) : own_MP l (⟨"java/lang/String", "<init>", "([C)V"⟩ : MethodName) jdk_42_method_3_code 2 none ws ({ frames := 5, cells := 2, slots := 12, locals := 77 } : Room) Z h0 #[(.ref a1), (.ref a2)] (fun _ _ _ _ _ => True) (Q_i1u4 Z z a1 a2 kc dv c0 c1 c2 c3 u1 u2 h0 n0) := by
  refine own_startP (plainFor_of_name own_pn_java_lang_String) fun p e s m below meth c s₁ Bd hx hby hml hown0 X0 e0 hh0 hZ hK Pst hPst => ?_
  have hown : s.vm.findClass "java/lang/String" = some m.cls := hown0
  have hnm := (name_of_methodNamed Bd.named Bd.method).1
  have N0 := Fr.nil n0
  rw [own_ef_RR_2 m a1 a2]
  refine own_x_aloadN X0.here hx (hb hby own_d2_0) rfl rfl ?_
  refine own_x_aloadN X0.here hx (hb hby own_d2_1) rfl rfl ?_
  refine own_x_iconst X0.here hx (hb hby own_d2_2) (z := (0 : Int32)) rfl ?_
  refine own_x_aloadN X0.here hx (hb hby own_d2_3) rfl rfl ?_
  obtain ⟨cl101, Ar101, -, S101, P101, -, -⟩ := id A1
  refine own_Go.of (S' := s₁.setTop (mkF m 5 #[.val (.ref a1), .val (.ref a2)] [(.int (4 : Int32)), (.int (0 : Int32)), (.ref a2), (.ref a1)])) (fun tgt kst => X0.arraylength hx (by rw [e0]; exact Ar101.1) (State.isArrayOf_alike hZ.alike Ar101.2.1) (g := (mkF m 4 #[.val (.ref a1), .val (.ref a2)] [(.ref a2), (.int (0 : Int32)), (.ref a2), (.ref a1)])) rfl rfl (hb hby own_d2_4) _ (by rw [len_of S101 P101]; exact kst)) ?_
  refine own_x_aconstNull X0.here hx (hb hby own_d2_5) ?_
  refine own_cP X0 (X0.specialBack hx (y := (⟨"java/lang/String", "<init>", "([CIILjava/lang/Void;)V"⟩ : MethodName)) rfl hown (mvT hZ (own_w13 hw)) (mvT hZ (own_w14 hw)) (mvT hZ (own_w16 hw)) (by decide) (backOf (W := 0) (rm_i4u4 l Z a0 hw [] z a1 a2 kc dv c0 c1 c2 c3 u1 u2 h0 n0 Z0 O SC hz SU0 SU1 SU2 E1 F1 F2 g1 A1 hr hbad) hZ (own_w16 hw) (own_w9 hw) (by decide) (by decide)) (g := (mkF m 6 #[.val (.ref a1), .val (.ref a2)] [.null, (.int (4 : Int32)), (.int (0 : Int32)), (.ref a2), (.ref a1)])) rfl (by rw [hml]; rfl) (Steps.refl _) (a := a1) (argsL := [(.ref a2), (.int (0 : Int32)), (.int (4 : Int32)), .null]) (rest := []) (lenOf own_pd0 rfl) rfl (by show 2 * 0 + _ ≤ _; exact Nat.le_of_eq rfl) (hb hby own_d2_6) (fun _ _ => ⟨rfl, e0, (by decide : 0 + 2 ≤ _), (by decide : 0 + 12 ≤ _)⟩)) fun v102 T102 L102 X102 hQ102 => ?_
  obtain ⟨rfl, Nq102, K102, A102, C102, t102, kb102, st_102, V102, B102⟩ := hQ102
  have N102 := Fr.app N0 Nq102
  show own_Go p e below Pst (T102.setTop (mkF m 9 #[.val (.ref a1), .val (.ref a2)] []))
  have c103 := (Keep.trans (Keep.refl h0 [a1]) K102 (allS (Or.inl (List.mem_of_getElem? (i := 0) rfl)) all0))
  rw [hPst]
  exact own_retP X102 (v := none) (Q := Q_i1u4 Z z a1 a2 kc dv c0 c1 c2 c3 u1 u2 h0 n0) (fun _ => rfl) Bd.notSynchronized (fun fs hr => X102.returnOut hx Bd.returns (hb hby own_d2_9) hr) (by decide) (by decide) ⟨rfl, N102, c103, A102, C102, _, _, st_102, V102, B102⟩
theorem own_d11_0 : decode jdk_42_method_152_code 0 = .ok (.getstatic 38, 3) := by decide +kernel
theorem own_d11_3 : decode jdk_42_method_152_code 3 = .ok (.ifCond .eq 10, 3) := by decide +kernel
theorem own_d11_6 : decode jdk_42_method_152_code 6 = .ok (.aload_n 0, 1) := by decide +kernel
theorem own_d11_7 : decode jdk_42_method_152_code 7 = .ok (.getfield 15, 3) := by decide +kernel
theorem own_d11_10 : decode jdk_42_method_152_code 10 = .ok (.goto 4, 3) := by decide +kernel
theorem own_d11_14 : decode jdk_42_method_152_code 14 = .ok (.ireturn, 1) := by decide +kernel
theorem own_ef_R_1 (m : MethodId) (x0 : Addr) : entryFrame m #[(.ref x0)] 1 = mkF m 0 #[.val (.ref x0)] [] := by first | (simp [entryFrame, mkF, argsToLocals, Value.category]; done) | rfl
def Q_cod (Z : State) (z : Int32) (a1 : Addr) (cd : Int32) (h0 : Heap) (n0 : Nat) (v : Option Value) (h : Heap) (L : List Loc) : Prop := v = some (.int (nar .byte cd)) ∧ Fr n0 L ∧ h = h0
theorem rm_cod (l : Launch) (Z : State) (a0 : Array Value) (hw : own_H a0 Z) (ws : List Jvm.Cond) (z : Int32) (a1 : Addr) (cd : Int32) (h0 : Heap) (n0 : Nat) (Z0 : n0 ≤ h0.size) (O : Old Z n0 h0) (SC : Sta Z Z.heap "java/lang/String" "COMPACT_STRINGS" "Z" (.int z)) (hz : ¬ z = 0) (F1 : Fld Z h0 a1 "java/lang/String" "coder" "B" (.int cd)) : own_MP l (⟨"java/lang/String", "coder", "()B"⟩ : MethodName) jdk_42_method_152_code 1 (some .byte) ws ({ frames := 0, cells := 0, slots := 0, locals := 0 } : Room) Z h0 #[(.ref a1)] (fun _ _ _ _ _ => True) (Q_cod Z z a1 cd h0 n0) := by
  refine own_startP (plainFor_of_name own_pn_java_lang_String) fun p e s m below meth c s₁ Bd hx hby hml hown0 X0 e0 hh0 hZ hK Pst hPst => ?_
  have hown : s.vm.findClass "java/lang/String" = some m.cls := hown0
  have hnm := (name_of_methodNamed Bd.named Bd.method).1
  have N0 := Fr.nil n0
  rw [own_ef_R_1 m a1]
  refine own_h_getS2 X0 hx hZ hown (host := "") (Or.inl (own_w20 hw)) Via.refl e0 (SC.ext O.2) (hb hby own_d11_0) fun T101 X101 e101 => ?_
  refine own_x_ifNo X101.here hx (hb hby own_d11_3) rfl ((if0 _ _).trans (feq hz).1) ?_
  refine own_x_aloadN X101.here hx (hb hby own_d11_6) rfl rfl ?_
  refine own_h_getF X101 hx hZ hown (host := "") (Or.inl (own_w32 hw)) Via.refl e101 F1 rfl (hb hby own_d11_7) fun T102 X102 e102 => ?_
  refine own_x_goto X102.here hx (pc0 := 10) (pc' := 14) rfl (hb hby own_d11_10) (by decide) (by decide) ?_
  rw [hPst]
  exact own_retP X102 (v := (some (.int (nar .byte cd)))) (Q := Q_cod Z z a1 cd h0 n0) (fun h => by rw [Bd.returns] at h; cases h) Bd.notSynchronized (fun fs hr => retN X102 hx (t := .byte) Bd.returns (by simp) (hb hby own_d11_14) hr) (by decide) (by decide) (by rw [e102]; exact ⟨rfl, N0, rfl⟩)
theorem own_d10_0 : decode jdk_42_method_54_code 0 = .ok (.aload_n 0, 1) := by decide +kernel
theorem own_d10_1 : decode jdk_42_method_54_code 1 = .ok (.getfield 9, 3) := by decide +kernel
theorem own_d10_4 : decode jdk_42_method_54_code 4 = .ok (.arraylength, 1) := by decide +kernel
theorem own_d10_5 : decode jdk_42_method_54_code 5 = .ok (.aload_n 0, 1) := by decide +kernel
theorem own_d10_6 : decode jdk_42_method_54_code 6 = .ok (.invokevirtual 335, 3) := by decide +kernel
theorem own_pd8 : parseMethodDescriptor "()B" = some ⟨[], some .byte⟩ := by decide +kernel
theorem own_d10_9 : decode jdk_42_method_54_code 9 = .ok (.ishr, 1) := by decide +kernel
theorem own_d10_10 : decode jdk_42_method_54_code 10 = .ok (.ireturn, 1) := by decide +kernel
def Q_len (Z : State) (z : Int32) (a1 t : Addr) (kb : ClassId) (cd N : Int32) (vs : List Value) (dv : Value) (h0 : Heap) (n0 : Nat) (v : Option Value) (h : Heap) (L : List Loc) : Prop := v = some (.int (N >>> (nar .byte cd &&& 31))) ∧ Fr n0 L ∧ h = h0
theorem rm_len (l : Launch) (Z : State) (a0 : Array Value) (hw : own_H a0 Z) (ws : List Jvm.Cond) (z : Int32) (a1 t : Addr) (kb : ClassId) (cd N : Int32) (vs : List Value) (dv : Value) (h0 : Heap) (n0 : Nat) (Z0 : n0 ≤ h0.size) (O : Old Z n0 h0) (SC : Sta Z Z.heap "java/lang/String" "COMPACT_STRINGS" "Z" (.int z)) (hz : ¬ z = 0) (E1 : Exa Z h0 a1 "java/lang/String") (F1 : Fld Z h0 a1 "java/lang/String" "coder" "B" (.int cd)) (F2 : Fld Z h0 a1 "java/lang/String" "value" "[B" (.ref t)) (A1 : Arv Z h0 t kb .byte N vs dv) : own_MP l (⟨"java/lang/String", "length", "()I"⟩ : MethodName) jdk_42_method_54_code 1 (some .int) ws ({ frames := 1, cells := 0, slots := 0, locals := 13 } : Room) Z h0 #[(.ref a1)] (fun _ _ _ _ _ => True) (Q_len Z z a1 t kb cd N vs dv h0 n0) := by
  refine own_startP (plainFor_of_name own_pn_java_lang_String) fun p e s m below meth c s₁ Bd hx hby hml hown0 X0 e0 hh0 hZ hK Pst hPst => ?_
  have hown : s.vm.findClass "java/lang/String" = some m.cls := hown0
  have hnm := (name_of_methodNamed Bd.named Bd.method).1
  have N0 := Fr.nil n0
  rw [own_ef_R_1 m a1]
  refine own_x_aloadN X0.here hx (hb hby own_d10_0) rfl rfl ?_
  refine own_h_getF X0 hx hZ hown (host := "") (Or.inl (own_w34 hw)) Via.refl e0 F2 rfl (hb hby own_d10_1) fun T101 X101 e101 => ?_
  obtain ⟨cl102, Ar102, -, S102, P102, -, -⟩ := id A1
  refine own_Go.of (S' := T101.setTop (mkF m 5 #[.val (.ref a1)] [(.int N)])) (fun tgt kst => X101.arraylength hx (by rw [e101]; exact Ar102.1) (State.isArrayOf_alike hZ.alike Ar102.2.1) (g := (mkF m 4 #[.val (.ref a1)] [(.ref t)])) rfl rfl (hb hby own_d10_4) _ (by rw [len_of S102 P102]; exact kst)) ?_
  refine own_x_aloadN X101.here hx (hb hby own_d10_5) rfl rfl ?_
  obtain ⟨cq103, kq103, q103a, q103b, q103c⟩ := isOf hZ e101 E1
  refine own_cP X101 (X101.virtualBack hx (y := (⟨"java/lang/String", "coder", "()B"⟩ : MethodName)) (z := (⟨"java/lang/String", "coder", "()B"⟩ : MethodName)) hown (mvT hZ (own_w48 hw)) (mvT hZ (own_w49 hw)) (notFace_of_selects (args := #[]) (mvT hZ (own_w51 hw))) (mvT hZ (own_w51 hw)) (mvT hZ (own_w50 hw)) (by decide) (backOf (W := 1) (rm_cod l Z a0 hw [] z a1 cd h0 n0 Z0 O SC hz F1) hZ (own_w52 hw) (own_w9 hw) (by decide) (by decide)) q103a q103c (g := (mkF m 6 #[.val (.ref a1)] [(.ref a1), (.int N)])) rfl (by rw [hml]; rfl) (Steps.refl _) (argsL := []) (rest := [(.int N)]) (lenOf own_pd8 rfl) rfl (by show 2 * 0 + _ ≤ _; exact Nat.le_of_eq rfl) (hb hby own_d10_6) (fun _ _ => ⟨rfl, e101, (by decide : 0 + 0 ≤ _), (by decide : 0 + 0 ≤ _)⟩)) fun v103 T103 L103 X103 hQ103 => ?_
  obtain ⟨rfl, Nq103, e103⟩ := hQ103
  have N103 := Fr.app N0 Nq103
  show own_Go p e below Pst (T103.setTop (mkF m 9 #[.val (.ref a1)] [(.int (nar .byte cd)), (.int N)]))
  refine own_x_ishr X103.here hx (hb hby own_d10_9) rfl ?_
  rw [hPst]
  exact own_retP X103 (v := (some (.int (N >>> ((nar .byte cd) &&& 31))))) (Q := Q_len Z z a1 t kb cd N vs dv h0 n0) (fun h => by rw [Bd.returns] at h; cases h) Bd.notSynchronized (fun fs hr => own_retI X103 hx Bd.returns (hb hby own_d10_10) hr) (by decide) (by decide) (by rw [e103]; exact ⟨rfl, N103, rfl⟩)
def own_lat (b : Int32) : Int32 := (b &&& (255 : Int32)).toUInt32.toUInt16.toUInt32.toInt32
/-- the char at a literal place of a String's bytes -/
def own_at (cd N : Int32) (vs : List Value) (c : Int32) (i j k : Nat) (ii kk : Int32) : Prop := (cd = 0 ∧ ii < N ∧ ∃ b, vs.getD i (.int 0) = .int b ∧ nar .char (own_lat b) = c) ∨ (cd = 1 ∧ kk < N ∧ ii < N >>> ((1 : Int32) &&& 31) ∧ ∃ x0 x1, vs.getD j (.int 0) = .int x0 ∧ vs.getD k (.int 0) = .int x1 ∧ nar .char (own_join x0 x1) = c)
theorem own_lat_eq {c : Int32} (h0 : ¬ c < 0) (h1 : ¬ (255 : Int32) < c) : nar .char (own_lat (c.toInt8.toInt32)) = c := by
  rw [Int32.lt_iff_toInt_lt] at h0 h1
  have z0 : (0 : Int32).toInt = 0 := by decide
  have z1 : (255 : Int32).toInt = 255 := by decide
  rw [z0] at h0; rw [z1] at h1
  have b0 := c_i2b c
  have m0 : (c.toInt8.toInt32 &&& (255 : Int32)).toInt = (c.toInt8.toInt32).toInt % (2 ^ 8 : Nat) := c_mask _ _ 8 (by decide) (by decide)
  have q1 := c_i2c (c.toInt8.toInt32 &&& (255 : Int32))
  have q2 := c_i2c ((c.toInt8.toInt32 &&& (255 : Int32)).toUInt32.toUInt16.toUInt32.toInt32)
  have en : nar .char (own_lat (c.toInt8.toInt32)) = ((c.toInt8.toInt32 &&& (255 : Int32)).toUInt32.toUInt16.toUInt32.toInt32).toUInt32.toUInt16.toUInt32.toInt32 := rfl
  rw [en]
  apply Int32.toInt_inj.mp
  omega
theorem own_narc (x : Int32) : nar .char (x.toUInt32.toUInt16.toUInt32.toInt32) = x.toUInt32.toUInt16.toUInt32.toInt32 := by
  show (x.toUInt32.toUInt16.toUInt32.toInt32).toUInt32.toUInt16.toUInt32.toInt32 = _
  simp only [UInt32.toUInt32_toInt32, UInt16.toUInt16_toUInt32]
/-- what isISOControl answers -/
def own_iso (c : Int32) : Int32 := if (159 : Int32) < c then 0 else if c < (127 : Int32) then (if ((c.toUInt32 >>> ((5 : Int32) &&& 31).toUInt32).toInt32) = (0 : Int32) then 1 else 0) else 1
theorem own_iso01 (c : Int32) : nar .boolean (own_iso c) = own_iso c := by
  unfold own_iso
  split
  · decide
  · split
    · split <;> decide
    · decide
def own_ub (c : Int32) : Prop := ¬ own_iso c = 0 ∨ c = (8232 : Int32) ∨ c = (8233 : Int32)
/-- what the law's own test answers -/
def own_bI (c : Int32) : Int32 := if (31 : Int32) < c then (if ¬ c < (127 : Int32) ∧ ¬ (159 : Int32) < c then 1 else if c = (8232 : Int32) then 1 else if c = (8233 : Int32) then 1 else 0) else 1
theorem own_bI_1 {c : Int32} (h : ¬ (31 : Int32) < c) : own_bI c = 1 := by unfold own_bI; rw [if_neg h]
theorem own_bI_2 {c : Int32} (h2 : ¬ c < (127 : Int32)) (h3 : ¬ (159 : Int32) < c) : own_bI c = 1 := by
  unfold own_bI; split
  · rw [if_pos ⟨h2, h3⟩]
  · rfl
theorem own_bI_4 {c : Int32} (h : c = (8232 : Int32)) : own_bI c = 1 := by subst h; decide
theorem own_bI_5 {c : Int32} (h : c = (8233 : Int32)) : own_bI c = 1 := by subst h; decide
theorem own_bI_0 {c : Int32} (h1 : (31 : Int32) < c) (h2 : c < (127 : Int32) ∨ (159 : Int32) < c) (h4 : ¬ c = (8232 : Int32)) (h5 : ¬ c = (8233 : Int32)) : own_bI c = 0 := by
  unfold own_bI; rw [if_pos h1, if_neg (fun q => h2.elim q.1 q.2), if_neg h4, if_neg h5]
theorem own_ub_iff {c : Int32} (hs : ¬ c < 0 ∧ ¬ (65535 : Int32) < c) : (¬ own_ub c) ↔ own_bI c = 0 := by
  have h0 := hs.1
  rw [Int32.lt_iff_toInt_lt] at h0
  have z0 : (0 : Int32).toInt = 0 := by decide
  have z31 : (31 : Int32).toInt = 31 := by decide
  have z127 : (127 : Int32).toInt = 127 := by decide
  have z159 : (159 : Int32).toInt = 159 := by decide
  have u := c_iushr c 5 5 (by decide) (by decide)
  have e5 : (((c.toUInt32 >>> ((5 : Int32) &&& 31).toUInt32).toInt32) = (0 : Int32)) ↔ ¬ (31 : Int32) < c := by
    rw [← Int32.toInt_inj, Int32.lt_iff_toInt_lt, u, z0, z31]
    have := rng32 c
    constructor <;> intro q <;> omega
  have f2 : c = (8232 : Int32) ∨ c = (8233 : Int32) → own_bI c = 1 := fun q => q.elim own_bI_4 own_bI_5
  by_cases hx : c = (8232 : Int32) ∨ c = (8233 : Int32)
  · constructor
    · intro q; exact absurd (Or.inr hx) q
    · intro q; rw [f2 hx] at q; exact absurd q (by decide)
  · have hx4 : ¬ c = (8232 : Int32) := fun q => hx (Or.inl q)
    have hx5 : ¬ c = (8233 : Int32) := fun q => hx (Or.inr q)
    have hub : (¬ own_ub c) ↔ own_iso c = 0 := by
      unfold own_ub
      constructor
      · intro q; exact Classical.byContradiction fun r => q (Or.inl r)
      · intro q r; exact r.elim (fun r => r q) hx
    rw [hub]
    unfold own_iso own_bI
    by_cases k1 : (159 : Int32) < c
    · have k2 : (31 : Int32) < c := by rw [Int32.lt_iff_toInt_lt] at *; omega
      rw [if_pos k1, if_pos k2, if_neg (fun q => q.2 k1), if_neg hx4, if_neg hx5]
    · rw [if_neg k1]
      by_cases k3 : c < (127 : Int32)
      · rw [if_pos k3]
        by_cases k4 : (31 : Int32) < c
        · rw [if_neg (fun q => (e5.mp q) k4), if_pos k4, if_neg (fun q => q.1 k3), if_neg hx4, if_neg hx5]
        · rw [if_pos (e5.mpr k4), if_neg k4]
      · rw [if_neg k3]
        have k2 : (31 : Int32) < c := by rw [Int32.lt_iff_toInt_lt] at *; omega
        rw [if_pos k2, if_pos ⟨k3, k1⟩]
theorem own_same {A B : Prop} {r ev : Int32} (hAB : B ↔ A) (hev : (ev = 1 ∧ A) ∨ (ev = 0 ∧ ¬ A)) (hr : (r = 1 ∧ B) ∨ (r = 0 ∧ ¬ B)) : r = ev := by
  rcases hev with ⟨rfl, a⟩ | ⟨rfl, a⟩ <;> rcases hr with ⟨rfl, b⟩ | ⟨rfl, b⟩
  · rfl
  · exact absurd (hAB.mpr a) b
  · exact absurd (hAB.mp b) a
  · rfl
theorem own_same0 {r ev : Int32} (hev : (ev = 1 ∧ True) ∨ (ev = 0 ∧ ¬ True)) (hr : (r = 1 ∧ True) ∨ (r = 0 ∧ ¬ True)) : r = ev := own_same Iff.rfl hev hr
theorem own_same1 {r ev c0 : Int32} (s0 : ¬ c0 < 0 ∧ ¬ (65535 : Int32) < c0) (hev : (ev = 1 ∧ (own_bI c0 = 0 ∧ True)) ∨ (ev = 0 ∧ ¬ (own_bI c0 = 0 ∧ True))) (hr : (r = 1 ∧ (¬ own_ub c0 ∧ True)) ∨ (r = 0 ∧ ¬ (¬ own_ub c0 ∧ True))) : r = ev := own_same (and_congr (own_ub_iff s0) Iff.rfl) hev hr
theorem own_same2 {r ev c0 c1 : Int32} (s0 : ¬ c0 < 0 ∧ ¬ (65535 : Int32) < c0) (s1 : ¬ c1 < 0 ∧ ¬ (65535 : Int32) < c1) (hev : (ev = 1 ∧ (own_bI c0 = 0 ∧ own_bI c1 = 0 ∧ True)) ∨ (ev = 0 ∧ ¬ (own_bI c0 = 0 ∧ own_bI c1 = 0 ∧ True))) (hr : (r = 1 ∧ (¬ own_ub c0 ∧ ¬ own_ub c1 ∧ True)) ∨ (r = 0 ∧ ¬ (¬ own_ub c0 ∧ ¬ own_ub c1 ∧ True))) : r = ev := own_same (and_congr (own_ub_iff s0) (and_congr (own_ub_iff s1) Iff.rfl)) hev hr
theorem own_same3 {r ev c0 c1 c2 : Int32} (s0 : ¬ c0 < 0 ∧ ¬ (65535 : Int32) < c0) (s1 : ¬ c1 < 0 ∧ ¬ (65535 : Int32) < c1) (s2 : ¬ c2 < 0 ∧ ¬ (65535 : Int32) < c2) (hev : (ev = 1 ∧ (own_bI c0 = 0 ∧ own_bI c1 = 0 ∧ own_bI c2 = 0 ∧ True)) ∨ (ev = 0 ∧ ¬ (own_bI c0 = 0 ∧ own_bI c1 = 0 ∧ own_bI c2 = 0 ∧ True))) (hr : (r = 1 ∧ (¬ own_ub c0 ∧ ¬ own_ub c1 ∧ ¬ own_ub c2 ∧ True)) ∨ (r = 0 ∧ ¬ (¬ own_ub c0 ∧ ¬ own_ub c1 ∧ ¬ own_ub c2 ∧ True))) : r = ev := own_same (and_congr (own_ub_iff s0) (and_congr (own_ub_iff s1) (and_congr (own_ub_iff s2) Iff.rfl))) hev hr
theorem own_same4 {r ev c0 c1 c2 c3 : Int32} (s0 : ¬ c0 < 0 ∧ ¬ (65535 : Int32) < c0) (s1 : ¬ c1 < 0 ∧ ¬ (65535 : Int32) < c1) (s2 : ¬ c2 < 0 ∧ ¬ (65535 : Int32) < c2) (s3 : ¬ c3 < 0 ∧ ¬ (65535 : Int32) < c3) (hev : (ev = 1 ∧ (own_bI c0 = 0 ∧ own_bI c1 = 0 ∧ own_bI c2 = 0 ∧ own_bI c3 = 0 ∧ True)) ∨ (ev = 0 ∧ ¬ (own_bI c0 = 0 ∧ own_bI c1 = 0 ∧ own_bI c2 = 0 ∧ own_bI c3 = 0 ∧ True))) (hr : (r = 1 ∧ (¬ own_ub c0 ∧ ¬ own_ub c1 ∧ ¬ own_ub c2 ∧ ¬ own_ub c3 ∧ True)) ∨ (r = 0 ∧ ¬ (¬ own_ub c0 ∧ ¬ own_ub c1 ∧ ¬ own_ub c2 ∧ ¬ own_ub c3 ∧ True))) : r = ev := own_same (and_congr (own_ub_iff s0) (and_congr (own_ub_iff s1) (and_congr (own_ub_iff s2) (and_congr (own_ub_iff s3) Iff.rfl)))) hev hr
theorem own_mod5 (x : Int32) : 0 ≤ ((x &&& (2147483647 : Int32)) % (5 : Int32)).toInt ∧ ((x &&& (2147483647 : Int32)) % (5 : Int32)).toInt < 5 := by
  have h1 := c_and x (2147483647 : Int32) (by decide)
  have h2 := (c_irem (x &&& (2147483647 : Int32)) (5 : Int32) 5 (by decide)).1 h1.1
  omega
theorem own_is4 {k : Int32} (hk : 0 ≤ k.toInt ∧ k.toInt < 5) (h0 : ¬ k = (0 : Int32)) (h1 : ¬ k = (1 : Int32)) (h2 : ¬ k = (2 : Int32)) (h3 : ¬ k = (3 : Int32)) : k = (4 : Int32) := by
  rw [← Int32.toInt_inj] at *
  have z0 : (0 : Int32).toInt = 0 := by decide
  have z1 : (1 : Int32).toInt = 1 := by decide
  have z2 : (2 : Int32).toInt = 2 := by decide
  have z3 : (3 : Int32).toInt = 3 := by decide
  have z4 : (4 : Int32).toInt = 4 := by decide
  omega

theorem own_d16_0 : decode jdk_41_method_11_code 0 = .ok (.iload_n 0, 1) := by decide +kernel
theorem own_d16_1 : decode jdk_41_method_11_code 1 = .ok (.ifCond .lt 8, 3) := by decide +kernel
theorem own_d16_4 : decode jdk_41_method_11_code 4 = .ok (.iload_n 0, 1) := by decide +kernel
theorem own_d16_5 : decode jdk_41_method_11_code 5 = .ok (.iload_n 1, 1) := by decide +kernel
theorem own_d16_6 : decode jdk_41_method_11_code 6 = .ok (.if_icmp .lt 10, 3) := by decide +kernel
theorem own_d16_16 : decode jdk_41_method_11_code 16 = .ok (.iload_n 0, 1) := by decide +kernel
theorem own_d16_17 : decode jdk_41_method_11_code 17 = .ok (.ireturn, 1) := by decide +kernel
theorem own_pn_jdk_internal_util_Preconditions : plainName "jdk/internal/util/Preconditions" = true := by first | (simp [plainName, overriddenIn]; done) | decide +kernel
theorem own_ef_IIV_3 (m : MethodId) (x0 : Int32) (x1 : Int32) (x2 : Value) (hx2 : x2.category = 1) : entryFrame m #[(.int x0), (.int x1), x2] 3 = mkF m 0 #[.val (.int x0), .val (.int x1), .val x2] [] := by cases x2 <;> first | (simp [entryFrame, mkF, argsToLocals, Value.category]; done) | rfl | (simp [Value.category] at hx2)
def Q_pci (Z : State) (i N : Int32) (fm : Value) (h0 : Heap) (n0 : Nat) (v : Option Value) (h : Heap) (L : List Loc) : Prop := v = some (.int i) ∧ Fr n0 L ∧ h = h0
theorem rm_pci (l : Launch) (Z : State) (a0 : Array Value) (hw : own_H a0 Z) (ws : List Jvm.Cond) (i N : Int32) (fm : Value) (h0 : Heap) (n0 : Nat) (Z0 : n0 ≤ h0.size) (rfm : fm.isRef = true) (h1 : ¬ i < 0) (h2 : i < N) : own_MP l (⟨"jdk/internal/util/Preconditions", "checkIndex", "(IILjava/util/function/BiFunction;)I"⟩ : MethodName) jdk_41_method_11_code 3 (some .int) ws ({ frames := 0, cells := 0, slots := 0, locals := 0 } : Room) Z h0 #[(.int i), (.int N), fm] (fun _ _ _ _ _ => True) (Q_pci Z i N fm h0 n0) := by
  refine own_startP (plainFor_of_name own_pn_jdk_internal_util_Preconditions) fun p e s m below meth c s₁ Bd hx hby hml hown0 X0 e0 hh0 hZ hK Pst hPst => ?_
  have hown : s.vm.findClass "jdk/internal/util/Preconditions" = some m.cls := hown0
  have hnm := (name_of_methodNamed Bd.named Bd.method).1
  have N0 := Fr.nil n0
  rw [own_ef_IIV_3 m i N fm (XT.cat1 rfm)]
  refine own_x_iloadN X0.here hx (hb hby own_d16_0) rfl ?_
  refine own_x_ifNo X0.here hx (hb hby own_d16_1) rfl ((if0 _ _).trans (flt h1).1) ?_
  refine own_x_iloadN X0.here hx (hb hby own_d16_4) rfl ?_
  refine own_x_iloadN X0.here hx (hb hby own_d16_5) rfl ?_
  refine own_x_icmpYes X0.here hx (pc0 := 6) (pc' := 16) rfl (hb hby own_d16_6) rfl (tlt h2).1 (by decide) (by decide) ?_
  refine own_x_iloadN X0.here hx (hb hby own_d16_16) rfl ?_
  rw [hPst]
  exact own_retP X0 (v := (some (.int i))) (Q := Q_pci Z i N fm h0 n0) (fun h => by rw [Bd.returns] at h; cases h) Bd.notSynchronized (fun fs hr => own_retI X0 hx Bd.returns (hb hby own_d16_17) hr) (by decide) (by decide) (by rw [e0]; exact ⟨rfl, N0, rfl⟩)
theorem own_d15_0 : decode jdk_42_method_155_code 0 = .ok (.iload_n 0, 1) := by decide +kernel
theorem own_d15_1 : decode jdk_42_method_155_code 1 = .ok (.iload_n 1, 1) := by decide +kernel
theorem own_d15_2 : decode jdk_42_method_155_code 2 = .ok (.getstatic 1053, 3) := by decide +kernel
theorem own_d15_5 : decode jdk_42_method_155_code 5 = .ok (.invokestatic 1059, 3) := by decide +kernel
theorem own_pd9 : parseMethodDescriptor "(IILjava/util/function/BiFunction;)I" = some ⟨[.int, .int, (.object "java/util/function/BiFunction")], some .int⟩ := by decide +kernel
theorem own_d15_8 : decode jdk_42_method_155_code 8 = .ok (.pop, 1) := by decide +kernel
theorem own_d15_9 : decode jdk_42_method_155_code 9 = .ok (.return_, 1) := by decide +kernel
theorem own_ef_II_2 (m : MethodId) (x0 : Int32) (x1 : Int32) : entryFrame m #[(.int x0), (.int x1)] 2 = mkF m 0 #[.val (.int x0), .val (.int x1)] [] := by first | (simp [entryFrame, mkF, argsToLocals, Value.category]; done) | rfl
def Q_sci (Z : State) (i N : Int32) (fm : Value) (h0 : Heap) (n0 : Nat) (v : Option Value) (h : Heap) (L : List Loc) : Prop := v = none ∧ Fr n0 L ∧ h = h0
theorem rm_sci (l : Launch) (Z : State) (a0 : Array Value) (hw : own_H a0 Z) (ws : List Jvm.Cond) (i N : Int32) (fm : Value) (h0 : Heap) (n0 : Nat) (Z0 : n0 ≤ h0.size) (O : Old Z n0 h0) (SF : Sta Z Z.heap "jdk/internal/util/Preconditions" "SIOOBE_FORMATTER" "Ljava/util/function/BiFunction;" fm) (rfm : fm.isRef = true) (h1 : ¬ i < 0) (h2 : i < N) : own_MP l (⟨"java/lang/String", "checkIndex", "(II)V"⟩ : MethodName) jdk_42_method_155_code 2 none ws ({ frames := 1, cells := 0, slots := 0, locals := 14 } : Room) Z h0 #[(.int i), (.int N)] (fun _ _ _ _ _ => True) (Q_sci Z i N fm h0 n0) := by
  refine own_startP (plainFor_of_name own_pn_java_lang_String) fun p e s m below meth c s₁ Bd hx hby hml hown0 X0 e0 hh0 hZ hK Pst hPst => ?_
  have hown : s.vm.findClass "java/lang/String" = some m.cls := hown0
  have hnm := (name_of_methodNamed Bd.named Bd.method).1
  have N0 := Fr.nil n0
  rw [own_ef_II_2 m i N]
  refine own_x_iloadN X0.here hx (hb hby own_d15_0) rfl ?_
  refine own_x_iloadN X0.here hx (hb hby own_d15_1) rfl ?_
  refine own_h_getS2 X0 hx hZ hown (host := "") (Or.inl (own_w70 hw)) Via.refl e0 (SF.ext O.2) (hb hby own_d15_2) fun T101 X101 e101 => ?_
  refine own_cF X101 (Jvm.LawKit.callS X101 hx (y := (⟨"jdk/internal/util/Preconditions", "checkIndex", "(IILjava/util/function/BiFunction;)I"⟩ : MethodName)) hown (mvT hZ (own_w72 hw)) (mvT hZ (own_w73 hw)) (mvT hZ (own_w71 hw)) (mvT hZ (own_w74 hw)) (by decide) (backOf (W := 0) (rm_pci l Z a0 hw [] i N fm h0 n0 Z0 rfm h1 h2) hZ (own_w74 hw) (own_w71 hw) (by decide) (by decide)) (g := (mkF m 5 #[.val (.int i), .val (.int N)] [fm, (.int N), (.int i)])) rfl (by rw [hml]; rfl) (argsL := [(.int i), (.int N), fm]) (rest := []) (lenOf own_pd9 rfl) rfl (by show 2 * 0 + _ ≤ _; exact Nat.le_of_eq rfl) (hb hby own_d15_5) (fun _ _ => ⟨rfl, e101, (by decide : 0 + 0 ≤ _), (by decide : 0 + 0 ≤ _)⟩)) fun v102 T102 L102 X102 hQ102 => ?_
  obtain ⟨rfl, Nq102, e102⟩ := hQ102
  have N102 := Fr.app N0 Nq102
  show own_Go p e below Pst (T102.setTop (mkF m 8 #[.val (.int i), .val (.int N)] [(.int i)]))
  refine own_x_pop X102.here hx (hb hby own_d15_8) rfl rfl ?_
  rw [hPst]
  exact own_retP X102 (v := none) (Q := Q_sci Z i N fm h0 n0) (fun _ => rfl) Bd.notSynchronized (fun fs hr => X102.returnOut hx Bd.returns (hb hby own_d15_9) hr) (by decide) (by decide) (by rw [e102]; exact ⟨rfl, N102, rfl⟩)
theorem own_d26_0 : decode jdk_52_method_6_code 0 = .ok (.aload_n 0, 1) := by decide +kernel
theorem own_d26_1 : decode jdk_52_method_6_code 1 = .ok (.arraylength, 1) := by decide +kernel
theorem own_d26_2 : decode jdk_52_method_6_code 2 = .ok (.iconst 1, 1) := by decide +kernel
theorem own_d26_3 : decode jdk_52_method_6_code 3 = .ok (.ishr, 1) := by decide +kernel
theorem own_d26_4 : decode jdk_52_method_6_code 4 = .ok (.ireturn, 1) := by decide +kernel
def Q_u16len (Z : State) (t : Addr) (kb : ClassId) (N : Int32) (vs : List Value) (h0 : Heap) (n0 : Nat) (v : Option Value) (h : Heap) (L : List Loc) : Prop := v = some (.int (N >>> ((1 : Int32) &&& 31))) ∧ Fr n0 L ∧ h = h0
theorem rm_u16len (l : Launch) (Z : State) (a0 : Array Value) (hw : own_H a0 Z) (ws : List Jvm.Cond) (t : Addr) (kb : ClassId) (N : Int32) (vs : List Value) (h0 : Heap) (n0 : Nat) (Z0 : n0 ≤ h0.size) (A1 : Arv Z h0 t kb .byte N vs (.int 0)) : own_MP l (⟨"java/lang/StringUTF16", "length", "([B)I"⟩ : MethodName) jdk_52_method_6_code 1 (some .int) ws ({ frames := 0, cells := 0, slots := 0, locals := 0 } : Room) Z h0 #[(.ref t)] (fun _ _ _ _ _ => True) (Q_u16len Z t kb N vs h0 n0) := by
  refine own_startP (plainFor_of_name own_pn_java_lang_StringUTF16) fun p e s m below meth c s₁ Bd hx hby hml hown0 X0 e0 hh0 hZ hK Pst hPst => ?_
  have hown : s.vm.findClass "java/lang/StringUTF16" = some m.cls := hown0
  have hnm := (name_of_methodNamed Bd.named Bd.method).1
  have N0 := Fr.nil n0
  rw [own_ef_R_1 m t]
  refine own_x_aloadN X0.here hx (hb hby own_d26_0) rfl rfl ?_
  obtain ⟨cl101, Ar101, -, S101, P101, -, -⟩ := id A1
  refine own_Go.of (S' := s₁.setTop (mkF m 2 #[.val (.ref t)] [(.int N)])) (fun tgt kst => X0.arraylength hx (by rw [e0]; exact Ar101.1) (State.isArrayOf_alike hZ.alike Ar101.2.1) (g := (mkF m 1 #[.val (.ref t)] [(.ref t)])) rfl rfl (hb hby own_d26_1) _ (by rw [len_of S101 P101]; exact kst)) ?_
  refine own_x_iconst X0.here hx (hb hby own_d26_2) (z := (1 : Int32)) rfl ?_
  refine own_x_ishr X0.here hx (hb hby own_d26_3) rfl ?_
  rw [hPst]
  exact own_retP X0 (v := (some (.int (N >>> ((1 : Int32) &&& 31))))) (Q := Q_u16len Z t kb N vs h0 n0) (fun h => by rw [Bd.returns] at h; cases h) Bd.notSynchronized (fun fs hr => own_retI X0 hx Bd.returns (hb hby own_d26_4) hr) (by decide) (by decide) (by rw [e0]; exact ⟨rfl, N0, rfl⟩)
theorem own_d25_0 : decode jdk_52_method_91_code 0 = .ok (.iload_n 0, 1) := by decide +kernel
theorem own_d25_1 : decode jdk_52_method_91_code 1 = .ok (.aload_n 1, 1) := by decide +kernel
theorem own_d25_2 : decode jdk_52_method_91_code 2 = .ok (.invokestatic 48, 3) := by decide +kernel
theorem own_pd10 : parseMethodDescriptor "([B)I" = some ⟨[(.array .byte)], some .int⟩ := by decide +kernel
theorem own_d25_5 : decode jdk_52_method_91_code 5 = .ok (.invokestatic 414, 3) := by decide +kernel
theorem own_pd11 : parseMethodDescriptor "(II)V" = some ⟨[.int, .int], none⟩ := by decide +kernel
theorem own_d25_8 : decode jdk_52_method_91_code 8 = .ok (.return_, 1) := by decide +kernel
theorem own_ef_IR_2 (m : MethodId) (x0 : Int32) (x1 : Addr) : entryFrame m #[(.int x0), (.ref x1)] 2 = mkF m 0 #[.val (.int x0), .val (.ref x1)] [] := by first | (simp [entryFrame, mkF, argsToLocals, Value.category]; done) | rfl
def Q_uci (Z : State) (i : Int32) (t : Addr) (kb : ClassId) (N : Int32) (vs : List Value) (fm : Value) (h0 : Heap) (n0 : Nat) (v : Option Value) (h : Heap) (L : List Loc) : Prop := v = none ∧ Fr n0 L ∧ h = h0
theorem rm_uci (l : Launch) (Z : State) (a0 : Array Value) (hw : own_H a0 Z) (ws : List Jvm.Cond) (i : Int32) (t : Addr) (kb : ClassId) (N : Int32) (vs : List Value) (fm : Value) (h0 : Heap) (n0 : Nat) (Z0 : n0 ≤ h0.size) (O : Old Z n0 h0) (SF : Sta Z Z.heap "jdk/internal/util/Preconditions" "SIOOBE_FORMATTER" "Ljava/util/function/BiFunction;" fm) (rfm : fm.isRef = true) (A1 : Arv Z h0 t kb .byte N vs (.int 0)) (h1 : ¬ i < 0) (h2 : i < N >>> ((1 : Int32) &&& 31)) : own_MP l (⟨"java/lang/StringUTF16", "checkIndex", "(I[B)V"⟩ : MethodName) jdk_52_method_91_code 2 none ws ({ frames := 2, cells := 0, slots := 0, locals := 27 } : Room) Z h0 #[(.int i), (.ref t)] (fun _ _ _ _ _ => True) (Q_uci Z i t kb N vs fm h0 n0) := by
  refine own_startP (plainFor_of_name own_pn_java_lang_StringUTF16) fun p e s m below meth c s₁ Bd hx hby hml hown0 X0 e0 hh0 hZ hK Pst hPst => ?_
  have hown : s.vm.findClass "java/lang/StringUTF16" = some m.cls := hown0
  have hnm := (name_of_methodNamed Bd.named Bd.method).1
  have N0 := Fr.nil n0
  rw [own_ef_IR_2 m i t]
  refine own_x_iloadN X0.here hx (hb hby own_d25_0) rfl ?_
  refine own_x_aloadN X0.here hx (hb hby own_d25_1) rfl rfl ?_
  refine own_cF X0 (Jvm.LawKit.callS X0 hx (y := (⟨"java/lang/StringUTF16", "length", "([B)I"⟩ : MethodName)) hown (mvT hZ (own_w107 hw)) (mvT hZ (own_w108 hw)) (mvT hZ (own_w23 hw)) (mvT hZ (own_w109 hw)) (by decide) (backOf (W := 1) (rm_u16len l Z a0 hw [] t kb N vs h0 n0 Z0 A1) hZ (own_w109 hw) (own_w23 hw) (by decide) (by decide)) (g := (mkF m 2 #[.val (.int i), .val (.ref t)] [(.ref t), (.int i)])) rfl (by rw [hml]; rfl) (argsL := [(.ref t)]) (rest := [(.int i)]) (lenOf own_pd10 rfl) rfl (by show 2 * 0 + _ ≤ _; exact Nat.le_of_eq rfl) (hb hby own_d25_2) (fun _ _ => ⟨rfl, e0, (by decide : 0 + 0 ≤ _), (by decide : 0 + 0 ≤ _)⟩)) fun v101 T101 L101 X101 hQ101 => ?_
  obtain ⟨rfl, Nq101, e101⟩ := hQ101
  have N101 := Fr.app N0 Nq101
  show own_Go p e below Pst (T101.setTop (mkF m 5 #[.val (.int i), .val (.ref t)] [(.int (N >>> ((1 : Int32) &&& 31))), (.int i)]))
  refine own_cF X101 (Jvm.LawKit.callS X101 hx (y := (⟨"java/lang/String", "checkIndex", "(II)V"⟩ : MethodName)) hown (mvT hZ (own_w110 hw)) (mvT hZ (own_w68 hw)) (mvT hZ (own_w9 hw)) (mvT hZ (own_w69 hw)) (by decide) (backOf (W := 0) (rm_sci l Z a0 hw [] i (N >>> ((1 : Int32) &&& 31)) fm h0 n0 Z0 O SF rfm h1 h2) hZ (own_w69 hw) (own_w9 hw) (by decide) (by decide)) (g := (mkF m 5 #[.val (.int i), .val (.ref t)] [(.int (N >>> ((1 : Int32) &&& 31))), (.int i)])) rfl (by rw [hml]; rfl) (argsL := [(.int i), (.int (N >>> ((1 : Int32) &&& 31)))]) (rest := []) (lenOf own_pd11 rfl) rfl (by show 2 * 0 + _ ≤ _; exact Nat.le_of_eq rfl) (hb hby own_d25_5) (fun _ _ => ⟨rfl, e101, (by decide : 0 + 0 ≤ _), (by decide : 0 + 0 ≤ _)⟩)) fun v102 T102 L102 X102 hQ102 => ?_
  obtain ⟨rfl, Nq102, e102⟩ := hQ102
  have N102 := Fr.app N101 Nq102
  show own_Go p e below Pst (T102.setTop (mkF m 8 #[.val (.int i), .val (.ref t)] []))
  rw [hPst]
  exact own_retP X102 (v := none) (Q := Q_uci Z i t kb N vs fm h0 n0) (fun _ => rfl) Bd.notSynchronized (fun fs hr => X102.returnOut hx Bd.returns (hb hby own_d25_8) hr) (by decide) (by decide) (by rw [e102]; exact ⟨rfl, N102, rfl⟩)
theorem own_d13_0 : decode jdk_42_method_154_code 0 = .ok (.getstatic 38, 3) := by decide +kernel
theorem own_d13_3 : decode jdk_42_method_154_code 3 = .ok (.ifCond .eq 14, 3) := by decide +kernel
theorem own_d13_6 : decode jdk_42_method_154_code 6 = .ok (.aload_n 0, 1) := by decide +kernel
theorem own_d13_7 : decode jdk_42_method_154_code 7 = .ok (.getfield 15, 3) := by decide +kernel
theorem own_d13_10 : decode jdk_42_method_154_code 10 = .ok (.ifCond .ne 7, 3) := by decide +kernel
theorem own_d13_13 : decode jdk_42_method_154_code 13 = .ok (.iconst 1, 1) := by decide +kernel
theorem own_d13_14 : decode jdk_42_method_154_code 14 = .ok (.goto 4, 3) := by decide +kernel
theorem own_d13_18 : decode jdk_42_method_154_code 18 = .ok (.ireturn, 1) := by decide +kernel
def Q_isl0 (Z : State) (z : Int32) (a1 : Addr) (h0 : Heap) (n0 : Nat) (v : Option Value) (h : Heap) (L : List Loc) : Prop := v = some (.int (1 : Int32)) ∧ Fr n0 L ∧ h = h0
theorem rm_isl0 (l : Launch) (Z : State) (a0 : Array Value) (hw : own_H a0 Z) (ws : List Jvm.Cond) (z : Int32) (a1 : Addr) (h0 : Heap) (n0 : Nat) (Z0 : n0 ≤ h0.size) (O : Old Z n0 h0) (SC : Sta Z Z.heap "java/lang/String" "COMPACT_STRINGS" "Z" (.int z)) (hz : ¬ z = 0) (F1 : Fld Z h0 a1 "java/lang/String" "coder" "B" (.int (0 : Int32))) : own_MP l (⟨"java/lang/String", "isLatin1", "()Z"⟩ : MethodName) jdk_42_method_154_code 1 (some .boolean) ws ({ frames := 0, cells := 0, slots := 0, locals := 0 } : Room) Z h0 #[(.ref a1)] (fun _ _ _ _ _ => True) (Q_isl0 Z z a1 h0 n0) := by
  refine own_startP (plainFor_of_name own_pn_java_lang_String) fun p e s m below meth c s₁ Bd hx hby hml hown0 X0 e0 hh0 hZ hK Pst hPst => ?_
  have hown : s.vm.findClass "java/lang/String" = some m.cls := hown0
  have hnm := (name_of_methodNamed Bd.named Bd.method).1
  have N0 := Fr.nil n0
  rw [own_ef_R_1 m a1]
  refine own_h_getS2 X0 hx hZ hown (host := "") (Or.inl (own_w20 hw)) Via.refl e0 (SC.ext O.2) (hb hby own_d13_0) fun T101 X101 e101 => ?_
  refine own_x_ifNo X101.here hx (hb hby own_d13_3) rfl ((if0 _ _).trans (feq hz).1) ?_
  refine own_x_aloadN X101.here hx (hb hby own_d13_6) rfl rfl ?_
  refine own_h_getF X101 hx hZ hown (host := "") (Or.inl (own_w32 hw)) Via.refl e101 F1 rfl (hb hby own_d13_7) fun T102 X102 e102 => ?_
  refine own_x_ifNo X102.here hx (hb hby own_d13_10) rfl ((if0 _ _).trans (teq rfl).2) ?_
  refine own_x_iconst X102.here hx (hb hby own_d13_13) (z := (1 : Int32)) rfl ?_
  refine own_x_goto X102.here hx (pc0 := 14) (pc' := 18) rfl (hb hby own_d13_14) (by decide) (by decide) ?_
  rw [hPst]
  exact own_retP X102 (v := (some (.int (nar .boolean (1 : Int32))))) (Q := Q_isl0 Z z a1 h0 n0) (fun h => by rw [Bd.returns] at h; cases h) Bd.notSynchronized (fun fs hr => retN X102 hx (t := .boolean) Bd.returns (by simp) (hb hby own_d13_18) hr) (by decide) (by decide) (by rw [e102]; exact ⟨rfl, N0, rfl⟩)
theorem own_d13_17 : decode jdk_42_method_154_code 17 = .ok (.iconst 0, 1) := by decide +kernel
def Q_isl1 (Z : State) (z : Int32) (a1 : Addr) (h0 : Heap) (n0 : Nat) (v : Option Value) (h : Heap) (L : List Loc) : Prop := v = some (.int (0 : Int32)) ∧ Fr n0 L ∧ h = h0
theorem rm_isl1 (l : Launch) (Z : State) (a0 : Array Value) (hw : own_H a0 Z) (ws : List Jvm.Cond) (z : Int32) (a1 : Addr) (h0 : Heap) (n0 : Nat) (Z0 : n0 ≤ h0.size) (O : Old Z n0 h0) (SC : Sta Z Z.heap "java/lang/String" "COMPACT_STRINGS" "Z" (.int z)) (hz : ¬ z = 0) (F1 : Fld Z h0 a1 "java/lang/String" "coder" "B" (.int (1 : Int32))) : own_MP l (⟨"java/lang/String", "isLatin1", "()Z"⟩ : MethodName) jdk_42_method_154_code 1 (some .boolean) ws ({ frames := 0, cells := 0, slots := 0, locals := 0 } : Room) Z h0 #[(.ref a1)] (fun _ _ _ _ _ => True) (Q_isl1 Z z a1 h0 n0) := by
  refine own_startP (plainFor_of_name own_pn_java_lang_String) fun p e s m below meth c s₁ Bd hx hby hml hown0 X0 e0 hh0 hZ hK Pst hPst => ?_
  have hown : s.vm.findClass "java/lang/String" = some m.cls := hown0
  have hnm := (name_of_methodNamed Bd.named Bd.method).1
  have N0 := Fr.nil n0
  rw [own_ef_R_1 m a1]
  refine own_h_getS2 X0 hx hZ hown (host := "") (Or.inl (own_w20 hw)) Via.refl e0 (SC.ext O.2) (hb hby own_d13_0) fun T101 X101 e101 => ?_
  refine own_x_ifNo X101.here hx (hb hby own_d13_3) rfl ((if0 _ _).trans (feq hz).1) ?_
  refine own_x_aloadN X101.here hx (hb hby own_d13_6) rfl rfl ?_
  refine own_h_getF X101 hx hZ hown (host := "") (Or.inl (own_w32 hw)) Via.refl e101 F1 rfl (hb hby own_d13_7) fun T102 X102 e102 => ?_
  refine own_x_ifYes X102.here hx (pc0 := 10) (pc' := 17) rfl (hb hby own_d13_10) rfl ((if0 _ _).trans (feq (by decide)).2) (by decide) (by decide) ?_
  refine own_x_iconst X102.here hx (hb hby own_d13_17) (z := (0 : Int32)) rfl ?_
  rw [hPst]
  exact own_retP X102 (v := (some (.int (nar .boolean (0 : Int32))))) (Q := Q_isl1 Z z a1 h0 n0) (fun h => by rw [Bd.returns] at h; cases h) Bd.notSynchronized (fun fs hr => retN X102 hx (t := .boolean) Bd.returns (by simp) (hb hby own_d13_18) hr) (by decide) (by decide) (by rw [e102]; exact ⟨rfl, N0, rfl⟩)
theorem own_d14_0 : decode jdk_43_method_2_code 0 = .ok (.iload_n 1, 1) := by decide +kernel
theorem own_d14_1 : decode jdk_43_method_2_code 1 = .ok (.aload_n 0, 1) := by decide +kernel
theorem own_d14_2 : decode jdk_43_method_2_code 2 = .ok (.arraylength, 1) := by decide +kernel
theorem own_d14_3 : decode jdk_43_method_2_code 3 = .ok (.invokestatic 9, 3) := by decide +kernel
theorem own_d14_6 : decode jdk_43_method_2_code 6 = .ok (.aload_n 0, 1) := by decide +kernel
theorem own_d14_7 : decode jdk_43_method_2_code 7 = .ok (.iload_n 1, 1) := by decide +kernel
theorem own_d14_8 : decode jdk_43_method_2_code 8 = .ok (.baload, 1) := by decide +kernel
theorem own_d14_9 : decode jdk_43_method_2_code 9 = .ok (.sipush 255, 3) := by decide +kernel
theorem own_d14_12 : decode jdk_43_method_2_code 12 = .ok (.iand, 1) := by decide +kernel
theorem own_d14_13 : decode jdk_43_method_2_code 13 = .ok (.i2c, 1) := by decide +kernel
theorem own_d14_14 : decode jdk_43_method_2_code 14 = .ok (.ireturn, 1) := by decide +kernel
theorem own_pn_java_lang_StringLatin1 : plainName "java/lang/StringLatin1" = true := by first | (simp [plainName, overriddenIn]; done) | decide +kernel
def Q_l1c0 (Z : State) (t : Addr) (kb : ClassId) (N b : Int32) (vs : List Value) (fm : Value) (h0 : Heap) (n0 : Nat) (v : Option Value) (h : Heap) (L : List Loc) : Prop := v = some (.int (nar .char (own_lat b))) ∧ Fr n0 L ∧ h = h0
theorem rm_l1c0 (l : Launch) (Z : State) (a0 : Array Value) (hw : own_H a0 Z) (ws : List Jvm.Cond) (t : Addr) (kb : ClassId) (N b : Int32) (vs : List Value) (fm : Value) (h0 : Heap) (n0 : Nat) (Z0 : n0 ≤ h0.size) (O : Old Z n0 h0) (SF : Sta Z Z.heap "jdk/internal/util/Preconditions" "SIOOBE_FORMATTER" "Ljava/util/function/BiFunction;" fm) (rfm : fm.isRef = true) (A1 : Arv Z h0 t kb .byte N vs (.int 0)) (h2 : (0 : Int32) < N) (hv : vs.getD 0 (.int 0) = .int b) : own_MP l (⟨"java/lang/StringLatin1", "charAt", "([BI)C"⟩ : MethodName) jdk_43_method_2_code 2 (some .char) ws ({ frames := 2, cells := 0, slots := 0, locals := 27 } : Room) Z h0 #[(.ref t), (.int (0 : Int32))] (fun _ _ _ _ _ => True) (Q_l1c0 Z t kb N b vs fm h0 n0) := by
  refine own_startP (plainFor_of_name own_pn_java_lang_StringLatin1) fun p e s m below meth c s₁ Bd hx hby hml hown0 X0 e0 hh0 hZ hK Pst hPst => ?_
  have hown : s.vm.findClass "java/lang/StringLatin1" = some m.cls := hown0
  have hnm := (name_of_methodNamed Bd.named Bd.method).1
  have N0 := Fr.nil n0
  rw [own_ef_RI_2 m t (0 : Int32)]
  refine own_x_iloadN X0.here hx (hb hby own_d14_0) rfl ?_
  refine own_x_aloadN X0.here hx (hb hby own_d14_1) rfl rfl ?_
  obtain ⟨cl101, Ar101, -, S101, P101, -, -⟩ := id A1
  refine own_Go.of (S' := s₁.setTop (mkF m 3 #[.val (.ref t), .val (.int (0 : Int32))] [(.int N), (.int (0 : Int32))])) (fun tgt kst => X0.arraylength hx (by rw [e0]; exact Ar101.1) (State.isArrayOf_alike hZ.alike Ar101.2.1) (g := (mkF m 2 #[.val (.ref t), .val (.int (0 : Int32))] [(.ref t), (.int (0 : Int32))])) rfl rfl (hb hby own_d14_2) _ (by rw [len_of S101 P101]; exact kst)) ?_
  refine own_cF X0 (Jvm.LawKit.callS X0 hx (y := (⟨"java/lang/String", "checkIndex", "(II)V"⟩ : MethodName)) hown (mvT hZ (own_w67 hw)) (mvT hZ (own_w68 hw)) (mvT hZ (own_w9 hw)) (mvT hZ (own_w69 hw)) (by decide) (backOf (W := 0) (rm_sci l Z a0 hw [] (0 : Int32) N fm h0 n0 Z0 O SF rfm (by decide) h2) hZ (own_w69 hw) (own_w9 hw) (by decide) (by decide)) (g := (mkF m 3 #[.val (.ref t), .val (.int (0 : Int32))] [(.int N), (.int (0 : Int32))])) rfl (by rw [hml]; rfl) (argsL := [(.int (0 : Int32)), (.int N)]) (rest := []) (lenOf own_pd11 rfl) rfl (by show 2 * 0 + _ ≤ _; exact Nat.le_of_eq rfl) (hb hby own_d14_3) (fun _ _ => ⟨rfl, e0, (by decide : 0 + 0 ≤ _), (by decide : 0 + 0 ≤ _)⟩)) fun v102 T102 L102 X102 hQ102 => ?_
  obtain ⟨rfl, Nq102, e102⟩ := hQ102
  have N102 := Fr.app N0 Nq102
  show own_Go p e below Pst (T102.setTop (mkF m 6 #[.val (.ref t), .val (.int (0 : Int32))] []))
  refine own_x_aloadN X102.here hx (hb hby own_d14_6) rfl rfl ?_
  refine own_x_iloadN X102.here hx (hb hby own_d14_7) rfl ?_
  obtain ⟨cl103, Ar103, q103, S103, P103, H103, G103⟩ := id A1
  have hin103 : ¬ ((0 : Int32) < 0 ∨ cl103.slots.size ≤ ((0 : Int32)).toNatClampNeg) := inb_of S103 ⟨by decide, h2⟩
  have hat103 : cl103.slots[((0 : Int32)).toNatClampNeg]? = some (.int b) := Has.at H103 hin103 hv
  refine own_Go.of (S' := T102.setTop (mkF m 9 #[.val (.ref t), .val (.int (0 : Int32))] [(.int b)])) (fun tgt kst => X102.baloadBytes hx (j := (0 : Int32)) (v := (.int b)) (by rw [e102]; exact Ar103.1) (State.isArrayOf_alike hZ.alike Ar103.2.1) Ar103.2.2 hin103 hat103 (g := (mkF m 8 #[.val (.ref t), .val (.int (0 : Int32))] [(.int (0 : Int32)), (.ref t)])) rfl rfl (hb hby own_d14_8) _ kst) ?_
  refine own_x_sipush X102.here hx (hb hby own_d14_9) (z := (255 : Int32)) rfl ?_
  refine own_x_iand X102.here hx (hb hby own_d14_12) rfl ?_
  refine own_x_i2c X102.here hx (hb hby own_d14_13) rfl ?_
  rw [hPst]
  exact own_retP X102 (v := (some (.int (nar .char (own_lat b))))) (Q := Q_l1c0 Z t kb N b vs fm h0 n0) (fun h => by rw [Bd.returns] at h; cases h) Bd.notSynchronized (fun fs hr => retN X102 hx (t := .char) Bd.returns (by simp) (hb hby own_d14_14) hr) (by decide) (by decide) (by rw [e102]; exact ⟨rfl, N102, rfl⟩)
theorem own_d24_0 : decode jdk_52_method_83_code 0 = .ok (.iload_n 1, 1) := by decide +kernel
theorem own_d24_1 : decode jdk_52_method_83_code 1 = .ok (.aload_n 0, 1) := by decide +kernel
theorem own_d24_2 : decode jdk_52_method_83_code 2 = .ok (.invokestatic 67, 3) := by decide +kernel
theorem own_pd12 : parseMethodDescriptor "(I[B)V" = some ⟨[.int, (.array .byte)], none⟩ := by decide +kernel
theorem own_d24_5 : decode jdk_52_method_83_code 5 = .ok (.aload_n 0, 1) := by decide +kernel
theorem own_d24_6 : decode jdk_52_method_83_code 6 = .ok (.iload_n 1, 1) := by decide +kernel
theorem own_d24_7 : decode jdk_52_method_83_code 7 = .ok (.invokestatic 71, 3) := by decide +kernel
theorem own_d24_10 : decode jdk_52_method_83_code 10 = .ok (.ireturn, 1) := by decide +kernel
def Q_u16c0 (Z : State) (t : Addr) (kb : ClassId) (N x0 x1 : Int32) (vs : List Value) (fm : Value) (h0 : Heap) (n0 : Nat) (v : Option Value) (h : Heap) (L : List Loc) : Prop := v = some (.int (nar .char (nar .char (own_join x0 x1)))) ∧ Fr n0 L ∧ h = h0
theorem rm_u16c0 (l : Launch) (Z : State) (a0 : Array Value) (hw : own_H a0 Z) (ws : List Jvm.Cond) (t : Addr) (kb : ClassId) (N x0 x1 : Int32) (vs : List Value) (fm : Value) (h0 : Heap) (n0 : Nat) (Z0 : n0 ≤ h0.size) (O : Old Z n0 h0) (SF : Sta Z Z.heap "jdk/internal/util/Preconditions" "SIOOBE_FORMATTER" "Ljava/util/function/BiFunction;" fm) (rfm : fm.isRef = true) (SU0 : Sta Z Z.heap "java/lang/StringUTF16" "$assertionsDisabled" "Z" (.int (1 : Int32))) (SU1 : Sta Z Z.heap "java/lang/StringUTF16" "HI_BYTE_SHIFT" "I" (.int (0 : Int32))) (SU2 : Sta Z Z.heap "java/lang/StringUTF16" "LO_BYTE_SHIFT" "I" (.int (8 : Int32))) (A1 : Arv Z h0 t kb .byte N vs (.int 0)) (h2 : (0 : Int32) < N >>> ((1 : Int32) &&& 31)) (h3 : (1 : Int32) < N) (hv0 : vs.getD 0 (.int 0) = .int x0) (hv1 : vs.getD 1 (.int 0) = .int x1) : own_MP l (⟨"java/lang/StringUTF16", "charAt", "([BI)C"⟩ : MethodName) jdk_52_method_83_code 2 (some .char) ws ({ frames := 3, cells := 0, slots := 0, locals := 40 } : Room) Z h0 #[(.ref t), (.int (0 : Int32))] (fun _ _ _ _ _ => True) (Q_u16c0 Z t kb N x0 x1 vs fm h0 n0) := by
  refine own_startP (plainFor_of_name own_pn_java_lang_StringUTF16) fun p e s m below meth c s₁ Bd hx hby hml hown0 X0 e0 hh0 hZ hK Pst hPst => ?_
  have hown : s.vm.findClass "java/lang/StringUTF16" = some m.cls := hown0
  have hnm := (name_of_methodNamed Bd.named Bd.method).1
  have N0 := Fr.nil n0
  rw [own_ef_RI_2 m t (0 : Int32)]
  refine own_x_iloadN X0.here hx (hb hby own_d24_0) rfl ?_
  refine own_x_aloadN X0.here hx (hb hby own_d24_1) rfl rfl ?_
  refine own_cF X0 (Jvm.LawKit.callS X0 hx (y := (⟨"java/lang/StringUTF16", "checkIndex", "(I[B)V"⟩ : MethodName)) hown (mvT hZ (own_w104 hw)) (mvT hZ (own_w105 hw)) (mvT hZ (own_w23 hw)) (mvT hZ (own_w106 hw)) (by decide) (backOf (W := 0) (rm_uci l Z a0 hw [] (0 : Int32) t kb N vs fm h0 n0 Z0 O SF rfm A1 (by decide) h2) hZ (own_w106 hw) (own_w23 hw) (by decide) (by decide)) (g := (mkF m 2 #[.val (.ref t), .val (.int (0 : Int32))] [(.ref t), (.int (0 : Int32))])) rfl (by rw [hml]; rfl) (argsL := [(.int (0 : Int32)), (.ref t)]) (rest := []) (lenOf own_pd12 rfl) rfl (by show 2 * 0 + _ ≤ _; exact Nat.le_of_eq rfl) (hb hby own_d24_2) (fun _ _ => ⟨rfl, e0, (by decide : 0 + 0 ≤ _), (by decide : 0 + 0 ≤ _)⟩)) fun v101 T101 L101 X101 hQ101 => ?_
  obtain ⟨rfl, Nq101, e101⟩ := hQ101
  have N101 := Fr.app N0 Nq101
  show own_Go p e below Pst (T101.setTop (mkF m 5 #[.val (.ref t), .val (.int (0 : Int32))] []))
  refine own_x_aloadN X101.here hx (hb hby own_d24_5) rfl rfl ?_
  refine own_x_iloadN X101.here hx (hb hby own_d24_6) rfl ?_
  refine own_cF X101 (Jvm.LawKit.callS X101 hx (y := (⟨"java/lang/StringUTF16", "getChar", "([BI)C"⟩ : MethodName)) hown (mvT hZ (own_w98 hw)) (mvT hZ (own_w99 hw)) (mvT hZ (own_w23 hw)) (mvT hZ (own_w100 hw)) (by decide) (backOf (W := 0) (rm_getc0 l Z a0 hw [] t kb N x0 x1 vs h0 n0 Z0 O SU0 SU1 SU2 A1 h3 hv0 hv1) hZ (own_w100 hw) (own_w23 hw) (by decide) (by decide)) (g := (mkF m 7 #[.val (.ref t), .val (.int (0 : Int32))] [(.int (0 : Int32)), (.ref t)])) rfl (by rw [hml]; rfl) (argsL := [(.ref t), (.int (0 : Int32))]) (rest := []) (lenOf own_pd6 rfl) rfl (by show 2 * 0 + _ ≤ _; exact Nat.le_of_eq rfl) (hb hby own_d24_7) (fun _ _ => ⟨rfl, e101, (by decide : 0 + 0 ≤ _), (by decide : 0 + 0 ≤ _)⟩)) fun v102 T102 L102 X102 hQ102 => ?_
  obtain ⟨rfl, Nq102, e102⟩ := hQ102
  have N102 := Fr.app N101 Nq102
  show own_Go p e below Pst (T102.setTop (mkF m 10 #[.val (.ref t), .val (.int (0 : Int32))] [(.int (nar .char (own_join x0 x1)))]))
  rw [hPst]
  exact own_retP X102 (v := (some (.int (nar .char (nar .char (own_join x0 x1)))))) (Q := Q_u16c0 Z t kb N x0 x1 vs fm h0 n0) (fun h => by rw [Bd.returns] at h; cases h) Bd.notSynchronized (fun fs hr => retN X102 hx (t := .char) Bd.returns (by simp) (hb hby own_d24_10) hr) (by decide) (by decide) (by rw [e102]; exact ⟨rfl, N102, rfl⟩)
theorem own_d12_0 : decode jdk_42_method_56_code 0 = .ok (.aload_n 0, 1) := by decide +kernel
theorem own_d12_1 : decode jdk_42_method_56_code 1 = .ok (.invokevirtual 492, 3) := by decide +kernel
theorem own_pd13 : parseMethodDescriptor "()Z" = some ⟨[], some .boolean⟩ := by decide +kernel
theorem own_d12_4 : decode jdk_42_method_56_code 4 = .ok (.ifCond .eq 12, 3) := by decide +kernel
theorem own_d12_7 : decode jdk_42_method_56_code 7 = .ok (.aload_n 0, 1) := by decide +kernel
theorem own_d12_8 : decode jdk_42_method_56_code 8 = .ok (.getfield 9, 3) := by decide +kernel
theorem own_d12_11 : decode jdk_42_method_56_code 11 = .ok (.iload_n 1, 1) := by decide +kernel
theorem own_d12_12 : decode jdk_42_method_56_code 12 = .ok (.invokestatic 495, 3) := by decide +kernel
theorem own_d12_15 : decode jdk_42_method_56_code 15 = .ok (.ireturn, 1) := by decide +kernel
theorem own_d12_16 : decode jdk_42_method_56_code 16 = .ok (.aload_n 0, 1) := by decide +kernel
theorem own_d12_17 : decode jdk_42_method_56_code 17 = .ok (.getfield 9, 3) := by decide +kernel
theorem own_d12_20 : decode jdk_42_method_56_code 20 = .ok (.iload_n 1, 1) := by decide +kernel
theorem own_d12_21 : decode jdk_42_method_56_code 21 = .ok (.invokestatic 498, 3) := by decide +kernel
theorem own_d12_24 : decode jdk_42_method_56_code 24 = .ok (.ireturn, 1) := by decide +kernel
def Q_ch0 (Z : State) (z : Int32) (a1 t : Addr) (kb : ClassId) (cd N c : Int32) (vs : List Value) (fm : Value) (h0 : Heap) (n0 : Nat) (v : Option Value) (h : Heap) (L : List Loc) : Prop := v = some (.int c) ∧ Fr n0 L ∧ h = h0
theorem rm_ch0 (l : Launch) (Z : State) (a0 : Array Value) (hw : own_H a0 Z) (ws : List Jvm.Cond) (z : Int32) (a1 t : Addr) (kb : ClassId) (cd N c : Int32) (vs : List Value) (fm : Value) (h0 : Heap) (n0 : Nat) (Z0 : n0 ≤ h0.size) (O : Old Z n0 h0) (SC : Sta Z Z.heap "java/lang/String" "COMPACT_STRINGS" "Z" (.int z)) (hz : ¬ z = 0) (SF : Sta Z Z.heap "jdk/internal/util/Preconditions" "SIOOBE_FORMATTER" "Ljava/util/function/BiFunction;" fm) (rfm : fm.isRef = true) (SU0 : Sta Z Z.heap "java/lang/StringUTF16" "$assertionsDisabled" "Z" (.int (1 : Int32))) (SU1 : Sta Z Z.heap "java/lang/StringUTF16" "HI_BYTE_SHIFT" "I" (.int (0 : Int32))) (SU2 : Sta Z Z.heap "java/lang/StringUTF16" "LO_BYTE_SHIFT" "I" (.int (8 : Int32))) (E1 : Exa Z h0 a1 "java/lang/String") (F1 : Fld Z h0 a1 "java/lang/String" "coder" "B" (.int cd)) (F2 : Fld Z h0 a1 "java/lang/String" "value" "[B" (.ref t)) (A1 : Arv Z h0 t kb .byte N vs (.int 0)) (hr : nar .char c = c) (hc : own_at cd N vs c 0 0 1 (0 : Int32) (1 : Int32)) : own_MP l (⟨"java/lang/String", "charAt", "(I)C"⟩ : MethodName) jdk_42_method_56_code 2 (some .char) ws ({ frames := 4, cells := 0, slots := 0, locals := 60 } : Room) Z h0 #[(.ref a1), (.int (0 : Int32))] (fun _ _ _ _ _ => True) (Q_ch0 Z z a1 t kb cd N c vs fm h0 n0) := by
  refine own_startP (plainFor_of_name own_pn_java_lang_String) fun p e s m below meth c' s₁ Bd hx hby hml hown0 X0 e0 hh0 hZ hK Pst hPst => ?_
  have hown : s.vm.findClass "java/lang/String" = some m.cls := hown0
  have hnm := (name_of_methodNamed Bd.named Bd.method).1
  have N0 := Fr.nil n0
  rw [own_ef_RI_2 m a1 (0 : Int32)]
  refine own_x_aloadN X0.here hx (hb hby own_d12_0) rfl rfl ?_
  rcases hc with ⟨rfl, q1, b, q2, q3⟩ | ⟨rfl, q1, q2, x0, x1, q3, q4, q5⟩
  · obtain ⟨cq101, kq101, q101a, q101b, q101c⟩ := isOf hZ e0 E1
    refine own_cP X0 (X0.virtualBack hx (y := (⟨"java/lang/String", "isLatin1", "()Z"⟩ : MethodName)) (z := (⟨"java/lang/String", "isLatin1", "()Z"⟩ : MethodName)) hown (mvT hZ (own_w58 hw)) (mvT hZ (own_w59 hw)) (notFace_of_selects (args := #[]) (mvT hZ (own_w61 hw))) (mvT hZ (own_w61 hw)) (mvT hZ (own_w60 hw)) (by decide) (backOf (W := 0) (rm_isl0 l Z a0 hw [] z a1 h0 n0 Z0 O SC hz F1) hZ (own_w62 hw) (own_w9 hw) (by decide) (by decide)) q101a q101c (g := (mkF m 1 #[.val (.ref a1), .val (.int (0 : Int32))] [(.ref a1)])) rfl (by rw [hml]; rfl) (Steps.refl _) (argsL := []) (rest := []) (lenOf own_pd13 rfl) rfl (by show 2 * 0 + _ ≤ _; exact Nat.le_of_eq rfl) (hb hby own_d12_1) (fun _ _ => ⟨rfl, e0, (by decide : 0 + 0 ≤ _), (by decide : 0 + 0 ≤ _)⟩)) fun v101 T101 L101 X101 hQ101 => ?_
    obtain ⟨rfl, Nq101, e101⟩ := hQ101
    have N101 := Fr.app N0 Nq101
    show own_Go p e below Pst (T101.setTop (mkF m 4 #[.val (.ref a1), .val (.int (0 : Int32))] [(.int (1 : Int32))]))
    refine own_x_ifNo X101.here hx (hb hby own_d12_4) rfl ((if0 _ _).trans (feq (by decide)).1) ?_
    refine own_x_aloadN X101.here hx (hb hby own_d12_7) rfl rfl ?_
    refine own_h_getF X101 hx hZ hown (host := "") (Or.inl (own_w34 hw)) Via.refl e101 F2 rfl (hb hby own_d12_8) fun T102 X102 e102 => ?_
    refine own_x_iloadN X102.here hx (hb hby own_d12_11) rfl ?_
    refine own_cF X102 (Jvm.LawKit.callS X102 hx (y := (⟨"java/lang/StringLatin1", "charAt", "([BI)C"⟩ : MethodName)) hown (mvT hZ (own_w63 hw)) (mvT hZ (own_w64 hw)) (mvT hZ (own_w65 hw)) (mvT hZ (own_w66 hw)) (by decide) (backOf (W := 0) (rm_l1c0 l Z a0 hw [] t kb N b vs fm h0 n0 Z0 O SF rfm A1 q1 q2) hZ (own_w66 hw) (own_w65 hw) (by decide) (by decide)) (g := (mkF m 12 #[.val (.ref a1), .val (.int (0 : Int32))] [(.int (0 : Int32)), (.ref t)])) rfl (by rw [hml]; rfl) (argsL := [(.ref t), (.int (0 : Int32))]) (rest := []) (lenOf own_pd6 rfl) rfl (by show 2 * 0 + _ ≤ _; exact Nat.le_of_eq rfl) (hb hby own_d12_12) (fun _ _ => ⟨rfl, e102, (by decide : 0 + 0 ≤ _), (by decide : 0 + 0 ≤ _)⟩)) fun v103 T103 L103 X103 hQ103 => ?_
    obtain ⟨rfl, Nq103, e103⟩ := hQ103
    have N103 := Fr.app N101 Nq103
    show own_Go p e below Pst (T103.setTop (mkF m 15 #[.val (.ref a1), .val (.int (0 : Int32))] [(.int (nar .char (own_lat b)))]))
    rw [q3]
    show own_Go p e below Pst (T103.setTop (mkF m 15 #[.val (.ref a1), .val (.int (0 : Int32))] [(.int c)]))
    rw [hPst]
    exact own_retP X103 (v := (some (.int (nar .char c)))) (Q := Q_ch0 Z z a1 t kb (0 : Int32) N c vs fm h0 n0) (fun h => by rw [Bd.returns] at h; cases h) Bd.notSynchronized (fun fs hr => retN X103 hx (t := .char) Bd.returns (by simp) (hb hby own_d12_15) hr) (by decide) (by decide) (by rw [e103]; exact ⟨by rw [hr], N103, rfl⟩)
  · obtain ⟨cq104, kq104, q104a, q104b, q104c⟩ := isOf hZ e0 E1
    refine own_cP X0 (X0.virtualBack hx (y := (⟨"java/lang/String", "isLatin1", "()Z"⟩ : MethodName)) (z := (⟨"java/lang/String", "isLatin1", "()Z"⟩ : MethodName)) hown (mvT hZ (own_w58 hw)) (mvT hZ (own_w59 hw)) (notFace_of_selects (args := #[]) (mvT hZ (own_w61 hw))) (mvT hZ (own_w61 hw)) (mvT hZ (own_w60 hw)) (by decide) (backOf (W := 0) (rm_isl1 l Z a0 hw [] z a1 h0 n0 Z0 O SC hz F1) hZ (own_w62 hw) (own_w9 hw) (by decide) (by decide)) q104a q104c (g := (mkF m 1 #[.val (.ref a1), .val (.int (0 : Int32))] [(.ref a1)])) rfl (by rw [hml]; rfl) (Steps.refl _) (argsL := []) (rest := []) (lenOf own_pd13 rfl) rfl (by show 2 * 0 + _ ≤ _; exact Nat.le_of_eq rfl) (hb hby own_d12_1) (fun _ _ => ⟨rfl, e0, (by decide : 0 + 0 ≤ _), (by decide : 0 + 0 ≤ _)⟩)) fun v104 T104 L104 X104 hQ104 => ?_
    obtain ⟨rfl, Nq104, e104⟩ := hQ104
    have N104 := Fr.app N0 Nq104
    show own_Go p e below Pst (T104.setTop (mkF m 4 #[.val (.ref a1), .val (.int (0 : Int32))] [(.int (0 : Int32))]))
    refine own_x_ifYes X104.here hx (pc0 := 4) (pc' := 16) rfl (hb hby own_d12_4) rfl ((if0 _ _).trans (teq rfl).1) (by decide) (by decide) ?_
    refine own_x_aloadN X104.here hx (hb hby own_d12_16) rfl rfl ?_
    refine own_h_getF X104 hx hZ hown (host := "") (Or.inl (own_w34 hw)) Via.refl e104 F2 rfl (hb hby own_d12_17) fun T105 X105 e105 => ?_
    refine own_x_iloadN X105.here hx (hb hby own_d12_20) rfl ?_
    refine own_cF X105 (Jvm.LawKit.callS X105 hx (y := (⟨"java/lang/StringUTF16", "charAt", "([BI)C"⟩ : MethodName)) hown (mvT hZ (own_w101 hw)) (mvT hZ (own_w102 hw)) (mvT hZ (own_w23 hw)) (mvT hZ (own_w103 hw)) (by decide) (backOf (W := 0) (rm_u16c0 l Z a0 hw [] t kb N x0 x1 vs fm h0 n0 Z0 O SF rfm SU0 SU1 SU2 A1 q2 q1 q3 q4) hZ (own_w103 hw) (own_w23 hw) (by decide) (by decide)) (g := (mkF m 21 #[.val (.ref a1), .val (.int (0 : Int32))] [(.int (0 : Int32)), (.ref t)])) rfl (by rw [hml]; rfl) (argsL := [(.ref t), (.int (0 : Int32))]) (rest := []) (lenOf own_pd6 rfl) rfl (by show 2 * 0 + _ ≤ _; exact Nat.le_of_eq rfl) (hb hby own_d12_21) (fun _ _ => ⟨rfl, e105, (by decide : 0 + 0 ≤ _), (by decide : 0 + 0 ≤ _)⟩)) fun v106 T106 L106 X106 hQ106 => ?_
    obtain ⟨rfl, Nq106, e106⟩ := hQ106
    have N106 := Fr.app N104 Nq106
    show own_Go p e below Pst (T106.setTop (mkF m 24 #[.val (.ref a1), .val (.int (0 : Int32))] [(.int (nar .char (nar .char (own_join x0 x1))))]))
    rw [q5, hr]
    show own_Go p e below Pst (T106.setTop (mkF m 24 #[.val (.ref a1), .val (.int (0 : Int32))] [(.int c)]))
    rw [hPst]
    exact own_retP X106 (v := (some (.int (nar .char c)))) (Q := Q_ch0 Z z a1 t kb (1 : Int32) N c vs fm h0 n0) (fun h => by rw [Bd.returns] at h; cases h) Bd.notSynchronized (fun fs hr => retN X106 hx (t := .char) Bd.returns (by simp) (hb hby own_d12_24) hr) (by decide) (by decide) (by rw [e106]; exact ⟨by rw [hr], N106, rfl⟩)
def Q_l1c1 (Z : State) (t : Addr) (kb : ClassId) (N b : Int32) (vs : List Value) (fm : Value) (h0 : Heap) (n0 : Nat) (v : Option Value) (h : Heap) (L : List Loc) : Prop := v = some (.int (nar .char (own_lat b))) ∧ Fr n0 L ∧ h = h0
theorem rm_l1c1 (l : Launch) (Z : State) (a0 : Array Value) (hw : own_H a0 Z) (ws : List Jvm.Cond) (t : Addr) (kb : ClassId) (N b : Int32) (vs : List Value) (fm : Value) (h0 : Heap) (n0 : Nat) (Z0 : n0 ≤ h0.size) (O : Old Z n0 h0) (SF : Sta Z Z.heap "jdk/internal/util/Preconditions" "SIOOBE_FORMATTER" "Ljava/util/function/BiFunction;" fm) (rfm : fm.isRef = true) (A1 : Arv Z h0 t kb .byte N vs (.int 0)) (h2 : (1 : Int32) < N) (hv : vs.getD 1 (.int 0) = .int b) : own_MP l (⟨"java/lang/StringLatin1", "charAt", "([BI)C"⟩ : MethodName) jdk_43_method_2_code 2 (some .char) ws ({ frames := 2, cells := 0, slots := 0, locals := 27 } : Room) Z h0 #[(.ref t), (.int (1 : Int32))] (fun _ _ _ _ _ => True) (Q_l1c1 Z t kb N b vs fm h0 n0) := by
  refine own_startP (plainFor_of_name own_pn_java_lang_StringLatin1) fun p e s m below meth c s₁ Bd hx hby hml hown0 X0 e0 hh0 hZ hK Pst hPst => ?_
  have hown : s.vm.findClass "java/lang/StringLatin1" = some m.cls := hown0
  have hnm := (name_of_methodNamed Bd.named Bd.method).1
  have N0 := Fr.nil n0
  rw [own_ef_RI_2 m t (1 : Int32)]
  refine own_x_iloadN X0.here hx (hb hby own_d14_0) rfl ?_
  refine own_x_aloadN X0.here hx (hb hby own_d14_1) rfl rfl ?_
  obtain ⟨cl101, Ar101, -, S101, P101, -, -⟩ := id A1
  refine own_Go.of (S' := s₁.setTop (mkF m 3 #[.val (.ref t), .val (.int (1 : Int32))] [(.int N), (.int (1 : Int32))])) (fun tgt kst => X0.arraylength hx (by rw [e0]; exact Ar101.1) (State.isArrayOf_alike hZ.alike Ar101.2.1) (g := (mkF m 2 #[.val (.ref t), .val (.int (1 : Int32))] [(.ref t), (.int (1 : Int32))])) rfl rfl (hb hby own_d14_2) _ (by rw [len_of S101 P101]; exact kst)) ?_
  refine own_cF X0 (Jvm.LawKit.callS X0 hx (y := (⟨"java/lang/String", "checkIndex", "(II)V"⟩ : MethodName)) hown (mvT hZ (own_w67 hw)) (mvT hZ (own_w68 hw)) (mvT hZ (own_w9 hw)) (mvT hZ (own_w69 hw)) (by decide) (backOf (W := 0) (rm_sci l Z a0 hw [] (1 : Int32) N fm h0 n0 Z0 O SF rfm (by decide) h2) hZ (own_w69 hw) (own_w9 hw) (by decide) (by decide)) (g := (mkF m 3 #[.val (.ref t), .val (.int (1 : Int32))] [(.int N), (.int (1 : Int32))])) rfl (by rw [hml]; rfl) (argsL := [(.int (1 : Int32)), (.int N)]) (rest := []) (lenOf own_pd11 rfl) rfl (by show 2 * 0 + _ ≤ _; exact Nat.le_of_eq rfl) (hb hby own_d14_3) (fun _ _ => ⟨rfl, e0, (by decide : 0 + 0 ≤ _), (by decide : 0 + 0 ≤ _)⟩)) fun v102 T102 L102 X102 hQ102 => ?_
  obtain ⟨rfl, Nq102, e102⟩ := hQ102
  have N102 := Fr.app N0 Nq102
  show own_Go p e below Pst (T102.setTop (mkF m 6 #[.val (.ref t), .val (.int (1 : Int32))] []))
  refine own_x_aloadN X102.here hx (hb hby own_d14_6) rfl rfl ?_
  refine own_x_iloadN X102.here hx (hb hby own_d14_7) rfl ?_
  obtain ⟨cl103, Ar103, q103, S103, P103, H103, G103⟩ := id A1
  have hin103 : ¬ ((1 : Int32) < 0 ∨ cl103.slots.size ≤ ((1 : Int32)).toNatClampNeg) := inb_of S103 ⟨by decide, h2⟩
  have hat103 : cl103.slots[((1 : Int32)).toNatClampNeg]? = some (.int b) := Has.at H103 hin103 hv
  refine own_Go.of (S' := T102.setTop (mkF m 9 #[.val (.ref t), .val (.int (1 : Int32))] [(.int b)])) (fun tgt kst => X102.baloadBytes hx (j := (1 : Int32)) (v := (.int b)) (by rw [e102]; exact Ar103.1) (State.isArrayOf_alike hZ.alike Ar103.2.1) Ar103.2.2 hin103 hat103 (g := (mkF m 8 #[.val (.ref t), .val (.int (1 : Int32))] [(.int (1 : Int32)), (.ref t)])) rfl rfl (hb hby own_d14_8) _ kst) ?_
  refine own_x_sipush X102.here hx (hb hby own_d14_9) (z := (255 : Int32)) rfl ?_
  refine own_x_iand X102.here hx (hb hby own_d14_12) rfl ?_
  refine own_x_i2c X102.here hx (hb hby own_d14_13) rfl ?_
  rw [hPst]
  exact own_retP X102 (v := (some (.int (nar .char (own_lat b))))) (Q := Q_l1c1 Z t kb N b vs fm h0 n0) (fun h => by rw [Bd.returns] at h; cases h) Bd.notSynchronized (fun fs hr => retN X102 hx (t := .char) Bd.returns (by simp) (hb hby own_d14_14) hr) (by decide) (by decide) (by rw [e102]; exact ⟨rfl, N102, rfl⟩)
def Q_u16c1 (Z : State) (t : Addr) (kb : ClassId) (N x0 x1 : Int32) (vs : List Value) (fm : Value) (h0 : Heap) (n0 : Nat) (v : Option Value) (h : Heap) (L : List Loc) : Prop := v = some (.int (nar .char (nar .char (own_join x0 x1)))) ∧ Fr n0 L ∧ h = h0
theorem rm_u16c1 (l : Launch) (Z : State) (a0 : Array Value) (hw : own_H a0 Z) (ws : List Jvm.Cond) (t : Addr) (kb : ClassId) (N x0 x1 : Int32) (vs : List Value) (fm : Value) (h0 : Heap) (n0 : Nat) (Z0 : n0 ≤ h0.size) (O : Old Z n0 h0) (SF : Sta Z Z.heap "jdk/internal/util/Preconditions" "SIOOBE_FORMATTER" "Ljava/util/function/BiFunction;" fm) (rfm : fm.isRef = true) (SU0 : Sta Z Z.heap "java/lang/StringUTF16" "$assertionsDisabled" "Z" (.int (1 : Int32))) (SU1 : Sta Z Z.heap "java/lang/StringUTF16" "HI_BYTE_SHIFT" "I" (.int (0 : Int32))) (SU2 : Sta Z Z.heap "java/lang/StringUTF16" "LO_BYTE_SHIFT" "I" (.int (8 : Int32))) (A1 : Arv Z h0 t kb .byte N vs (.int 0)) (h2 : (1 : Int32) < N >>> ((1 : Int32) &&& 31)) (h3 : (3 : Int32) < N) (hv0 : vs.getD 2 (.int 0) = .int x0) (hv1 : vs.getD 3 (.int 0) = .int x1) : own_MP l (⟨"java/lang/StringUTF16", "charAt", "([BI)C"⟩ : MethodName) jdk_52_method_83_code 2 (some .char) ws ({ frames := 3, cells := 0, slots := 0, locals := 40 } : Room) Z h0 #[(.ref t), (.int (1 : Int32))] (fun _ _ _ _ _ => True) (Q_u16c1 Z t kb N x0 x1 vs fm h0 n0) := by
  refine own_startP (plainFor_of_name own_pn_java_lang_StringUTF16) fun p e s m below meth c s₁ Bd hx hby hml hown0 X0 e0 hh0 hZ hK Pst hPst => ?_
  have hown : s.vm.findClass "java/lang/StringUTF16" = some m.cls := hown0
  have hnm := (name_of_methodNamed Bd.named Bd.method).1
  have N0 := Fr.nil n0
  rw [own_ef_RI_2 m t (1 : Int32)]
  refine own_x_iloadN X0.here hx (hb hby own_d24_0) rfl ?_
  refine own_x_aloadN X0.here hx (hb hby own_d24_1) rfl rfl ?_
  refine own_cF X0 (Jvm.LawKit.callS X0 hx (y := (⟨"java/lang/StringUTF16", "checkIndex", "(I[B)V"⟩ : MethodName)) hown (mvT hZ (own_w104 hw)) (mvT hZ (own_w105 hw)) (mvT hZ (own_w23 hw)) (mvT hZ (own_w106 hw)) (by decide) (backOf (W := 0) (rm_uci l Z a0 hw [] (1 : Int32) t kb N vs fm h0 n0 Z0 O SF rfm A1 (by decide) h2) hZ (own_w106 hw) (own_w23 hw) (by decide) (by decide)) (g := (mkF m 2 #[.val (.ref t), .val (.int (1 : Int32))] [(.ref t), (.int (1 : Int32))])) rfl (by rw [hml]; rfl) (argsL := [(.int (1 : Int32)), (.ref t)]) (rest := []) (lenOf own_pd12 rfl) rfl (by show 2 * 0 + _ ≤ _; exact Nat.le_of_eq rfl) (hb hby own_d24_2) (fun _ _ => ⟨rfl, e0, (by decide : 0 + 0 ≤ _), (by decide : 0 + 0 ≤ _)⟩)) fun v101 T101 L101 X101 hQ101 => ?_
  obtain ⟨rfl, Nq101, e101⟩ := hQ101
  have N101 := Fr.app N0 Nq101
  show own_Go p e below Pst (T101.setTop (mkF m 5 #[.val (.ref t), .val (.int (1 : Int32))] []))
  refine own_x_aloadN X101.here hx (hb hby own_d24_5) rfl rfl ?_
  refine own_x_iloadN X101.here hx (hb hby own_d24_6) rfl ?_
  refine own_cF X101 (Jvm.LawKit.callS X101 hx (y := (⟨"java/lang/StringUTF16", "getChar", "([BI)C"⟩ : MethodName)) hown (mvT hZ (own_w98 hw)) (mvT hZ (own_w99 hw)) (mvT hZ (own_w23 hw)) (mvT hZ (own_w100 hw)) (by decide) (backOf (W := 0) (rm_getc1 l Z a0 hw [] t kb N x0 x1 vs h0 n0 Z0 O SU0 SU1 SU2 A1 h3 hv0 hv1) hZ (own_w100 hw) (own_w23 hw) (by decide) (by decide)) (g := (mkF m 7 #[.val (.ref t), .val (.int (1 : Int32))] [(.int (1 : Int32)), (.ref t)])) rfl (by rw [hml]; rfl) (argsL := [(.ref t), (.int (1 : Int32))]) (rest := []) (lenOf own_pd6 rfl) rfl (by show 2 * 0 + _ ≤ _; exact Nat.le_of_eq rfl) (hb hby own_d24_7) (fun _ _ => ⟨rfl, e101, (by decide : 0 + 0 ≤ _), (by decide : 0 + 0 ≤ _)⟩)) fun v102 T102 L102 X102 hQ102 => ?_
  obtain ⟨rfl, Nq102, e102⟩ := hQ102
  have N102 := Fr.app N101 Nq102
  show own_Go p e below Pst (T102.setTop (mkF m 10 #[.val (.ref t), .val (.int (1 : Int32))] [(.int (nar .char (own_join x0 x1)))]))
  rw [hPst]
  exact own_retP X102 (v := (some (.int (nar .char (nar .char (own_join x0 x1)))))) (Q := Q_u16c1 Z t kb N x0 x1 vs fm h0 n0) (fun h => by rw [Bd.returns] at h; cases h) Bd.notSynchronized (fun fs hr => retN X102 hx (t := .char) Bd.returns (by simp) (hb hby own_d24_10) hr) (by decide) (by decide) (by rw [e102]; exact ⟨rfl, N102, rfl⟩)
def Q_ch1 (Z : State) (z : Int32) (a1 t : Addr) (kb : ClassId) (cd N c : Int32) (vs : List Value) (fm : Value) (h0 : Heap) (n0 : Nat) (v : Option Value) (h : Heap) (L : List Loc) : Prop := v = some (.int c) ∧ Fr n0 L ∧ h = h0
theorem rm_ch1 (l : Launch) (Z : State) (a0 : Array Value) (hw : own_H a0 Z) (ws : List Jvm.Cond) (z : Int32) (a1 t : Addr) (kb : ClassId) (cd N c : Int32) (vs : List Value) (fm : Value) (h0 : Heap) (n0 : Nat) (Z0 : n0 ≤ h0.size) (O : Old Z n0 h0) (SC : Sta Z Z.heap "java/lang/String" "COMPACT_STRINGS" "Z" (.int z)) (hz : ¬ z = 0) (SF : Sta Z Z.heap "jdk/internal/util/Preconditions" "SIOOBE_FORMATTER" "Ljava/util/function/BiFunction;" fm) (rfm : fm.isRef = true) (SU0 : Sta Z Z.heap "java/lang/StringUTF16" "$assertionsDisabled" "Z" (.int (1 : Int32))) (SU1 : Sta Z Z.heap "java/lang/StringUTF16" "HI_BYTE_SHIFT" "I" (.int (0 : Int32))) (SU2 : Sta Z Z.heap "java/lang/StringUTF16" "LO_BYTE_SHIFT" "I" (.int (8 : Int32))) (E1 : Exa Z h0 a1 "java/lang/String") (F1 : Fld Z h0 a1 "java/lang/String" "coder" "B" (.int cd)) (F2 : Fld Z h0 a1 "java/lang/String" "value" "[B" (.ref t)) (A1 : Arv Z h0 t kb .byte N vs (.int 0)) (hr : nar .char c = c) (hc : own_at cd N vs c 1 2 3 (1 : Int32) (3 : Int32)) : own_MP l (⟨"java/lang/String", "charAt", "(I)C"⟩ : MethodName) jdk_42_method_56_code 2 (some .char) ws ({ frames := 4, cells := 0, slots := 0, locals := 60 } : Room) Z h0 #[(.ref a1), (.int (1 : Int32))] (fun _ _ _ _ _ => True) (Q_ch1 Z z a1 t kb cd N c vs fm h0 n0) := by
  refine own_startP (plainFor_of_name own_pn_java_lang_String) fun p e s m below meth c' s₁ Bd hx hby hml hown0 X0 e0 hh0 hZ hK Pst hPst => ?_
  have hown : s.vm.findClass "java/lang/String" = some m.cls := hown0
  have hnm := (name_of_methodNamed Bd.named Bd.method).1
  have N0 := Fr.nil n0
  rw [own_ef_RI_2 m a1 (1 : Int32)]
  refine own_x_aloadN X0.here hx (hb hby own_d12_0) rfl rfl ?_
  rcases hc with ⟨rfl, q1, b, q2, q3⟩ | ⟨rfl, q1, q2, x0, x1, q3, q4, q5⟩
  · obtain ⟨cq101, kq101, q101a, q101b, q101c⟩ := isOf hZ e0 E1
    refine own_cP X0 (X0.virtualBack hx (y := (⟨"java/lang/String", "isLatin1", "()Z"⟩ : MethodName)) (z := (⟨"java/lang/String", "isLatin1", "()Z"⟩ : MethodName)) hown (mvT hZ (own_w58 hw)) (mvT hZ (own_w59 hw)) (notFace_of_selects (args := #[]) (mvT hZ (own_w61 hw))) (mvT hZ (own_w61 hw)) (mvT hZ (own_w60 hw)) (by decide) (backOf (W := 0) (rm_isl0 l Z a0 hw [] z a1 h0 n0 Z0 O SC hz F1) hZ (own_w62 hw) (own_w9 hw) (by decide) (by decide)) q101a q101c (g := (mkF m 1 #[.val (.ref a1), .val (.int (1 : Int32))] [(.ref a1)])) rfl (by rw [hml]; rfl) (Steps.refl _) (argsL := []) (rest := []) (lenOf own_pd13 rfl) rfl (by show 2 * 0 + _ ≤ _; exact Nat.le_of_eq rfl) (hb hby own_d12_1) (fun _ _ => ⟨rfl, e0, (by decide : 0 + 0 ≤ _), (by decide : 0 + 0 ≤ _)⟩)) fun v101 T101 L101 X101 hQ101 => ?_
    obtain ⟨rfl, Nq101, e101⟩ := hQ101
    have N101 := Fr.app N0 Nq101
    show own_Go p e below Pst (T101.setTop (mkF m 4 #[.val (.ref a1), .val (.int (1 : Int32))] [(.int (1 : Int32))]))
    refine own_x_ifNo X101.here hx (hb hby own_d12_4) rfl ((if0 _ _).trans (feq (by decide)).1) ?_
    refine own_x_aloadN X101.here hx (hb hby own_d12_7) rfl rfl ?_
    refine own_h_getF X101 hx hZ hown (host := "") (Or.inl (own_w34 hw)) Via.refl e101 F2 rfl (hb hby own_d12_8) fun T102 X102 e102 => ?_
    refine own_x_iloadN X102.here hx (hb hby own_d12_11) rfl ?_
    refine own_cF X102 (Jvm.LawKit.callS X102 hx (y := (⟨"java/lang/StringLatin1", "charAt", "([BI)C"⟩ : MethodName)) hown (mvT hZ (own_w63 hw)) (mvT hZ (own_w64 hw)) (mvT hZ (own_w65 hw)) (mvT hZ (own_w66 hw)) (by decide) (backOf (W := 0) (rm_l1c1 l Z a0 hw [] t kb N b vs fm h0 n0 Z0 O SF rfm A1 q1 q2) hZ (own_w66 hw) (own_w65 hw) (by decide) (by decide)) (g := (mkF m 12 #[.val (.ref a1), .val (.int (1 : Int32))] [(.int (1 : Int32)), (.ref t)])) rfl (by rw [hml]; rfl) (argsL := [(.ref t), (.int (1 : Int32))]) (rest := []) (lenOf own_pd6 rfl) rfl (by show 2 * 0 + _ ≤ _; exact Nat.le_of_eq rfl) (hb hby own_d12_12) (fun _ _ => ⟨rfl, e102, (by decide : 0 + 0 ≤ _), (by decide : 0 + 0 ≤ _)⟩)) fun v103 T103 L103 X103 hQ103 => ?_
    obtain ⟨rfl, Nq103, e103⟩ := hQ103
    have N103 := Fr.app N101 Nq103
    show own_Go p e below Pst (T103.setTop (mkF m 15 #[.val (.ref a1), .val (.int (1 : Int32))] [(.int (nar .char (own_lat b)))]))
    rw [q3]
    show own_Go p e below Pst (T103.setTop (mkF m 15 #[.val (.ref a1), .val (.int (1 : Int32))] [(.int c)]))
    rw [hPst]
    exact own_retP X103 (v := (some (.int (nar .char c)))) (Q := Q_ch1 Z z a1 t kb (0 : Int32) N c vs fm h0 n0) (fun h => by rw [Bd.returns] at h; cases h) Bd.notSynchronized (fun fs hr => retN X103 hx (t := .char) Bd.returns (by simp) (hb hby own_d12_15) hr) (by decide) (by decide) (by rw [e103]; exact ⟨by rw [hr], N103, rfl⟩)
  · obtain ⟨cq104, kq104, q104a, q104b, q104c⟩ := isOf hZ e0 E1
    refine own_cP X0 (X0.virtualBack hx (y := (⟨"java/lang/String", "isLatin1", "()Z"⟩ : MethodName)) (z := (⟨"java/lang/String", "isLatin1", "()Z"⟩ : MethodName)) hown (mvT hZ (own_w58 hw)) (mvT hZ (own_w59 hw)) (notFace_of_selects (args := #[]) (mvT hZ (own_w61 hw))) (mvT hZ (own_w61 hw)) (mvT hZ (own_w60 hw)) (by decide) (backOf (W := 0) (rm_isl1 l Z a0 hw [] z a1 h0 n0 Z0 O SC hz F1) hZ (own_w62 hw) (own_w9 hw) (by decide) (by decide)) q104a q104c (g := (mkF m 1 #[.val (.ref a1), .val (.int (1 : Int32))] [(.ref a1)])) rfl (by rw [hml]; rfl) (Steps.refl _) (argsL := []) (rest := []) (lenOf own_pd13 rfl) rfl (by show 2 * 0 + _ ≤ _; exact Nat.le_of_eq rfl) (hb hby own_d12_1) (fun _ _ => ⟨rfl, e0, (by decide : 0 + 0 ≤ _), (by decide : 0 + 0 ≤ _)⟩)) fun v104 T104 L104 X104 hQ104 => ?_
    obtain ⟨rfl, Nq104, e104⟩ := hQ104
    have N104 := Fr.app N0 Nq104
    show own_Go p e below Pst (T104.setTop (mkF m 4 #[.val (.ref a1), .val (.int (1 : Int32))] [(.int (0 : Int32))]))
    refine own_x_ifYes X104.here hx (pc0 := 4) (pc' := 16) rfl (hb hby own_d12_4) rfl ((if0 _ _).trans (teq rfl).1) (by decide) (by decide) ?_
    refine own_x_aloadN X104.here hx (hb hby own_d12_16) rfl rfl ?_
    refine own_h_getF X104 hx hZ hown (host := "") (Or.inl (own_w34 hw)) Via.refl e104 F2 rfl (hb hby own_d12_17) fun T105 X105 e105 => ?_
    refine own_x_iloadN X105.here hx (hb hby own_d12_20) rfl ?_
    refine own_cF X105 (Jvm.LawKit.callS X105 hx (y := (⟨"java/lang/StringUTF16", "charAt", "([BI)C"⟩ : MethodName)) hown (mvT hZ (own_w101 hw)) (mvT hZ (own_w102 hw)) (mvT hZ (own_w23 hw)) (mvT hZ (own_w103 hw)) (by decide) (backOf (W := 0) (rm_u16c1 l Z a0 hw [] t kb N x0 x1 vs fm h0 n0 Z0 O SF rfm SU0 SU1 SU2 A1 q2 q1 q3 q4) hZ (own_w103 hw) (own_w23 hw) (by decide) (by decide)) (g := (mkF m 21 #[.val (.ref a1), .val (.int (1 : Int32))] [(.int (1 : Int32)), (.ref t)])) rfl (by rw [hml]; rfl) (argsL := [(.ref t), (.int (1 : Int32))]) (rest := []) (lenOf own_pd6 rfl) rfl (by show 2 * 0 + _ ≤ _; exact Nat.le_of_eq rfl) (hb hby own_d12_21) (fun _ _ => ⟨rfl, e105, (by decide : 0 + 0 ≤ _), (by decide : 0 + 0 ≤ _)⟩)) fun v106 T106 L106 X106 hQ106 => ?_
    obtain ⟨rfl, Nq106, e106⟩ := hQ106
    have N106 := Fr.app N104 Nq106
    show own_Go p e below Pst (T106.setTop (mkF m 24 #[.val (.ref a1), .val (.int (1 : Int32))] [(.int (nar .char (nar .char (own_join x0 x1))))]))
    rw [q5, hr]
    show own_Go p e below Pst (T106.setTop (mkF m 24 #[.val (.ref a1), .val (.int (1 : Int32))] [(.int c)]))
    rw [hPst]
    exact own_retP X106 (v := (some (.int (nar .char c)))) (Q := Q_ch1 Z z a1 t kb (1 : Int32) N c vs fm h0 n0) (fun h => by rw [Bd.returns] at h; cases h) Bd.notSynchronized (fun fs hr => retN X106 hx (t := .char) Bd.returns (by simp) (hb hby own_d12_24) hr) (by decide) (by decide) (by rw [e106]; exact ⟨by rw [hr], N106, rfl⟩)
def Q_l1c2 (Z : State) (t : Addr) (kb : ClassId) (N b : Int32) (vs : List Value) (fm : Value) (h0 : Heap) (n0 : Nat) (v : Option Value) (h : Heap) (L : List Loc) : Prop := v = some (.int (nar .char (own_lat b))) ∧ Fr n0 L ∧ h = h0
theorem rm_l1c2 (l : Launch) (Z : State) (a0 : Array Value) (hw : own_H a0 Z) (ws : List Jvm.Cond) (t : Addr) (kb : ClassId) (N b : Int32) (vs : List Value) (fm : Value) (h0 : Heap) (n0 : Nat) (Z0 : n0 ≤ h0.size) (O : Old Z n0 h0) (SF : Sta Z Z.heap "jdk/internal/util/Preconditions" "SIOOBE_FORMATTER" "Ljava/util/function/BiFunction;" fm) (rfm : fm.isRef = true) (A1 : Arv Z h0 t kb .byte N vs (.int 0)) (h2 : (2 : Int32) < N) (hv : vs.getD 2 (.int 0) = .int b) : own_MP l (⟨"java/lang/StringLatin1", "charAt", "([BI)C"⟩ : MethodName) jdk_43_method_2_code 2 (some .char) ws ({ frames := 2, cells := 0, slots := 0, locals := 27 } : Room) Z h0 #[(.ref t), (.int (2 : Int32))] (fun _ _ _ _ _ => True) (Q_l1c2 Z t kb N b vs fm h0 n0) := by
  refine own_startP (plainFor_of_name own_pn_java_lang_StringLatin1) fun p e s m below meth c s₁ Bd hx hby hml hown0 X0 e0 hh0 hZ hK Pst hPst => ?_
  have hown : s.vm.findClass "java/lang/StringLatin1" = some m.cls := hown0
  have hnm := (name_of_methodNamed Bd.named Bd.method).1
  have N0 := Fr.nil n0
  rw [own_ef_RI_2 m t (2 : Int32)]
  refine own_x_iloadN X0.here hx (hb hby own_d14_0) rfl ?_
  refine own_x_aloadN X0.here hx (hb hby own_d14_1) rfl rfl ?_
  obtain ⟨cl101, Ar101, -, S101, P101, -, -⟩ := id A1
  refine own_Go.of (S' := s₁.setTop (mkF m 3 #[.val (.ref t), .val (.int (2 : Int32))] [(.int N), (.int (2 : Int32))])) (fun tgt kst => X0.arraylength hx (by rw [e0]; exact Ar101.1) (State.isArrayOf_alike hZ.alike Ar101.2.1) (g := (mkF m 2 #[.val (.ref t), .val (.int (2 : Int32))] [(.ref t), (.int (2 : Int32))])) rfl rfl (hb hby own_d14_2) _ (by rw [len_of S101 P101]; exact kst)) ?_
  refine own_cF X0 (Jvm.LawKit.callS X0 hx (y := (⟨"java/lang/String", "checkIndex", "(II)V"⟩ : MethodName)) hown (mvT hZ (own_w67 hw)) (mvT hZ (own_w68 hw)) (mvT hZ (own_w9 hw)) (mvT hZ (own_w69 hw)) (by decide) (backOf (W := 0) (rm_sci l Z a0 hw [] (2 : Int32) N fm h0 n0 Z0 O SF rfm (by decide) h2) hZ (own_w69 hw) (own_w9 hw) (by decide) (by decide)) (g := (mkF m 3 #[.val (.ref t), .val (.int (2 : Int32))] [(.int N), (.int (2 : Int32))])) rfl (by rw [hml]; rfl) (argsL := [(.int (2 : Int32)), (.int N)]) (rest := []) (lenOf own_pd11 rfl) rfl (by show 2 * 0 + _ ≤ _; exact Nat.le_of_eq rfl) (hb hby own_d14_3) (fun _ _ => ⟨rfl, e0, (by decide : 0 + 0 ≤ _), (by decide : 0 + 0 ≤ _)⟩)) fun v102 T102 L102 X102 hQ102 => ?_
  obtain ⟨rfl, Nq102, e102⟩ := hQ102
  have N102 := Fr.app N0 Nq102
  show own_Go p e below Pst (T102.setTop (mkF m 6 #[.val (.ref t), .val (.int (2 : Int32))] []))
  refine own_x_aloadN X102.here hx (hb hby own_d14_6) rfl rfl ?_
  refine own_x_iloadN X102.here hx (hb hby own_d14_7) rfl ?_
  obtain ⟨cl103, Ar103, q103, S103, P103, H103, G103⟩ := id A1
  have hin103 : ¬ ((2 : Int32) < 0 ∨ cl103.slots.size ≤ ((2 : Int32)).toNatClampNeg) := inb_of S103 ⟨by decide, h2⟩
  have hat103 : cl103.slots[((2 : Int32)).toNatClampNeg]? = some (.int b) := Has.at H103 hin103 hv
  refine own_Go.of (S' := T102.setTop (mkF m 9 #[.val (.ref t), .val (.int (2 : Int32))] [(.int b)])) (fun tgt kst => X102.baloadBytes hx (j := (2 : Int32)) (v := (.int b)) (by rw [e102]; exact Ar103.1) (State.isArrayOf_alike hZ.alike Ar103.2.1) Ar103.2.2 hin103 hat103 (g := (mkF m 8 #[.val (.ref t), .val (.int (2 : Int32))] [(.int (2 : Int32)), (.ref t)])) rfl rfl (hb hby own_d14_8) _ kst) ?_
  refine own_x_sipush X102.here hx (hb hby own_d14_9) (z := (255 : Int32)) rfl ?_
  refine own_x_iand X102.here hx (hb hby own_d14_12) rfl ?_
  refine own_x_i2c X102.here hx (hb hby own_d14_13) rfl ?_
  rw [hPst]
  exact own_retP X102 (v := (some (.int (nar .char (own_lat b))))) (Q := Q_l1c2 Z t kb N b vs fm h0 n0) (fun h => by rw [Bd.returns] at h; cases h) Bd.notSynchronized (fun fs hr => retN X102 hx (t := .char) Bd.returns (by simp) (hb hby own_d14_14) hr) (by decide) (by decide) (by rw [e102]; exact ⟨rfl, N102, rfl⟩)
def Q_u16c2 (Z : State) (t : Addr) (kb : ClassId) (N x0 x1 : Int32) (vs : List Value) (fm : Value) (h0 : Heap) (n0 : Nat) (v : Option Value) (h : Heap) (L : List Loc) : Prop := v = some (.int (nar .char (nar .char (own_join x0 x1)))) ∧ Fr n0 L ∧ h = h0
theorem rm_u16c2 (l : Launch) (Z : State) (a0 : Array Value) (hw : own_H a0 Z) (ws : List Jvm.Cond) (t : Addr) (kb : ClassId) (N x0 x1 : Int32) (vs : List Value) (fm : Value) (h0 : Heap) (n0 : Nat) (Z0 : n0 ≤ h0.size) (O : Old Z n0 h0) (SF : Sta Z Z.heap "jdk/internal/util/Preconditions" "SIOOBE_FORMATTER" "Ljava/util/function/BiFunction;" fm) (rfm : fm.isRef = true) (SU0 : Sta Z Z.heap "java/lang/StringUTF16" "$assertionsDisabled" "Z" (.int (1 : Int32))) (SU1 : Sta Z Z.heap "java/lang/StringUTF16" "HI_BYTE_SHIFT" "I" (.int (0 : Int32))) (SU2 : Sta Z Z.heap "java/lang/StringUTF16" "LO_BYTE_SHIFT" "I" (.int (8 : Int32))) (A1 : Arv Z h0 t kb .byte N vs (.int 0)) (h2 : (2 : Int32) < N >>> ((1 : Int32) &&& 31)) (h3 : (5 : Int32) < N) (hv0 : vs.getD 4 (.int 0) = .int x0) (hv1 : vs.getD 5 (.int 0) = .int x1) : own_MP l (⟨"java/lang/StringUTF16", "charAt", "([BI)C"⟩ : MethodName) jdk_52_method_83_code 2 (some .char) ws ({ frames := 3, cells := 0, slots := 0, locals := 40 } : Room) Z h0 #[(.ref t), (.int (2 : Int32))] (fun _ _ _ _ _ => True) (Q_u16c2 Z t kb N x0 x1 vs fm h0 n0) := by
  refine own_startP (plainFor_of_name own_pn_java_lang_StringUTF16) fun p e s m below meth c s₁ Bd hx hby hml hown0 X0 e0 hh0 hZ hK Pst hPst => ?_
  have hown : s.vm.findClass "java/lang/StringUTF16" = some m.cls := hown0
  have hnm := (name_of_methodNamed Bd.named Bd.method).1
  have N0 := Fr.nil n0
  rw [own_ef_RI_2 m t (2 : Int32)]
  refine own_x_iloadN X0.here hx (hb hby own_d24_0) rfl ?_
  refine own_x_aloadN X0.here hx (hb hby own_d24_1) rfl rfl ?_
  refine own_cF X0 (Jvm.LawKit.callS X0 hx (y := (⟨"java/lang/StringUTF16", "checkIndex", "(I[B)V"⟩ : MethodName)) hown (mvT hZ (own_w104 hw)) (mvT hZ (own_w105 hw)) (mvT hZ (own_w23 hw)) (mvT hZ (own_w106 hw)) (by decide) (backOf (W := 0) (rm_uci l Z a0 hw [] (2 : Int32) t kb N vs fm h0 n0 Z0 O SF rfm A1 (by decide) h2) hZ (own_w106 hw) (own_w23 hw) (by decide) (by decide)) (g := (mkF m 2 #[.val (.ref t), .val (.int (2 : Int32))] [(.ref t), (.int (2 : Int32))])) rfl (by rw [hml]; rfl) (argsL := [(.int (2 : Int32)), (.ref t)]) (rest := []) (lenOf own_pd12 rfl) rfl (by show 2 * 0 + _ ≤ _; exact Nat.le_of_eq rfl) (hb hby own_d24_2) (fun _ _ => ⟨rfl, e0, (by decide : 0 + 0 ≤ _), (by decide : 0 + 0 ≤ _)⟩)) fun v101 T101 L101 X101 hQ101 => ?_
  obtain ⟨rfl, Nq101, e101⟩ := hQ101
  have N101 := Fr.app N0 Nq101
  show own_Go p e below Pst (T101.setTop (mkF m 5 #[.val (.ref t), .val (.int (2 : Int32))] []))
  refine own_x_aloadN X101.here hx (hb hby own_d24_5) rfl rfl ?_
  refine own_x_iloadN X101.here hx (hb hby own_d24_6) rfl ?_
  refine own_cF X101 (Jvm.LawKit.callS X101 hx (y := (⟨"java/lang/StringUTF16", "getChar", "([BI)C"⟩ : MethodName)) hown (mvT hZ (own_w98 hw)) (mvT hZ (own_w99 hw)) (mvT hZ (own_w23 hw)) (mvT hZ (own_w100 hw)) (by decide) (backOf (W := 0) (rm_getc2 l Z a0 hw [] t kb N x0 x1 vs h0 n0 Z0 O SU0 SU1 SU2 A1 h3 hv0 hv1) hZ (own_w100 hw) (own_w23 hw) (by decide) (by decide)) (g := (mkF m 7 #[.val (.ref t), .val (.int (2 : Int32))] [(.int (2 : Int32)), (.ref t)])) rfl (by rw [hml]; rfl) (argsL := [(.ref t), (.int (2 : Int32))]) (rest := []) (lenOf own_pd6 rfl) rfl (by show 2 * 0 + _ ≤ _; exact Nat.le_of_eq rfl) (hb hby own_d24_7) (fun _ _ => ⟨rfl, e101, (by decide : 0 + 0 ≤ _), (by decide : 0 + 0 ≤ _)⟩)) fun v102 T102 L102 X102 hQ102 => ?_
  obtain ⟨rfl, Nq102, e102⟩ := hQ102
  have N102 := Fr.app N101 Nq102
  show own_Go p e below Pst (T102.setTop (mkF m 10 #[.val (.ref t), .val (.int (2 : Int32))] [(.int (nar .char (own_join x0 x1)))]))
  rw [hPst]
  exact own_retP X102 (v := (some (.int (nar .char (nar .char (own_join x0 x1)))))) (Q := Q_u16c2 Z t kb N x0 x1 vs fm h0 n0) (fun h => by rw [Bd.returns] at h; cases h) Bd.notSynchronized (fun fs hr => retN X102 hx (t := .char) Bd.returns (by simp) (hb hby own_d24_10) hr) (by decide) (by decide) (by rw [e102]; exact ⟨rfl, N102, rfl⟩)
def Q_ch2 (Z : State) (z : Int32) (a1 t : Addr) (kb : ClassId) (cd N c : Int32) (vs : List Value) (fm : Value) (h0 : Heap) (n0 : Nat) (v : Option Value) (h : Heap) (L : List Loc) : Prop := v = some (.int c) ∧ Fr n0 L ∧ h = h0
theorem rm_ch2 (l : Launch) (Z : State) (a0 : Array Value) (hw : own_H a0 Z) (ws : List Jvm.Cond) (z : Int32) (a1 t : Addr) (kb : ClassId) (cd N c : Int32) (vs : List Value) (fm : Value) (h0 : Heap) (n0 : Nat) (Z0 : n0 ≤ h0.size) (O : Old Z n0 h0) (SC : Sta Z Z.heap "java/lang/String" "COMPACT_STRINGS" "Z" (.int z)) (hz : ¬ z = 0) (SF : Sta Z Z.heap "jdk/internal/util/Preconditions" "SIOOBE_FORMATTER" "Ljava/util/function/BiFunction;" fm) (rfm : fm.isRef = true) (SU0 : Sta Z Z.heap "java/lang/StringUTF16" "$assertionsDisabled" "Z" (.int (1 : Int32))) (SU1 : Sta Z Z.heap "java/lang/StringUTF16" "HI_BYTE_SHIFT" "I" (.int (0 : Int32))) (SU2 : Sta Z Z.heap "java/lang/StringUTF16" "LO_BYTE_SHIFT" "I" (.int (8 : Int32))) (E1 : Exa Z h0 a1 "java/lang/String") (F1 : Fld Z h0 a1 "java/lang/String" "coder" "B" (.int cd)) (F2 : Fld Z h0 a1 "java/lang/String" "value" "[B" (.ref t)) (A1 : Arv Z h0 t kb .byte N vs (.int 0)) (hr : nar .char c = c) (hc : own_at cd N vs c 2 4 5 (2 : Int32) (5 : Int32)) : own_MP l (⟨"java/lang/String", "charAt", "(I)C"⟩ : MethodName) jdk_42_method_56_code 2 (some .char) ws ({ frames := 4, cells := 0, slots := 0, locals := 60 } : Room) Z h0 #[(.ref a1), (.int (2 : Int32))] (fun _ _ _ _ _ => True) (Q_ch2 Z z a1 t kb cd N c vs fm h0 n0) := by
  refine own_startP (plainFor_of_name own_pn_java_lang_String) fun p e s m below meth c' s₁ Bd hx hby hml hown0 X0 e0 hh0 hZ hK Pst hPst => ?_
  have hown : s.vm.findClass "java/lang/String" = some m.cls := hown0
  have hnm := (name_of_methodNamed Bd.named Bd.method).1
  have N0 := Fr.nil n0
  rw [own_ef_RI_2 m a1 (2 : Int32)]
  refine own_x_aloadN X0.here hx (hb hby own_d12_0) rfl rfl ?_
  rcases hc with ⟨rfl, q1, b, q2, q3⟩ | ⟨rfl, q1, q2, x0, x1, q3, q4, q5⟩
  · obtain ⟨cq101, kq101, q101a, q101b, q101c⟩ := isOf hZ e0 E1
    refine own_cP X0 (X0.virtualBack hx (y := (⟨"java/lang/String", "isLatin1", "()Z"⟩ : MethodName)) (z := (⟨"java/lang/String", "isLatin1", "()Z"⟩ : MethodName)) hown (mvT hZ (own_w58 hw)) (mvT hZ (own_w59 hw)) (notFace_of_selects (args := #[]) (mvT hZ (own_w61 hw))) (mvT hZ (own_w61 hw)) (mvT hZ (own_w60 hw)) (by decide) (backOf (W := 0) (rm_isl0 l Z a0 hw [] z a1 h0 n0 Z0 O SC hz F1) hZ (own_w62 hw) (own_w9 hw) (by decide) (by decide)) q101a q101c (g := (mkF m 1 #[.val (.ref a1), .val (.int (2 : Int32))] [(.ref a1)])) rfl (by rw [hml]; rfl) (Steps.refl _) (argsL := []) (rest := []) (lenOf own_pd13 rfl) rfl (by show 2 * 0 + _ ≤ _; exact Nat.le_of_eq rfl) (hb hby own_d12_1) (fun _ _ => ⟨rfl, e0, (by decide : 0 + 0 ≤ _), (by decide : 0 + 0 ≤ _)⟩)) fun v101 T101 L101 X101 hQ101 => ?_
    obtain ⟨rfl, Nq101, e101⟩ := hQ101
    have N101 := Fr.app N0 Nq101
    show own_Go p e below Pst (T101.setTop (mkF m 4 #[.val (.ref a1), .val (.int (2 : Int32))] [(.int (1 : Int32))]))
    refine own_x_ifNo X101.here hx (hb hby own_d12_4) rfl ((if0 _ _).trans (feq (by decide)).1) ?_
    refine own_x_aloadN X101.here hx (hb hby own_d12_7) rfl rfl ?_
    refine own_h_getF X101 hx hZ hown (host := "") (Or.inl (own_w34 hw)) Via.refl e101 F2 rfl (hb hby own_d12_8) fun T102 X102 e102 => ?_
    refine own_x_iloadN X102.here hx (hb hby own_d12_11) rfl ?_
    refine own_cF X102 (Jvm.LawKit.callS X102 hx (y := (⟨"java/lang/StringLatin1", "charAt", "([BI)C"⟩ : MethodName)) hown (mvT hZ (own_w63 hw)) (mvT hZ (own_w64 hw)) (mvT hZ (own_w65 hw)) (mvT hZ (own_w66 hw)) (by decide) (backOf (W := 0) (rm_l1c2 l Z a0 hw [] t kb N b vs fm h0 n0 Z0 O SF rfm A1 q1 q2) hZ (own_w66 hw) (own_w65 hw) (by decide) (by decide)) (g := (mkF m 12 #[.val (.ref a1), .val (.int (2 : Int32))] [(.int (2 : Int32)), (.ref t)])) rfl (by rw [hml]; rfl) (argsL := [(.ref t), (.int (2 : Int32))]) (rest := []) (lenOf own_pd6 rfl) rfl (by show 2 * 0 + _ ≤ _; exact Nat.le_of_eq rfl) (hb hby own_d12_12) (fun _ _ => ⟨rfl, e102, (by decide : 0 + 0 ≤ _), (by decide : 0 + 0 ≤ _)⟩)) fun v103 T103 L103 X103 hQ103 => ?_
    obtain ⟨rfl, Nq103, e103⟩ := hQ103
    have N103 := Fr.app N101 Nq103
    show own_Go p e below Pst (T103.setTop (mkF m 15 #[.val (.ref a1), .val (.int (2 : Int32))] [(.int (nar .char (own_lat b)))]))
    rw [q3]
    show own_Go p e below Pst (T103.setTop (mkF m 15 #[.val (.ref a1), .val (.int (2 : Int32))] [(.int c)]))
    rw [hPst]
    exact own_retP X103 (v := (some (.int (nar .char c)))) (Q := Q_ch2 Z z a1 t kb (0 : Int32) N c vs fm h0 n0) (fun h => by rw [Bd.returns] at h; cases h) Bd.notSynchronized (fun fs hr => retN X103 hx (t := .char) Bd.returns (by simp) (hb hby own_d12_15) hr) (by decide) (by decide) (by rw [e103]; exact ⟨by rw [hr], N103, rfl⟩)
  · obtain ⟨cq104, kq104, q104a, q104b, q104c⟩ := isOf hZ e0 E1
    refine own_cP X0 (X0.virtualBack hx (y := (⟨"java/lang/String", "isLatin1", "()Z"⟩ : MethodName)) (z := (⟨"java/lang/String", "isLatin1", "()Z"⟩ : MethodName)) hown (mvT hZ (own_w58 hw)) (mvT hZ (own_w59 hw)) (notFace_of_selects (args := #[]) (mvT hZ (own_w61 hw))) (mvT hZ (own_w61 hw)) (mvT hZ (own_w60 hw)) (by decide) (backOf (W := 0) (rm_isl1 l Z a0 hw [] z a1 h0 n0 Z0 O SC hz F1) hZ (own_w62 hw) (own_w9 hw) (by decide) (by decide)) q104a q104c (g := (mkF m 1 #[.val (.ref a1), .val (.int (2 : Int32))] [(.ref a1)])) rfl (by rw [hml]; rfl) (Steps.refl _) (argsL := []) (rest := []) (lenOf own_pd13 rfl) rfl (by show 2 * 0 + _ ≤ _; exact Nat.le_of_eq rfl) (hb hby own_d12_1) (fun _ _ => ⟨rfl, e0, (by decide : 0 + 0 ≤ _), (by decide : 0 + 0 ≤ _)⟩)) fun v104 T104 L104 X104 hQ104 => ?_
    obtain ⟨rfl, Nq104, e104⟩ := hQ104
    have N104 := Fr.app N0 Nq104
    show own_Go p e below Pst (T104.setTop (mkF m 4 #[.val (.ref a1), .val (.int (2 : Int32))] [(.int (0 : Int32))]))
    refine own_x_ifYes X104.here hx (pc0 := 4) (pc' := 16) rfl (hb hby own_d12_4) rfl ((if0 _ _).trans (teq rfl).1) (by decide) (by decide) ?_
    refine own_x_aloadN X104.here hx (hb hby own_d12_16) rfl rfl ?_
    refine own_h_getF X104 hx hZ hown (host := "") (Or.inl (own_w34 hw)) Via.refl e104 F2 rfl (hb hby own_d12_17) fun T105 X105 e105 => ?_
    refine own_x_iloadN X105.here hx (hb hby own_d12_20) rfl ?_
    refine own_cF X105 (Jvm.LawKit.callS X105 hx (y := (⟨"java/lang/StringUTF16", "charAt", "([BI)C"⟩ : MethodName)) hown (mvT hZ (own_w101 hw)) (mvT hZ (own_w102 hw)) (mvT hZ (own_w23 hw)) (mvT hZ (own_w103 hw)) (by decide) (backOf (W := 0) (rm_u16c2 l Z a0 hw [] t kb N x0 x1 vs fm h0 n0 Z0 O SF rfm SU0 SU1 SU2 A1 q2 q1 q3 q4) hZ (own_w103 hw) (own_w23 hw) (by decide) (by decide)) (g := (mkF m 21 #[.val (.ref a1), .val (.int (2 : Int32))] [(.int (2 : Int32)), (.ref t)])) rfl (by rw [hml]; rfl) (argsL := [(.ref t), (.int (2 : Int32))]) (rest := []) (lenOf own_pd6 rfl) rfl (by show 2 * 0 + _ ≤ _; exact Nat.le_of_eq rfl) (hb hby own_d12_21) (fun _ _ => ⟨rfl, e105, (by decide : 0 + 0 ≤ _), (by decide : 0 + 0 ≤ _)⟩)) fun v106 T106 L106 X106 hQ106 => ?_
    obtain ⟨rfl, Nq106, e106⟩ := hQ106
    have N106 := Fr.app N104 Nq106
    show own_Go p e below Pst (T106.setTop (mkF m 24 #[.val (.ref a1), .val (.int (2 : Int32))] [(.int (nar .char (nar .char (own_join x0 x1))))]))
    rw [q5, hr]
    show own_Go p e below Pst (T106.setTop (mkF m 24 #[.val (.ref a1), .val (.int (2 : Int32))] [(.int c)]))
    rw [hPst]
    exact own_retP X106 (v := (some (.int (nar .char c)))) (Q := Q_ch2 Z z a1 t kb (1 : Int32) N c vs fm h0 n0) (fun h => by rw [Bd.returns] at h; cases h) Bd.notSynchronized (fun fs hr => retN X106 hx (t := .char) Bd.returns (by simp) (hb hby own_d12_24) hr) (by decide) (by decide) (by rw [e106]; exact ⟨by rw [hr], N106, rfl⟩)
def Q_l1c3 (Z : State) (t : Addr) (kb : ClassId) (N b : Int32) (vs : List Value) (fm : Value) (h0 : Heap) (n0 : Nat) (v : Option Value) (h : Heap) (L : List Loc) : Prop := v = some (.int (nar .char (own_lat b))) ∧ Fr n0 L ∧ h = h0
theorem rm_l1c3 (l : Launch) (Z : State) (a0 : Array Value) (hw : own_H a0 Z) (ws : List Jvm.Cond) (t : Addr) (kb : ClassId) (N b : Int32) (vs : List Value) (fm : Value) (h0 : Heap) (n0 : Nat) (Z0 : n0 ≤ h0.size) (O : Old Z n0 h0) (SF : Sta Z Z.heap "jdk/internal/util/Preconditions" "SIOOBE_FORMATTER" "Ljava/util/function/BiFunction;" fm) (rfm : fm.isRef = true) (A1 : Arv Z h0 t kb .byte N vs (.int 0)) (h2 : (3 : Int32) < N) (hv : vs.getD 3 (.int 0) = .int b) : own_MP l (⟨"java/lang/StringLatin1", "charAt", "([BI)C"⟩ : MethodName) jdk_43_method_2_code 2 (some .char) ws ({ frames := 2, cells := 0, slots := 0, locals := 27 } : Room) Z h0 #[(.ref t), (.int (3 : Int32))] (fun _ _ _ _ _ => True) (Q_l1c3 Z t kb N b vs fm h0 n0) := by
  refine own_startP (plainFor_of_name own_pn_java_lang_StringLatin1) fun p e s m below meth c s₁ Bd hx hby hml hown0 X0 e0 hh0 hZ hK Pst hPst => ?_
  have hown : s.vm.findClass "java/lang/StringLatin1" = some m.cls := hown0
  have hnm := (name_of_methodNamed Bd.named Bd.method).1
  have N0 := Fr.nil n0
  rw [own_ef_RI_2 m t (3 : Int32)]
  refine own_x_iloadN X0.here hx (hb hby own_d14_0) rfl ?_
  refine own_x_aloadN X0.here hx (hb hby own_d14_1) rfl rfl ?_
  obtain ⟨cl101, Ar101, -, S101, P101, -, -⟩ := id A1
  refine own_Go.of (S' := s₁.setTop (mkF m 3 #[.val (.ref t), .val (.int (3 : Int32))] [(.int N), (.int (3 : Int32))])) (fun tgt kst => X0.arraylength hx (by rw [e0]; exact Ar101.1) (State.isArrayOf_alike hZ.alike Ar101.2.1) (g := (mkF m 2 #[.val (.ref t), .val (.int (3 : Int32))] [(.ref t), (.int (3 : Int32))])) rfl rfl (hb hby own_d14_2) _ (by rw [len_of S101 P101]; exact kst)) ?_
  refine own_cF X0 (Jvm.LawKit.callS X0 hx (y := (⟨"java/lang/String", "checkIndex", "(II)V"⟩ : MethodName)) hown (mvT hZ (own_w67 hw)) (mvT hZ (own_w68 hw)) (mvT hZ (own_w9 hw)) (mvT hZ (own_w69 hw)) (by decide) (backOf (W := 0) (rm_sci l Z a0 hw [] (3 : Int32) N fm h0 n0 Z0 O SF rfm (by decide) h2) hZ (own_w69 hw) (own_w9 hw) (by decide) (by decide)) (g := (mkF m 3 #[.val (.ref t), .val (.int (3 : Int32))] [(.int N), (.int (3 : Int32))])) rfl (by rw [hml]; rfl) (argsL := [(.int (3 : Int32)), (.int N)]) (rest := []) (lenOf own_pd11 rfl) rfl (by show 2 * 0 + _ ≤ _; exact Nat.le_of_eq rfl) (hb hby own_d14_3) (fun _ _ => ⟨rfl, e0, (by decide : 0 + 0 ≤ _), (by decide : 0 + 0 ≤ _)⟩)) fun v102 T102 L102 X102 hQ102 => ?_
  obtain ⟨rfl, Nq102, e102⟩ := hQ102
  have N102 := Fr.app N0 Nq102
  show own_Go p e below Pst (T102.setTop (mkF m 6 #[.val (.ref t), .val (.int (3 : Int32))] []))
  refine own_x_aloadN X102.here hx (hb hby own_d14_6) rfl rfl ?_
  refine own_x_iloadN X102.here hx (hb hby own_d14_7) rfl ?_
  obtain ⟨cl103, Ar103, q103, S103, P103, H103, G103⟩ := id A1
  have hin103 : ¬ ((3 : Int32) < 0 ∨ cl103.slots.size ≤ ((3 : Int32)).toNatClampNeg) := inb_of S103 ⟨by decide, h2⟩
  have hat103 : cl103.slots[((3 : Int32)).toNatClampNeg]? = some (.int b) := Has.at H103 hin103 hv
  refine own_Go.of (S' := T102.setTop (mkF m 9 #[.val (.ref t), .val (.int (3 : Int32))] [(.int b)])) (fun tgt kst => X102.baloadBytes hx (j := (3 : Int32)) (v := (.int b)) (by rw [e102]; exact Ar103.1) (State.isArrayOf_alike hZ.alike Ar103.2.1) Ar103.2.2 hin103 hat103 (g := (mkF m 8 #[.val (.ref t), .val (.int (3 : Int32))] [(.int (3 : Int32)), (.ref t)])) rfl rfl (hb hby own_d14_8) _ kst) ?_
  refine own_x_sipush X102.here hx (hb hby own_d14_9) (z := (255 : Int32)) rfl ?_
  refine own_x_iand X102.here hx (hb hby own_d14_12) rfl ?_
  refine own_x_i2c X102.here hx (hb hby own_d14_13) rfl ?_
  rw [hPst]
  exact own_retP X102 (v := (some (.int (nar .char (own_lat b))))) (Q := Q_l1c3 Z t kb N b vs fm h0 n0) (fun h => by rw [Bd.returns] at h; cases h) Bd.notSynchronized (fun fs hr => retN X102 hx (t := .char) Bd.returns (by simp) (hb hby own_d14_14) hr) (by decide) (by decide) (by rw [e102]; exact ⟨rfl, N102, rfl⟩)
def Q_u16c3 (Z : State) (t : Addr) (kb : ClassId) (N x0 x1 : Int32) (vs : List Value) (fm : Value) (h0 : Heap) (n0 : Nat) (v : Option Value) (h : Heap) (L : List Loc) : Prop := v = some (.int (nar .char (nar .char (own_join x0 x1)))) ∧ Fr n0 L ∧ h = h0
theorem rm_u16c3 (l : Launch) (Z : State) (a0 : Array Value) (hw : own_H a0 Z) (ws : List Jvm.Cond) (t : Addr) (kb : ClassId) (N x0 x1 : Int32) (vs : List Value) (fm : Value) (h0 : Heap) (n0 : Nat) (Z0 : n0 ≤ h0.size) (O : Old Z n0 h0) (SF : Sta Z Z.heap "jdk/internal/util/Preconditions" "SIOOBE_FORMATTER" "Ljava/util/function/BiFunction;" fm) (rfm : fm.isRef = true) (SU0 : Sta Z Z.heap "java/lang/StringUTF16" "$assertionsDisabled" "Z" (.int (1 : Int32))) (SU1 : Sta Z Z.heap "java/lang/StringUTF16" "HI_BYTE_SHIFT" "I" (.int (0 : Int32))) (SU2 : Sta Z Z.heap "java/lang/StringUTF16" "LO_BYTE_SHIFT" "I" (.int (8 : Int32))) (A1 : Arv Z h0 t kb .byte N vs (.int 0)) (h2 : (3 : Int32) < N >>> ((1 : Int32) &&& 31)) (h3 : (7 : Int32) < N) (hv0 : vs.getD 6 (.int 0) = .int x0) (hv1 : vs.getD 7 (.int 0) = .int x1) : own_MP l (⟨"java/lang/StringUTF16", "charAt", "([BI)C"⟩ : MethodName) jdk_52_method_83_code 2 (some .char) ws ({ frames := 3, cells := 0, slots := 0, locals := 40 } : Room) Z h0 #[(.ref t), (.int (3 : Int32))] (fun _ _ _ _ _ => True) (Q_u16c3 Z t kb N x0 x1 vs fm h0 n0) := by
  refine own_startP (plainFor_of_name own_pn_java_lang_StringUTF16) fun p e s m below meth c s₁ Bd hx hby hml hown0 X0 e0 hh0 hZ hK Pst hPst => ?_
  have hown : s.vm.findClass "java/lang/StringUTF16" = some m.cls := hown0
  have hnm := (name_of_methodNamed Bd.named Bd.method).1
  have N0 := Fr.nil n0
  rw [own_ef_RI_2 m t (3 : Int32)]
  refine own_x_iloadN X0.here hx (hb hby own_d24_0) rfl ?_
  refine own_x_aloadN X0.here hx (hb hby own_d24_1) rfl rfl ?_
  refine own_cF X0 (Jvm.LawKit.callS X0 hx (y := (⟨"java/lang/StringUTF16", "checkIndex", "(I[B)V"⟩ : MethodName)) hown (mvT hZ (own_w104 hw)) (mvT hZ (own_w105 hw)) (mvT hZ (own_w23 hw)) (mvT hZ (own_w106 hw)) (by decide) (backOf (W := 0) (rm_uci l Z a0 hw [] (3 : Int32) t kb N vs fm h0 n0 Z0 O SF rfm A1 (by decide) h2) hZ (own_w106 hw) (own_w23 hw) (by decide) (by decide)) (g := (mkF m 2 #[.val (.ref t), .val (.int (3 : Int32))] [(.ref t), (.int (3 : Int32))])) rfl (by rw [hml]; rfl) (argsL := [(.int (3 : Int32)), (.ref t)]) (rest := []) (lenOf own_pd12 rfl) rfl (by show 2 * 0 + _ ≤ _; exact Nat.le_of_eq rfl) (hb hby own_d24_2) (fun _ _ => ⟨rfl, e0, (by decide : 0 + 0 ≤ _), (by decide : 0 + 0 ≤ _)⟩)) fun v101 T101 L101 X101 hQ101 => ?_
  obtain ⟨rfl, Nq101, e101⟩ := hQ101
  have N101 := Fr.app N0 Nq101
  show own_Go p e below Pst (T101.setTop (mkF m 5 #[.val (.ref t), .val (.int (3 : Int32))] []))
  refine own_x_aloadN X101.here hx (hb hby own_d24_5) rfl rfl ?_
  refine own_x_iloadN X101.here hx (hb hby own_d24_6) rfl ?_
  refine own_cF X101 (Jvm.LawKit.callS X101 hx (y := (⟨"java/lang/StringUTF16", "getChar", "([BI)C"⟩ : MethodName)) hown (mvT hZ (own_w98 hw)) (mvT hZ (own_w99 hw)) (mvT hZ (own_w23 hw)) (mvT hZ (own_w100 hw)) (by decide) (backOf (W := 0) (rm_getc3 l Z a0 hw [] t kb N x0 x1 vs h0 n0 Z0 O SU0 SU1 SU2 A1 h3 hv0 hv1) hZ (own_w100 hw) (own_w23 hw) (by decide) (by decide)) (g := (mkF m 7 #[.val (.ref t), .val (.int (3 : Int32))] [(.int (3 : Int32)), (.ref t)])) rfl (by rw [hml]; rfl) (argsL := [(.ref t), (.int (3 : Int32))]) (rest := []) (lenOf own_pd6 rfl) rfl (by show 2 * 0 + _ ≤ _; exact Nat.le_of_eq rfl) (hb hby own_d24_7) (fun _ _ => ⟨rfl, e101, (by decide : 0 + 0 ≤ _), (by decide : 0 + 0 ≤ _)⟩)) fun v102 T102 L102 X102 hQ102 => ?_
  obtain ⟨rfl, Nq102, e102⟩ := hQ102
  have N102 := Fr.app N101 Nq102
  show own_Go p e below Pst (T102.setTop (mkF m 10 #[.val (.ref t), .val (.int (3 : Int32))] [(.int (nar .char (own_join x0 x1)))]))
  rw [hPst]
  exact own_retP X102 (v := (some (.int (nar .char (nar .char (own_join x0 x1)))))) (Q := Q_u16c3 Z t kb N x0 x1 vs fm h0 n0) (fun h => by rw [Bd.returns] at h; cases h) Bd.notSynchronized (fun fs hr => retN X102 hx (t := .char) Bd.returns (by simp) (hb hby own_d24_10) hr) (by decide) (by decide) (by rw [e102]; exact ⟨rfl, N102, rfl⟩)
def Q_ch3 (Z : State) (z : Int32) (a1 t : Addr) (kb : ClassId) (cd N c : Int32) (vs : List Value) (fm : Value) (h0 : Heap) (n0 : Nat) (v : Option Value) (h : Heap) (L : List Loc) : Prop := v = some (.int c) ∧ Fr n0 L ∧ h = h0
theorem rm_ch3 (l : Launch) (Z : State) (a0 : Array Value) (hw : own_H a0 Z) (ws : List Jvm.Cond) (z : Int32) (a1 t : Addr) (kb : ClassId) (cd N c : Int32) (vs : List Value) (fm : Value) (h0 : Heap) (n0 : Nat) (Z0 : n0 ≤ h0.size) (O : Old Z n0 h0) (SC : Sta Z Z.heap "java/lang/String" "COMPACT_STRINGS" "Z" (.int z)) (hz : ¬ z = 0) (SF : Sta Z Z.heap "jdk/internal/util/Preconditions" "SIOOBE_FORMATTER" "Ljava/util/function/BiFunction;" fm) (rfm : fm.isRef = true) (SU0 : Sta Z Z.heap "java/lang/StringUTF16" "$assertionsDisabled" "Z" (.int (1 : Int32))) (SU1 : Sta Z Z.heap "java/lang/StringUTF16" "HI_BYTE_SHIFT" "I" (.int (0 : Int32))) (SU2 : Sta Z Z.heap "java/lang/StringUTF16" "LO_BYTE_SHIFT" "I" (.int (8 : Int32))) (E1 : Exa Z h0 a1 "java/lang/String") (F1 : Fld Z h0 a1 "java/lang/String" "coder" "B" (.int cd)) (F2 : Fld Z h0 a1 "java/lang/String" "value" "[B" (.ref t)) (A1 : Arv Z h0 t kb .byte N vs (.int 0)) (hr : nar .char c = c) (hc : own_at cd N vs c 3 6 7 (3 : Int32) (7 : Int32)) : own_MP l (⟨"java/lang/String", "charAt", "(I)C"⟩ : MethodName) jdk_42_method_56_code 2 (some .char) ws ({ frames := 4, cells := 0, slots := 0, locals := 60 } : Room) Z h0 #[(.ref a1), (.int (3 : Int32))] (fun _ _ _ _ _ => True) (Q_ch3 Z z a1 t kb cd N c vs fm h0 n0) := by
  refine own_startP (plainFor_of_name own_pn_java_lang_String) fun p e s m below meth c' s₁ Bd hx hby hml hown0 X0 e0 hh0 hZ hK Pst hPst => ?_
  have hown : s.vm.findClass "java/lang/String" = some m.cls := hown0
  have hnm := (name_of_methodNamed Bd.named Bd.method).1
  have N0 := Fr.nil n0
  rw [own_ef_RI_2 m a1 (3 : Int32)]
  refine own_x_aloadN X0.here hx (hb hby own_d12_0) rfl rfl ?_
  rcases hc with ⟨rfl, q1, b, q2, q3⟩ | ⟨rfl, q1, q2, x0, x1, q3, q4, q5⟩
  · obtain ⟨cq101, kq101, q101a, q101b, q101c⟩ := isOf hZ e0 E1
    refine own_cP X0 (X0.virtualBack hx (y := (⟨"java/lang/String", "isLatin1", "()Z"⟩ : MethodName)) (z := (⟨"java/lang/String", "isLatin1", "()Z"⟩ : MethodName)) hown (mvT hZ (own_w58 hw)) (mvT hZ (own_w59 hw)) (notFace_of_selects (args := #[]) (mvT hZ (own_w61 hw))) (mvT hZ (own_w61 hw)) (mvT hZ (own_w60 hw)) (by decide) (backOf (W := 0) (rm_isl0 l Z a0 hw [] z a1 h0 n0 Z0 O SC hz F1) hZ (own_w62 hw) (own_w9 hw) (by decide) (by decide)) q101a q101c (g := (mkF m 1 #[.val (.ref a1), .val (.int (3 : Int32))] [(.ref a1)])) rfl (by rw [hml]; rfl) (Steps.refl _) (argsL := []) (rest := []) (lenOf own_pd13 rfl) rfl (by show 2 * 0 + _ ≤ _; exact Nat.le_of_eq rfl) (hb hby own_d12_1) (fun _ _ => ⟨rfl, e0, (by decide : 0 + 0 ≤ _), (by decide : 0 + 0 ≤ _)⟩)) fun v101 T101 L101 X101 hQ101 => ?_
    obtain ⟨rfl, Nq101, e101⟩ := hQ101
    have N101 := Fr.app N0 Nq101
    show own_Go p e below Pst (T101.setTop (mkF m 4 #[.val (.ref a1), .val (.int (3 : Int32))] [(.int (1 : Int32))]))
    refine own_x_ifNo X101.here hx (hb hby own_d12_4) rfl ((if0 _ _).trans (feq (by decide)).1) ?_
    refine own_x_aloadN X101.here hx (hb hby own_d12_7) rfl rfl ?_
    refine own_h_getF X101 hx hZ hown (host := "") (Or.inl (own_w34 hw)) Via.refl e101 F2 rfl (hb hby own_d12_8) fun T102 X102 e102 => ?_
    refine own_x_iloadN X102.here hx (hb hby own_d12_11) rfl ?_
    refine own_cF X102 (Jvm.LawKit.callS X102 hx (y := (⟨"java/lang/StringLatin1", "charAt", "([BI)C"⟩ : MethodName)) hown (mvT hZ (own_w63 hw)) (mvT hZ (own_w64 hw)) (mvT hZ (own_w65 hw)) (mvT hZ (own_w66 hw)) (by decide) (backOf (W := 0) (rm_l1c3 l Z a0 hw [] t kb N b vs fm h0 n0 Z0 O SF rfm A1 q1 q2) hZ (own_w66 hw) (own_w65 hw) (by decide) (by decide)) (g := (mkF m 12 #[.val (.ref a1), .val (.int (3 : Int32))] [(.int (3 : Int32)), (.ref t)])) rfl (by rw [hml]; rfl) (argsL := [(.ref t), (.int (3 : Int32))]) (rest := []) (lenOf own_pd6 rfl) rfl (by show 2 * 0 + _ ≤ _; exact Nat.le_of_eq rfl) (hb hby own_d12_12) (fun _ _ => ⟨rfl, e102, (by decide : 0 + 0 ≤ _), (by decide : 0 + 0 ≤ _)⟩)) fun v103 T103 L103 X103 hQ103 => ?_
    obtain ⟨rfl, Nq103, e103⟩ := hQ103
    have N103 := Fr.app N101 Nq103
    show own_Go p e below Pst (T103.setTop (mkF m 15 #[.val (.ref a1), .val (.int (3 : Int32))] [(.int (nar .char (own_lat b)))]))
    rw [q3]
    show own_Go p e below Pst (T103.setTop (mkF m 15 #[.val (.ref a1), .val (.int (3 : Int32))] [(.int c)]))
    rw [hPst]
    exact own_retP X103 (v := (some (.int (nar .char c)))) (Q := Q_ch3 Z z a1 t kb (0 : Int32) N c vs fm h0 n0) (fun h => by rw [Bd.returns] at h; cases h) Bd.notSynchronized (fun fs hr => retN X103 hx (t := .char) Bd.returns (by simp) (hb hby own_d12_15) hr) (by decide) (by decide) (by rw [e103]; exact ⟨by rw [hr], N103, rfl⟩)
  · obtain ⟨cq104, kq104, q104a, q104b, q104c⟩ := isOf hZ e0 E1
    refine own_cP X0 (X0.virtualBack hx (y := (⟨"java/lang/String", "isLatin1", "()Z"⟩ : MethodName)) (z := (⟨"java/lang/String", "isLatin1", "()Z"⟩ : MethodName)) hown (mvT hZ (own_w58 hw)) (mvT hZ (own_w59 hw)) (notFace_of_selects (args := #[]) (mvT hZ (own_w61 hw))) (mvT hZ (own_w61 hw)) (mvT hZ (own_w60 hw)) (by decide) (backOf (W := 0) (rm_isl1 l Z a0 hw [] z a1 h0 n0 Z0 O SC hz F1) hZ (own_w62 hw) (own_w9 hw) (by decide) (by decide)) q104a q104c (g := (mkF m 1 #[.val (.ref a1), .val (.int (3 : Int32))] [(.ref a1)])) rfl (by rw [hml]; rfl) (Steps.refl _) (argsL := []) (rest := []) (lenOf own_pd13 rfl) rfl (by show 2 * 0 + _ ≤ _; exact Nat.le_of_eq rfl) (hb hby own_d12_1) (fun _ _ => ⟨rfl, e0, (by decide : 0 + 0 ≤ _), (by decide : 0 + 0 ≤ _)⟩)) fun v104 T104 L104 X104 hQ104 => ?_
    obtain ⟨rfl, Nq104, e104⟩ := hQ104
    have N104 := Fr.app N0 Nq104
    show own_Go p e below Pst (T104.setTop (mkF m 4 #[.val (.ref a1), .val (.int (3 : Int32))] [(.int (0 : Int32))]))
    refine own_x_ifYes X104.here hx (pc0 := 4) (pc' := 16) rfl (hb hby own_d12_4) rfl ((if0 _ _).trans (teq rfl).1) (by decide) (by decide) ?_
    refine own_x_aloadN X104.here hx (hb hby own_d12_16) rfl rfl ?_
    refine own_h_getF X104 hx hZ hown (host := "") (Or.inl (own_w34 hw)) Via.refl e104 F2 rfl (hb hby own_d12_17) fun T105 X105 e105 => ?_
    refine own_x_iloadN X105.here hx (hb hby own_d12_20) rfl ?_
    refine own_cF X105 (Jvm.LawKit.callS X105 hx (y := (⟨"java/lang/StringUTF16", "charAt", "([BI)C"⟩ : MethodName)) hown (mvT hZ (own_w101 hw)) (mvT hZ (own_w102 hw)) (mvT hZ (own_w23 hw)) (mvT hZ (own_w103 hw)) (by decide) (backOf (W := 0) (rm_u16c3 l Z a0 hw [] t kb N x0 x1 vs fm h0 n0 Z0 O SF rfm SU0 SU1 SU2 A1 q2 q1 q3 q4) hZ (own_w103 hw) (own_w23 hw) (by decide) (by decide)) (g := (mkF m 21 #[.val (.ref a1), .val (.int (3 : Int32))] [(.int (3 : Int32)), (.ref t)])) rfl (by rw [hml]; rfl) (argsL := [(.ref t), (.int (3 : Int32))]) (rest := []) (lenOf own_pd6 rfl) rfl (by show 2 * 0 + _ ≤ _; exact Nat.le_of_eq rfl) (hb hby own_d12_21) (fun _ _ => ⟨rfl, e105, (by decide : 0 + 0 ≤ _), (by decide : 0 + 0 ≤ _)⟩)) fun v106 T106 L106 X106 hQ106 => ?_
    obtain ⟨rfl, Nq106, e106⟩ := hQ106
    have N106 := Fr.app N104 Nq106
    show own_Go p e below Pst (T106.setTop (mkF m 24 #[.val (.ref a1), .val (.int (3 : Int32))] [(.int (nar .char (nar .char (own_join x0 x1))))]))
    rw [q5, hr]
    show own_Go p e below Pst (T106.setTop (mkF m 24 #[.val (.ref a1), .val (.int (3 : Int32))] [(.int c)]))
    rw [hPst]
    exact own_retP X106 (v := (some (.int (nar .char c)))) (Q := Q_ch3 Z z a1 t kb (1 : Int32) N c vs fm h0 n0) (fun h => by rw [Bd.returns] at h; cases h) Bd.notSynchronized (fun fs hr => retN X106 hx (t := .char) Bd.returns (by simp) (hb hby own_d12_24) hr) (by decide) (by decide) (by rw [e106]; exact ⟨by rw [hr], N106, rfl⟩)
theorem own_d18_0 : decode jdk_89_method_89_code 0 = .ok (.iload_n 0, 1) := by decide +kernel
theorem own_d18_1 : decode jdk_89_method_89_code 1 = .ok (.sipush 159, 3) := by decide +kernel
theorem own_d18_4 : decode jdk_89_method_89_code 4 = .ok (.if_icmp .gt 19, 3) := by decide +kernel
theorem own_d18_23 : decode jdk_89_method_89_code 23 = .ok (.iconst 0, 1) := by decide +kernel
theorem own_d18_24 : decode jdk_89_method_89_code 24 = .ok (.ireturn, 1) := by decide +kernel
theorem own_d18_7 : decode jdk_89_method_89_code 7 = .ok (.iload_n 0, 1) := by decide +kernel
theorem own_d18_8 : decode jdk_89_method_89_code 8 = .ok (.bipush 127, 2) := by decide +kernel
theorem own_d18_10 : decode jdk_89_method_89_code 10 = .ok (.if_icmp .ge 9, 3) := by decide +kernel
theorem own_d18_13 : decode jdk_89_method_89_code 13 = .ok (.iload_n 0, 1) := by decide +kernel
theorem own_d18_14 : decode jdk_89_method_89_code 14 = .ok (.iconst 5, 1) := by decide +kernel
theorem own_d18_15 : decode jdk_89_method_89_code 15 = .ok (.iushr, 1) := by decide +kernel
theorem own_d18_16 : decode jdk_89_method_89_code 16 = .ok (.ifCond .ne 7, 3) := by decide +kernel
theorem own_d18_19 : decode jdk_89_method_89_code 19 = .ok (.iconst 1, 1) := by decide +kernel
theorem own_d18_20 : decode jdk_89_method_89_code 20 = .ok (.goto 4, 3) := by decide +kernel
theorem own_pn_java_lang_Character : plainName "java/lang/Character" = true := by first | (simp [plainName, overriddenIn]; done) | decide +kernel
def Q_iso (Z : State) (c : Int32) (h0 : Heap) (n0 : Nat) (v : Option Value) (h : Heap) (L : List Loc) : Prop := v = some (.int (own_iso c)) ∧ Fr n0 L ∧ h = h0
theorem rm_iso (l : Launch) (Z : State) (a0 : Array Value) (hw : own_H a0 Z) (ws : List Jvm.Cond) (c : Int32) (h0 : Heap) (n0 : Nat) (Z0 : n0 ≤ h0.size) : own_MP l (⟨"java/lang/Character", "isISOControl", "(I)Z"⟩ : MethodName) jdk_89_method_89_code 1 (some .boolean) ws ({ frames := 0, cells := 0, slots := 0, locals := 0 } : Room) Z h0 #[(.int c)] (fun _ _ _ _ _ => True) (Q_iso Z c h0 n0) := by
  refine own_startP (plainFor_of_name own_pn_java_lang_Character) fun p e s m below meth c' s₁ Bd hx hby hml hown0 X0 e0 hh0 hZ hK Pst hPst => ?_
  have hown : s.vm.findClass "java/lang/Character" = some m.cls := hown0
  have hnm := (name_of_methodNamed Bd.named Bd.method).1
  have N0 := Fr.nil n0
  rw [own_ef_I_1 m c]
  refine own_x_iloadN X0.here hx (hb hby own_d18_0) rfl ?_
  refine own_x_sipush X0.here hx (hb hby own_d18_1) (z := (159 : Int32)) rfl ?_
  by_cases h1 : (159 : Int32) < c
  · refine own_x_icmpYes X0.here hx (pc0 := 4) (pc' := 23) rfl (hb hby own_d18_4) rfl (tlt h1).2.2.1 (by decide) (by decide) ?_
    refine own_x_iconst X0.here hx (hb hby own_d18_23) (z := (0 : Int32)) rfl ?_
    rw [hPst]
    exact own_retP X0 (v := (some (.int (nar .boolean (0 : Int32))))) (Q := Q_iso Z c h0 n0) (fun h => by rw [Bd.returns] at h; cases h) Bd.notSynchronized (fun fs hr => retN X0 hx (t := .boolean) Bd.returns (by simp) (hb hby own_d18_24) hr) (by decide) (by decide) (by rw [e0]; exact ⟨by simp only [own_iso, if_pos h1]; rfl, N0, rfl⟩)
  · refine own_x_icmpNo X0.here hx (hb hby own_d18_4) rfl (flt h1).2.2.1 ?_
    refine own_x_iloadN X0.here hx (hb hby own_d18_7) rfl ?_
    refine own_x_bipush X0.here hx (hb hby own_d18_8) (z := (127 : Int32)) rfl ?_
    by_cases h2 : c < (127 : Int32)
    · refine own_x_icmpNo X0.here hx (hb hby own_d18_10) rfl (tlt h2).2.1 ?_
      refine own_x_iloadN X0.here hx (hb hby own_d18_13) rfl ?_
      refine own_x_iconst X0.here hx (hb hby own_d18_14) (z := (5 : Int32)) rfl ?_
      refine own_x_iushr X0.here hx (hb hby own_d18_15) rfl ?_
      by_cases h3 : ((c.toUInt32 >>> ((5 : Int32) &&& 31).toUInt32).toInt32) = (0 : Int32)
      · refine own_x_ifNo X0.here hx (hb hby own_d18_16) rfl ((if0 _ _).trans (teq h3).2) ?_
        refine own_x_iconst X0.here hx (hb hby own_d18_19) (z := (1 : Int32)) rfl ?_
        refine own_x_goto X0.here hx (pc0 := 20) (pc' := 24) rfl (hb hby own_d18_20) (by decide) (by decide) ?_
        rw [hPst]
        exact own_retP X0 (v := (some (.int (nar .boolean (1 : Int32))))) (Q := Q_iso Z c h0 n0) (fun h => by rw [Bd.returns] at h; cases h) Bd.notSynchronized (fun fs hr => retN X0 hx (t := .boolean) Bd.returns (by simp) (hb hby own_d18_24) hr) (by decide) (by decide) (by rw [e0]; exact ⟨by simp only [own_iso, if_neg h1, if_pos h2, if_pos h3]; rfl, N0, rfl⟩)
      · refine own_x_ifYes X0.here hx (pc0 := 16) (pc' := 23) rfl (hb hby own_d18_16) rfl ((if0 _ _).trans (feq h3).2) (by decide) (by decide) ?_
        refine own_x_iconst X0.here hx (hb hby own_d18_23) (z := (0 : Int32)) rfl ?_
        rw [hPst]
        exact own_retP X0 (v := (some (.int (nar .boolean (0 : Int32))))) (Q := Q_iso Z c h0 n0) (fun h => by rw [Bd.returns] at h; cases h) Bd.notSynchronized (fun fs hr => retN X0 hx (t := .boolean) Bd.returns (by simp) (hb hby own_d18_24) hr) (by decide) (by decide) (by rw [e0]; exact ⟨by simp only [own_iso, if_neg h1, if_pos h2, if_neg h3]; rfl, N0, rfl⟩)
    · refine own_x_icmpYes X0.here hx (pc0 := 10) (pc' := 19) rfl (hb hby own_d18_10) rfl (flt h2).2.1 (by decide) (by decide) ?_
      refine own_x_iconst X0.here hx (hb hby own_d18_19) (z := (1 : Int32)) rfl ?_
      refine own_x_goto X0.here hx (pc0 := 20) (pc' := 24) rfl (hb hby own_d18_20) (by decide) (by decide) ?_
      rw [hPst]
      exact own_retP X0 (v := (some (.int (nar .boolean (1 : Int32))))) (Q := Q_iso Z c h0 n0) (fun h => by rw [Bd.returns] at h; cases h) Bd.notSynchronized (fun fs hr => retN X0 hx (t := .boolean) Bd.returns (by simp) (hb hby own_d18_24) hr) (by decide) (by decide) (by rw [e0]; exact ⟨by simp only [own_iso, if_neg h1, if_neg h2]; rfl, N0, rfl⟩)
theorem own_d17_0 : decode jdk_89_method_88_code 0 = .ok (.iload_n 0, 1) := by decide +kernel
theorem own_d17_1 : decode jdk_89_method_88_code 1 = .ok (.invokestatic 266, 3) := by decide +kernel
theorem own_pd14 : parseMethodDescriptor "(I)Z" = some ⟨[.int], some .boolean⟩ := by decide +kernel
theorem own_d17_4 : decode jdk_89_method_88_code 4 = .ok (.ireturn, 1) := by decide +kernel
def Q_isoc (Z : State) (c : Int32) (h0 : Heap) (n0 : Nat) (v : Option Value) (h : Heap) (L : List Loc) : Prop := v = some (.int (own_iso c)) ∧ Fr n0 L ∧ h = h0
theorem rm_isoc (l : Launch) (Z : State) (a0 : Array Value) (hw : own_H a0 Z) (ws : List Jvm.Cond) (c : Int32) (h0 : Heap) (n0 : Nat) (Z0 : n0 ≤ h0.size) : own_MP l (⟨"java/lang/Character", "isISOControl", "(C)Z"⟩ : MethodName) jdk_89_method_88_code 1 (some .boolean) ws ({ frames := 1, cells := 0, slots := 0, locals := 12 } : Room) Z h0 #[(.int c)] (fun _ _ _ _ _ => True) (Q_isoc Z c h0 n0) := by
  refine own_startP (plainFor_of_name own_pn_java_lang_Character) fun p e s m below meth c' s₁ Bd hx hby hml hown0 X0 e0 hh0 hZ hK Pst hPst => ?_
  have hown : s.vm.findClass "java/lang/Character" = some m.cls := hown0
  have hnm := (name_of_methodNamed Bd.named Bd.method).1
  have N0 := Fr.nil n0
  rw [own_ef_I_1 m c]
  refine own_x_iloadN X0.here hx (hb hby own_d17_0) rfl ?_
  refine own_cF X0 (Jvm.LawKit.callS X0 hx (y := (⟨"java/lang/Character", "isISOControl", "(I)Z"⟩ : MethodName)) hown (mvT hZ (own_w79 hw)) (mvT hZ (own_w80 hw)) (mvT hZ (own_w77 hw)) (mvT hZ (own_w81 hw)) (by decide) (backOf (W := 0) (rm_iso l Z a0 hw [] c h0 n0 Z0 ) hZ (own_w81 hw) (own_w77 hw) (by decide) (by decide)) (g := (mkF m 1 #[.val (.int c)] [(.int c)])) rfl (by rw [hml]; rfl) (argsL := [(.int c)]) (rest := []) (lenOf own_pd14 rfl) rfl (by show 2 * 0 + _ ≤ _; exact Nat.le_of_eq rfl) (hb hby own_d17_1) (fun _ _ => ⟨rfl, e0, (by decide : 0 + 0 ≤ _), (by decide : 0 + 0 ≤ _)⟩)) fun v101 T101 L101 X101 hQ101 => ?_
  obtain ⟨rfl, Nq101, e101⟩ := hQ101
  have N101 := Fr.app N0 Nq101
  show own_Go p e below Pst (T101.setTop (mkF m 4 #[.val (.int c)] [(.int (own_iso c))]))
  rw [hPst]
  exact own_retP X101 (v := (some (.int (nar .boolean (own_iso c))))) (Q := Q_isoc Z c h0 n0) (fun h => by rw [Bd.returns] at h; cases h) Bd.notSynchronized (fun fs hr => retN X101 hx (t := .boolean) Bd.returns (by simp) (hb hby own_d17_4) hr) (by decide) (by decide) (by rw [e101]; exact ⟨by rw [own_iso01], N101, rfl⟩)
theorem own_d1_0 : decode method_3_code 0 = .ok (.iload_n 0, 1) := by decide +kernel
theorem own_d1_1 : decode method_3_code 1 = .ok (.istore_n 1, 1) := by decide +kernel
theorem own_d1_2 : decode method_3_code 2 = .ok (.iload_n 1, 1) := by decide +kernel
theorem own_d1_3 : decode method_3_code 3 = .ok (.bipush 31, 2) := by decide +kernel
theorem own_d1_5 : decode method_3_code 5 = .ok (.if_icmp .gt 5, 3) := by decide +kernel
theorem own_d1_10 : decode method_3_code 10 = .ok (.iload_n 1, 1) := by decide +kernel
theorem own_d1_11 : decode method_3_code 11 = .ok (.bipush 127, 2) := by decide +kernel
theorem own_d1_13 : decode method_3_code 13 = .ok (.if_icmp .lt 12, 3) := by decide +kernel
theorem own_d1_25 : decode method_3_code 25 = .ok (.iload_n 1, 1) := by decide +kernel
theorem own_d1_26 : decode method_3_code 26 = .ok (.sipush 8232, 3) := by decide +kernel
theorem own_d1_29 : decode method_3_code 29 = .ok (.if_icmp .eq 10, 3) := by decide +kernel
theorem own_d1_39 : decode method_3_code 39 = .ok (.iconst 1, 1) := by decide +kernel
theorem own_d1_40 : decode method_3_code 40 = .ok (.goto 4, 3) := by decide +kernel
theorem own_d1_44 : decode method_3_code 44 = .ok (.ireturn, 1) := by decide +kernel
theorem own_d1_32 : decode method_3_code 32 = .ok (.iload_n 1, 1) := by decide +kernel
theorem own_d1_33 : decode method_3_code 33 = .ok (.sipush 8233, 3) := by decide +kernel
theorem own_d1_36 : decode method_3_code 36 = .ok (.if_icmp .ne 7, 3) := by decide +kernel
theorem own_d1_43 : decode method_3_code 43 = .ok (.iconst 0, 1) := by decide +kernel
theorem own_d1_16 : decode method_3_code 16 = .ok (.iload_n 1, 1) := by decide +kernel
theorem own_d1_17 : decode method_3_code 17 = .ok (.sipush 159, 3) := by decide +kernel
theorem own_d1_20 : decode method_3_code 20 = .ok (.if_icmp .gt 5, 3) := by decide +kernel
theorem own_d1_23 : decode method_3_code 23 = .ok (.iconst 1, 1) := by decide +kernel
theorem own_d1_24 : decode method_3_code 24 = .ok (.ireturn, 1) := by decide +kernel
theorem own_d1_8 : decode method_3_code 8 = .ok (.iconst 1, 1) := by decide +kernel
theorem own_d1_9 : decode method_3_code 9 = .ok (.ireturn, 1) := by decide +kernel
theorem own_pn_com_example_entitl_entitl_NamesPrintablePinLaw : plainName "com/example/entitl/entitl/NamesPrintablePinLaw" = true := by first | (simp [plainName, overriddenIn]; done) | decide +kernel
theorem own_ef_I_2 (m : MethodId) (x0 : Int32) : entryFrame m #[(.int x0)] 2 = mkF m 0 #[.val (.int x0), .unset] [] := by first | (simp [entryFrame, mkF, argsToLocals, Value.category]; done) | rfl
def Q_bad (Z : State) (c : Int32) (h0 : Heap) (n0 : Nat) (v : Option Value) (h : Heap) (L : List Loc) : Prop := v = some (.int (own_bI c)) ∧ Fr n0 L ∧ h = h0
theorem rm_bad (l : Launch) (Z : State) (a0 : Array Value) (hw : own_H a0 Z) (ws : List Jvm.Cond) (c : Int32) (h0 : Heap) (n0 : Nat) (Z0 : n0 ≤ h0.size) : own_MP l (⟨"com/example/entitl/entitl/NamesPrintablePinLaw", "bad", "(C)Z"⟩ : MethodName) method_3_code 2 (some .boolean) ws ({ frames := 0, cells := 0, slots := 0, locals := 0 } : Room) Z h0 #[(.int c)] (fun _ _ _ _ _ => True) (Q_bad Z c h0 n0) := by
  refine own_startP (plainFor_of_name own_pn_com_example_entitl_entitl_NamesPrintablePinLaw) fun p e s m below meth c' s₁ Bd hx hby hml hown0 X0 e0 hh0 hZ hK Pst hPst => ?_
  have hown : s.vm.findClass "com/example/entitl/entitl/NamesPrintablePinLaw" = some m.cls := hown0
  have hnm := (name_of_methodNamed Bd.named Bd.method).1
  have N0 := Fr.nil n0
  rw [own_ef_I_2 m c]
  refine own_x_iloadN X0.here hx (hb hby own_d1_0) rfl ?_
  refine own_x_istoreN X0.here hx (hb hby own_d1_1) rfl (l' := #[.val (.int c), .val (.int c)]) rfl ?_
  refine own_x_iloadN X0.here hx (hb hby own_d1_2) rfl ?_
  refine own_x_bipush X0.here hx (hb hby own_d1_3) (z := (31 : Int32)) rfl ?_
  by_cases h1 : (31 : Int32) < c
  · refine own_x_icmpYes X0.here hx (pc0 := 5) (pc' := 10) rfl (hb hby own_d1_5) rfl (tlt h1).2.2.1 (by decide) (by decide) ?_
    refine own_x_iloadN X0.here hx (hb hby own_d1_10) rfl ?_
    refine own_x_bipush X0.here hx (hb hby own_d1_11) (z := (127 : Int32)) rfl ?_
    by_cases h2 : c < (127 : Int32)
    · refine own_x_icmpYes X0.here hx (pc0 := 13) (pc' := 25) rfl (hb hby own_d1_13) rfl (tlt h2).1 (by decide) (by decide) ?_
      refine own_x_iloadN X0.here hx (hb hby own_d1_25) rfl ?_
      refine own_x_sipush X0.here hx (hb hby own_d1_26) (z := (8232 : Int32)) rfl ?_
      by_cases h4 : c = (8232 : Int32)
      · refine own_x_icmpYes X0.here hx (pc0 := 29) (pc' := 39) rfl (hb hby own_d1_29) rfl (teq h4).1 (by decide) (by decide) ?_
        refine own_x_iconst X0.here hx (hb hby own_d1_39) (z := (1 : Int32)) rfl ?_
        refine own_x_goto X0.here hx (pc0 := 40) (pc' := 44) rfl (hb hby own_d1_40) (by decide) (by decide) ?_
        rw [hPst]
        exact own_retP X0 (v := (some (.int (nar .boolean (1 : Int32))))) (Q := Q_bad Z c h0 n0) (fun h => by rw [Bd.returns] at h; cases h) Bd.notSynchronized (fun fs hr => retN X0 hx (t := .boolean) Bd.returns (by simp) (hb hby own_d1_44) hr) (by decide) (by decide) (by rw [e0]; exact ⟨by rw [own_bI_4 h4]; rfl, N0, rfl⟩)
      · refine own_x_icmpNo X0.here hx (hb hby own_d1_29) rfl (feq h4).1 ?_
        refine own_x_iloadN X0.here hx (hb hby own_d1_32) rfl ?_
        refine own_x_sipush X0.here hx (hb hby own_d1_33) (z := (8233 : Int32)) rfl ?_
        by_cases h5 : c = (8233 : Int32)
        · refine own_x_icmpNo X0.here hx (hb hby own_d1_36) rfl (teq h5).2 ?_
          refine own_x_iconst X0.here hx (hb hby own_d1_39) (z := (1 : Int32)) rfl ?_
          refine own_x_goto X0.here hx (pc0 := 40) (pc' := 44) rfl (hb hby own_d1_40) (by decide) (by decide) ?_
          rw [hPst]
          exact own_retP X0 (v := (some (.int (nar .boolean (1 : Int32))))) (Q := Q_bad Z c h0 n0) (fun h => by rw [Bd.returns] at h; cases h) Bd.notSynchronized (fun fs hr => retN X0 hx (t := .boolean) Bd.returns (by simp) (hb hby own_d1_44) hr) (by decide) (by decide) (by rw [e0]; exact ⟨by rw [own_bI_5 h5]; rfl, N0, rfl⟩)
        · refine own_x_icmpYes X0.here hx (pc0 := 36) (pc' := 43) rfl (hb hby own_d1_36) rfl (feq h5).2 (by decide) (by decide) ?_
          refine own_x_iconst X0.here hx (hb hby own_d1_43) (z := (0 : Int32)) rfl ?_
          rw [hPst]
          exact own_retP X0 (v := (some (.int (nar .boolean (0 : Int32))))) (Q := Q_bad Z c h0 n0) (fun h => by rw [Bd.returns] at h; cases h) Bd.notSynchronized (fun fs hr => retN X0 hx (t := .boolean) Bd.returns (by simp) (hb hby own_d1_44) hr) (by decide) (by decide) (by rw [e0]; exact ⟨by rw [own_bI_0 h1 (Or.inl h2) h4 h5]; rfl, N0, rfl⟩)
    · refine own_x_icmpNo X0.here hx (hb hby own_d1_13) rfl (flt h2).1 ?_
      refine own_x_iloadN X0.here hx (hb hby own_d1_16) rfl ?_
      refine own_x_sipush X0.here hx (hb hby own_d1_17) (z := (159 : Int32)) rfl ?_
      by_cases h3 : (159 : Int32) < c
      · refine own_x_icmpYes X0.here hx (pc0 := 20) (pc' := 25) rfl (hb hby own_d1_20) rfl (tlt h3).2.2.1 (by decide) (by decide) ?_
        refine own_x_iloadN X0.here hx (hb hby own_d1_25) rfl ?_
        refine own_x_sipush X0.here hx (hb hby own_d1_26) (z := (8232 : Int32)) rfl ?_
        by_cases h4 : c = (8232 : Int32)
        · refine own_x_icmpYes X0.here hx (pc0 := 29) (pc' := 39) rfl (hb hby own_d1_29) rfl (teq h4).1 (by decide) (by decide) ?_
          refine own_x_iconst X0.here hx (hb hby own_d1_39) (z := (1 : Int32)) rfl ?_
          refine own_x_goto X0.here hx (pc0 := 40) (pc' := 44) rfl (hb hby own_d1_40) (by decide) (by decide) ?_
          rw [hPst]
          exact own_retP X0 (v := (some (.int (nar .boolean (1 : Int32))))) (Q := Q_bad Z c h0 n0) (fun h => by rw [Bd.returns] at h; cases h) Bd.notSynchronized (fun fs hr => retN X0 hx (t := .boolean) Bd.returns (by simp) (hb hby own_d1_44) hr) (by decide) (by decide) (by rw [e0]; exact ⟨by rw [own_bI_4 h4]; rfl, N0, rfl⟩)
        · refine own_x_icmpNo X0.here hx (hb hby own_d1_29) rfl (feq h4).1 ?_
          refine own_x_iloadN X0.here hx (hb hby own_d1_32) rfl ?_
          refine own_x_sipush X0.here hx (hb hby own_d1_33) (z := (8233 : Int32)) rfl ?_
          by_cases h5 : c = (8233 : Int32)
          · refine own_x_icmpNo X0.here hx (hb hby own_d1_36) rfl (teq h5).2 ?_
            refine own_x_iconst X0.here hx (hb hby own_d1_39) (z := (1 : Int32)) rfl ?_
            refine own_x_goto X0.here hx (pc0 := 40) (pc' := 44) rfl (hb hby own_d1_40) (by decide) (by decide) ?_
            rw [hPst]
            exact own_retP X0 (v := (some (.int (nar .boolean (1 : Int32))))) (Q := Q_bad Z c h0 n0) (fun h => by rw [Bd.returns] at h; cases h) Bd.notSynchronized (fun fs hr => retN X0 hx (t := .boolean) Bd.returns (by simp) (hb hby own_d1_44) hr) (by decide) (by decide) (by rw [e0]; exact ⟨by rw [own_bI_5 h5]; rfl, N0, rfl⟩)
          · refine own_x_icmpYes X0.here hx (pc0 := 36) (pc' := 43) rfl (hb hby own_d1_36) rfl (feq h5).2 (by decide) (by decide) ?_
            refine own_x_iconst X0.here hx (hb hby own_d1_43) (z := (0 : Int32)) rfl ?_
            rw [hPst]
            exact own_retP X0 (v := (some (.int (nar .boolean (0 : Int32))))) (Q := Q_bad Z c h0 n0) (fun h => by rw [Bd.returns] at h; cases h) Bd.notSynchronized (fun fs hr => retN X0 hx (t := .boolean) Bd.returns (by simp) (hb hby own_d1_44) hr) (by decide) (by decide) (by rw [e0]; exact ⟨by rw [own_bI_0 h1 (Or.inr h3) h4 h5]; rfl, N0, rfl⟩)
      · refine own_x_icmpNo X0.here hx (hb hby own_d1_20) rfl (flt h3).2.2.1 ?_
        refine own_x_iconst X0.here hx (hb hby own_d1_23) (z := (1 : Int32)) rfl ?_
        rw [hPst]
        exact own_retP X0 (v := (some (.int (nar .boolean (1 : Int32))))) (Q := Q_bad Z c h0 n0) (fun h => by rw [Bd.returns] at h; cases h) Bd.notSynchronized (fun fs hr => retN X0 hx (t := .boolean) Bd.returns (by simp) (hb hby own_d1_24) hr) (by decide) (by decide) (by rw [e0]; exact ⟨by rw [own_bI_2 h2 h3]; rfl, N0, rfl⟩)
  · refine own_x_icmpNo X0.here hx (hb hby own_d1_5) rfl (flt h1).2.2.1 ?_
    refine own_x_iconst X0.here hx (hb hby own_d1_8) (z := (1 : Int32)) rfl ?_
    rw [hPst]
    exact own_retP X0 (v := (some (.int (nar .boolean (1 : Int32))))) (Q := Q_bad Z c h0 n0) (fun h => by rw [Bd.returns] at h; cases h) Bd.notSynchronized (fun fs hr => retN X0 hx (t := .boolean) Bd.returns (by simp) (hb hby own_d1_9) hr) (by decide) (by decide) (by rw [e0]; exact ⟨by rw [own_bI_1 h1]; rfl, N0, rfl⟩)
theorem own_d9_0 : decode prog_10_method_5_code 0 = .ok (.iconst 0, 1) := by decide +kernel
theorem own_d9_1 : decode prog_10_method_5_code 1 = .ok (.istore_n 1, 1) := by decide +kernel
theorem own_d9_2 : decode prog_10_method_5_code 2 = .ok (.iload_n 1, 1) := by decide +kernel
theorem own_d9_3 : decode prog_10_method_5_code 3 = .ok (.aload_n 0, 1) := by decide +kernel
theorem own_d9_4 : decode prog_10_method_5_code 4 = .ok (.invokevirtual 52, 3) := by decide +kernel
theorem own_pd15 : parseMethodDescriptor "()I" = some ⟨[], some .int⟩ := by decide +kernel
theorem own_d9_7 : decode prog_10_method_5_code 7 = .ok (.if_icmp .ge 38, 3) := by decide +kernel
theorem own_d9_45 : decode prog_10_method_5_code 45 = .ok (.iconst (-1), 1) := by decide +kernel
theorem own_d9_46 : decode prog_10_method_5_code 46 = .ok (.ireturn, 1) := by decide +kernel
theorem own_pn_com_example_entitl_entitl_Names : plainName "com/example/entitl/entitl/Names" = true := by first | (simp [plainName, overriddenIn]; done) | decide +kernel
theorem own_ef_R_3 (m : MethodId) (x0 : Addr) : entryFrame m #[(.ref x0)] 3 = mkF m 0 #[.val (.ref x0), .unset, .unset] [] := by first | (simp [entryFrame, mkF, argsToLocals, Value.category]; done) | rfl
def Q_un0 (Z : State) (z : Int32) (a1 t : Addr) (kb : ClassId) (cd N : Int32) (vs : List Value) (fm : Value) (h0 : Heap) (n0 : Nat) (v : Option Value) (h : Heap) (L : List Loc) : Prop := ∃ r : Int32, v = some (.int r) ∧ Fr n0 L ∧ h = h0 ∧ (r < 0 ↔ (True))
theorem rm_un0 (l : Launch) (Z : State) (a0 : Array Value) (hw : own_H a0 Z) (ws : List Jvm.Cond) (z : Int32) (a1 t : Addr) (kb : ClassId) (cd N : Int32) (vs : List Value) (fm : Value) (h0 : Heap) (n0 : Nat) (Z0 : n0 ≤ h0.size) (O : Old Z n0 h0) (SC : Sta Z Z.heap "java/lang/String" "COMPACT_STRINGS" "Z" (.int z)) (hz : ¬ z = 0) (SF : Sta Z Z.heap "jdk/internal/util/Preconditions" "SIOOBE_FORMATTER" "Ljava/util/function/BiFunction;" fm) (rfm : fm.isRef = true) (SU0 : Sta Z Z.heap "java/lang/StringUTF16" "$assertionsDisabled" "Z" (.int (1 : Int32))) (SU1 : Sta Z Z.heap "java/lang/StringUTF16" "HI_BYTE_SHIFT" "I" (.int (0 : Int32))) (SU2 : Sta Z Z.heap "java/lang/StringUTF16" "LO_BYTE_SHIFT" "I" (.int (8 : Int32))) (E1 : Exa Z h0 a1 "java/lang/String") (F1 : Fld Z h0 a1 "java/lang/String" "coder" "B" (.int cd)) (F2 : Fld Z h0 a1 "java/lang/String" "value" "[B" (.ref t)) (A1 : Arv Z h0 t kb .byte N vs (.int 0)) (hlen : N >>> (nar .byte cd &&& 31) = (0 : Int32)) : own_MP l (⟨"com/example/entitl/entitl/Names", "unprintableAt", "(Ljava/lang/String;)I"⟩ : MethodName) prog_10_method_5_code 3 (some .int) ws ({ frames := 5, cells := 0, slots := 0, locals := 80 } : Room) Z h0 #[(.ref a1)] (fun _ _ _ _ _ => True) (Q_un0 Z z a1 t kb cd N vs fm h0 n0) := by
  refine own_startP (plainFor_of_name own_pn_com_example_entitl_entitl_Names) fun p e s m below meth c s₁ Bd hx hby hml hown0 X0 e0 hh0 hZ hK Pst hPst => ?_
  have hown : s.vm.findClass "com/example/entitl/entitl/Names" = some m.cls := hown0
  have hnm := (name_of_methodNamed Bd.named Bd.method).1
  have N0 := Fr.nil n0
  rw [own_ef_R_3 m a1]
  refine own_x_iconst X0.here hx (hb hby own_d9_0) (z := (0 : Int32)) rfl ?_
  refine own_x_istoreN X0.here hx (hb hby own_d9_1) rfl (l' := #[.val (.ref a1), .val (.int (0 : Int32)), .unset]) rfl ?_
  refine own_x_iloadN X0.here hx (hb hby own_d9_2) rfl ?_
  refine own_x_aloadN X0.here hx (hb hby own_d9_3) rfl rfl ?_
  obtain ⟨cq101, kq101, q101a, q101b, q101c⟩ := isOf hZ e0 E1
  refine own_cP X0 (X0.virtualBack hx (y := (⟨"java/lang/String", "length", "()I"⟩ : MethodName)) (z := (⟨"java/lang/String", "length", "()I"⟩ : MethodName)) hown (mvT hZ (own_w43 hw)) (mvT hZ (own_w44 hw)) (notFace_of_selects (args := #[]) (mvT hZ (own_w46 hw))) (mvT hZ (own_w46 hw)) (mvT hZ (own_w45 hw)) (by decide) (backOf (W := 1) (rm_len l Z a0 hw [] z a1 t kb cd N vs (.int 0) h0 n0 Z0 O SC hz E1 F1 F2 A1) hZ (own_w47 hw) (own_w9 hw) (by decide) (by decide)) q101a q101c (g := (mkF m 4 #[.val (.ref a1), .val (.int (0 : Int32)), .unset] [(.ref a1), (.int (0 : Int32))])) rfl (by rw [hml]; rfl) (Steps.refl _) (argsL := []) (rest := [(.int (0 : Int32))]) (lenOf own_pd15 rfl) rfl (by show 2 * 0 + _ ≤ _; exact Nat.le_of_eq rfl) (hb hby own_d9_4) (fun _ _ => ⟨rfl, e0, (by decide : 0 + 0 ≤ _), (by decide : 0 + 0 ≤ _)⟩)) fun v101 T101 L101 X101 hQ101 => ?_
  obtain ⟨rfl, Nq101, e101⟩ := hQ101
  have N101 := Fr.app N0 Nq101
  show own_Go p e below Pst (T101.setTop (mkF m 7 #[.val (.ref a1), .val (.int (0 : Int32)), .unset] [(.int (N >>> (nar .byte cd &&& 31))), (.int (0 : Int32))]))
  rw [hlen]
  show own_Go p e below Pst (T101.setTop (mkF m 7 #[.val (.ref a1), .val (.int (0 : Int32)), .unset] [(.int (0 : Int32)), (.int (0 : Int32))]))
  refine own_x_icmpYes X101.here hx (pc0 := 7) (pc' := 45) rfl (hb hby own_d9_7) rfl (flt (by decide)).2.1 (by decide) (by decide) ?_
  refine own_x_iconst X101.here hx (hb hby own_d9_45) (z := (-1 : Int32)) (by decide) ?_
  rw [hPst]
  exact own_retP X101 (v := (some (.int (-1 : Int32)))) (Q := Q_un0 Z z a1 t kb cd N vs fm h0 n0) (fun h => by rw [Bd.returns] at h; cases h) Bd.notSynchronized (fun fs hr => own_retI X101 hx Bd.returns (hb hby own_d9_46) hr) (by decide) (by decide) (by rw [e101]; exact ⟨_, rfl, N101, rfl, ⟨fun _ => trivial, fun _ => by decide⟩⟩)
theorem own_d8_0 : decode prog_10_method_2_code 0 = .ok (.aload_n 0, 1) := by decide +kernel
theorem own_d8_1 : decode prog_10_method_2_code 1 = .ok (.invokestatic 7, 3) := by decide +kernel
theorem own_pd16 : parseMethodDescriptor "(Ljava/lang/String;)I" = some ⟨[(.object "java/lang/String")], some .int⟩ := by decide +kernel
theorem own_d8_4 : decode prog_10_method_2_code 4 = .ok (.ifCond .ge 7, 3) := by decide +kernel
theorem own_d8_7 : decode prog_10_method_2_code 7 = .ok (.iconst 1, 1) := by decide +kernel
theorem own_d8_8 : decode prog_10_method_2_code 8 = .ok (.goto 4, 3) := by decide +kernel
theorem own_d8_12 : decode prog_10_method_2_code 12 = .ok (.ireturn, 1) := by decide +kernel
theorem own_d8_11 : decode prog_10_method_2_code 11 = .ok (.iconst 0, 1) := by decide +kernel
def Q_pr0 (Z : State) (z : Int32) (a1 t : Addr) (kb : ClassId) (cd N : Int32) (vs : List Value) (fm : Value) (h0 : Heap) (n0 : Nat) (v : Option Value) (h : Heap) (L : List Loc) : Prop := ∃ r : Int32, v = some (.int r) ∧ Fr n0 L ∧ h = h0 ∧ ((r = 1 ∧ (True)) ∨ (r = 0 ∧ ¬ (True)))
theorem rm_pr0 (l : Launch) (Z : State) (a0 : Array Value) (hw : own_H a0 Z) (ws : List Jvm.Cond) (z : Int32) (a1 t : Addr) (kb : ClassId) (cd N : Int32) (vs : List Value) (fm : Value) (h0 : Heap) (n0 : Nat) (Z0 : n0 ≤ h0.size) (O : Old Z n0 h0) (SC : Sta Z Z.heap "java/lang/String" "COMPACT_STRINGS" "Z" (.int z)) (hz : ¬ z = 0) (SF : Sta Z Z.heap "jdk/internal/util/Preconditions" "SIOOBE_FORMATTER" "Ljava/util/function/BiFunction;" fm) (rfm : fm.isRef = true) (SU0 : Sta Z Z.heap "java/lang/StringUTF16" "$assertionsDisabled" "Z" (.int (1 : Int32))) (SU1 : Sta Z Z.heap "java/lang/StringUTF16" "HI_BYTE_SHIFT" "I" (.int (0 : Int32))) (SU2 : Sta Z Z.heap "java/lang/StringUTF16" "LO_BYTE_SHIFT" "I" (.int (8 : Int32))) (E1 : Exa Z h0 a1 "java/lang/String") (F1 : Fld Z h0 a1 "java/lang/String" "coder" "B" (.int cd)) (F2 : Fld Z h0 a1 "java/lang/String" "value" "[B" (.ref t)) (A1 : Arv Z h0 t kb .byte N vs (.int 0)) (hlen : N >>> (nar .byte cd &&& 31) = (0 : Int32)) : own_MP l (⟨"com/example/entitl/entitl/Names", "printable", "(Ljava/lang/String;)Z"⟩ : MethodName) prog_10_method_2_code 1 (some .boolean) ws ({ frames := 6, cells := 0, slots := 0, locals := 94 } : Room) Z h0 #[(.ref a1)] (fun _ _ _ _ _ => True) (Q_pr0 Z z a1 t kb cd N vs fm h0 n0) := by
  refine own_startP (plainFor_of_name own_pn_com_example_entitl_entitl_Names) fun p e s m below meth c s₁ Bd hx hby hml hown0 X0 e0 hh0 hZ hK Pst hPst => ?_
  have hown : s.vm.findClass "com/example/entitl/entitl/Names" = some m.cls := hown0
  have hnm := (name_of_methodNamed Bd.named Bd.method).1
  have N0 := Fr.nil n0
  rw [own_ef_R_1 m a1]
  refine own_x_aloadN X0.here hx (hb hby own_d8_0) rfl rfl ?_
  refine own_cF X0 (Jvm.LawKit.callS X0 hx (y := (⟨"com/example/entitl/entitl/Names", "unprintableAt", "(Ljava/lang/String;)I"⟩ : MethodName)) hown (mvT hZ (own_w40 hw)) (mvT hZ (own_w41 hw)) (mvT hZ (own_w38 hw)) (mvT hZ (own_w42 hw)) (by decide) (backOf (W := 0) (rm_un0 l Z a0 hw [] z a1 t kb cd N vs fm  h0 n0 Z0 O SC hz SF rfm SU0 SU1 SU2 E1 F1 F2 A1 hlen ) hZ (own_w42 hw) (own_w38 hw) (by decide) (by decide)) (g := (mkF m 1 #[.val (.ref a1)] [(.ref a1)])) rfl (by rw [hml]; rfl) (argsL := [(.ref a1)]) (rest := []) (lenOf own_pd16 rfl) rfl (by show 2 * 0 + _ ≤ _; exact Nat.le_of_eq rfl) (hb hby own_d8_1) (fun _ _ => ⟨rfl, e0, (by decide : 0 + 0 ≤ _), (by decide : 0 + 0 ≤ _)⟩)) fun v101 T101 L101 X101 hQ101 => ?_
  obtain ⟨r101, rfl, Nq101, e101, q101⟩ := hQ101
  have N101 := Fr.app N0 Nq101
  show own_Go p e below Pst (T101.setTop (mkF m 4 #[.val (.ref a1)] [(.int r101)]))
  by_cases hr : r101 < (0 : Int32)
  · refine own_x_ifNo X101.here hx (hb hby own_d8_4) rfl ((if0 _ _).trans (tlt hr).2.1) ?_
    refine own_x_iconst X101.here hx (hb hby own_d8_7) (z := (1 : Int32)) rfl ?_
    refine own_x_goto X101.here hx (pc0 := 8) (pc' := 12) rfl (hb hby own_d8_8) (by decide) (by decide) ?_
    rw [hPst]
    exact own_retP X101 (v := (some (.int (nar .boolean (1 : Int32))))) (Q := Q_pr0 Z z a1 t kb cd N vs fm h0 n0) (fun h => by rw [Bd.returns] at h; cases h) Bd.notSynchronized (fun fs hr => retN X101 hx (t := .boolean) Bd.returns (by simp) (hb hby own_d8_12) hr) (by decide) (by decide) (by rw [e101]; exact ⟨_, rfl, N101, rfl, Or.inl ⟨rfl, q101.mp hr⟩⟩)
  · refine own_x_ifYes X101.here hx (pc0 := 4) (pc' := 11) rfl (hb hby own_d8_4) rfl ((if0 _ _).trans (flt hr).2.1) (by decide) (by decide) ?_
    refine own_x_iconst X101.here hx (hb hby own_d8_11) (z := (0 : Int32)) rfl ?_
    rw [hPst]
    exact own_retP X101 (v := (some (.int (nar .boolean (0 : Int32))))) (Q := Q_pr0 Z z a1 t kb cd N vs fm h0 n0) (fun h => by rw [Bd.returns] at h; cases h) Bd.notSynchronized (fun fs hr => retN X101 hx (t := .boolean) Bd.returns (by simp) (hb hby own_d8_12) hr) (by decide) (by decide) (by rw [e101]; exact ⟨_, rfl, N101, rfl, Or.inr ⟨rfl, fun q => hr (q101.mpr q)⟩⟩)
theorem own_d9_10 : decode prog_10_method_5_code 10 = .ok (.aload_n 0, 1) := by decide +kernel
theorem own_d9_11 : decode prog_10_method_5_code 11 = .ok (.iload_n 1, 1) := by decide +kernel
theorem own_d9_12 : decode prog_10_method_5_code 12 = .ok (.invokevirtual 13, 3) := by decide +kernel
theorem own_pd17 : parseMethodDescriptor "(I)C" = some ⟨[.int], some .char⟩ := by decide +kernel
theorem own_d9_15 : decode prog_10_method_5_code 15 = .ok (.istore_n 2, 1) := by decide +kernel
theorem own_d9_16 : decode prog_10_method_5_code 16 = .ok (.iload_n 2, 1) := by decide +kernel
theorem own_d9_17 : decode prog_10_method_5_code 17 = .ok (.invokestatic 56, 3) := by decide +kernel
theorem own_pd18 : parseMethodDescriptor "(C)Z" = some ⟨[.char], some .boolean⟩ := by decide +kernel
theorem own_d9_20 : decode prog_10_method_5_code 20 = .ok (.ifCond .ne 17, 3) := by decide +kernel
theorem own_d9_23 : decode prog_10_method_5_code 23 = .ok (.iload_n 2, 1) := by decide +kernel
theorem own_d9_24 : decode prog_10_method_5_code 24 = .ok (.sipush 8232, 3) := by decide +kernel
theorem own_d9_27 : decode prog_10_method_5_code 27 = .ok (.if_icmp .eq 10, 3) := by decide +kernel
theorem own_d9_37 : decode prog_10_method_5_code 37 = .ok (.iload_n 1, 1) := by decide +kernel
theorem own_d9_38 : decode prog_10_method_5_code 38 = .ok (.ireturn, 1) := by decide +kernel
theorem own_d9_30 : decode prog_10_method_5_code 30 = .ok (.iload_n 2, 1) := by decide +kernel
theorem own_d9_31 : decode prog_10_method_5_code 31 = .ok (.sipush 8233, 3) := by decide +kernel
theorem own_d9_34 : decode prog_10_method_5_code 34 = .ok (.if_icmp .ne 5, 3) := by decide +kernel
theorem own_d9_39 : decode prog_10_method_5_code 39 = .ok (.iinc 1 1, 3) := by decide +kernel
theorem own_d9_42 : decode prog_10_method_5_code 42 = .ok (.goto (-40), 3) := by decide +kernel
def Q_un1 (Z : State) (z : Int32) (a1 t : Addr) (kb : ClassId) (cd N : Int32) (vs : List Value) (fm : Value) (c0 : Int32) (h0 : Heap) (n0 : Nat) (v : Option Value) (h : Heap) (L : List Loc) : Prop := ∃ r : Int32, v = some (.int r) ∧ Fr n0 L ∧ h = h0 ∧ (r < 0 ↔ (¬ own_ub c0 ∧ True))
theorem rm_un1 (l : Launch) (Z : State) (a0 : Array Value) (hw : own_H a0 Z) (ws : List Jvm.Cond) (z : Int32) (a1 t : Addr) (kb : ClassId) (cd N : Int32) (vs : List Value) (fm : Value) (c0 : Int32) (h0 : Heap) (n0 : Nat) (Z0 : n0 ≤ h0.size) (O : Old Z n0 h0) (SC : Sta Z Z.heap "java/lang/String" "COMPACT_STRINGS" "Z" (.int z)) (hz : ¬ z = 0) (SF : Sta Z Z.heap "jdk/internal/util/Preconditions" "SIOOBE_FORMATTER" "Ljava/util/function/BiFunction;" fm) (rfm : fm.isRef = true) (SU0 : Sta Z Z.heap "java/lang/StringUTF16" "$assertionsDisabled" "Z" (.int (1 : Int32))) (SU1 : Sta Z Z.heap "java/lang/StringUTF16" "HI_BYTE_SHIFT" "I" (.int (0 : Int32))) (SU2 : Sta Z Z.heap "java/lang/StringUTF16" "LO_BYTE_SHIFT" "I" (.int (8 : Int32))) (E1 : Exa Z h0 a1 "java/lang/String") (F1 : Fld Z h0 a1 "java/lang/String" "coder" "B" (.int cd)) (F2 : Fld Z h0 a1 "java/lang/String" "value" "[B" (.ref t)) (A1 : Arv Z h0 t kb .byte N vs (.int 0)) (hlen : N >>> (nar .byte cd &&& 31) = (1 : Int32)) (hr0 : nar .char c0 = c0) (hc0 : own_at cd N vs c0 0 0 1 (0 : Int32) (1 : Int32)) : own_MP l (⟨"com/example/entitl/entitl/Names", "unprintableAt", "(Ljava/lang/String;)I"⟩ : MethodName) prog_10_method_5_code 3 (some .int) ws ({ frames := 5, cells := 0, slots := 0, locals := 80 } : Room) Z h0 #[(.ref a1)] (fun _ _ _ _ _ => True) (Q_un1 Z z a1 t kb cd N vs fm c0 h0 n0) := by
  refine own_startP (plainFor_of_name own_pn_com_example_entitl_entitl_Names) fun p e s m below meth c s₁ Bd hx hby hml hown0 X0 e0 hh0 hZ hK Pst hPst => ?_
  have hown : s.vm.findClass "com/example/entitl/entitl/Names" = some m.cls := hown0
  have hnm := (name_of_methodNamed Bd.named Bd.method).1
  have N0 := Fr.nil n0
  rw [own_ef_R_3 m a1]
  refine own_x_iconst X0.here hx (hb hby own_d9_0) (z := (0 : Int32)) rfl ?_
  refine own_x_istoreN X0.here hx (hb hby own_d9_1) rfl (l' := #[.val (.ref a1), .val (.int (0 : Int32)), .unset]) rfl ?_
  refine own_x_iloadN X0.here hx (hb hby own_d9_2) rfl ?_
  refine own_x_aloadN X0.here hx (hb hby own_d9_3) rfl rfl ?_
  obtain ⟨cq101, kq101, q101a, q101b, q101c⟩ := isOf hZ e0 E1
  refine own_cP X0 (X0.virtualBack hx (y := (⟨"java/lang/String", "length", "()I"⟩ : MethodName)) (z := (⟨"java/lang/String", "length", "()I"⟩ : MethodName)) hown (mvT hZ (own_w43 hw)) (mvT hZ (own_w44 hw)) (notFace_of_selects (args := #[]) (mvT hZ (own_w46 hw))) (mvT hZ (own_w46 hw)) (mvT hZ (own_w45 hw)) (by decide) (backOf (W := 1) (rm_len l Z a0 hw [] z a1 t kb cd N vs (.int 0) h0 n0 Z0 O SC hz E1 F1 F2 A1) hZ (own_w47 hw) (own_w9 hw) (by decide) (by decide)) q101a q101c (g := (mkF m 4 #[.val (.ref a1), .val (.int (0 : Int32)), .unset] [(.ref a1), (.int (0 : Int32))])) rfl (by rw [hml]; rfl) (Steps.refl _) (argsL := []) (rest := [(.int (0 : Int32))]) (lenOf own_pd15 rfl) rfl (by show 2 * 0 + _ ≤ _; exact Nat.le_of_eq rfl) (hb hby own_d9_4) (fun _ _ => ⟨rfl, e0, (by decide : 0 + 0 ≤ _), (by decide : 0 + 0 ≤ _)⟩)) fun v101 T101 L101 X101 hQ101 => ?_
  obtain ⟨rfl, Nq101, e101⟩ := hQ101
  have N101 := Fr.app N0 Nq101
  show own_Go p e below Pst (T101.setTop (mkF m 7 #[.val (.ref a1), .val (.int (0 : Int32)), .unset] [(.int (N >>> (nar .byte cd &&& 31))), (.int (0 : Int32))]))
  rw [hlen]
  show own_Go p e below Pst (T101.setTop (mkF m 7 #[.val (.ref a1), .val (.int (0 : Int32)), .unset] [(.int (1 : Int32)), (.int (0 : Int32))]))
  refine own_x_icmpNo X101.here hx (hb hby own_d9_7) rfl (tlt (by decide)).2.1 ?_
  refine own_x_aloadN X101.here hx (hb hby own_d9_10) rfl rfl ?_
  refine own_x_iloadN X101.here hx (hb hby own_d9_11) rfl ?_
  obtain ⟨cq102, kq102, q102a, q102b, q102c⟩ := isOf hZ e101 E1
  refine own_cP X101 (X101.virtualBack hx (y := (⟨"java/lang/String", "charAt", "(I)C"⟩ : MethodName)) (z := (⟨"java/lang/String", "charAt", "(I)C"⟩ : MethodName)) hown (mvT hZ (own_w53 hw)) (mvT hZ (own_w54 hw)) (notFace_of_selects (args := #[]) (mvT hZ (own_w56 hw))) (mvT hZ (own_w56 hw)) (mvT hZ (own_w55 hw)) (by decide) (backOf (W := 0) (rm_ch0 l Z a0 hw [] z a1 t kb cd N c0 vs fm h0 n0 Z0 O SC hz SF rfm SU0 SU1 SU2 E1 F1 F2 A1 hr0 hc0) hZ (own_w57 hw) (own_w9 hw) (by decide) (by decide)) q102a q102c (g := (mkF m 12 #[.val (.ref a1), .val (.int (0 : Int32)), .unset] [(.int (0 : Int32)), (.ref a1)])) rfl (by rw [hml]; rfl) (Steps.refl _) (argsL := [(.int (0 : Int32))]) (rest := []) (lenOf own_pd17 rfl) rfl (by show 2 * 0 + _ ≤ _; exact Nat.le_of_eq rfl) (hb hby own_d9_12) (fun _ _ => ⟨rfl, e101, (by decide : 0 + 0 ≤ _), (by decide : 0 + 0 ≤ _)⟩)) fun v102 T102 L102 X102 hQ102 => ?_
  obtain ⟨rfl, Nq102, e102⟩ := hQ102
  have N102 := Fr.app N101 Nq102
  show own_Go p e below Pst (T102.setTop (mkF m 15 #[.val (.ref a1), .val (.int (0 : Int32)), .unset] [(.int c0)]))
  refine own_x_istoreN X102.here hx (hb hby own_d9_15) rfl (l' := #[.val (.ref a1), .val (.int (0 : Int32)), .val (.int c0)]) rfl ?_
  refine own_x_iloadN X102.here hx (hb hby own_d9_16) rfl ?_
  refine own_cF X102 (Jvm.LawKit.callS X102 hx (y := (⟨"java/lang/Character", "isISOControl", "(C)Z"⟩ : MethodName)) hown (mvT hZ (own_w75 hw)) (mvT hZ (own_w76 hw)) (mvT hZ (own_w77 hw)) (mvT hZ (own_w78 hw)) (by decide) (backOf (W := 0) (rm_isoc l Z a0 hw [] c0 h0 n0 Z0 ) hZ (own_w78 hw) (own_w77 hw) (by decide) (by decide)) (g := (mkF m 17 #[.val (.ref a1), .val (.int (0 : Int32)), .val (.int c0)] [(.int c0)])) rfl (by rw [hml]; rfl) (argsL := [(.int c0)]) (rest := []) (lenOf own_pd18 rfl) rfl (by show 2 * 0 + _ ≤ _; exact Nat.le_of_eq rfl) (hb hby own_d9_17) (fun _ _ => ⟨rfl, e102, (by decide : 0 + 0 ≤ _), (by decide : 0 + 0 ≤ _)⟩)) fun v103 T103 L103 X103 hQ103 => ?_
  obtain ⟨rfl, Nq103, e103⟩ := hQ103
  have N103 := Fr.app N102 Nq103
  show own_Go p e below Pst (T103.setTop (mkF m 20 #[.val (.ref a1), .val (.int (0 : Int32)), .val (.int c0)] [(.int (own_iso c0))]))
  by_cases y0 : own_iso c0 = (0 : Int32)
  · refine own_x_ifNo X103.here hx (hb hby own_d9_20) rfl ((if0 _ _).trans (teq y0).2) ?_
    refine own_x_iloadN X103.here hx (hb hby own_d9_23) rfl ?_
    refine own_x_sipush X103.here hx (hb hby own_d9_24) (z := (8232 : Int32)) rfl ?_
    by_cases x0 : c0 = (8232 : Int32)
    · refine own_x_icmpYes X103.here hx (pc0 := 27) (pc' := 37) rfl (hb hby own_d9_27) rfl (teq x0).1 (by decide) (by decide) ?_
      refine own_x_iloadN X103.here hx (hb hby own_d9_37) rfl ?_
      rw [hPst]
      exact own_retP X103 (v := (some (.int (0 : Int32)))) (Q := Q_un1 Z z a1 t kb cd N vs fm c0 h0 n0) (fun h => by rw [Bd.returns] at h; cases h) Bd.notSynchronized (fun fs hr => own_retI X103 hx Bd.returns (hb hby own_d9_38) hr) (by decide) (by decide) (by rw [e103]; exact ⟨_, rfl, N103, rfl, ⟨fun q => absurd q (by decide), fun q => absurd (Or.inr (Or.inl x0)) q.1⟩⟩)
    · refine own_x_icmpNo X103.here hx (hb hby own_d9_27) rfl (feq x0).1 ?_
      refine own_x_iloadN X103.here hx (hb hby own_d9_30) rfl ?_
      refine own_x_sipush X103.here hx (hb hby own_d9_31) (z := (8233 : Int32)) rfl ?_
      by_cases w0 : c0 = (8233 : Int32)
      · refine own_x_icmpNo X103.here hx (hb hby own_d9_34) rfl (teq w0).2 ?_
        refine own_x_iloadN X103.here hx (hb hby own_d9_37) rfl ?_
        rw [hPst]
        exact own_retP X103 (v := (some (.int (0 : Int32)))) (Q := Q_un1 Z z a1 t kb cd N vs fm c0 h0 n0) (fun h => by rw [Bd.returns] at h; cases h) Bd.notSynchronized (fun fs hr => own_retI X103 hx Bd.returns (hb hby own_d9_38) hr) (by decide) (by decide) (by rw [e103]; exact ⟨_, rfl, N103, rfl, ⟨fun q => absurd q (by decide), fun q => absurd (Or.inr (Or.inr w0)) q.1⟩⟩)
      · refine own_x_icmpYes X103.here hx (pc0 := 34) (pc' := 39) rfl (hb hby own_d9_34) rfl (feq w0).2 (by decide) (by decide) ?_
        refine own_x_iinc X103.here hx (hb hby own_d9_39) rfl (l' := #[.val (.ref a1), .val (.int ((0 : Int32) + (1 : Int32))), .val (.int c0)]) rfl ?_
        rw [show ((0 : Int32) + (1 : Int32)) = (1 : Int32) from by decide]
        show own_Go p e below Pst (T103.setTop (mkF m 42 #[.val (.ref a1), .val (.int (1 : Int32)), .val (.int c0)] []))
        refine own_x_goto X103.here hx (pc0 := 42) (pc' := 2) rfl (hb hby own_d9_42) (by decide) (by decide) ?_
        have g0 : ¬ own_ub c0 := fun q => q.elim (fun q => q y0) (fun q => q.elim x0 w0)
        refine own_x_iloadN X103.here hx (hb hby own_d9_2) rfl ?_
        refine own_x_aloadN X103.here hx (hb hby own_d9_3) rfl rfl ?_
        obtain ⟨cq104, kq104, q104a, q104b, q104c⟩ := isOf hZ e103 E1
        refine own_cP X103 (X103.virtualBack hx (y := (⟨"java/lang/String", "length", "()I"⟩ : MethodName)) (z := (⟨"java/lang/String", "length", "()I"⟩ : MethodName)) hown (mvT hZ (own_w43 hw)) (mvT hZ (own_w44 hw)) (notFace_of_selects (args := #[]) (mvT hZ (own_w46 hw))) (mvT hZ (own_w46 hw)) (mvT hZ (own_w45 hw)) (by decide) (backOf (W := 1) (rm_len l Z a0 hw [] z a1 t kb cd N vs (.int 0) h0 n0 Z0 O SC hz E1 F1 F2 A1) hZ (own_w47 hw) (own_w9 hw) (by decide) (by decide)) q104a q104c (g := (mkF m 4 #[.val (.ref a1), .val (.int (1 : Int32)), .val (.int c0)] [(.ref a1), (.int (1 : Int32))])) rfl (by rw [hml]; rfl) (Steps.refl _) (argsL := []) (rest := [(.int (1 : Int32))]) (lenOf own_pd15 rfl) rfl (by show 2 * 0 + _ ≤ _; exact Nat.le_of_eq rfl) (hb hby own_d9_4) (fun _ _ => ⟨rfl, e103, (by decide : 0 + 0 ≤ _), (by decide : 0 + 0 ≤ _)⟩)) fun v104 T104 L104 X104 hQ104 => ?_
        obtain ⟨rfl, Nq104, e104⟩ := hQ104
        have N104 := Fr.app N103 Nq104
        show own_Go p e below Pst (T104.setTop (mkF m 7 #[.val (.ref a1), .val (.int (1 : Int32)), .val (.int c0)] [(.int (N >>> (nar .byte cd &&& 31))), (.int (1 : Int32))]))
        rw [hlen]
        show own_Go p e below Pst (T104.setTop (mkF m 7 #[.val (.ref a1), .val (.int (1 : Int32)), .val (.int c0)] [(.int (1 : Int32)), (.int (1 : Int32))]))
        refine own_x_icmpYes X104.here hx (pc0 := 7) (pc' := 45) rfl (hb hby own_d9_7) rfl (flt (by decide)).2.1 (by decide) (by decide) ?_
        refine own_x_iconst X104.here hx (hb hby own_d9_45) (z := (-1 : Int32)) (by decide) ?_
        rw [hPst]
        exact own_retP X104 (v := (some (.int (-1 : Int32)))) (Q := Q_un1 Z z a1 t kb cd N vs fm c0 h0 n0) (fun h => by rw [Bd.returns] at h; cases h) Bd.notSynchronized (fun fs hr => own_retI X104 hx Bd.returns (hb hby own_d9_46) hr) (by decide) (by decide) (by rw [e104]; exact ⟨_, rfl, N104, rfl, ⟨fun _ => ⟨g0, trivial⟩, fun _ => by decide⟩⟩)
  · refine own_x_ifYes X103.here hx (pc0 := 20) (pc' := 37) rfl (hb hby own_d9_20) rfl ((if0 _ _).trans (feq y0).2) (by decide) (by decide) ?_
    refine own_x_iloadN X103.here hx (hb hby own_d9_37) rfl ?_
    rw [hPst]
    exact own_retP X103 (v := (some (.int (0 : Int32)))) (Q := Q_un1 Z z a1 t kb cd N vs fm c0 h0 n0) (fun h => by rw [Bd.returns] at h; cases h) Bd.notSynchronized (fun fs hr => own_retI X103 hx Bd.returns (hb hby own_d9_38) hr) (by decide) (by decide) (by rw [e103]; exact ⟨_, rfl, N103, rfl, ⟨fun q => absurd q (by decide), fun q => absurd (Or.inl y0) q.1⟩⟩)
def Q_pr1 (Z : State) (z : Int32) (a1 t : Addr) (kb : ClassId) (cd N : Int32) (vs : List Value) (fm : Value) (c0 : Int32) (h0 : Heap) (n0 : Nat) (v : Option Value) (h : Heap) (L : List Loc) : Prop := ∃ r : Int32, v = some (.int r) ∧ Fr n0 L ∧ h = h0 ∧ ((r = 1 ∧ (¬ own_ub c0 ∧ True)) ∨ (r = 0 ∧ ¬ (¬ own_ub c0 ∧ True)))
theorem rm_pr1 (l : Launch) (Z : State) (a0 : Array Value) (hw : own_H a0 Z) (ws : List Jvm.Cond) (z : Int32) (a1 t : Addr) (kb : ClassId) (cd N : Int32) (vs : List Value) (fm : Value) (c0 : Int32) (h0 : Heap) (n0 : Nat) (Z0 : n0 ≤ h0.size) (O : Old Z n0 h0) (SC : Sta Z Z.heap "java/lang/String" "COMPACT_STRINGS" "Z" (.int z)) (hz : ¬ z = 0) (SF : Sta Z Z.heap "jdk/internal/util/Preconditions" "SIOOBE_FORMATTER" "Ljava/util/function/BiFunction;" fm) (rfm : fm.isRef = true) (SU0 : Sta Z Z.heap "java/lang/StringUTF16" "$assertionsDisabled" "Z" (.int (1 : Int32))) (SU1 : Sta Z Z.heap "java/lang/StringUTF16" "HI_BYTE_SHIFT" "I" (.int (0 : Int32))) (SU2 : Sta Z Z.heap "java/lang/StringUTF16" "LO_BYTE_SHIFT" "I" (.int (8 : Int32))) (E1 : Exa Z h0 a1 "java/lang/String") (F1 : Fld Z h0 a1 "java/lang/String" "coder" "B" (.int cd)) (F2 : Fld Z h0 a1 "java/lang/String" "value" "[B" (.ref t)) (A1 : Arv Z h0 t kb .byte N vs (.int 0)) (hlen : N >>> (nar .byte cd &&& 31) = (1 : Int32)) (hr0 : nar .char c0 = c0) (hc0 : own_at cd N vs c0 0 0 1 (0 : Int32) (1 : Int32)) : own_MP l (⟨"com/example/entitl/entitl/Names", "printable", "(Ljava/lang/String;)Z"⟩ : MethodName) prog_10_method_2_code 1 (some .boolean) ws ({ frames := 6, cells := 0, slots := 0, locals := 94 } : Room) Z h0 #[(.ref a1)] (fun _ _ _ _ _ => True) (Q_pr1 Z z a1 t kb cd N vs fm c0 h0 n0) := by
  refine own_startP (plainFor_of_name own_pn_com_example_entitl_entitl_Names) fun p e s m below meth c s₁ Bd hx hby hml hown0 X0 e0 hh0 hZ hK Pst hPst => ?_
  have hown : s.vm.findClass "com/example/entitl/entitl/Names" = some m.cls := hown0
  have hnm := (name_of_methodNamed Bd.named Bd.method).1
  have N0 := Fr.nil n0
  rw [own_ef_R_1 m a1]
  refine own_x_aloadN X0.here hx (hb hby own_d8_0) rfl rfl ?_
  refine own_cF X0 (Jvm.LawKit.callS X0 hx (y := (⟨"com/example/entitl/entitl/Names", "unprintableAt", "(Ljava/lang/String;)I"⟩ : MethodName)) hown (mvT hZ (own_w40 hw)) (mvT hZ (own_w41 hw)) (mvT hZ (own_w38 hw)) (mvT hZ (own_w42 hw)) (by decide) (backOf (W := 0) (rm_un1 l Z a0 hw [] z a1 t kb cd N vs fm c0 h0 n0 Z0 O SC hz SF rfm SU0 SU1 SU2 E1 F1 F2 A1 hlen hr0 hc0) hZ (own_w42 hw) (own_w38 hw) (by decide) (by decide)) (g := (mkF m 1 #[.val (.ref a1)] [(.ref a1)])) rfl (by rw [hml]; rfl) (argsL := [(.ref a1)]) (rest := []) (lenOf own_pd16 rfl) rfl (by show 2 * 0 + _ ≤ _; exact Nat.le_of_eq rfl) (hb hby own_d8_1) (fun _ _ => ⟨rfl, e0, (by decide : 0 + 0 ≤ _), (by decide : 0 + 0 ≤ _)⟩)) fun v101 T101 L101 X101 hQ101 => ?_
  obtain ⟨r101, rfl, Nq101, e101, q101⟩ := hQ101
  have N101 := Fr.app N0 Nq101
  show own_Go p e below Pst (T101.setTop (mkF m 4 #[.val (.ref a1)] [(.int r101)]))
  by_cases hr : r101 < (0 : Int32)
  · refine own_x_ifNo X101.here hx (hb hby own_d8_4) rfl ((if0 _ _).trans (tlt hr).2.1) ?_
    refine own_x_iconst X101.here hx (hb hby own_d8_7) (z := (1 : Int32)) rfl ?_
    refine own_x_goto X101.here hx (pc0 := 8) (pc' := 12) rfl (hb hby own_d8_8) (by decide) (by decide) ?_
    rw [hPst]
    exact own_retP X101 (v := (some (.int (nar .boolean (1 : Int32))))) (Q := Q_pr1 Z z a1 t kb cd N vs fm c0 h0 n0) (fun h => by rw [Bd.returns] at h; cases h) Bd.notSynchronized (fun fs hr => retN X101 hx (t := .boolean) Bd.returns (by simp) (hb hby own_d8_12) hr) (by decide) (by decide) (by rw [e101]; exact ⟨_, rfl, N101, rfl, Or.inl ⟨rfl, q101.mp hr⟩⟩)
  · refine own_x_ifYes X101.here hx (pc0 := 4) (pc' := 11) rfl (hb hby own_d8_4) rfl ((if0 _ _).trans (flt hr).2.1) (by decide) (by decide) ?_
    refine own_x_iconst X101.here hx (hb hby own_d8_11) (z := (0 : Int32)) rfl ?_
    rw [hPst]
    exact own_retP X101 (v := (some (.int (nar .boolean (0 : Int32))))) (Q := Q_pr1 Z z a1 t kb cd N vs fm c0 h0 n0) (fun h => by rw [Bd.returns] at h; cases h) Bd.notSynchronized (fun fs hr => retN X101 hx (t := .boolean) Bd.returns (by simp) (hb hby own_d8_12) hr) (by decide) (by decide) (by rw [e101]; exact ⟨_, rfl, N101, rfl, Or.inr ⟨rfl, fun q => hr (q101.mpr q)⟩⟩)
def Q_un2 (Z : State) (z : Int32) (a1 t : Addr) (kb : ClassId) (cd N : Int32) (vs : List Value) (fm : Value) (c0 c1 : Int32) (h0 : Heap) (n0 : Nat) (v : Option Value) (h : Heap) (L : List Loc) : Prop := ∃ r : Int32, v = some (.int r) ∧ Fr n0 L ∧ h = h0 ∧ (r < 0 ↔ (¬ own_ub c0 ∧ ¬ own_ub c1 ∧ True))
theorem rm_un2 (l : Launch) (Z : State) (a0 : Array Value) (hw : own_H a0 Z) (ws : List Jvm.Cond) (z : Int32) (a1 t : Addr) (kb : ClassId) (cd N : Int32) (vs : List Value) (fm : Value) (c0 c1 : Int32) (h0 : Heap) (n0 : Nat) (Z0 : n0 ≤ h0.size) (O : Old Z n0 h0) (SC : Sta Z Z.heap "java/lang/String" "COMPACT_STRINGS" "Z" (.int z)) (hz : ¬ z = 0) (SF : Sta Z Z.heap "jdk/internal/util/Preconditions" "SIOOBE_FORMATTER" "Ljava/util/function/BiFunction;" fm) (rfm : fm.isRef = true) (SU0 : Sta Z Z.heap "java/lang/StringUTF16" "$assertionsDisabled" "Z" (.int (1 : Int32))) (SU1 : Sta Z Z.heap "java/lang/StringUTF16" "HI_BYTE_SHIFT" "I" (.int (0 : Int32))) (SU2 : Sta Z Z.heap "java/lang/StringUTF16" "LO_BYTE_SHIFT" "I" (.int (8 : Int32))) (E1 : Exa Z h0 a1 "java/lang/String") (F1 : Fld Z h0 a1 "java/lang/String" "coder" "B" (.int cd)) (F2 : Fld Z h0 a1 "java/lang/String" "value" "[B" (.ref t)) (A1 : Arv Z h0 t kb .byte N vs (.int 0)) (hlen : N >>> (nar .byte cd &&& 31) = (2 : Int32)) (hr0 : nar .char c0 = c0) (hr1 : nar .char c1 = c1) (hc0 : own_at cd N vs c0 0 0 1 (0 : Int32) (1 : Int32)) (hc1 : own_at cd N vs c1 1 2 3 (1 : Int32) (3 : Int32)) : own_MP l (⟨"com/example/entitl/entitl/Names", "unprintableAt", "(Ljava/lang/String;)I"⟩ : MethodName) prog_10_method_5_code 3 (some .int) ws ({ frames := 5, cells := 0, slots := 0, locals := 80 } : Room) Z h0 #[(.ref a1)] (fun _ _ _ _ _ => True) (Q_un2 Z z a1 t kb cd N vs fm c0 c1 h0 n0) := by
  refine own_startP (plainFor_of_name own_pn_com_example_entitl_entitl_Names) fun p e s m below meth c s₁ Bd hx hby hml hown0 X0 e0 hh0 hZ hK Pst hPst => ?_
  have hown : s.vm.findClass "com/example/entitl/entitl/Names" = some m.cls := hown0
  have hnm := (name_of_methodNamed Bd.named Bd.method).1
  have N0 := Fr.nil n0
  rw [own_ef_R_3 m a1]
  refine own_x_iconst X0.here hx (hb hby own_d9_0) (z := (0 : Int32)) rfl ?_
  refine own_x_istoreN X0.here hx (hb hby own_d9_1) rfl (l' := #[.val (.ref a1), .val (.int (0 : Int32)), .unset]) rfl ?_
  refine own_x_iloadN X0.here hx (hb hby own_d9_2) rfl ?_
  refine own_x_aloadN X0.here hx (hb hby own_d9_3) rfl rfl ?_
  obtain ⟨cq101, kq101, q101a, q101b, q101c⟩ := isOf hZ e0 E1
  refine own_cP X0 (X0.virtualBack hx (y := (⟨"java/lang/String", "length", "()I"⟩ : MethodName)) (z := (⟨"java/lang/String", "length", "()I"⟩ : MethodName)) hown (mvT hZ (own_w43 hw)) (mvT hZ (own_w44 hw)) (notFace_of_selects (args := #[]) (mvT hZ (own_w46 hw))) (mvT hZ (own_w46 hw)) (mvT hZ (own_w45 hw)) (by decide) (backOf (W := 1) (rm_len l Z a0 hw [] z a1 t kb cd N vs (.int 0) h0 n0 Z0 O SC hz E1 F1 F2 A1) hZ (own_w47 hw) (own_w9 hw) (by decide) (by decide)) q101a q101c (g := (mkF m 4 #[.val (.ref a1), .val (.int (0 : Int32)), .unset] [(.ref a1), (.int (0 : Int32))])) rfl (by rw [hml]; rfl) (Steps.refl _) (argsL := []) (rest := [(.int (0 : Int32))]) (lenOf own_pd15 rfl) rfl (by show 2 * 0 + _ ≤ _; exact Nat.le_of_eq rfl) (hb hby own_d9_4) (fun _ _ => ⟨rfl, e0, (by decide : 0 + 0 ≤ _), (by decide : 0 + 0 ≤ _)⟩)) fun v101 T101 L101 X101 hQ101 => ?_
  obtain ⟨rfl, Nq101, e101⟩ := hQ101
  have N101 := Fr.app N0 Nq101
  show own_Go p e below Pst (T101.setTop (mkF m 7 #[.val (.ref a1), .val (.int (0 : Int32)), .unset] [(.int (N >>> (nar .byte cd &&& 31))), (.int (0 : Int32))]))
  rw [hlen]
  show own_Go p e below Pst (T101.setTop (mkF m 7 #[.val (.ref a1), .val (.int (0 : Int32)), .unset] [(.int (2 : Int32)), (.int (0 : Int32))]))
  refine own_x_icmpNo X101.here hx (hb hby own_d9_7) rfl (tlt (by decide)).2.1 ?_
  refine own_x_aloadN X101.here hx (hb hby own_d9_10) rfl rfl ?_
  refine own_x_iloadN X101.here hx (hb hby own_d9_11) rfl ?_
  obtain ⟨cq102, kq102, q102a, q102b, q102c⟩ := isOf hZ e101 E1
  refine own_cP X101 (X101.virtualBack hx (y := (⟨"java/lang/String", "charAt", "(I)C"⟩ : MethodName)) (z := (⟨"java/lang/String", "charAt", "(I)C"⟩ : MethodName)) hown (mvT hZ (own_w53 hw)) (mvT hZ (own_w54 hw)) (notFace_of_selects (args := #[]) (mvT hZ (own_w56 hw))) (mvT hZ (own_w56 hw)) (mvT hZ (own_w55 hw)) (by decide) (backOf (W := 0) (rm_ch0 l Z a0 hw [] z a1 t kb cd N c0 vs fm h0 n0 Z0 O SC hz SF rfm SU0 SU1 SU2 E1 F1 F2 A1 hr0 hc0) hZ (own_w57 hw) (own_w9 hw) (by decide) (by decide)) q102a q102c (g := (mkF m 12 #[.val (.ref a1), .val (.int (0 : Int32)), .unset] [(.int (0 : Int32)), (.ref a1)])) rfl (by rw [hml]; rfl) (Steps.refl _) (argsL := [(.int (0 : Int32))]) (rest := []) (lenOf own_pd17 rfl) rfl (by show 2 * 0 + _ ≤ _; exact Nat.le_of_eq rfl) (hb hby own_d9_12) (fun _ _ => ⟨rfl, e101, (by decide : 0 + 0 ≤ _), (by decide : 0 + 0 ≤ _)⟩)) fun v102 T102 L102 X102 hQ102 => ?_
  obtain ⟨rfl, Nq102, e102⟩ := hQ102
  have N102 := Fr.app N101 Nq102
  show own_Go p e below Pst (T102.setTop (mkF m 15 #[.val (.ref a1), .val (.int (0 : Int32)), .unset] [(.int c0)]))
  refine own_x_istoreN X102.here hx (hb hby own_d9_15) rfl (l' := #[.val (.ref a1), .val (.int (0 : Int32)), .val (.int c0)]) rfl ?_
  refine own_x_iloadN X102.here hx (hb hby own_d9_16) rfl ?_
  refine own_cF X102 (Jvm.LawKit.callS X102 hx (y := (⟨"java/lang/Character", "isISOControl", "(C)Z"⟩ : MethodName)) hown (mvT hZ (own_w75 hw)) (mvT hZ (own_w76 hw)) (mvT hZ (own_w77 hw)) (mvT hZ (own_w78 hw)) (by decide) (backOf (W := 0) (rm_isoc l Z a0 hw [] c0 h0 n0 Z0 ) hZ (own_w78 hw) (own_w77 hw) (by decide) (by decide)) (g := (mkF m 17 #[.val (.ref a1), .val (.int (0 : Int32)), .val (.int c0)] [(.int c0)])) rfl (by rw [hml]; rfl) (argsL := [(.int c0)]) (rest := []) (lenOf own_pd18 rfl) rfl (by show 2 * 0 + _ ≤ _; exact Nat.le_of_eq rfl) (hb hby own_d9_17) (fun _ _ => ⟨rfl, e102, (by decide : 0 + 0 ≤ _), (by decide : 0 + 0 ≤ _)⟩)) fun v103 T103 L103 X103 hQ103 => ?_
  obtain ⟨rfl, Nq103, e103⟩ := hQ103
  have N103 := Fr.app N102 Nq103
  show own_Go p e below Pst (T103.setTop (mkF m 20 #[.val (.ref a1), .val (.int (0 : Int32)), .val (.int c0)] [(.int (own_iso c0))]))
  by_cases y0 : own_iso c0 = (0 : Int32)
  · refine own_x_ifNo X103.here hx (hb hby own_d9_20) rfl ((if0 _ _).trans (teq y0).2) ?_
    refine own_x_iloadN X103.here hx (hb hby own_d9_23) rfl ?_
    refine own_x_sipush X103.here hx (hb hby own_d9_24) (z := (8232 : Int32)) rfl ?_
    by_cases x0 : c0 = (8232 : Int32)
    · refine own_x_icmpYes X103.here hx (pc0 := 27) (pc' := 37) rfl (hb hby own_d9_27) rfl (teq x0).1 (by decide) (by decide) ?_
      refine own_x_iloadN X103.here hx (hb hby own_d9_37) rfl ?_
      rw [hPst]
      exact own_retP X103 (v := (some (.int (0 : Int32)))) (Q := Q_un2 Z z a1 t kb cd N vs fm c0 c1 h0 n0) (fun h => by rw [Bd.returns] at h; cases h) Bd.notSynchronized (fun fs hr => own_retI X103 hx Bd.returns (hb hby own_d9_38) hr) (by decide) (by decide) (by rw [e103]; exact ⟨_, rfl, N103, rfl, ⟨fun q => absurd q (by decide), fun q => absurd (Or.inr (Or.inl x0)) q.1⟩⟩)
    · refine own_x_icmpNo X103.here hx (hb hby own_d9_27) rfl (feq x0).1 ?_
      refine own_x_iloadN X103.here hx (hb hby own_d9_30) rfl ?_
      refine own_x_sipush X103.here hx (hb hby own_d9_31) (z := (8233 : Int32)) rfl ?_
      by_cases w0 : c0 = (8233 : Int32)
      · refine own_x_icmpNo X103.here hx (hb hby own_d9_34) rfl (teq w0).2 ?_
        refine own_x_iloadN X103.here hx (hb hby own_d9_37) rfl ?_
        rw [hPst]
        exact own_retP X103 (v := (some (.int (0 : Int32)))) (Q := Q_un2 Z z a1 t kb cd N vs fm c0 c1 h0 n0) (fun h => by rw [Bd.returns] at h; cases h) Bd.notSynchronized (fun fs hr => own_retI X103 hx Bd.returns (hb hby own_d9_38) hr) (by decide) (by decide) (by rw [e103]; exact ⟨_, rfl, N103, rfl, ⟨fun q => absurd q (by decide), fun q => absurd (Or.inr (Or.inr w0)) q.1⟩⟩)
      · refine own_x_icmpYes X103.here hx (pc0 := 34) (pc' := 39) rfl (hb hby own_d9_34) rfl (feq w0).2 (by decide) (by decide) ?_
        refine own_x_iinc X103.here hx (hb hby own_d9_39) rfl (l' := #[.val (.ref a1), .val (.int ((0 : Int32) + (1 : Int32))), .val (.int c0)]) rfl ?_
        rw [show ((0 : Int32) + (1 : Int32)) = (1 : Int32) from by decide]
        show own_Go p e below Pst (T103.setTop (mkF m 42 #[.val (.ref a1), .val (.int (1 : Int32)), .val (.int c0)] []))
        refine own_x_goto X103.here hx (pc0 := 42) (pc' := 2) rfl (hb hby own_d9_42) (by decide) (by decide) ?_
        have g0 : ¬ own_ub c0 := fun q => q.elim (fun q => q y0) (fun q => q.elim x0 w0)
        refine own_x_iloadN X103.here hx (hb hby own_d9_2) rfl ?_
        refine own_x_aloadN X103.here hx (hb hby own_d9_3) rfl rfl ?_
        obtain ⟨cq104, kq104, q104a, q104b, q104c⟩ := isOf hZ e103 E1
        refine own_cP X103 (X103.virtualBack hx (y := (⟨"java/lang/String", "length", "()I"⟩ : MethodName)) (z := (⟨"java/lang/String", "length", "()I"⟩ : MethodName)) hown (mvT hZ (own_w43 hw)) (mvT hZ (own_w44 hw)) (notFace_of_selects (args := #[]) (mvT hZ (own_w46 hw))) (mvT hZ (own_w46 hw)) (mvT hZ (own_w45 hw)) (by decide) (backOf (W := 1) (rm_len l Z a0 hw [] z a1 t kb cd N vs (.int 0) h0 n0 Z0 O SC hz E1 F1 F2 A1) hZ (own_w47 hw) (own_w9 hw) (by decide) (by decide)) q104a q104c (g := (mkF m 4 #[.val (.ref a1), .val (.int (1 : Int32)), .val (.int c0)] [(.ref a1), (.int (1 : Int32))])) rfl (by rw [hml]; rfl) (Steps.refl _) (argsL := []) (rest := [(.int (1 : Int32))]) (lenOf own_pd15 rfl) rfl (by show 2 * 0 + _ ≤ _; exact Nat.le_of_eq rfl) (hb hby own_d9_4) (fun _ _ => ⟨rfl, e103, (by decide : 0 + 0 ≤ _), (by decide : 0 + 0 ≤ _)⟩)) fun v104 T104 L104 X104 hQ104 => ?_
        obtain ⟨rfl, Nq104, e104⟩ := hQ104
        have N104 := Fr.app N103 Nq104
        show own_Go p e below Pst (T104.setTop (mkF m 7 #[.val (.ref a1), .val (.int (1 : Int32)), .val (.int c0)] [(.int (N >>> (nar .byte cd &&& 31))), (.int (1 : Int32))]))
        rw [hlen]
        show own_Go p e below Pst (T104.setTop (mkF m 7 #[.val (.ref a1), .val (.int (1 : Int32)), .val (.int c0)] [(.int (2 : Int32)), (.int (1 : Int32))]))
        refine own_x_icmpNo X104.here hx (hb hby own_d9_7) rfl (tlt (by decide)).2.1 ?_
        refine own_x_aloadN X104.here hx (hb hby own_d9_10) rfl rfl ?_
        refine own_x_iloadN X104.here hx (hb hby own_d9_11) rfl ?_
        obtain ⟨cq105, kq105, q105a, q105b, q105c⟩ := isOf hZ e104 E1
        refine own_cP X104 (X104.virtualBack hx (y := (⟨"java/lang/String", "charAt", "(I)C"⟩ : MethodName)) (z := (⟨"java/lang/String", "charAt", "(I)C"⟩ : MethodName)) hown (mvT hZ (own_w53 hw)) (mvT hZ (own_w54 hw)) (notFace_of_selects (args := #[]) (mvT hZ (own_w56 hw))) (mvT hZ (own_w56 hw)) (mvT hZ (own_w55 hw)) (by decide) (backOf (W := 0) (rm_ch1 l Z a0 hw [] z a1 t kb cd N c1 vs fm h0 n0 Z0 O SC hz SF rfm SU0 SU1 SU2 E1 F1 F2 A1 hr1 hc1) hZ (own_w57 hw) (own_w9 hw) (by decide) (by decide)) q105a q105c (g := (mkF m 12 #[.val (.ref a1), .val (.int (1 : Int32)), .val (.int c0)] [(.int (1 : Int32)), (.ref a1)])) rfl (by rw [hml]; rfl) (Steps.refl _) (argsL := [(.int (1 : Int32))]) (rest := []) (lenOf own_pd17 rfl) rfl (by show 2 * 0 + _ ≤ _; exact Nat.le_of_eq rfl) (hb hby own_d9_12) (fun _ _ => ⟨rfl, e104, (by decide : 0 + 0 ≤ _), (by decide : 0 + 0 ≤ _)⟩)) fun v105 T105 L105 X105 hQ105 => ?_
        obtain ⟨rfl, Nq105, e105⟩ := hQ105
        have N105 := Fr.app N104 Nq105
        show own_Go p e below Pst (T105.setTop (mkF m 15 #[.val (.ref a1), .val (.int (1 : Int32)), .val (.int c0)] [(.int c1)]))
        refine own_x_istoreN X105.here hx (hb hby own_d9_15) rfl (l' := #[.val (.ref a1), .val (.int (1 : Int32)), .val (.int c1)]) rfl ?_
        refine own_x_iloadN X105.here hx (hb hby own_d9_16) rfl ?_
        refine own_cF X105 (Jvm.LawKit.callS X105 hx (y := (⟨"java/lang/Character", "isISOControl", "(C)Z"⟩ : MethodName)) hown (mvT hZ (own_w75 hw)) (mvT hZ (own_w76 hw)) (mvT hZ (own_w77 hw)) (mvT hZ (own_w78 hw)) (by decide) (backOf (W := 0) (rm_isoc l Z a0 hw [] c1 h0 n0 Z0 ) hZ (own_w78 hw) (own_w77 hw) (by decide) (by decide)) (g := (mkF m 17 #[.val (.ref a1), .val (.int (1 : Int32)), .val (.int c1)] [(.int c1)])) rfl (by rw [hml]; rfl) (argsL := [(.int c1)]) (rest := []) (lenOf own_pd18 rfl) rfl (by show 2 * 0 + _ ≤ _; exact Nat.le_of_eq rfl) (hb hby own_d9_17) (fun _ _ => ⟨rfl, e105, (by decide : 0 + 0 ≤ _), (by decide : 0 + 0 ≤ _)⟩)) fun v106 T106 L106 X106 hQ106 => ?_
        obtain ⟨rfl, Nq106, e106⟩ := hQ106
        have N106 := Fr.app N105 Nq106
        show own_Go p e below Pst (T106.setTop (mkF m 20 #[.val (.ref a1), .val (.int (1 : Int32)), .val (.int c1)] [(.int (own_iso c1))]))
        by_cases y1 : own_iso c1 = (0 : Int32)
        · refine own_x_ifNo X106.here hx (hb hby own_d9_20) rfl ((if0 _ _).trans (teq y1).2) ?_
          refine own_x_iloadN X106.here hx (hb hby own_d9_23) rfl ?_
          refine own_x_sipush X106.here hx (hb hby own_d9_24) (z := (8232 : Int32)) rfl ?_
          by_cases x1 : c1 = (8232 : Int32)
          · refine own_x_icmpYes X106.here hx (pc0 := 27) (pc' := 37) rfl (hb hby own_d9_27) rfl (teq x1).1 (by decide) (by decide) ?_
            refine own_x_iloadN X106.here hx (hb hby own_d9_37) rfl ?_
            rw [hPst]
            exact own_retP X106 (v := (some (.int (1 : Int32)))) (Q := Q_un2 Z z a1 t kb cd N vs fm c0 c1 h0 n0) (fun h => by rw [Bd.returns] at h; cases h) Bd.notSynchronized (fun fs hr => own_retI X106 hx Bd.returns (hb hby own_d9_38) hr) (by decide) (by decide) (by rw [e106]; exact ⟨_, rfl, N106, rfl, ⟨fun q => absurd q (by decide), fun q => absurd (Or.inr (Or.inl x1)) q.2.1⟩⟩)
          · refine own_x_icmpNo X106.here hx (hb hby own_d9_27) rfl (feq x1).1 ?_
            refine own_x_iloadN X106.here hx (hb hby own_d9_30) rfl ?_
            refine own_x_sipush X106.here hx (hb hby own_d9_31) (z := (8233 : Int32)) rfl ?_
            by_cases w1 : c1 = (8233 : Int32)
            · refine own_x_icmpNo X106.here hx (hb hby own_d9_34) rfl (teq w1).2 ?_
              refine own_x_iloadN X106.here hx (hb hby own_d9_37) rfl ?_
              rw [hPst]
              exact own_retP X106 (v := (some (.int (1 : Int32)))) (Q := Q_un2 Z z a1 t kb cd N vs fm c0 c1 h0 n0) (fun h => by rw [Bd.returns] at h; cases h) Bd.notSynchronized (fun fs hr => own_retI X106 hx Bd.returns (hb hby own_d9_38) hr) (by decide) (by decide) (by rw [e106]; exact ⟨_, rfl, N106, rfl, ⟨fun q => absurd q (by decide), fun q => absurd (Or.inr (Or.inr w1)) q.2.1⟩⟩)
            · refine own_x_icmpYes X106.here hx (pc0 := 34) (pc' := 39) rfl (hb hby own_d9_34) rfl (feq w1).2 (by decide) (by decide) ?_
              refine own_x_iinc X106.here hx (hb hby own_d9_39) rfl (l' := #[.val (.ref a1), .val (.int ((1 : Int32) + (1 : Int32))), .val (.int c1)]) rfl ?_
              rw [show ((1 : Int32) + (1 : Int32)) = (2 : Int32) from by decide]
              show own_Go p e below Pst (T106.setTop (mkF m 42 #[.val (.ref a1), .val (.int (2 : Int32)), .val (.int c1)] []))
              refine own_x_goto X106.here hx (pc0 := 42) (pc' := 2) rfl (hb hby own_d9_42) (by decide) (by decide) ?_
              have g1 : ¬ own_ub c1 := fun q => q.elim (fun q => q y1) (fun q => q.elim x1 w1)
              refine own_x_iloadN X106.here hx (hb hby own_d9_2) rfl ?_
              refine own_x_aloadN X106.here hx (hb hby own_d9_3) rfl rfl ?_
              obtain ⟨cq107, kq107, q107a, q107b, q107c⟩ := isOf hZ e106 E1
              refine own_cP X106 (X106.virtualBack hx (y := (⟨"java/lang/String", "length", "()I"⟩ : MethodName)) (z := (⟨"java/lang/String", "length", "()I"⟩ : MethodName)) hown (mvT hZ (own_w43 hw)) (mvT hZ (own_w44 hw)) (notFace_of_selects (args := #[]) (mvT hZ (own_w46 hw))) (mvT hZ (own_w46 hw)) (mvT hZ (own_w45 hw)) (by decide) (backOf (W := 1) (rm_len l Z a0 hw [] z a1 t kb cd N vs (.int 0) h0 n0 Z0 O SC hz E1 F1 F2 A1) hZ (own_w47 hw) (own_w9 hw) (by decide) (by decide)) q107a q107c (g := (mkF m 4 #[.val (.ref a1), .val (.int (2 : Int32)), .val (.int c1)] [(.ref a1), (.int (2 : Int32))])) rfl (by rw [hml]; rfl) (Steps.refl _) (argsL := []) (rest := [(.int (2 : Int32))]) (lenOf own_pd15 rfl) rfl (by show 2 * 0 + _ ≤ _; exact Nat.le_of_eq rfl) (hb hby own_d9_4) (fun _ _ => ⟨rfl, e106, (by decide : 0 + 0 ≤ _), (by decide : 0 + 0 ≤ _)⟩)) fun v107 T107 L107 X107 hQ107 => ?_
              obtain ⟨rfl, Nq107, e107⟩ := hQ107
              have N107 := Fr.app N106 Nq107
              show own_Go p e below Pst (T107.setTop (mkF m 7 #[.val (.ref a1), .val (.int (2 : Int32)), .val (.int c1)] [(.int (N >>> (nar .byte cd &&& 31))), (.int (2 : Int32))]))
              rw [hlen]
              show own_Go p e below Pst (T107.setTop (mkF m 7 #[.val (.ref a1), .val (.int (2 : Int32)), .val (.int c1)] [(.int (2 : Int32)), (.int (2 : Int32))]))
              refine own_x_icmpYes X107.here hx (pc0 := 7) (pc' := 45) rfl (hb hby own_d9_7) rfl (flt (by decide)).2.1 (by decide) (by decide) ?_
              refine own_x_iconst X107.here hx (hb hby own_d9_45) (z := (-1 : Int32)) (by decide) ?_
              rw [hPst]
              exact own_retP X107 (v := (some (.int (-1 : Int32)))) (Q := Q_un2 Z z a1 t kb cd N vs fm c0 c1 h0 n0) (fun h => by rw [Bd.returns] at h; cases h) Bd.notSynchronized (fun fs hr => own_retI X107 hx Bd.returns (hb hby own_d9_46) hr) (by decide) (by decide) (by rw [e107]; exact ⟨_, rfl, N107, rfl, ⟨fun _ => ⟨g0, g1, trivial⟩, fun _ => by decide⟩⟩)
        · refine own_x_ifYes X106.here hx (pc0 := 20) (pc' := 37) rfl (hb hby own_d9_20) rfl ((if0 _ _).trans (feq y1).2) (by decide) (by decide) ?_
          refine own_x_iloadN X106.here hx (hb hby own_d9_37) rfl ?_
          rw [hPst]
          exact own_retP X106 (v := (some (.int (1 : Int32)))) (Q := Q_un2 Z z a1 t kb cd N vs fm c0 c1 h0 n0) (fun h => by rw [Bd.returns] at h; cases h) Bd.notSynchronized (fun fs hr => own_retI X106 hx Bd.returns (hb hby own_d9_38) hr) (by decide) (by decide) (by rw [e106]; exact ⟨_, rfl, N106, rfl, ⟨fun q => absurd q (by decide), fun q => absurd (Or.inl y1) q.2.1⟩⟩)
  · refine own_x_ifYes X103.here hx (pc0 := 20) (pc' := 37) rfl (hb hby own_d9_20) rfl ((if0 _ _).trans (feq y0).2) (by decide) (by decide) ?_
    refine own_x_iloadN X103.here hx (hb hby own_d9_37) rfl ?_
    rw [hPst]
    exact own_retP X103 (v := (some (.int (0 : Int32)))) (Q := Q_un2 Z z a1 t kb cd N vs fm c0 c1 h0 n0) (fun h => by rw [Bd.returns] at h; cases h) Bd.notSynchronized (fun fs hr => own_retI X103 hx Bd.returns (hb hby own_d9_38) hr) (by decide) (by decide) (by rw [e103]; exact ⟨_, rfl, N103, rfl, ⟨fun q => absurd q (by decide), fun q => absurd (Or.inl y0) q.1⟩⟩)
def Q_pr2 (Z : State) (z : Int32) (a1 t : Addr) (kb : ClassId) (cd N : Int32) (vs : List Value) (fm : Value) (c0 c1 : Int32) (h0 : Heap) (n0 : Nat) (v : Option Value) (h : Heap) (L : List Loc) : Prop := ∃ r : Int32, v = some (.int r) ∧ Fr n0 L ∧ h = h0 ∧ ((r = 1 ∧ (¬ own_ub c0 ∧ ¬ own_ub c1 ∧ True)) ∨ (r = 0 ∧ ¬ (¬ own_ub c0 ∧ ¬ own_ub c1 ∧ True)))
theorem rm_pr2 (l : Launch) (Z : State) (a0 : Array Value) (hw : own_H a0 Z) (ws : List Jvm.Cond) (z : Int32) (a1 t : Addr) (kb : ClassId) (cd N : Int32) (vs : List Value) (fm : Value) (c0 c1 : Int32) (h0 : Heap) (n0 : Nat) (Z0 : n0 ≤ h0.size) (O : Old Z n0 h0) (SC : Sta Z Z.heap "java/lang/String" "COMPACT_STRINGS" "Z" (.int z)) (hz : ¬ z = 0) (SF : Sta Z Z.heap "jdk/internal/util/Preconditions" "SIOOBE_FORMATTER" "Ljava/util/function/BiFunction;" fm) (rfm : fm.isRef = true) (SU0 : Sta Z Z.heap "java/lang/StringUTF16" "$assertionsDisabled" "Z" (.int (1 : Int32))) (SU1 : Sta Z Z.heap "java/lang/StringUTF16" "HI_BYTE_SHIFT" "I" (.int (0 : Int32))) (SU2 : Sta Z Z.heap "java/lang/StringUTF16" "LO_BYTE_SHIFT" "I" (.int (8 : Int32))) (E1 : Exa Z h0 a1 "java/lang/String") (F1 : Fld Z h0 a1 "java/lang/String" "coder" "B" (.int cd)) (F2 : Fld Z h0 a1 "java/lang/String" "value" "[B" (.ref t)) (A1 : Arv Z h0 t kb .byte N vs (.int 0)) (hlen : N >>> (nar .byte cd &&& 31) = (2 : Int32)) (hr0 : nar .char c0 = c0) (hr1 : nar .char c1 = c1) (hc0 : own_at cd N vs c0 0 0 1 (0 : Int32) (1 : Int32)) (hc1 : own_at cd N vs c1 1 2 3 (1 : Int32) (3 : Int32)) : own_MP l (⟨"com/example/entitl/entitl/Names", "printable", "(Ljava/lang/String;)Z"⟩ : MethodName) prog_10_method_2_code 1 (some .boolean) ws ({ frames := 6, cells := 0, slots := 0, locals := 94 } : Room) Z h0 #[(.ref a1)] (fun _ _ _ _ _ => True) (Q_pr2 Z z a1 t kb cd N vs fm c0 c1 h0 n0) := by
  refine own_startP (plainFor_of_name own_pn_com_example_entitl_entitl_Names) fun p e s m below meth c s₁ Bd hx hby hml hown0 X0 e0 hh0 hZ hK Pst hPst => ?_
  have hown : s.vm.findClass "com/example/entitl/entitl/Names" = some m.cls := hown0
  have hnm := (name_of_methodNamed Bd.named Bd.method).1
  have N0 := Fr.nil n0
  rw [own_ef_R_1 m a1]
  refine own_x_aloadN X0.here hx (hb hby own_d8_0) rfl rfl ?_
  refine own_cF X0 (Jvm.LawKit.callS X0 hx (y := (⟨"com/example/entitl/entitl/Names", "unprintableAt", "(Ljava/lang/String;)I"⟩ : MethodName)) hown (mvT hZ (own_w40 hw)) (mvT hZ (own_w41 hw)) (mvT hZ (own_w38 hw)) (mvT hZ (own_w42 hw)) (by decide) (backOf (W := 0) (rm_un2 l Z a0 hw [] z a1 t kb cd N vs fm c0 c1 h0 n0 Z0 O SC hz SF rfm SU0 SU1 SU2 E1 F1 F2 A1 hlen hr0 hr1 hc0 hc1) hZ (own_w42 hw) (own_w38 hw) (by decide) (by decide)) (g := (mkF m 1 #[.val (.ref a1)] [(.ref a1)])) rfl (by rw [hml]; rfl) (argsL := [(.ref a1)]) (rest := []) (lenOf own_pd16 rfl) rfl (by show 2 * 0 + _ ≤ _; exact Nat.le_of_eq rfl) (hb hby own_d8_1) (fun _ _ => ⟨rfl, e0, (by decide : 0 + 0 ≤ _), (by decide : 0 + 0 ≤ _)⟩)) fun v101 T101 L101 X101 hQ101 => ?_
  obtain ⟨r101, rfl, Nq101, e101, q101⟩ := hQ101
  have N101 := Fr.app N0 Nq101
  show own_Go p e below Pst (T101.setTop (mkF m 4 #[.val (.ref a1)] [(.int r101)]))
  by_cases hr : r101 < (0 : Int32)
  · refine own_x_ifNo X101.here hx (hb hby own_d8_4) rfl ((if0 _ _).trans (tlt hr).2.1) ?_
    refine own_x_iconst X101.here hx (hb hby own_d8_7) (z := (1 : Int32)) rfl ?_
    refine own_x_goto X101.here hx (pc0 := 8) (pc' := 12) rfl (hb hby own_d8_8) (by decide) (by decide) ?_
    rw [hPst]
    exact own_retP X101 (v := (some (.int (nar .boolean (1 : Int32))))) (Q := Q_pr2 Z z a1 t kb cd N vs fm c0 c1 h0 n0) (fun h => by rw [Bd.returns] at h; cases h) Bd.notSynchronized (fun fs hr => retN X101 hx (t := .boolean) Bd.returns (by simp) (hb hby own_d8_12) hr) (by decide) (by decide) (by rw [e101]; exact ⟨_, rfl, N101, rfl, Or.inl ⟨rfl, q101.mp hr⟩⟩)
  · refine own_x_ifYes X101.here hx (pc0 := 4) (pc' := 11) rfl (hb hby own_d8_4) rfl ((if0 _ _).trans (flt hr).2.1) (by decide) (by decide) ?_
    refine own_x_iconst X101.here hx (hb hby own_d8_11) (z := (0 : Int32)) rfl ?_
    rw [hPst]
    exact own_retP X101 (v := (some (.int (nar .boolean (0 : Int32))))) (Q := Q_pr2 Z z a1 t kb cd N vs fm c0 c1 h0 n0) (fun h => by rw [Bd.returns] at h; cases h) Bd.notSynchronized (fun fs hr => retN X101 hx (t := .boolean) Bd.returns (by simp) (hb hby own_d8_12) hr) (by decide) (by decide) (by rw [e101]; exact ⟨_, rfl, N101, rfl, Or.inr ⟨rfl, fun q => hr (q101.mpr q)⟩⟩)
def Q_un3 (Z : State) (z : Int32) (a1 t : Addr) (kb : ClassId) (cd N : Int32) (vs : List Value) (fm : Value) (c0 c1 c2 : Int32) (h0 : Heap) (n0 : Nat) (v : Option Value) (h : Heap) (L : List Loc) : Prop := ∃ r : Int32, v = some (.int r) ∧ Fr n0 L ∧ h = h0 ∧ (r < 0 ↔ (¬ own_ub c0 ∧ ¬ own_ub c1 ∧ ¬ own_ub c2 ∧ True))
theorem rm_un3 (l : Launch) (Z : State) (a0 : Array Value) (hw : own_H a0 Z) (ws : List Jvm.Cond) (z : Int32) (a1 t : Addr) (kb : ClassId) (cd N : Int32) (vs : List Value) (fm : Value) (c0 c1 c2 : Int32) (h0 : Heap) (n0 : Nat) (Z0 : n0 ≤ h0.size) (O : Old Z n0 h0) (SC : Sta Z Z.heap "java/lang/String" "COMPACT_STRINGS" "Z" (.int z)) (hz : ¬ z = 0) (SF : Sta Z Z.heap "jdk/internal/util/Preconditions" "SIOOBE_FORMATTER" "Ljava/util/function/BiFunction;" fm) (rfm : fm.isRef = true) (SU0 : Sta Z Z.heap "java/lang/StringUTF16" "$assertionsDisabled" "Z" (.int (1 : Int32))) (SU1 : Sta Z Z.heap "java/lang/StringUTF16" "HI_BYTE_SHIFT" "I" (.int (0 : Int32))) (SU2 : Sta Z Z.heap "java/lang/StringUTF16" "LO_BYTE_SHIFT" "I" (.int (8 : Int32))) (E1 : Exa Z h0 a1 "java/lang/String") (F1 : Fld Z h0 a1 "java/lang/String" "coder" "B" (.int cd)) (F2 : Fld Z h0 a1 "java/lang/String" "value" "[B" (.ref t)) (A1 : Arv Z h0 t kb .byte N vs (.int 0)) (hlen : N >>> (nar .byte cd &&& 31) = (3 : Int32)) (hr0 : nar .char c0 = c0) (hr1 : nar .char c1 = c1) (hr2 : nar .char c2 = c2) (hc0 : own_at cd N vs c0 0 0 1 (0 : Int32) (1 : Int32)) (hc1 : own_at cd N vs c1 1 2 3 (1 : Int32) (3 : Int32)) (hc2 : own_at cd N vs c2 2 4 5 (2 : Int32) (5 : Int32)) : own_MP l (⟨"com/example/entitl/entitl/Names", "unprintableAt", "(Ljava/lang/String;)I"⟩ : MethodName) prog_10_method_5_code 3 (some .int) ws ({ frames := 5, cells := 0, slots := 0, locals := 80 } : Room) Z h0 #[(.ref a1)] (fun _ _ _ _ _ => True) (Q_un3 Z z a1 t kb cd N vs fm c0 c1 c2 h0 n0) := by
  refine own_startP (plainFor_of_name own_pn_com_example_entitl_entitl_Names) fun p e s m below meth c s₁ Bd hx hby hml hown0 X0 e0 hh0 hZ hK Pst hPst => ?_
  have hown : s.vm.findClass "com/example/entitl/entitl/Names" = some m.cls := hown0
  have hnm := (name_of_methodNamed Bd.named Bd.method).1
  have N0 := Fr.nil n0
  rw [own_ef_R_3 m a1]
  refine own_x_iconst X0.here hx (hb hby own_d9_0) (z := (0 : Int32)) rfl ?_
  refine own_x_istoreN X0.here hx (hb hby own_d9_1) rfl (l' := #[.val (.ref a1), .val (.int (0 : Int32)), .unset]) rfl ?_
  refine own_x_iloadN X0.here hx (hb hby own_d9_2) rfl ?_
  refine own_x_aloadN X0.here hx (hb hby own_d9_3) rfl rfl ?_
  obtain ⟨cq101, kq101, q101a, q101b, q101c⟩ := isOf hZ e0 E1
  refine own_cP X0 (X0.virtualBack hx (y := (⟨"java/lang/String", "length", "()I"⟩ : MethodName)) (z := (⟨"java/lang/String", "length", "()I"⟩ : MethodName)) hown (mvT hZ (own_w43 hw)) (mvT hZ (own_w44 hw)) (notFace_of_selects (args := #[]) (mvT hZ (own_w46 hw))) (mvT hZ (own_w46 hw)) (mvT hZ (own_w45 hw)) (by decide) (backOf (W := 1) (rm_len l Z a0 hw [] z a1 t kb cd N vs (.int 0) h0 n0 Z0 O SC hz E1 F1 F2 A1) hZ (own_w47 hw) (own_w9 hw) (by decide) (by decide)) q101a q101c (g := (mkF m 4 #[.val (.ref a1), .val (.int (0 : Int32)), .unset] [(.ref a1), (.int (0 : Int32))])) rfl (by rw [hml]; rfl) (Steps.refl _) (argsL := []) (rest := [(.int (0 : Int32))]) (lenOf own_pd15 rfl) rfl (by show 2 * 0 + _ ≤ _; exact Nat.le_of_eq rfl) (hb hby own_d9_4) (fun _ _ => ⟨rfl, e0, (by decide : 0 + 0 ≤ _), (by decide : 0 + 0 ≤ _)⟩)) fun v101 T101 L101 X101 hQ101 => ?_
  obtain ⟨rfl, Nq101, e101⟩ := hQ101
  have N101 := Fr.app N0 Nq101
  show own_Go p e below Pst (T101.setTop (mkF m 7 #[.val (.ref a1), .val (.int (0 : Int32)), .unset] [(.int (N >>> (nar .byte cd &&& 31))), (.int (0 : Int32))]))
  rw [hlen]
  show own_Go p e below Pst (T101.setTop (mkF m 7 #[.val (.ref a1), .val (.int (0 : Int32)), .unset] [(.int (3 : Int32)), (.int (0 : Int32))]))
  refine own_x_icmpNo X101.here hx (hb hby own_d9_7) rfl (tlt (by decide)).2.1 ?_
  refine own_x_aloadN X101.here hx (hb hby own_d9_10) rfl rfl ?_
  refine own_x_iloadN X101.here hx (hb hby own_d9_11) rfl ?_
  obtain ⟨cq102, kq102, q102a, q102b, q102c⟩ := isOf hZ e101 E1
  refine own_cP X101 (X101.virtualBack hx (y := (⟨"java/lang/String", "charAt", "(I)C"⟩ : MethodName)) (z := (⟨"java/lang/String", "charAt", "(I)C"⟩ : MethodName)) hown (mvT hZ (own_w53 hw)) (mvT hZ (own_w54 hw)) (notFace_of_selects (args := #[]) (mvT hZ (own_w56 hw))) (mvT hZ (own_w56 hw)) (mvT hZ (own_w55 hw)) (by decide) (backOf (W := 0) (rm_ch0 l Z a0 hw [] z a1 t kb cd N c0 vs fm h0 n0 Z0 O SC hz SF rfm SU0 SU1 SU2 E1 F1 F2 A1 hr0 hc0) hZ (own_w57 hw) (own_w9 hw) (by decide) (by decide)) q102a q102c (g := (mkF m 12 #[.val (.ref a1), .val (.int (0 : Int32)), .unset] [(.int (0 : Int32)), (.ref a1)])) rfl (by rw [hml]; rfl) (Steps.refl _) (argsL := [(.int (0 : Int32))]) (rest := []) (lenOf own_pd17 rfl) rfl (by show 2 * 0 + _ ≤ _; exact Nat.le_of_eq rfl) (hb hby own_d9_12) (fun _ _ => ⟨rfl, e101, (by decide : 0 + 0 ≤ _), (by decide : 0 + 0 ≤ _)⟩)) fun v102 T102 L102 X102 hQ102 => ?_
  obtain ⟨rfl, Nq102, e102⟩ := hQ102
  have N102 := Fr.app N101 Nq102
  show own_Go p e below Pst (T102.setTop (mkF m 15 #[.val (.ref a1), .val (.int (0 : Int32)), .unset] [(.int c0)]))
  refine own_x_istoreN X102.here hx (hb hby own_d9_15) rfl (l' := #[.val (.ref a1), .val (.int (0 : Int32)), .val (.int c0)]) rfl ?_
  refine own_x_iloadN X102.here hx (hb hby own_d9_16) rfl ?_
  refine own_cF X102 (Jvm.LawKit.callS X102 hx (y := (⟨"java/lang/Character", "isISOControl", "(C)Z"⟩ : MethodName)) hown (mvT hZ (own_w75 hw)) (mvT hZ (own_w76 hw)) (mvT hZ (own_w77 hw)) (mvT hZ (own_w78 hw)) (by decide) (backOf (W := 0) (rm_isoc l Z a0 hw [] c0 h0 n0 Z0 ) hZ (own_w78 hw) (own_w77 hw) (by decide) (by decide)) (g := (mkF m 17 #[.val (.ref a1), .val (.int (0 : Int32)), .val (.int c0)] [(.int c0)])) rfl (by rw [hml]; rfl) (argsL := [(.int c0)]) (rest := []) (lenOf own_pd18 rfl) rfl (by show 2 * 0 + _ ≤ _; exact Nat.le_of_eq rfl) (hb hby own_d9_17) (fun _ _ => ⟨rfl, e102, (by decide : 0 + 0 ≤ _), (by decide : 0 + 0 ≤ _)⟩)) fun v103 T103 L103 X103 hQ103 => ?_
  obtain ⟨rfl, Nq103, e103⟩ := hQ103
  have N103 := Fr.app N102 Nq103
  show own_Go p e below Pst (T103.setTop (mkF m 20 #[.val (.ref a1), .val (.int (0 : Int32)), .val (.int c0)] [(.int (own_iso c0))]))
  by_cases y0 : own_iso c0 = (0 : Int32)
  · refine own_x_ifNo X103.here hx (hb hby own_d9_20) rfl ((if0 _ _).trans (teq y0).2) ?_
    refine own_x_iloadN X103.here hx (hb hby own_d9_23) rfl ?_
    refine own_x_sipush X103.here hx (hb hby own_d9_24) (z := (8232 : Int32)) rfl ?_
    by_cases x0 : c0 = (8232 : Int32)
    · refine own_x_icmpYes X103.here hx (pc0 := 27) (pc' := 37) rfl (hb hby own_d9_27) rfl (teq x0).1 (by decide) (by decide) ?_
      refine own_x_iloadN X103.here hx (hb hby own_d9_37) rfl ?_
      rw [hPst]
      exact own_retP X103 (v := (some (.int (0 : Int32)))) (Q := Q_un3 Z z a1 t kb cd N vs fm c0 c1 c2 h0 n0) (fun h => by rw [Bd.returns] at h; cases h) Bd.notSynchronized (fun fs hr => own_retI X103 hx Bd.returns (hb hby own_d9_38) hr) (by decide) (by decide) (by rw [e103]; exact ⟨_, rfl, N103, rfl, ⟨fun q => absurd q (by decide), fun q => absurd (Or.inr (Or.inl x0)) q.1⟩⟩)
    · refine own_x_icmpNo X103.here hx (hb hby own_d9_27) rfl (feq x0).1 ?_
      refine own_x_iloadN X103.here hx (hb hby own_d9_30) rfl ?_
      refine own_x_sipush X103.here hx (hb hby own_d9_31) (z := (8233 : Int32)) rfl ?_
      by_cases w0 : c0 = (8233 : Int32)
      · refine own_x_icmpNo X103.here hx (hb hby own_d9_34) rfl (teq w0).2 ?_
        refine own_x_iloadN X103.here hx (hb hby own_d9_37) rfl ?_
        rw [hPst]
        exact own_retP X103 (v := (some (.int (0 : Int32)))) (Q := Q_un3 Z z a1 t kb cd N vs fm c0 c1 c2 h0 n0) (fun h => by rw [Bd.returns] at h; cases h) Bd.notSynchronized (fun fs hr => own_retI X103 hx Bd.returns (hb hby own_d9_38) hr) (by decide) (by decide) (by rw [e103]; exact ⟨_, rfl, N103, rfl, ⟨fun q => absurd q (by decide), fun q => absurd (Or.inr (Or.inr w0)) q.1⟩⟩)
      · refine own_x_icmpYes X103.here hx (pc0 := 34) (pc' := 39) rfl (hb hby own_d9_34) rfl (feq w0).2 (by decide) (by decide) ?_
        refine own_x_iinc X103.here hx (hb hby own_d9_39) rfl (l' := #[.val (.ref a1), .val (.int ((0 : Int32) + (1 : Int32))), .val (.int c0)]) rfl ?_
        rw [show ((0 : Int32) + (1 : Int32)) = (1 : Int32) from by decide]
        show own_Go p e below Pst (T103.setTop (mkF m 42 #[.val (.ref a1), .val (.int (1 : Int32)), .val (.int c0)] []))
        refine own_x_goto X103.here hx (pc0 := 42) (pc' := 2) rfl (hb hby own_d9_42) (by decide) (by decide) ?_
        have g0 : ¬ own_ub c0 := fun q => q.elim (fun q => q y0) (fun q => q.elim x0 w0)
        refine own_x_iloadN X103.here hx (hb hby own_d9_2) rfl ?_
        refine own_x_aloadN X103.here hx (hb hby own_d9_3) rfl rfl ?_
        obtain ⟨cq104, kq104, q104a, q104b, q104c⟩ := isOf hZ e103 E1
        refine own_cP X103 (X103.virtualBack hx (y := (⟨"java/lang/String", "length", "()I"⟩ : MethodName)) (z := (⟨"java/lang/String", "length", "()I"⟩ : MethodName)) hown (mvT hZ (own_w43 hw)) (mvT hZ (own_w44 hw)) (notFace_of_selects (args := #[]) (mvT hZ (own_w46 hw))) (mvT hZ (own_w46 hw)) (mvT hZ (own_w45 hw)) (by decide) (backOf (W := 1) (rm_len l Z a0 hw [] z a1 t kb cd N vs (.int 0) h0 n0 Z0 O SC hz E1 F1 F2 A1) hZ (own_w47 hw) (own_w9 hw) (by decide) (by decide)) q104a q104c (g := (mkF m 4 #[.val (.ref a1), .val (.int (1 : Int32)), .val (.int c0)] [(.ref a1), (.int (1 : Int32))])) rfl (by rw [hml]; rfl) (Steps.refl _) (argsL := []) (rest := [(.int (1 : Int32))]) (lenOf own_pd15 rfl) rfl (by show 2 * 0 + _ ≤ _; exact Nat.le_of_eq rfl) (hb hby own_d9_4) (fun _ _ => ⟨rfl, e103, (by decide : 0 + 0 ≤ _), (by decide : 0 + 0 ≤ _)⟩)) fun v104 T104 L104 X104 hQ104 => ?_
        obtain ⟨rfl, Nq104, e104⟩ := hQ104
        have N104 := Fr.app N103 Nq104
        show own_Go p e below Pst (T104.setTop (mkF m 7 #[.val (.ref a1), .val (.int (1 : Int32)), .val (.int c0)] [(.int (N >>> (nar .byte cd &&& 31))), (.int (1 : Int32))]))
        rw [hlen]
        show own_Go p e below Pst (T104.setTop (mkF m 7 #[.val (.ref a1), .val (.int (1 : Int32)), .val (.int c0)] [(.int (3 : Int32)), (.int (1 : Int32))]))
        refine own_x_icmpNo X104.here hx (hb hby own_d9_7) rfl (tlt (by decide)).2.1 ?_
        refine own_x_aloadN X104.here hx (hb hby own_d9_10) rfl rfl ?_
        refine own_x_iloadN X104.here hx (hb hby own_d9_11) rfl ?_
        obtain ⟨cq105, kq105, q105a, q105b, q105c⟩ := isOf hZ e104 E1
        refine own_cP X104 (X104.virtualBack hx (y := (⟨"java/lang/String", "charAt", "(I)C"⟩ : MethodName)) (z := (⟨"java/lang/String", "charAt", "(I)C"⟩ : MethodName)) hown (mvT hZ (own_w53 hw)) (mvT hZ (own_w54 hw)) (notFace_of_selects (args := #[]) (mvT hZ (own_w56 hw))) (mvT hZ (own_w56 hw)) (mvT hZ (own_w55 hw)) (by decide) (backOf (W := 0) (rm_ch1 l Z a0 hw [] z a1 t kb cd N c1 vs fm h0 n0 Z0 O SC hz SF rfm SU0 SU1 SU2 E1 F1 F2 A1 hr1 hc1) hZ (own_w57 hw) (own_w9 hw) (by decide) (by decide)) q105a q105c (g := (mkF m 12 #[.val (.ref a1), .val (.int (1 : Int32)), .val (.int c0)] [(.int (1 : Int32)), (.ref a1)])) rfl (by rw [hml]; rfl) (Steps.refl _) (argsL := [(.int (1 : Int32))]) (rest := []) (lenOf own_pd17 rfl) rfl (by show 2 * 0 + _ ≤ _; exact Nat.le_of_eq rfl) (hb hby own_d9_12) (fun _ _ => ⟨rfl, e104, (by decide : 0 + 0 ≤ _), (by decide : 0 + 0 ≤ _)⟩)) fun v105 T105 L105 X105 hQ105 => ?_
        obtain ⟨rfl, Nq105, e105⟩ := hQ105
        have N105 := Fr.app N104 Nq105
        show own_Go p e below Pst (T105.setTop (mkF m 15 #[.val (.ref a1), .val (.int (1 : Int32)), .val (.int c0)] [(.int c1)]))
        refine own_x_istoreN X105.here hx (hb hby own_d9_15) rfl (l' := #[.val (.ref a1), .val (.int (1 : Int32)), .val (.int c1)]) rfl ?_
        refine own_x_iloadN X105.here hx (hb hby own_d9_16) rfl ?_
        refine own_cF X105 (Jvm.LawKit.callS X105 hx (y := (⟨"java/lang/Character", "isISOControl", "(C)Z"⟩ : MethodName)) hown (mvT hZ (own_w75 hw)) (mvT hZ (own_w76 hw)) (mvT hZ (own_w77 hw)) (mvT hZ (own_w78 hw)) (by decide) (backOf (W := 0) (rm_isoc l Z a0 hw [] c1 h0 n0 Z0 ) hZ (own_w78 hw) (own_w77 hw) (by decide) (by decide)) (g := (mkF m 17 #[.val (.ref a1), .val (.int (1 : Int32)), .val (.int c1)] [(.int c1)])) rfl (by rw [hml]; rfl) (argsL := [(.int c1)]) (rest := []) (lenOf own_pd18 rfl) rfl (by show 2 * 0 + _ ≤ _; exact Nat.le_of_eq rfl) (hb hby own_d9_17) (fun _ _ => ⟨rfl, e105, (by decide : 0 + 0 ≤ _), (by decide : 0 + 0 ≤ _)⟩)) fun v106 T106 L106 X106 hQ106 => ?_
        obtain ⟨rfl, Nq106, e106⟩ := hQ106
        have N106 := Fr.app N105 Nq106
        show own_Go p e below Pst (T106.setTop (mkF m 20 #[.val (.ref a1), .val (.int (1 : Int32)), .val (.int c1)] [(.int (own_iso c1))]))
        by_cases y1 : own_iso c1 = (0 : Int32)
        · refine own_x_ifNo X106.here hx (hb hby own_d9_20) rfl ((if0 _ _).trans (teq y1).2) ?_
          refine own_x_iloadN X106.here hx (hb hby own_d9_23) rfl ?_
          refine own_x_sipush X106.here hx (hb hby own_d9_24) (z := (8232 : Int32)) rfl ?_
          by_cases x1 : c1 = (8232 : Int32)
          · refine own_x_icmpYes X106.here hx (pc0 := 27) (pc' := 37) rfl (hb hby own_d9_27) rfl (teq x1).1 (by decide) (by decide) ?_
            refine own_x_iloadN X106.here hx (hb hby own_d9_37) rfl ?_
            rw [hPst]
            exact own_retP X106 (v := (some (.int (1 : Int32)))) (Q := Q_un3 Z z a1 t kb cd N vs fm c0 c1 c2 h0 n0) (fun h => by rw [Bd.returns] at h; cases h) Bd.notSynchronized (fun fs hr => own_retI X106 hx Bd.returns (hb hby own_d9_38) hr) (by decide) (by decide) (by rw [e106]; exact ⟨_, rfl, N106, rfl, ⟨fun q => absurd q (by decide), fun q => absurd (Or.inr (Or.inl x1)) q.2.1⟩⟩)
          · refine own_x_icmpNo X106.here hx (hb hby own_d9_27) rfl (feq x1).1 ?_
            refine own_x_iloadN X106.here hx (hb hby own_d9_30) rfl ?_
            refine own_x_sipush X106.here hx (hb hby own_d9_31) (z := (8233 : Int32)) rfl ?_
            by_cases w1 : c1 = (8233 : Int32)
            · refine own_x_icmpNo X106.here hx (hb hby own_d9_34) rfl (teq w1).2 ?_
              refine own_x_iloadN X106.here hx (hb hby own_d9_37) rfl ?_
              rw [hPst]
              exact own_retP X106 (v := (some (.int (1 : Int32)))) (Q := Q_un3 Z z a1 t kb cd N vs fm c0 c1 c2 h0 n0) (fun h => by rw [Bd.returns] at h; cases h) Bd.notSynchronized (fun fs hr => own_retI X106 hx Bd.returns (hb hby own_d9_38) hr) (by decide) (by decide) (by rw [e106]; exact ⟨_, rfl, N106, rfl, ⟨fun q => absurd q (by decide), fun q => absurd (Or.inr (Or.inr w1)) q.2.1⟩⟩)
            · refine own_x_icmpYes X106.here hx (pc0 := 34) (pc' := 39) rfl (hb hby own_d9_34) rfl (feq w1).2 (by decide) (by decide) ?_
              refine own_x_iinc X106.here hx (hb hby own_d9_39) rfl (l' := #[.val (.ref a1), .val (.int ((1 : Int32) + (1 : Int32))), .val (.int c1)]) rfl ?_
              rw [show ((1 : Int32) + (1 : Int32)) = (2 : Int32) from by decide]
              show own_Go p e below Pst (T106.setTop (mkF m 42 #[.val (.ref a1), .val (.int (2 : Int32)), .val (.int c1)] []))
              refine own_x_goto X106.here hx (pc0 := 42) (pc' := 2) rfl (hb hby own_d9_42) (by decide) (by decide) ?_
              have g1 : ¬ own_ub c1 := fun q => q.elim (fun q => q y1) (fun q => q.elim x1 w1)
              refine own_x_iloadN X106.here hx (hb hby own_d9_2) rfl ?_
              refine own_x_aloadN X106.here hx (hb hby own_d9_3) rfl rfl ?_
              obtain ⟨cq107, kq107, q107a, q107b, q107c⟩ := isOf hZ e106 E1
              refine own_cP X106 (X106.virtualBack hx (y := (⟨"java/lang/String", "length", "()I"⟩ : MethodName)) (z := (⟨"java/lang/String", "length", "()I"⟩ : MethodName)) hown (mvT hZ (own_w43 hw)) (mvT hZ (own_w44 hw)) (notFace_of_selects (args := #[]) (mvT hZ (own_w46 hw))) (mvT hZ (own_w46 hw)) (mvT hZ (own_w45 hw)) (by decide) (backOf (W := 1) (rm_len l Z a0 hw [] z a1 t kb cd N vs (.int 0) h0 n0 Z0 O SC hz E1 F1 F2 A1) hZ (own_w47 hw) (own_w9 hw) (by decide) (by decide)) q107a q107c (g := (mkF m 4 #[.val (.ref a1), .val (.int (2 : Int32)), .val (.int c1)] [(.ref a1), (.int (2 : Int32))])) rfl (by rw [hml]; rfl) (Steps.refl _) (argsL := []) (rest := [(.int (2 : Int32))]) (lenOf own_pd15 rfl) rfl (by show 2 * 0 + _ ≤ _; exact Nat.le_of_eq rfl) (hb hby own_d9_4) (fun _ _ => ⟨rfl, e106, (by decide : 0 + 0 ≤ _), (by decide : 0 + 0 ≤ _)⟩)) fun v107 T107 L107 X107 hQ107 => ?_
              obtain ⟨rfl, Nq107, e107⟩ := hQ107
              have N107 := Fr.app N106 Nq107
              show own_Go p e below Pst (T107.setTop (mkF m 7 #[.val (.ref a1), .val (.int (2 : Int32)), .val (.int c1)] [(.int (N >>> (nar .byte cd &&& 31))), (.int (2 : Int32))]))
              rw [hlen]
              show own_Go p e below Pst (T107.setTop (mkF m 7 #[.val (.ref a1), .val (.int (2 : Int32)), .val (.int c1)] [(.int (3 : Int32)), (.int (2 : Int32))]))
              refine own_x_icmpNo X107.here hx (hb hby own_d9_7) rfl (tlt (by decide)).2.1 ?_
              refine own_x_aloadN X107.here hx (hb hby own_d9_10) rfl rfl ?_
              refine own_x_iloadN X107.here hx (hb hby own_d9_11) rfl ?_
              obtain ⟨cq108, kq108, q108a, q108b, q108c⟩ := isOf hZ e107 E1
              refine own_cP X107 (X107.virtualBack hx (y := (⟨"java/lang/String", "charAt", "(I)C"⟩ : MethodName)) (z := (⟨"java/lang/String", "charAt", "(I)C"⟩ : MethodName)) hown (mvT hZ (own_w53 hw)) (mvT hZ (own_w54 hw)) (notFace_of_selects (args := #[]) (mvT hZ (own_w56 hw))) (mvT hZ (own_w56 hw)) (mvT hZ (own_w55 hw)) (by decide) (backOf (W := 0) (rm_ch2 l Z a0 hw [] z a1 t kb cd N c2 vs fm h0 n0 Z0 O SC hz SF rfm SU0 SU1 SU2 E1 F1 F2 A1 hr2 hc2) hZ (own_w57 hw) (own_w9 hw) (by decide) (by decide)) q108a q108c (g := (mkF m 12 #[.val (.ref a1), .val (.int (2 : Int32)), .val (.int c1)] [(.int (2 : Int32)), (.ref a1)])) rfl (by rw [hml]; rfl) (Steps.refl _) (argsL := [(.int (2 : Int32))]) (rest := []) (lenOf own_pd17 rfl) rfl (by show 2 * 0 + _ ≤ _; exact Nat.le_of_eq rfl) (hb hby own_d9_12) (fun _ _ => ⟨rfl, e107, (by decide : 0 + 0 ≤ _), (by decide : 0 + 0 ≤ _)⟩)) fun v108 T108 L108 X108 hQ108 => ?_
              obtain ⟨rfl, Nq108, e108⟩ := hQ108
              have N108 := Fr.app N107 Nq108
              show own_Go p e below Pst (T108.setTop (mkF m 15 #[.val (.ref a1), .val (.int (2 : Int32)), .val (.int c1)] [(.int c2)]))
              refine own_x_istoreN X108.here hx (hb hby own_d9_15) rfl (l' := #[.val (.ref a1), .val (.int (2 : Int32)), .val (.int c2)]) rfl ?_
              refine own_x_iloadN X108.here hx (hb hby own_d9_16) rfl ?_
              refine own_cF X108 (Jvm.LawKit.callS X108 hx (y := (⟨"java/lang/Character", "isISOControl", "(C)Z"⟩ : MethodName)) hown (mvT hZ (own_w75 hw)) (mvT hZ (own_w76 hw)) (mvT hZ (own_w77 hw)) (mvT hZ (own_w78 hw)) (by decide) (backOf (W := 0) (rm_isoc l Z a0 hw [] c2 h0 n0 Z0 ) hZ (own_w78 hw) (own_w77 hw) (by decide) (by decide)) (g := (mkF m 17 #[.val (.ref a1), .val (.int (2 : Int32)), .val (.int c2)] [(.int c2)])) rfl (by rw [hml]; rfl) (argsL := [(.int c2)]) (rest := []) (lenOf own_pd18 rfl) rfl (by show 2 * 0 + _ ≤ _; exact Nat.le_of_eq rfl) (hb hby own_d9_17) (fun _ _ => ⟨rfl, e108, (by decide : 0 + 0 ≤ _), (by decide : 0 + 0 ≤ _)⟩)) fun v109 T109 L109 X109 hQ109 => ?_
              obtain ⟨rfl, Nq109, e109⟩ := hQ109
              have N109 := Fr.app N108 Nq109
              show own_Go p e below Pst (T109.setTop (mkF m 20 #[.val (.ref a1), .val (.int (2 : Int32)), .val (.int c2)] [(.int (own_iso c2))]))
              by_cases y2 : own_iso c2 = (0 : Int32)
              · refine own_x_ifNo X109.here hx (hb hby own_d9_20) rfl ((if0 _ _).trans (teq y2).2) ?_
                refine own_x_iloadN X109.here hx (hb hby own_d9_23) rfl ?_
                refine own_x_sipush X109.here hx (hb hby own_d9_24) (z := (8232 : Int32)) rfl ?_
                by_cases x2 : c2 = (8232 : Int32)
                · refine own_x_icmpYes X109.here hx (pc0 := 27) (pc' := 37) rfl (hb hby own_d9_27) rfl (teq x2).1 (by decide) (by decide) ?_
                  refine own_x_iloadN X109.here hx (hb hby own_d9_37) rfl ?_
                  rw [hPst]
                  exact own_retP X109 (v := (some (.int (2 : Int32)))) (Q := Q_un3 Z z a1 t kb cd N vs fm c0 c1 c2 h0 n0) (fun h => by rw [Bd.returns] at h; cases h) Bd.notSynchronized (fun fs hr => own_retI X109 hx Bd.returns (hb hby own_d9_38) hr) (by decide) (by decide) (by rw [e109]; exact ⟨_, rfl, N109, rfl, ⟨fun q => absurd q (by decide), fun q => absurd (Or.inr (Or.inl x2)) q.2.2.1⟩⟩)
                · refine own_x_icmpNo X109.here hx (hb hby own_d9_27) rfl (feq x2).1 ?_
                  refine own_x_iloadN X109.here hx (hb hby own_d9_30) rfl ?_
                  refine own_x_sipush X109.here hx (hb hby own_d9_31) (z := (8233 : Int32)) rfl ?_
                  by_cases w2 : c2 = (8233 : Int32)
                  · refine own_x_icmpNo X109.here hx (hb hby own_d9_34) rfl (teq w2).2 ?_
                    refine own_x_iloadN X109.here hx (hb hby own_d9_37) rfl ?_
                    rw [hPst]
                    exact own_retP X109 (v := (some (.int (2 : Int32)))) (Q := Q_un3 Z z a1 t kb cd N vs fm c0 c1 c2 h0 n0) (fun h => by rw [Bd.returns] at h; cases h) Bd.notSynchronized (fun fs hr => own_retI X109 hx Bd.returns (hb hby own_d9_38) hr) (by decide) (by decide) (by rw [e109]; exact ⟨_, rfl, N109, rfl, ⟨fun q => absurd q (by decide), fun q => absurd (Or.inr (Or.inr w2)) q.2.2.1⟩⟩)
                  · refine own_x_icmpYes X109.here hx (pc0 := 34) (pc' := 39) rfl (hb hby own_d9_34) rfl (feq w2).2 (by decide) (by decide) ?_
                    refine own_x_iinc X109.here hx (hb hby own_d9_39) rfl (l' := #[.val (.ref a1), .val (.int ((2 : Int32) + (1 : Int32))), .val (.int c2)]) rfl ?_
                    rw [show ((2 : Int32) + (1 : Int32)) = (3 : Int32) from by decide]
                    show own_Go p e below Pst (T109.setTop (mkF m 42 #[.val (.ref a1), .val (.int (3 : Int32)), .val (.int c2)] []))
                    refine own_x_goto X109.here hx (pc0 := 42) (pc' := 2) rfl (hb hby own_d9_42) (by decide) (by decide) ?_
                    have g2 : ¬ own_ub c2 := fun q => q.elim (fun q => q y2) (fun q => q.elim x2 w2)
                    refine own_x_iloadN X109.here hx (hb hby own_d9_2) rfl ?_
                    refine own_x_aloadN X109.here hx (hb hby own_d9_3) rfl rfl ?_
                    obtain ⟨cq110, kq110, q110a, q110b, q110c⟩ := isOf hZ e109 E1
                    refine own_cP X109 (X109.virtualBack hx (y := (⟨"java/lang/String", "length", "()I"⟩ : MethodName)) (z := (⟨"java/lang/String", "length", "()I"⟩ : MethodName)) hown (mvT hZ (own_w43 hw)) (mvT hZ (own_w44 hw)) (notFace_of_selects (args := #[]) (mvT hZ (own_w46 hw))) (mvT hZ (own_w46 hw)) (mvT hZ (own_w45 hw)) (by decide) (backOf (W := 1) (rm_len l Z a0 hw [] z a1 t kb cd N vs (.int 0) h0 n0 Z0 O SC hz E1 F1 F2 A1) hZ (own_w47 hw) (own_w9 hw) (by decide) (by decide)) q110a q110c (g := (mkF m 4 #[.val (.ref a1), .val (.int (3 : Int32)), .val (.int c2)] [(.ref a1), (.int (3 : Int32))])) rfl (by rw [hml]; rfl) (Steps.refl _) (argsL := []) (rest := [(.int (3 : Int32))]) (lenOf own_pd15 rfl) rfl (by show 2 * 0 + _ ≤ _; exact Nat.le_of_eq rfl) (hb hby own_d9_4) (fun _ _ => ⟨rfl, e109, (by decide : 0 + 0 ≤ _), (by decide : 0 + 0 ≤ _)⟩)) fun v110 T110 L110 X110 hQ110 => ?_
                    obtain ⟨rfl, Nq110, e110⟩ := hQ110
                    have N110 := Fr.app N109 Nq110
                    show own_Go p e below Pst (T110.setTop (mkF m 7 #[.val (.ref a1), .val (.int (3 : Int32)), .val (.int c2)] [(.int (N >>> (nar .byte cd &&& 31))), (.int (3 : Int32))]))
                    rw [hlen]
                    show own_Go p e below Pst (T110.setTop (mkF m 7 #[.val (.ref a1), .val (.int (3 : Int32)), .val (.int c2)] [(.int (3 : Int32)), (.int (3 : Int32))]))
                    refine own_x_icmpYes X110.here hx (pc0 := 7) (pc' := 45) rfl (hb hby own_d9_7) rfl (flt (by decide)).2.1 (by decide) (by decide) ?_
                    refine own_x_iconst X110.here hx (hb hby own_d9_45) (z := (-1 : Int32)) (by decide) ?_
                    rw [hPst]
                    exact own_retP X110 (v := (some (.int (-1 : Int32)))) (Q := Q_un3 Z z a1 t kb cd N vs fm c0 c1 c2 h0 n0) (fun h => by rw [Bd.returns] at h; cases h) Bd.notSynchronized (fun fs hr => own_retI X110 hx Bd.returns (hb hby own_d9_46) hr) (by decide) (by decide) (by rw [e110]; exact ⟨_, rfl, N110, rfl, ⟨fun _ => ⟨g0, g1, g2, trivial⟩, fun _ => by decide⟩⟩)
              · refine own_x_ifYes X109.here hx (pc0 := 20) (pc' := 37) rfl (hb hby own_d9_20) rfl ((if0 _ _).trans (feq y2).2) (by decide) (by decide) ?_
                refine own_x_iloadN X109.here hx (hb hby own_d9_37) rfl ?_
                rw [hPst]
                exact own_retP X109 (v := (some (.int (2 : Int32)))) (Q := Q_un3 Z z a1 t kb cd N vs fm c0 c1 c2 h0 n0) (fun h => by rw [Bd.returns] at h; cases h) Bd.notSynchronized (fun fs hr => own_retI X109 hx Bd.returns (hb hby own_d9_38) hr) (by decide) (by decide) (by rw [e109]; exact ⟨_, rfl, N109, rfl, ⟨fun q => absurd q (by decide), fun q => absurd (Or.inl y2) q.2.2.1⟩⟩)
        · refine own_x_ifYes X106.here hx (pc0 := 20) (pc' := 37) rfl (hb hby own_d9_20) rfl ((if0 _ _).trans (feq y1).2) (by decide) (by decide) ?_
          refine own_x_iloadN X106.here hx (hb hby own_d9_37) rfl ?_
          rw [hPst]
          exact own_retP X106 (v := (some (.int (1 : Int32)))) (Q := Q_un3 Z z a1 t kb cd N vs fm c0 c1 c2 h0 n0) (fun h => by rw [Bd.returns] at h; cases h) Bd.notSynchronized (fun fs hr => own_retI X106 hx Bd.returns (hb hby own_d9_38) hr) (by decide) (by decide) (by rw [e106]; exact ⟨_, rfl, N106, rfl, ⟨fun q => absurd q (by decide), fun q => absurd (Or.inl y1) q.2.1⟩⟩)
  · refine own_x_ifYes X103.here hx (pc0 := 20) (pc' := 37) rfl (hb hby own_d9_20) rfl ((if0 _ _).trans (feq y0).2) (by decide) (by decide) ?_
    refine own_x_iloadN X103.here hx (hb hby own_d9_37) rfl ?_
    rw [hPst]
    exact own_retP X103 (v := (some (.int (0 : Int32)))) (Q := Q_un3 Z z a1 t kb cd N vs fm c0 c1 c2 h0 n0) (fun h => by rw [Bd.returns] at h; cases h) Bd.notSynchronized (fun fs hr => own_retI X103 hx Bd.returns (hb hby own_d9_38) hr) (by decide) (by decide) (by rw [e103]; exact ⟨_, rfl, N103, rfl, ⟨fun q => absurd q (by decide), fun q => absurd (Or.inl y0) q.1⟩⟩)
def Q_pr3 (Z : State) (z : Int32) (a1 t : Addr) (kb : ClassId) (cd N : Int32) (vs : List Value) (fm : Value) (c0 c1 c2 : Int32) (h0 : Heap) (n0 : Nat) (v : Option Value) (h : Heap) (L : List Loc) : Prop := ∃ r : Int32, v = some (.int r) ∧ Fr n0 L ∧ h = h0 ∧ ((r = 1 ∧ (¬ own_ub c0 ∧ ¬ own_ub c1 ∧ ¬ own_ub c2 ∧ True)) ∨ (r = 0 ∧ ¬ (¬ own_ub c0 ∧ ¬ own_ub c1 ∧ ¬ own_ub c2 ∧ True)))
theorem rm_pr3 (l : Launch) (Z : State) (a0 : Array Value) (hw : own_H a0 Z) (ws : List Jvm.Cond) (z : Int32) (a1 t : Addr) (kb : ClassId) (cd N : Int32) (vs : List Value) (fm : Value) (c0 c1 c2 : Int32) (h0 : Heap) (n0 : Nat) (Z0 : n0 ≤ h0.size) (O : Old Z n0 h0) (SC : Sta Z Z.heap "java/lang/String" "COMPACT_STRINGS" "Z" (.int z)) (hz : ¬ z = 0) (SF : Sta Z Z.heap "jdk/internal/util/Preconditions" "SIOOBE_FORMATTER" "Ljava/util/function/BiFunction;" fm) (rfm : fm.isRef = true) (SU0 : Sta Z Z.heap "java/lang/StringUTF16" "$assertionsDisabled" "Z" (.int (1 : Int32))) (SU1 : Sta Z Z.heap "java/lang/StringUTF16" "HI_BYTE_SHIFT" "I" (.int (0 : Int32))) (SU2 : Sta Z Z.heap "java/lang/StringUTF16" "LO_BYTE_SHIFT" "I" (.int (8 : Int32))) (E1 : Exa Z h0 a1 "java/lang/String") (F1 : Fld Z h0 a1 "java/lang/String" "coder" "B" (.int cd)) (F2 : Fld Z h0 a1 "java/lang/String" "value" "[B" (.ref t)) (A1 : Arv Z h0 t kb .byte N vs (.int 0)) (hlen : N >>> (nar .byte cd &&& 31) = (3 : Int32)) (hr0 : nar .char c0 = c0) (hr1 : nar .char c1 = c1) (hr2 : nar .char c2 = c2) (hc0 : own_at cd N vs c0 0 0 1 (0 : Int32) (1 : Int32)) (hc1 : own_at cd N vs c1 1 2 3 (1 : Int32) (3 : Int32)) (hc2 : own_at cd N vs c2 2 4 5 (2 : Int32) (5 : Int32)) : own_MP l (⟨"com/example/entitl/entitl/Names", "printable", "(Ljava/lang/String;)Z"⟩ : MethodName) prog_10_method_2_code 1 (some .boolean) ws ({ frames := 6, cells := 0, slots := 0, locals := 94 } : Room) Z h0 #[(.ref a1)] (fun _ _ _ _ _ => True) (Q_pr3 Z z a1 t kb cd N vs fm c0 c1 c2 h0 n0) := by
  refine own_startP (plainFor_of_name own_pn_com_example_entitl_entitl_Names) fun p e s m below meth c s₁ Bd hx hby hml hown0 X0 e0 hh0 hZ hK Pst hPst => ?_
  have hown : s.vm.findClass "com/example/entitl/entitl/Names" = some m.cls := hown0
  have hnm := (name_of_methodNamed Bd.named Bd.method).1
  have N0 := Fr.nil n0
  rw [own_ef_R_1 m a1]
  refine own_x_aloadN X0.here hx (hb hby own_d8_0) rfl rfl ?_
  refine own_cF X0 (Jvm.LawKit.callS X0 hx (y := (⟨"com/example/entitl/entitl/Names", "unprintableAt", "(Ljava/lang/String;)I"⟩ : MethodName)) hown (mvT hZ (own_w40 hw)) (mvT hZ (own_w41 hw)) (mvT hZ (own_w38 hw)) (mvT hZ (own_w42 hw)) (by decide) (backOf (W := 0) (rm_un3 l Z a0 hw [] z a1 t kb cd N vs fm c0 c1 c2 h0 n0 Z0 O SC hz SF rfm SU0 SU1 SU2 E1 F1 F2 A1 hlen hr0 hr1 hr2 hc0 hc1 hc2) hZ (own_w42 hw) (own_w38 hw) (by decide) (by decide)) (g := (mkF m 1 #[.val (.ref a1)] [(.ref a1)])) rfl (by rw [hml]; rfl) (argsL := [(.ref a1)]) (rest := []) (lenOf own_pd16 rfl) rfl (by show 2 * 0 + _ ≤ _; exact Nat.le_of_eq rfl) (hb hby own_d8_1) (fun _ _ => ⟨rfl, e0, (by decide : 0 + 0 ≤ _), (by decide : 0 + 0 ≤ _)⟩)) fun v101 T101 L101 X101 hQ101 => ?_
  obtain ⟨r101, rfl, Nq101, e101, q101⟩ := hQ101
  have N101 := Fr.app N0 Nq101
  show own_Go p e below Pst (T101.setTop (mkF m 4 #[.val (.ref a1)] [(.int r101)]))
  by_cases hr : r101 < (0 : Int32)
  · refine own_x_ifNo X101.here hx (hb hby own_d8_4) rfl ((if0 _ _).trans (tlt hr).2.1) ?_
    refine own_x_iconst X101.here hx (hb hby own_d8_7) (z := (1 : Int32)) rfl ?_
    refine own_x_goto X101.here hx (pc0 := 8) (pc' := 12) rfl (hb hby own_d8_8) (by decide) (by decide) ?_
    rw [hPst]
    exact own_retP X101 (v := (some (.int (nar .boolean (1 : Int32))))) (Q := Q_pr3 Z z a1 t kb cd N vs fm c0 c1 c2 h0 n0) (fun h => by rw [Bd.returns] at h; cases h) Bd.notSynchronized (fun fs hr => retN X101 hx (t := .boolean) Bd.returns (by simp) (hb hby own_d8_12) hr) (by decide) (by decide) (by rw [e101]; exact ⟨_, rfl, N101, rfl, Or.inl ⟨rfl, q101.mp hr⟩⟩)
  · refine own_x_ifYes X101.here hx (pc0 := 4) (pc' := 11) rfl (hb hby own_d8_4) rfl ((if0 _ _).trans (flt hr).2.1) (by decide) (by decide) ?_
    refine own_x_iconst X101.here hx (hb hby own_d8_11) (z := (0 : Int32)) rfl ?_
    rw [hPst]
    exact own_retP X101 (v := (some (.int (nar .boolean (0 : Int32))))) (Q := Q_pr3 Z z a1 t kb cd N vs fm c0 c1 c2 h0 n0) (fun h => by rw [Bd.returns] at h; cases h) Bd.notSynchronized (fun fs hr => retN X101 hx (t := .boolean) Bd.returns (by simp) (hb hby own_d8_12) hr) (by decide) (by decide) (by rw [e101]; exact ⟨_, rfl, N101, rfl, Or.inr ⟨rfl, fun q => hr (q101.mpr q)⟩⟩)
def Q_un4 (Z : State) (z : Int32) (a1 t : Addr) (kb : ClassId) (cd N : Int32) (vs : List Value) (fm : Value) (c0 c1 c2 c3 : Int32) (h0 : Heap) (n0 : Nat) (v : Option Value) (h : Heap) (L : List Loc) : Prop := ∃ r : Int32, v = some (.int r) ∧ Fr n0 L ∧ h = h0 ∧ (r < 0 ↔ (¬ own_ub c0 ∧ ¬ own_ub c1 ∧ ¬ own_ub c2 ∧ ¬ own_ub c3 ∧ True))
theorem rm_un4 (l : Launch) (Z : State) (a0 : Array Value) (hw : own_H a0 Z) (ws : List Jvm.Cond) (z : Int32) (a1 t : Addr) (kb : ClassId) (cd N : Int32) (vs : List Value) (fm : Value) (c0 c1 c2 c3 : Int32) (h0 : Heap) (n0 : Nat) (Z0 : n0 ≤ h0.size) (O : Old Z n0 h0) (SC : Sta Z Z.heap "java/lang/String" "COMPACT_STRINGS" "Z" (.int z)) (hz : ¬ z = 0) (SF : Sta Z Z.heap "jdk/internal/util/Preconditions" "SIOOBE_FORMATTER" "Ljava/util/function/BiFunction;" fm) (rfm : fm.isRef = true) (SU0 : Sta Z Z.heap "java/lang/StringUTF16" "$assertionsDisabled" "Z" (.int (1 : Int32))) (SU1 : Sta Z Z.heap "java/lang/StringUTF16" "HI_BYTE_SHIFT" "I" (.int (0 : Int32))) (SU2 : Sta Z Z.heap "java/lang/StringUTF16" "LO_BYTE_SHIFT" "I" (.int (8 : Int32))) (E1 : Exa Z h0 a1 "java/lang/String") (F1 : Fld Z h0 a1 "java/lang/String" "coder" "B" (.int cd)) (F2 : Fld Z h0 a1 "java/lang/String" "value" "[B" (.ref t)) (A1 : Arv Z h0 t kb .byte N vs (.int 0)) (hlen : N >>> (nar .byte cd &&& 31) = (4 : Int32)) (hr0 : nar .char c0 = c0) (hr1 : nar .char c1 = c1) (hr2 : nar .char c2 = c2) (hr3 : nar .char c3 = c3) (hc0 : own_at cd N vs c0 0 0 1 (0 : Int32) (1 : Int32)) (hc1 : own_at cd N vs c1 1 2 3 (1 : Int32) (3 : Int32)) (hc2 : own_at cd N vs c2 2 4 5 (2 : Int32) (5 : Int32)) (hc3 : own_at cd N vs c3 3 6 7 (3 : Int32) (7 : Int32)) : own_MP l (⟨"com/example/entitl/entitl/Names", "unprintableAt", "(Ljava/lang/String;)I"⟩ : MethodName) prog_10_method_5_code 3 (some .int) ws ({ frames := 5, cells := 0, slots := 0, locals := 80 } : Room) Z h0 #[(.ref a1)] (fun _ _ _ _ _ => True) (Q_un4 Z z a1 t kb cd N vs fm c0 c1 c2 c3 h0 n0) := by
  refine own_startP (plainFor_of_name own_pn_com_example_entitl_entitl_Names) fun p e s m below meth c s₁ Bd hx hby hml hown0 X0 e0 hh0 hZ hK Pst hPst => ?_
  have hown : s.vm.findClass "com/example/entitl/entitl/Names" = some m.cls := hown0
  have hnm := (name_of_methodNamed Bd.named Bd.method).1
  have N0 := Fr.nil n0
  rw [own_ef_R_3 m a1]
  refine own_x_iconst X0.here hx (hb hby own_d9_0) (z := (0 : Int32)) rfl ?_
  refine own_x_istoreN X0.here hx (hb hby own_d9_1) rfl (l' := #[.val (.ref a1), .val (.int (0 : Int32)), .unset]) rfl ?_
  refine own_x_iloadN X0.here hx (hb hby own_d9_2) rfl ?_
  refine own_x_aloadN X0.here hx (hb hby own_d9_3) rfl rfl ?_
  obtain ⟨cq101, kq101, q101a, q101b, q101c⟩ := isOf hZ e0 E1
  refine own_cP X0 (X0.virtualBack hx (y := (⟨"java/lang/String", "length", "()I"⟩ : MethodName)) (z := (⟨"java/lang/String", "length", "()I"⟩ : MethodName)) hown (mvT hZ (own_w43 hw)) (mvT hZ (own_w44 hw)) (notFace_of_selects (args := #[]) (mvT hZ (own_w46 hw))) (mvT hZ (own_w46 hw)) (mvT hZ (own_w45 hw)) (by decide) (backOf (W := 1) (rm_len l Z a0 hw [] z a1 t kb cd N vs (.int 0) h0 n0 Z0 O SC hz E1 F1 F2 A1) hZ (own_w47 hw) (own_w9 hw) (by decide) (by decide)) q101a q101c (g := (mkF m 4 #[.val (.ref a1), .val (.int (0 : Int32)), .unset] [(.ref a1), (.int (0 : Int32))])) rfl (by rw [hml]; rfl) (Steps.refl _) (argsL := []) (rest := [(.int (0 : Int32))]) (lenOf own_pd15 rfl) rfl (by show 2 * 0 + _ ≤ _; exact Nat.le_of_eq rfl) (hb hby own_d9_4) (fun _ _ => ⟨rfl, e0, (by decide : 0 + 0 ≤ _), (by decide : 0 + 0 ≤ _)⟩)) fun v101 T101 L101 X101 hQ101 => ?_
  obtain ⟨rfl, Nq101, e101⟩ := hQ101
  have N101 := Fr.app N0 Nq101
  show own_Go p e below Pst (T101.setTop (mkF m 7 #[.val (.ref a1), .val (.int (0 : Int32)), .unset] [(.int (N >>> (nar .byte cd &&& 31))), (.int (0 : Int32))]))
  rw [hlen]
  show own_Go p e below Pst (T101.setTop (mkF m 7 #[.val (.ref a1), .val (.int (0 : Int32)), .unset] [(.int (4 : Int32)), (.int (0 : Int32))]))
  refine own_x_icmpNo X101.here hx (hb hby own_d9_7) rfl (tlt (by decide)).2.1 ?_
  refine own_x_aloadN X101.here hx (hb hby own_d9_10) rfl rfl ?_
  refine own_x_iloadN X101.here hx (hb hby own_d9_11) rfl ?_
  obtain ⟨cq102, kq102, q102a, q102b, q102c⟩ := isOf hZ e101 E1
  refine own_cP X101 (X101.virtualBack hx (y := (⟨"java/lang/String", "charAt", "(I)C"⟩ : MethodName)) (z := (⟨"java/lang/String", "charAt", "(I)C"⟩ : MethodName)) hown (mvT hZ (own_w53 hw)) (mvT hZ (own_w54 hw)) (notFace_of_selects (args := #[]) (mvT hZ (own_w56 hw))) (mvT hZ (own_w56 hw)) (mvT hZ (own_w55 hw)) (by decide) (backOf (W := 0) (rm_ch0 l Z a0 hw [] z a1 t kb cd N c0 vs fm h0 n0 Z0 O SC hz SF rfm SU0 SU1 SU2 E1 F1 F2 A1 hr0 hc0) hZ (own_w57 hw) (own_w9 hw) (by decide) (by decide)) q102a q102c (g := (mkF m 12 #[.val (.ref a1), .val (.int (0 : Int32)), .unset] [(.int (0 : Int32)), (.ref a1)])) rfl (by rw [hml]; rfl) (Steps.refl _) (argsL := [(.int (0 : Int32))]) (rest := []) (lenOf own_pd17 rfl) rfl (by show 2 * 0 + _ ≤ _; exact Nat.le_of_eq rfl) (hb hby own_d9_12) (fun _ _ => ⟨rfl, e101, (by decide : 0 + 0 ≤ _), (by decide : 0 + 0 ≤ _)⟩)) fun v102 T102 L102 X102 hQ102 => ?_
  obtain ⟨rfl, Nq102, e102⟩ := hQ102
  have N102 := Fr.app N101 Nq102
  show own_Go p e below Pst (T102.setTop (mkF m 15 #[.val (.ref a1), .val (.int (0 : Int32)), .unset] [(.int c0)]))
  refine own_x_istoreN X102.here hx (hb hby own_d9_15) rfl (l' := #[.val (.ref a1), .val (.int (0 : Int32)), .val (.int c0)]) rfl ?_
  refine own_x_iloadN X102.here hx (hb hby own_d9_16) rfl ?_
  refine own_cF X102 (Jvm.LawKit.callS X102 hx (y := (⟨"java/lang/Character", "isISOControl", "(C)Z"⟩ : MethodName)) hown (mvT hZ (own_w75 hw)) (mvT hZ (own_w76 hw)) (mvT hZ (own_w77 hw)) (mvT hZ (own_w78 hw)) (by decide) (backOf (W := 0) (rm_isoc l Z a0 hw [] c0 h0 n0 Z0 ) hZ (own_w78 hw) (own_w77 hw) (by decide) (by decide)) (g := (mkF m 17 #[.val (.ref a1), .val (.int (0 : Int32)), .val (.int c0)] [(.int c0)])) rfl (by rw [hml]; rfl) (argsL := [(.int c0)]) (rest := []) (lenOf own_pd18 rfl) rfl (by show 2 * 0 + _ ≤ _; exact Nat.le_of_eq rfl) (hb hby own_d9_17) (fun _ _ => ⟨rfl, e102, (by decide : 0 + 0 ≤ _), (by decide : 0 + 0 ≤ _)⟩)) fun v103 T103 L103 X103 hQ103 => ?_
  obtain ⟨rfl, Nq103, e103⟩ := hQ103
  have N103 := Fr.app N102 Nq103
  show own_Go p e below Pst (T103.setTop (mkF m 20 #[.val (.ref a1), .val (.int (0 : Int32)), .val (.int c0)] [(.int (own_iso c0))]))
  by_cases y0 : own_iso c0 = (0 : Int32)
  · refine own_x_ifNo X103.here hx (hb hby own_d9_20) rfl ((if0 _ _).trans (teq y0).2) ?_
    refine own_x_iloadN X103.here hx (hb hby own_d9_23) rfl ?_
    refine own_x_sipush X103.here hx (hb hby own_d9_24) (z := (8232 : Int32)) rfl ?_
    by_cases x0 : c0 = (8232 : Int32)
    · refine own_x_icmpYes X103.here hx (pc0 := 27) (pc' := 37) rfl (hb hby own_d9_27) rfl (teq x0).1 (by decide) (by decide) ?_
      refine own_x_iloadN X103.here hx (hb hby own_d9_37) rfl ?_
      rw [hPst]
      exact own_retP X103 (v := (some (.int (0 : Int32)))) (Q := Q_un4 Z z a1 t kb cd N vs fm c0 c1 c2 c3 h0 n0) (fun h => by rw [Bd.returns] at h; cases h) Bd.notSynchronized (fun fs hr => own_retI X103 hx Bd.returns (hb hby own_d9_38) hr) (by decide) (by decide) (by rw [e103]; exact ⟨_, rfl, N103, rfl, ⟨fun q => absurd q (by decide), fun q => absurd (Or.inr (Or.inl x0)) q.1⟩⟩)
    · refine own_x_icmpNo X103.here hx (hb hby own_d9_27) rfl (feq x0).1 ?_
      refine own_x_iloadN X103.here hx (hb hby own_d9_30) rfl ?_
      refine own_x_sipush X103.here hx (hb hby own_d9_31) (z := (8233 : Int32)) rfl ?_
      by_cases w0 : c0 = (8233 : Int32)
      · refine own_x_icmpNo X103.here hx (hb hby own_d9_34) rfl (teq w0).2 ?_
        refine own_x_iloadN X103.here hx (hb hby own_d9_37) rfl ?_
        rw [hPst]
        exact own_retP X103 (v := (some (.int (0 : Int32)))) (Q := Q_un4 Z z a1 t kb cd N vs fm c0 c1 c2 c3 h0 n0) (fun h => by rw [Bd.returns] at h; cases h) Bd.notSynchronized (fun fs hr => own_retI X103 hx Bd.returns (hb hby own_d9_38) hr) (by decide) (by decide) (by rw [e103]; exact ⟨_, rfl, N103, rfl, ⟨fun q => absurd q (by decide), fun q => absurd (Or.inr (Or.inr w0)) q.1⟩⟩)
      · refine own_x_icmpYes X103.here hx (pc0 := 34) (pc' := 39) rfl (hb hby own_d9_34) rfl (feq w0).2 (by decide) (by decide) ?_
        refine own_x_iinc X103.here hx (hb hby own_d9_39) rfl (l' := #[.val (.ref a1), .val (.int ((0 : Int32) + (1 : Int32))), .val (.int c0)]) rfl ?_
        rw [show ((0 : Int32) + (1 : Int32)) = (1 : Int32) from by decide]
        show own_Go p e below Pst (T103.setTop (mkF m 42 #[.val (.ref a1), .val (.int (1 : Int32)), .val (.int c0)] []))
        refine own_x_goto X103.here hx (pc0 := 42) (pc' := 2) rfl (hb hby own_d9_42) (by decide) (by decide) ?_
        have g0 : ¬ own_ub c0 := fun q => q.elim (fun q => q y0) (fun q => q.elim x0 w0)
        refine own_x_iloadN X103.here hx (hb hby own_d9_2) rfl ?_
        refine own_x_aloadN X103.here hx (hb hby own_d9_3) rfl rfl ?_
        obtain ⟨cq104, kq104, q104a, q104b, q104c⟩ := isOf hZ e103 E1
        refine own_cP X103 (X103.virtualBack hx (y := (⟨"java/lang/String", "length", "()I"⟩ : MethodName)) (z := (⟨"java/lang/String", "length", "()I"⟩ : MethodName)) hown (mvT hZ (own_w43 hw)) (mvT hZ (own_w44 hw)) (notFace_of_selects (args := #[]) (mvT hZ (own_w46 hw))) (mvT hZ (own_w46 hw)) (mvT hZ (own_w45 hw)) (by decide) (backOf (W := 1) (rm_len l Z a0 hw [] z a1 t kb cd N vs (.int 0) h0 n0 Z0 O SC hz E1 F1 F2 A1) hZ (own_w47 hw) (own_w9 hw) (by decide) (by decide)) q104a q104c (g := (mkF m 4 #[.val (.ref a1), .val (.int (1 : Int32)), .val (.int c0)] [(.ref a1), (.int (1 : Int32))])) rfl (by rw [hml]; rfl) (Steps.refl _) (argsL := []) (rest := [(.int (1 : Int32))]) (lenOf own_pd15 rfl) rfl (by show 2 * 0 + _ ≤ _; exact Nat.le_of_eq rfl) (hb hby own_d9_4) (fun _ _ => ⟨rfl, e103, (by decide : 0 + 0 ≤ _), (by decide : 0 + 0 ≤ _)⟩)) fun v104 T104 L104 X104 hQ104 => ?_
        obtain ⟨rfl, Nq104, e104⟩ := hQ104
        have N104 := Fr.app N103 Nq104
        show own_Go p e below Pst (T104.setTop (mkF m 7 #[.val (.ref a1), .val (.int (1 : Int32)), .val (.int c0)] [(.int (N >>> (nar .byte cd &&& 31))), (.int (1 : Int32))]))
        rw [hlen]
        show own_Go p e below Pst (T104.setTop (mkF m 7 #[.val (.ref a1), .val (.int (1 : Int32)), .val (.int c0)] [(.int (4 : Int32)), (.int (1 : Int32))]))
        refine own_x_icmpNo X104.here hx (hb hby own_d9_7) rfl (tlt (by decide)).2.1 ?_
        refine own_x_aloadN X104.here hx (hb hby own_d9_10) rfl rfl ?_
        refine own_x_iloadN X104.here hx (hb hby own_d9_11) rfl ?_
        obtain ⟨cq105, kq105, q105a, q105b, q105c⟩ := isOf hZ e104 E1
        refine own_cP X104 (X104.virtualBack hx (y := (⟨"java/lang/String", "charAt", "(I)C"⟩ : MethodName)) (z := (⟨"java/lang/String", "charAt", "(I)C"⟩ : MethodName)) hown (mvT hZ (own_w53 hw)) (mvT hZ (own_w54 hw)) (notFace_of_selects (args := #[]) (mvT hZ (own_w56 hw))) (mvT hZ (own_w56 hw)) (mvT hZ (own_w55 hw)) (by decide) (backOf (W := 0) (rm_ch1 l Z a0 hw [] z a1 t kb cd N c1 vs fm h0 n0 Z0 O SC hz SF rfm SU0 SU1 SU2 E1 F1 F2 A1 hr1 hc1) hZ (own_w57 hw) (own_w9 hw) (by decide) (by decide)) q105a q105c (g := (mkF m 12 #[.val (.ref a1), .val (.int (1 : Int32)), .val (.int c0)] [(.int (1 : Int32)), (.ref a1)])) rfl (by rw [hml]; rfl) (Steps.refl _) (argsL := [(.int (1 : Int32))]) (rest := []) (lenOf own_pd17 rfl) rfl (by show 2 * 0 + _ ≤ _; exact Nat.le_of_eq rfl) (hb hby own_d9_12) (fun _ _ => ⟨rfl, e104, (by decide : 0 + 0 ≤ _), (by decide : 0 + 0 ≤ _)⟩)) fun v105 T105 L105 X105 hQ105 => ?_
        obtain ⟨rfl, Nq105, e105⟩ := hQ105
        have N105 := Fr.app N104 Nq105
        show own_Go p e below Pst (T105.setTop (mkF m 15 #[.val (.ref a1), .val (.int (1 : Int32)), .val (.int c0)] [(.int c1)]))
        refine own_x_istoreN X105.here hx (hb hby own_d9_15) rfl (l' := #[.val (.ref a1), .val (.int (1 : Int32)), .val (.int c1)]) rfl ?_
        refine own_x_iloadN X105.here hx (hb hby own_d9_16) rfl ?_
        refine own_cF X105 (Jvm.LawKit.callS X105 hx (y := (⟨"java/lang/Character", "isISOControl", "(C)Z"⟩ : MethodName)) hown (mvT hZ (own_w75 hw)) (mvT hZ (own_w76 hw)) (mvT hZ (own_w77 hw)) (mvT hZ (own_w78 hw)) (by decide) (backOf (W := 0) (rm_isoc l Z a0 hw [] c1 h0 n0 Z0 ) hZ (own_w78 hw) (own_w77 hw) (by decide) (by decide)) (g := (mkF m 17 #[.val (.ref a1), .val (.int (1 : Int32)), .val (.int c1)] [(.int c1)])) rfl (by rw [hml]; rfl) (argsL := [(.int c1)]) (rest := []) (lenOf own_pd18 rfl) rfl (by show 2 * 0 + _ ≤ _; exact Nat.le_of_eq rfl) (hb hby own_d9_17) (fun _ _ => ⟨rfl, e105, (by decide : 0 + 0 ≤ _), (by decide : 0 + 0 ≤ _)⟩)) fun v106 T106 L106 X106 hQ106 => ?_
        obtain ⟨rfl, Nq106, e106⟩ := hQ106
        have N106 := Fr.app N105 Nq106
        show own_Go p e below Pst (T106.setTop (mkF m 20 #[.val (.ref a1), .val (.int (1 : Int32)), .val (.int c1)] [(.int (own_iso c1))]))
        by_cases y1 : own_iso c1 = (0 : Int32)
        · refine own_x_ifNo X106.here hx (hb hby own_d9_20) rfl ((if0 _ _).trans (teq y1).2) ?_
          refine own_x_iloadN X106.here hx (hb hby own_d9_23) rfl ?_
          refine own_x_sipush X106.here hx (hb hby own_d9_24) (z := (8232 : Int32)) rfl ?_
          by_cases x1 : c1 = (8232 : Int32)
          · refine own_x_icmpYes X106.here hx (pc0 := 27) (pc' := 37) rfl (hb hby own_d9_27) rfl (teq x1).1 (by decide) (by decide) ?_
            refine own_x_iloadN X106.here hx (hb hby own_d9_37) rfl ?_
            rw [hPst]
            exact own_retP X106 (v := (some (.int (1 : Int32)))) (Q := Q_un4 Z z a1 t kb cd N vs fm c0 c1 c2 c3 h0 n0) (fun h => by rw [Bd.returns] at h; cases h) Bd.notSynchronized (fun fs hr => own_retI X106 hx Bd.returns (hb hby own_d9_38) hr) (by decide) (by decide) (by rw [e106]; exact ⟨_, rfl, N106, rfl, ⟨fun q => absurd q (by decide), fun q => absurd (Or.inr (Or.inl x1)) q.2.1⟩⟩)
          · refine own_x_icmpNo X106.here hx (hb hby own_d9_27) rfl (feq x1).1 ?_
            refine own_x_iloadN X106.here hx (hb hby own_d9_30) rfl ?_
            refine own_x_sipush X106.here hx (hb hby own_d9_31) (z := (8233 : Int32)) rfl ?_
            by_cases w1 : c1 = (8233 : Int32)
            · refine own_x_icmpNo X106.here hx (hb hby own_d9_34) rfl (teq w1).2 ?_
              refine own_x_iloadN X106.here hx (hb hby own_d9_37) rfl ?_
              rw [hPst]
              exact own_retP X106 (v := (some (.int (1 : Int32)))) (Q := Q_un4 Z z a1 t kb cd N vs fm c0 c1 c2 c3 h0 n0) (fun h => by rw [Bd.returns] at h; cases h) Bd.notSynchronized (fun fs hr => own_retI X106 hx Bd.returns (hb hby own_d9_38) hr) (by decide) (by decide) (by rw [e106]; exact ⟨_, rfl, N106, rfl, ⟨fun q => absurd q (by decide), fun q => absurd (Or.inr (Or.inr w1)) q.2.1⟩⟩)
            · refine own_x_icmpYes X106.here hx (pc0 := 34) (pc' := 39) rfl (hb hby own_d9_34) rfl (feq w1).2 (by decide) (by decide) ?_
              refine own_x_iinc X106.here hx (hb hby own_d9_39) rfl (l' := #[.val (.ref a1), .val (.int ((1 : Int32) + (1 : Int32))), .val (.int c1)]) rfl ?_
              rw [show ((1 : Int32) + (1 : Int32)) = (2 : Int32) from by decide]
              show own_Go p e below Pst (T106.setTop (mkF m 42 #[.val (.ref a1), .val (.int (2 : Int32)), .val (.int c1)] []))
              refine own_x_goto X106.here hx (pc0 := 42) (pc' := 2) rfl (hb hby own_d9_42) (by decide) (by decide) ?_
              have g1 : ¬ own_ub c1 := fun q => q.elim (fun q => q y1) (fun q => q.elim x1 w1)
              refine own_x_iloadN X106.here hx (hb hby own_d9_2) rfl ?_
              refine own_x_aloadN X106.here hx (hb hby own_d9_3) rfl rfl ?_
              obtain ⟨cq107, kq107, q107a, q107b, q107c⟩ := isOf hZ e106 E1
              refine own_cP X106 (X106.virtualBack hx (y := (⟨"java/lang/String", "length", "()I"⟩ : MethodName)) (z := (⟨"java/lang/String", "length", "()I"⟩ : MethodName)) hown (mvT hZ (own_w43 hw)) (mvT hZ (own_w44 hw)) (notFace_of_selects (args := #[]) (mvT hZ (own_w46 hw))) (mvT hZ (own_w46 hw)) (mvT hZ (own_w45 hw)) (by decide) (backOf (W := 1) (rm_len l Z a0 hw [] z a1 t kb cd N vs (.int 0) h0 n0 Z0 O SC hz E1 F1 F2 A1) hZ (own_w47 hw) (own_w9 hw) (by decide) (by decide)) q107a q107c (g := (mkF m 4 #[.val (.ref a1), .val (.int (2 : Int32)), .val (.int c1)] [(.ref a1), (.int (2 : Int32))])) rfl (by rw [hml]; rfl) (Steps.refl _) (argsL := []) (rest := [(.int (2 : Int32))]) (lenOf own_pd15 rfl) rfl (by show 2 * 0 + _ ≤ _; exact Nat.le_of_eq rfl) (hb hby own_d9_4) (fun _ _ => ⟨rfl, e106, (by decide : 0 + 0 ≤ _), (by decide : 0 + 0 ≤ _)⟩)) fun v107 T107 L107 X107 hQ107 => ?_
              obtain ⟨rfl, Nq107, e107⟩ := hQ107
              have N107 := Fr.app N106 Nq107
              show own_Go p e below Pst (T107.setTop (mkF m 7 #[.val (.ref a1), .val (.int (2 : Int32)), .val (.int c1)] [(.int (N >>> (nar .byte cd &&& 31))), (.int (2 : Int32))]))
              rw [hlen]
              show own_Go p e below Pst (T107.setTop (mkF m 7 #[.val (.ref a1), .val (.int (2 : Int32)), .val (.int c1)] [(.int (4 : Int32)), (.int (2 : Int32))]))
              refine own_x_icmpNo X107.here hx (hb hby own_d9_7) rfl (tlt (by decide)).2.1 ?_
              refine own_x_aloadN X107.here hx (hb hby own_d9_10) rfl rfl ?_
              refine own_x_iloadN X107.here hx (hb hby own_d9_11) rfl ?_
              obtain ⟨cq108, kq108, q108a, q108b, q108c⟩ := isOf hZ e107 E1
              refine own_cP X107 (X107.virtualBack hx (y := (⟨"java/lang/String", "charAt", "(I)C"⟩ : MethodName)) (z := (⟨"java/lang/String", "charAt", "(I)C"⟩ : MethodName)) hown (mvT hZ (own_w53 hw)) (mvT hZ (own_w54 hw)) (notFace_of_selects (args := #[]) (mvT hZ (own_w56 hw))) (mvT hZ (own_w56 hw)) (mvT hZ (own_w55 hw)) (by decide) (backOf (W := 0) (rm_ch2 l Z a0 hw [] z a1 t kb cd N c2 vs fm h0 n0 Z0 O SC hz SF rfm SU0 SU1 SU2 E1 F1 F2 A1 hr2 hc2) hZ (own_w57 hw) (own_w9 hw) (by decide) (by decide)) q108a q108c (g := (mkF m 12 #[.val (.ref a1), .val (.int (2 : Int32)), .val (.int c1)] [(.int (2 : Int32)), (.ref a1)])) rfl (by rw [hml]; rfl) (Steps.refl _) (argsL := [(.int (2 : Int32))]) (rest := []) (lenOf own_pd17 rfl) rfl (by show 2 * 0 + _ ≤ _; exact Nat.le_of_eq rfl) (hb hby own_d9_12) (fun _ _ => ⟨rfl, e107, (by decide : 0 + 0 ≤ _), (by decide : 0 + 0 ≤ _)⟩)) fun v108 T108 L108 X108 hQ108 => ?_
              obtain ⟨rfl, Nq108, e108⟩ := hQ108
              have N108 := Fr.app N107 Nq108
              show own_Go p e below Pst (T108.setTop (mkF m 15 #[.val (.ref a1), .val (.int (2 : Int32)), .val (.int c1)] [(.int c2)]))
              refine own_x_istoreN X108.here hx (hb hby own_d9_15) rfl (l' := #[.val (.ref a1), .val (.int (2 : Int32)), .val (.int c2)]) rfl ?_
              refine own_x_iloadN X108.here hx (hb hby own_d9_16) rfl ?_
              refine own_cF X108 (Jvm.LawKit.callS X108 hx (y := (⟨"java/lang/Character", "isISOControl", "(C)Z"⟩ : MethodName)) hown (mvT hZ (own_w75 hw)) (mvT hZ (own_w76 hw)) (mvT hZ (own_w77 hw)) (mvT hZ (own_w78 hw)) (by decide) (backOf (W := 0) (rm_isoc l Z a0 hw [] c2 h0 n0 Z0 ) hZ (own_w78 hw) (own_w77 hw) (by decide) (by decide)) (g := (mkF m 17 #[.val (.ref a1), .val (.int (2 : Int32)), .val (.int c2)] [(.int c2)])) rfl (by rw [hml]; rfl) (argsL := [(.int c2)]) (rest := []) (lenOf own_pd18 rfl) rfl (by show 2 * 0 + _ ≤ _; exact Nat.le_of_eq rfl) (hb hby own_d9_17) (fun _ _ => ⟨rfl, e108, (by decide : 0 + 0 ≤ _), (by decide : 0 + 0 ≤ _)⟩)) fun v109 T109 L109 X109 hQ109 => ?_
              obtain ⟨rfl, Nq109, e109⟩ := hQ109
              have N109 := Fr.app N108 Nq109
              show own_Go p e below Pst (T109.setTop (mkF m 20 #[.val (.ref a1), .val (.int (2 : Int32)), .val (.int c2)] [(.int (own_iso c2))]))
              by_cases y2 : own_iso c2 = (0 : Int32)
              · refine own_x_ifNo X109.here hx (hb hby own_d9_20) rfl ((if0 _ _).trans (teq y2).2) ?_
                refine own_x_iloadN X109.here hx (hb hby own_d9_23) rfl ?_
                refine own_x_sipush X109.here hx (hb hby own_d9_24) (z := (8232 : Int32)) rfl ?_
                by_cases x2 : c2 = (8232 : Int32)
                · refine own_x_icmpYes X109.here hx (pc0 := 27) (pc' := 37) rfl (hb hby own_d9_27) rfl (teq x2).1 (by decide) (by decide) ?_
                  refine own_x_iloadN X109.here hx (hb hby own_d9_37) rfl ?_
                  rw [hPst]
                  exact own_retP X109 (v := (some (.int (2 : Int32)))) (Q := Q_un4 Z z a1 t kb cd N vs fm c0 c1 c2 c3 h0 n0) (fun h => by rw [Bd.returns] at h; cases h) Bd.notSynchronized (fun fs hr => own_retI X109 hx Bd.returns (hb hby own_d9_38) hr) (by decide) (by decide) (by rw [e109]; exact ⟨_, rfl, N109, rfl, ⟨fun q => absurd q (by decide), fun q => absurd (Or.inr (Or.inl x2)) q.2.2.1⟩⟩)
                · refine own_x_icmpNo X109.here hx (hb hby own_d9_27) rfl (feq x2).1 ?_
                  refine own_x_iloadN X109.here hx (hb hby own_d9_30) rfl ?_
                  refine own_x_sipush X109.here hx (hb hby own_d9_31) (z := (8233 : Int32)) rfl ?_
                  by_cases w2 : c2 = (8233 : Int32)
                  · refine own_x_icmpNo X109.here hx (hb hby own_d9_34) rfl (teq w2).2 ?_
                    refine own_x_iloadN X109.here hx (hb hby own_d9_37) rfl ?_
                    rw [hPst]
                    exact own_retP X109 (v := (some (.int (2 : Int32)))) (Q := Q_un4 Z z a1 t kb cd N vs fm c0 c1 c2 c3 h0 n0) (fun h => by rw [Bd.returns] at h; cases h) Bd.notSynchronized (fun fs hr => own_retI X109 hx Bd.returns (hb hby own_d9_38) hr) (by decide) (by decide) (by rw [e109]; exact ⟨_, rfl, N109, rfl, ⟨fun q => absurd q (by decide), fun q => absurd (Or.inr (Or.inr w2)) q.2.2.1⟩⟩)
                  · refine own_x_icmpYes X109.here hx (pc0 := 34) (pc' := 39) rfl (hb hby own_d9_34) rfl (feq w2).2 (by decide) (by decide) ?_
                    refine own_x_iinc X109.here hx (hb hby own_d9_39) rfl (l' := #[.val (.ref a1), .val (.int ((2 : Int32) + (1 : Int32))), .val (.int c2)]) rfl ?_
                    rw [show ((2 : Int32) + (1 : Int32)) = (3 : Int32) from by decide]
                    show own_Go p e below Pst (T109.setTop (mkF m 42 #[.val (.ref a1), .val (.int (3 : Int32)), .val (.int c2)] []))
                    refine own_x_goto X109.here hx (pc0 := 42) (pc' := 2) rfl (hb hby own_d9_42) (by decide) (by decide) ?_
                    have g2 : ¬ own_ub c2 := fun q => q.elim (fun q => q y2) (fun q => q.elim x2 w2)
                    refine own_x_iloadN X109.here hx (hb hby own_d9_2) rfl ?_
                    refine own_x_aloadN X109.here hx (hb hby own_d9_3) rfl rfl ?_
                    obtain ⟨cq110, kq110, q110a, q110b, q110c⟩ := isOf hZ e109 E1
                    refine own_cP X109 (X109.virtualBack hx (y := (⟨"java/lang/String", "length", "()I"⟩ : MethodName)) (z := (⟨"java/lang/String", "length", "()I"⟩ : MethodName)) hown (mvT hZ (own_w43 hw)) (mvT hZ (own_w44 hw)) (notFace_of_selects (args := #[]) (mvT hZ (own_w46 hw))) (mvT hZ (own_w46 hw)) (mvT hZ (own_w45 hw)) (by decide) (backOf (W := 1) (rm_len l Z a0 hw [] z a1 t kb cd N vs (.int 0) h0 n0 Z0 O SC hz E1 F1 F2 A1) hZ (own_w47 hw) (own_w9 hw) (by decide) (by decide)) q110a q110c (g := (mkF m 4 #[.val (.ref a1), .val (.int (3 : Int32)), .val (.int c2)] [(.ref a1), (.int (3 : Int32))])) rfl (by rw [hml]; rfl) (Steps.refl _) (argsL := []) (rest := [(.int (3 : Int32))]) (lenOf own_pd15 rfl) rfl (by show 2 * 0 + _ ≤ _; exact Nat.le_of_eq rfl) (hb hby own_d9_4) (fun _ _ => ⟨rfl, e109, (by decide : 0 + 0 ≤ _), (by decide : 0 + 0 ≤ _)⟩)) fun v110 T110 L110 X110 hQ110 => ?_
                    obtain ⟨rfl, Nq110, e110⟩ := hQ110
                    have N110 := Fr.app N109 Nq110
                    show own_Go p e below Pst (T110.setTop (mkF m 7 #[.val (.ref a1), .val (.int (3 : Int32)), .val (.int c2)] [(.int (N >>> (nar .byte cd &&& 31))), (.int (3 : Int32))]))
                    rw [hlen]
                    show own_Go p e below Pst (T110.setTop (mkF m 7 #[.val (.ref a1), .val (.int (3 : Int32)), .val (.int c2)] [(.int (4 : Int32)), (.int (3 : Int32))]))
                    refine own_x_icmpNo X110.here hx (hb hby own_d9_7) rfl (tlt (by decide)).2.1 ?_
                    refine own_x_aloadN X110.here hx (hb hby own_d9_10) rfl rfl ?_
                    refine own_x_iloadN X110.here hx (hb hby own_d9_11) rfl ?_
                    obtain ⟨cq111, kq111, q111a, q111b, q111c⟩ := isOf hZ e110 E1
                    refine own_cP X110 (X110.virtualBack hx (y := (⟨"java/lang/String", "charAt", "(I)C"⟩ : MethodName)) (z := (⟨"java/lang/String", "charAt", "(I)C"⟩ : MethodName)) hown (mvT hZ (own_w53 hw)) (mvT hZ (own_w54 hw)) (notFace_of_selects (args := #[]) (mvT hZ (own_w56 hw))) (mvT hZ (own_w56 hw)) (mvT hZ (own_w55 hw)) (by decide) (backOf (W := 0) (rm_ch3 l Z a0 hw [] z a1 t kb cd N c3 vs fm h0 n0 Z0 O SC hz SF rfm SU0 SU1 SU2 E1 F1 F2 A1 hr3 hc3) hZ (own_w57 hw) (own_w9 hw) (by decide) (by decide)) q111a q111c (g := (mkF m 12 #[.val (.ref a1), .val (.int (3 : Int32)), .val (.int c2)] [(.int (3 : Int32)), (.ref a1)])) rfl (by rw [hml]; rfl) (Steps.refl _) (argsL := [(.int (3 : Int32))]) (rest := []) (lenOf own_pd17 rfl) rfl (by show 2 * 0 + _ ≤ _; exact Nat.le_of_eq rfl) (hb hby own_d9_12) (fun _ _ => ⟨rfl, e110, (by decide : 0 + 0 ≤ _), (by decide : 0 + 0 ≤ _)⟩)) fun v111 T111 L111 X111 hQ111 => ?_
                    obtain ⟨rfl, Nq111, e111⟩ := hQ111
                    have N111 := Fr.app N110 Nq111
                    show own_Go p e below Pst (T111.setTop (mkF m 15 #[.val (.ref a1), .val (.int (3 : Int32)), .val (.int c2)] [(.int c3)]))
                    refine own_x_istoreN X111.here hx (hb hby own_d9_15) rfl (l' := #[.val (.ref a1), .val (.int (3 : Int32)), .val (.int c3)]) rfl ?_
                    refine own_x_iloadN X111.here hx (hb hby own_d9_16) rfl ?_
                    refine own_cF X111 (Jvm.LawKit.callS X111 hx (y := (⟨"java/lang/Character", "isISOControl", "(C)Z"⟩ : MethodName)) hown (mvT hZ (own_w75 hw)) (mvT hZ (own_w76 hw)) (mvT hZ (own_w77 hw)) (mvT hZ (own_w78 hw)) (by decide) (backOf (W := 0) (rm_isoc l Z a0 hw [] c3 h0 n0 Z0 ) hZ (own_w78 hw) (own_w77 hw) (by decide) (by decide)) (g := (mkF m 17 #[.val (.ref a1), .val (.int (3 : Int32)), .val (.int c3)] [(.int c3)])) rfl (by rw [hml]; rfl) (argsL := [(.int c3)]) (rest := []) (lenOf own_pd18 rfl) rfl (by show 2 * 0 + _ ≤ _; exact Nat.le_of_eq rfl) (hb hby own_d9_17) (fun _ _ => ⟨rfl, e111, (by decide : 0 + 0 ≤ _), (by decide : 0 + 0 ≤ _)⟩)) fun v112 T112 L112 X112 hQ112 => ?_
                    obtain ⟨rfl, Nq112, e112⟩ := hQ112
                    have N112 := Fr.app N111 Nq112
                    show own_Go p e below Pst (T112.setTop (mkF m 20 #[.val (.ref a1), .val (.int (3 : Int32)), .val (.int c3)] [(.int (own_iso c3))]))
                    by_cases y3 : own_iso c3 = (0 : Int32)
                    · refine own_x_ifNo X112.here hx (hb hby own_d9_20) rfl ((if0 _ _).trans (teq y3).2) ?_
                      refine own_x_iloadN X112.here hx (hb hby own_d9_23) rfl ?_
                      refine own_x_sipush X112.here hx (hb hby own_d9_24) (z := (8232 : Int32)) rfl ?_
                      by_cases x3 : c3 = (8232 : Int32)
                      · refine own_x_icmpYes X112.here hx (pc0 := 27) (pc' := 37) rfl (hb hby own_d9_27) rfl (teq x3).1 (by decide) (by decide) ?_
                        refine own_x_iloadN X112.here hx (hb hby own_d9_37) rfl ?_
                        rw [hPst]
                        exact own_retP X112 (v := (some (.int (3 : Int32)))) (Q := Q_un4 Z z a1 t kb cd N vs fm c0 c1 c2 c3 h0 n0) (fun h => by rw [Bd.returns] at h; cases h) Bd.notSynchronized (fun fs hr => own_retI X112 hx Bd.returns (hb hby own_d9_38) hr) (by decide) (by decide) (by rw [e112]; exact ⟨_, rfl, N112, rfl, ⟨fun q => absurd q (by decide), fun q => absurd (Or.inr (Or.inl x3)) q.2.2.2.1⟩⟩)
                      · refine own_x_icmpNo X112.here hx (hb hby own_d9_27) rfl (feq x3).1 ?_
                        refine own_x_iloadN X112.here hx (hb hby own_d9_30) rfl ?_
                        refine own_x_sipush X112.here hx (hb hby own_d9_31) (z := (8233 : Int32)) rfl ?_
                        by_cases w3 : c3 = (8233 : Int32)
                        · refine own_x_icmpNo X112.here hx (hb hby own_d9_34) rfl (teq w3).2 ?_
                          refine own_x_iloadN X112.here hx (hb hby own_d9_37) rfl ?_
                          rw [hPst]
                          exact own_retP X112 (v := (some (.int (3 : Int32)))) (Q := Q_un4 Z z a1 t kb cd N vs fm c0 c1 c2 c3 h0 n0) (fun h => by rw [Bd.returns] at h; cases h) Bd.notSynchronized (fun fs hr => own_retI X112 hx Bd.returns (hb hby own_d9_38) hr) (by decide) (by decide) (by rw [e112]; exact ⟨_, rfl, N112, rfl, ⟨fun q => absurd q (by decide), fun q => absurd (Or.inr (Or.inr w3)) q.2.2.2.1⟩⟩)
                        · refine own_x_icmpYes X112.here hx (pc0 := 34) (pc' := 39) rfl (hb hby own_d9_34) rfl (feq w3).2 (by decide) (by decide) ?_
                          refine own_x_iinc X112.here hx (hb hby own_d9_39) rfl (l' := #[.val (.ref a1), .val (.int ((3 : Int32) + (1 : Int32))), .val (.int c3)]) rfl ?_
                          rw [show ((3 : Int32) + (1 : Int32)) = (4 : Int32) from by decide]
                          show own_Go p e below Pst (T112.setTop (mkF m 42 #[.val (.ref a1), .val (.int (4 : Int32)), .val (.int c3)] []))
                          refine own_x_goto X112.here hx (pc0 := 42) (pc' := 2) rfl (hb hby own_d9_42) (by decide) (by decide) ?_
                          have g3 : ¬ own_ub c3 := fun q => q.elim (fun q => q y3) (fun q => q.elim x3 w3)
                          refine own_x_iloadN X112.here hx (hb hby own_d9_2) rfl ?_
                          refine own_x_aloadN X112.here hx (hb hby own_d9_3) rfl rfl ?_
                          obtain ⟨cq113, kq113, q113a, q113b, q113c⟩ := isOf hZ e112 E1
                          refine own_cP X112 (X112.virtualBack hx (y := (⟨"java/lang/String", "length", "()I"⟩ : MethodName)) (z := (⟨"java/lang/String", "length", "()I"⟩ : MethodName)) hown (mvT hZ (own_w43 hw)) (mvT hZ (own_w44 hw)) (notFace_of_selects (args := #[]) (mvT hZ (own_w46 hw))) (mvT hZ (own_w46 hw)) (mvT hZ (own_w45 hw)) (by decide) (backOf (W := 1) (rm_len l Z a0 hw [] z a1 t kb cd N vs (.int 0) h0 n0 Z0 O SC hz E1 F1 F2 A1) hZ (own_w47 hw) (own_w9 hw) (by decide) (by decide)) q113a q113c (g := (mkF m 4 #[.val (.ref a1), .val (.int (4 : Int32)), .val (.int c3)] [(.ref a1), (.int (4 : Int32))])) rfl (by rw [hml]; rfl) (Steps.refl _) (argsL := []) (rest := [(.int (4 : Int32))]) (lenOf own_pd15 rfl) rfl (by show 2 * 0 + _ ≤ _; exact Nat.le_of_eq rfl) (hb hby own_d9_4) (fun _ _ => ⟨rfl, e112, (by decide : 0 + 0 ≤ _), (by decide : 0 + 0 ≤ _)⟩)) fun v113 T113 L113 X113 hQ113 => ?_
                          obtain ⟨rfl, Nq113, e113⟩ := hQ113
                          have N113 := Fr.app N112 Nq113
                          show own_Go p e below Pst (T113.setTop (mkF m 7 #[.val (.ref a1), .val (.int (4 : Int32)), .val (.int c3)] [(.int (N >>> (nar .byte cd &&& 31))), (.int (4 : Int32))]))
                          rw [hlen]
                          show own_Go p e below Pst (T113.setTop (mkF m 7 #[.val (.ref a1), .val (.int (4 : Int32)), .val (.int c3)] [(.int (4 : Int32)), (.int (4 : Int32))]))
                          refine own_x_icmpYes X113.here hx (pc0 := 7) (pc' := 45) rfl (hb hby own_d9_7) rfl (flt (by decide)).2.1 (by decide) (by decide) ?_
                          refine own_x_iconst X113.here hx (hb hby own_d9_45) (z := (-1 : Int32)) (by decide) ?_
                          rw [hPst]
                          exact own_retP X113 (v := (some (.int (-1 : Int32)))) (Q := Q_un4 Z z a1 t kb cd N vs fm c0 c1 c2 c3 h0 n0) (fun h => by rw [Bd.returns] at h; cases h) Bd.notSynchronized (fun fs hr => own_retI X113 hx Bd.returns (hb hby own_d9_46) hr) (by decide) (by decide) (by rw [e113]; exact ⟨_, rfl, N113, rfl, ⟨fun _ => ⟨g0, g1, g2, g3, trivial⟩, fun _ => by decide⟩⟩)
                    · refine own_x_ifYes X112.here hx (pc0 := 20) (pc' := 37) rfl (hb hby own_d9_20) rfl ((if0 _ _).trans (feq y3).2) (by decide) (by decide) ?_
                      refine own_x_iloadN X112.here hx (hb hby own_d9_37) rfl ?_
                      rw [hPst]
                      exact own_retP X112 (v := (some (.int (3 : Int32)))) (Q := Q_un4 Z z a1 t kb cd N vs fm c0 c1 c2 c3 h0 n0) (fun h => by rw [Bd.returns] at h; cases h) Bd.notSynchronized (fun fs hr => own_retI X112 hx Bd.returns (hb hby own_d9_38) hr) (by decide) (by decide) (by rw [e112]; exact ⟨_, rfl, N112, rfl, ⟨fun q => absurd q (by decide), fun q => absurd (Or.inl y3) q.2.2.2.1⟩⟩)
              · refine own_x_ifYes X109.here hx (pc0 := 20) (pc' := 37) rfl (hb hby own_d9_20) rfl ((if0 _ _).trans (feq y2).2) (by decide) (by decide) ?_
                refine own_x_iloadN X109.here hx (hb hby own_d9_37) rfl ?_
                rw [hPst]
                exact own_retP X109 (v := (some (.int (2 : Int32)))) (Q := Q_un4 Z z a1 t kb cd N vs fm c0 c1 c2 c3 h0 n0) (fun h => by rw [Bd.returns] at h; cases h) Bd.notSynchronized (fun fs hr => own_retI X109 hx Bd.returns (hb hby own_d9_38) hr) (by decide) (by decide) (by rw [e109]; exact ⟨_, rfl, N109, rfl, ⟨fun q => absurd q (by decide), fun q => absurd (Or.inl y2) q.2.2.1⟩⟩)
        · refine own_x_ifYes X106.here hx (pc0 := 20) (pc' := 37) rfl (hb hby own_d9_20) rfl ((if0 _ _).trans (feq y1).2) (by decide) (by decide) ?_
          refine own_x_iloadN X106.here hx (hb hby own_d9_37) rfl ?_
          rw [hPst]
          exact own_retP X106 (v := (some (.int (1 : Int32)))) (Q := Q_un4 Z z a1 t kb cd N vs fm c0 c1 c2 c3 h0 n0) (fun h => by rw [Bd.returns] at h; cases h) Bd.notSynchronized (fun fs hr => own_retI X106 hx Bd.returns (hb hby own_d9_38) hr) (by decide) (by decide) (by rw [e106]; exact ⟨_, rfl, N106, rfl, ⟨fun q => absurd q (by decide), fun q => absurd (Or.inl y1) q.2.1⟩⟩)
  · refine own_x_ifYes X103.here hx (pc0 := 20) (pc' := 37) rfl (hb hby own_d9_20) rfl ((if0 _ _).trans (feq y0).2) (by decide) (by decide) ?_
    refine own_x_iloadN X103.here hx (hb hby own_d9_37) rfl ?_
    rw [hPst]
    exact own_retP X103 (v := (some (.int (0 : Int32)))) (Q := Q_un4 Z z a1 t kb cd N vs fm c0 c1 c2 c3 h0 n0) (fun h => by rw [Bd.returns] at h; cases h) Bd.notSynchronized (fun fs hr => own_retI X103 hx Bd.returns (hb hby own_d9_38) hr) (by decide) (by decide) (by rw [e103]; exact ⟨_, rfl, N103, rfl, ⟨fun q => absurd q (by decide), fun q => absurd (Or.inl y0) q.1⟩⟩)
def Q_pr4 (Z : State) (z : Int32) (a1 t : Addr) (kb : ClassId) (cd N : Int32) (vs : List Value) (fm : Value) (c0 c1 c2 c3 : Int32) (h0 : Heap) (n0 : Nat) (v : Option Value) (h : Heap) (L : List Loc) : Prop := ∃ r : Int32, v = some (.int r) ∧ Fr n0 L ∧ h = h0 ∧ ((r = 1 ∧ (¬ own_ub c0 ∧ ¬ own_ub c1 ∧ ¬ own_ub c2 ∧ ¬ own_ub c3 ∧ True)) ∨ (r = 0 ∧ ¬ (¬ own_ub c0 ∧ ¬ own_ub c1 ∧ ¬ own_ub c2 ∧ ¬ own_ub c3 ∧ True)))
theorem rm_pr4 (l : Launch) (Z : State) (a0 : Array Value) (hw : own_H a0 Z) (ws : List Jvm.Cond) (z : Int32) (a1 t : Addr) (kb : ClassId) (cd N : Int32) (vs : List Value) (fm : Value) (c0 c1 c2 c3 : Int32) (h0 : Heap) (n0 : Nat) (Z0 : n0 ≤ h0.size) (O : Old Z n0 h0) (SC : Sta Z Z.heap "java/lang/String" "COMPACT_STRINGS" "Z" (.int z)) (hz : ¬ z = 0) (SF : Sta Z Z.heap "jdk/internal/util/Preconditions" "SIOOBE_FORMATTER" "Ljava/util/function/BiFunction;" fm) (rfm : fm.isRef = true) (SU0 : Sta Z Z.heap "java/lang/StringUTF16" "$assertionsDisabled" "Z" (.int (1 : Int32))) (SU1 : Sta Z Z.heap "java/lang/StringUTF16" "HI_BYTE_SHIFT" "I" (.int (0 : Int32))) (SU2 : Sta Z Z.heap "java/lang/StringUTF16" "LO_BYTE_SHIFT" "I" (.int (8 : Int32))) (E1 : Exa Z h0 a1 "java/lang/String") (F1 : Fld Z h0 a1 "java/lang/String" "coder" "B" (.int cd)) (F2 : Fld Z h0 a1 "java/lang/String" "value" "[B" (.ref t)) (A1 : Arv Z h0 t kb .byte N vs (.int 0)) (hlen : N >>> (nar .byte cd &&& 31) = (4 : Int32)) (hr0 : nar .char c0 = c0) (hr1 : nar .char c1 = c1) (hr2 : nar .char c2 = c2) (hr3 : nar .char c3 = c3) (hc0 : own_at cd N vs c0 0 0 1 (0 : Int32) (1 : Int32)) (hc1 : own_at cd N vs c1 1 2 3 (1 : Int32) (3 : Int32)) (hc2 : own_at cd N vs c2 2 4 5 (2 : Int32) (5 : Int32)) (hc3 : own_at cd N vs c3 3 6 7 (3 : Int32) (7 : Int32)) : own_MP l (⟨"com/example/entitl/entitl/Names", "printable", "(Ljava/lang/String;)Z"⟩ : MethodName) prog_10_method_2_code 1 (some .boolean) ws ({ frames := 6, cells := 0, slots := 0, locals := 94 } : Room) Z h0 #[(.ref a1)] (fun _ _ _ _ _ => True) (Q_pr4 Z z a1 t kb cd N vs fm c0 c1 c2 c3 h0 n0) := by
  refine own_startP (plainFor_of_name own_pn_com_example_entitl_entitl_Names) fun p e s m below meth c s₁ Bd hx hby hml hown0 X0 e0 hh0 hZ hK Pst hPst => ?_
  have hown : s.vm.findClass "com/example/entitl/entitl/Names" = some m.cls := hown0
  have hnm := (name_of_methodNamed Bd.named Bd.method).1
  have N0 := Fr.nil n0
  rw [own_ef_R_1 m a1]
  refine own_x_aloadN X0.here hx (hb hby own_d8_0) rfl rfl ?_
  refine own_cF X0 (Jvm.LawKit.callS X0 hx (y := (⟨"com/example/entitl/entitl/Names", "unprintableAt", "(Ljava/lang/String;)I"⟩ : MethodName)) hown (mvT hZ (own_w40 hw)) (mvT hZ (own_w41 hw)) (mvT hZ (own_w38 hw)) (mvT hZ (own_w42 hw)) (by decide) (backOf (W := 0) (rm_un4 l Z a0 hw [] z a1 t kb cd N vs fm c0 c1 c2 c3 h0 n0 Z0 O SC hz SF rfm SU0 SU1 SU2 E1 F1 F2 A1 hlen hr0 hr1 hr2 hr3 hc0 hc1 hc2 hc3) hZ (own_w42 hw) (own_w38 hw) (by decide) (by decide)) (g := (mkF m 1 #[.val (.ref a1)] [(.ref a1)])) rfl (by rw [hml]; rfl) (argsL := [(.ref a1)]) (rest := []) (lenOf own_pd16 rfl) rfl (by show 2 * 0 + _ ≤ _; exact Nat.le_of_eq rfl) (hb hby own_d8_1) (fun _ _ => ⟨rfl, e0, (by decide : 0 + 0 ≤ _), (by decide : 0 + 0 ≤ _)⟩)) fun v101 T101 L101 X101 hQ101 => ?_
  obtain ⟨r101, rfl, Nq101, e101, q101⟩ := hQ101
  have N101 := Fr.app N0 Nq101
  show own_Go p e below Pst (T101.setTop (mkF m 4 #[.val (.ref a1)] [(.int r101)]))
  by_cases hr : r101 < (0 : Int32)
  · refine own_x_ifNo X101.here hx (hb hby own_d8_4) rfl ((if0 _ _).trans (tlt hr).2.1) ?_
    refine own_x_iconst X101.here hx (hb hby own_d8_7) (z := (1 : Int32)) rfl ?_
    refine own_x_goto X101.here hx (pc0 := 8) (pc' := 12) rfl (hb hby own_d8_8) (by decide) (by decide) ?_
    rw [hPst]
    exact own_retP X101 (v := (some (.int (nar .boolean (1 : Int32))))) (Q := Q_pr4 Z z a1 t kb cd N vs fm c0 c1 c2 c3 h0 n0) (fun h => by rw [Bd.returns] at h; cases h) Bd.notSynchronized (fun fs hr => retN X101 hx (t := .boolean) Bd.returns (by simp) (hb hby own_d8_12) hr) (by decide) (by decide) (by rw [e101]; exact ⟨_, rfl, N101, rfl, Or.inl ⟨rfl, q101.mp hr⟩⟩)
  · refine own_x_ifYes X101.here hx (pc0 := 4) (pc' := 11) rfl (hb hby own_d8_4) rfl ((if0 _ _).trans (flt hr).2.1) (by decide) (by decide) ?_
    refine own_x_iconst X101.here hx (hb hby own_d8_11) (z := (0 : Int32)) rfl ?_
    rw [hPst]
    exact own_retP X101 (v := (some (.int (nar .boolean (0 : Int32))))) (Q := Q_pr4 Z z a1 t kb cd N vs fm c0 c1 c2 c3 h0 n0) (fun h => by rw [Bd.returns] at h; cases h) Bd.notSynchronized (fun fs hr => retN X101 hx (t := .boolean) Bd.returns (by simp) (hb hby own_d8_12) hr) (by decide) (by decide) (by rw [e101]; exact ⟨_, rfl, N101, rfl, Or.inr ⟨rfl, fun q => hr (q101.mpr q)⟩⟩)
theorem own_pd19 : parseMethodDescriptor "([C)V" = some ⟨[(.array .char)], none⟩ := by decide +kernel
theorem own_pd20 : parseMethodDescriptor "(Ljava/lang/String;)Z" = some ⟨[(.object "java/lang/String")], some .boolean⟩ := by decide +kernel
theorem own_ef_III_maxLocals (m : MethodId) (x0 : Int32) (x1 : Int32) (x2 : Int32) : entryFrame m #[(.int x0), (.int x1), (.int x2)] maxLocals = mkF m 0 #[.val (.int x0), .val (.int x1), .val (.int x2), .unset, .unset, .unset, .unset, .unset, .unset, .unset] [] := by first | (simp [entryFrame, mkF, argsToLocals, Value.category, maxLocals]; done) | rfl
def Q0 (Z : State) (z p1 p2 p3 : Int32) (fm : Value) (h0 : Heap) (n0 : Nat) (v : Option Value) (h : Heap) (L : List Loc) : Prop := v = some (.int 1) ∧ Fr n0 L
theorem rm0 (l : Launch) (Z : State) (a0 : Array Value) (hw : own_H a0 Z) (ws : List Jvm.Cond) (z p1 p2 p3 : Int32) (fm : Value) (h0 : Heap) (n0 : Nat) (Z0 : n0 ≤ h0.size) (O : Old Z n0 h0) (SC : Sta Z Z.heap "java/lang/String" "COMPACT_STRINGS" "Z" (.int z)) (hz : ¬ z = 0) (SF : Sta Z Z.heap "jdk/internal/util/Preconditions" "SIOOBE_FORMATTER" "Ljava/util/function/BiFunction;" fm) (rfm : fm.isRef = true) (SU0 : Sta Z Z.heap "java/lang/StringUTF16" "$assertionsDisabled" "Z" (.int (1 : Int32))) (SU1 : Sta Z Z.heap "java/lang/StringUTF16" "HI_BYTE_SHIFT" "I" (.int (0 : Int32))) (SU2 : Sta Z Z.heap "java/lang/StringUTF16" "LO_BYTE_SHIFT" "I" (.int (8 : Int32))) :
    MetFree l x (head1 (Jvm.Cond.code x code maxLocals ret :: ws) room_1) (fun a U => a = #[(.int p1), (.int p2), (.int p3)] ∧ Z.Warmed39 U.vm ∧ U.heap = h0 ∧ CHv Z own_EL U.vm h0) (fun _ _ _ _ _ => True) (fun _ U oc U' => ∃ v L, oc = .returned v ∧ Q0 Z z p1 p2 p3 fm h0 n0 v U'.heap L ∧ CHr Z own_EL U.vm U.heap U'.vm U'.heap ∧ ReturnedEndW U oc U' L 24 1152) := by
  refine MetFree.of_bodySF (plainFor_of_name own_pn_com_example_entitl_entitl_NamesPrintablePinLaw) hisR ?_
  intro p e s m args below meth c s₁ Bd hml0 hP hK
  obtain ⟨rfl, hZ, hh0, hCH0⟩ := hP
  have hx := Bd.exec
  have hby := Bd.bytes
  have hml : c.maxLocals = 10 := hml0
  have hown : s.vm.findClass "com/example/entitl/entitl/NamesPrintablePinLaw" = some m.cls := findClass_of_methodNamed Bd.named
  have hnm := (name_of_methodNamed Bd.named Bd.method).1
  have X0 : Stand p l e room_1 (s.setVm s.vm) m #[(.int p1), (.int p2), (.int p3)] below meth c s₁ [] 0 0 := Stand.of_body Bd
  have e0 : s₁.heap = h0 := by rw [← hh0, Bd.state]; rfl
  have N0 := Fr.nil n0
  have hS0 : s.Since s.vm 0 := (State.WarmedH.refl s).since 0
  have hk0 : 0 ≤ h0.size := Nat.zero_le _
  have hEL := own_hEL Z a0 hw
  obtain ⟨Pst, hPst⟩ : ∃ P : Outcome → State → Prop, P = (fun oc U' => ∃ v L, oc = .returned v ∧ Q0 Z z p1 p2 p3 fm h0 n0 v U'.heap L ∧ CHr Z own_EL s.vm s.heap U'.vm U'.heap ∧ ReturnedEndW s oc U' L 24 1152) := ⟨_, rfl⟩
  suffices hgo : own_Go p e below Pst (s₁.setTop (entryFrame m #[(.int p1), (.int p2), (.int p3)] maxLocals)) by rw [hPst] at hgo; exact hgo
  rw [own_ef_III_maxLocals m p1 p2 p3]
  refine own_x_iloadN X0.here hx (hb hby at_0) rfl ?_
  refine own_Go.of (S' := s₁.setTop (mkF m 3 #[.val (.int p1), .val (.int p2), .val (.int p3), .unset, .unset, .unset, .unset, .unset, .unset, .unset] [(.int (65535 : Int32)), (.int p1)])) (fun tgt kst => X0.ldcInt hx hown (mvT hZ (own_w0 hw)) (g := (mkF m 1 #[.val (.int p1), .val (.int p2), .val (.int p3), .unset, .unset, .unset, .unset, .unset, .unset, .unset] [(.int p1)])) rfl (hb hby at_1) _ kst) ?_
  refine own_x_iand X0.here hx (hb hby at_3) rfl ?_
  refine own_x_i2c X0.here hx (hb hby at_4) rfl ?_
  refine own_x_istoreN X0.here hx (hb hby at_5) rfl (l' := #[.val (.int p1), .val (.int p2), .val (.int p3), .val (.int ((p1 &&& (65535 : Int32)).toUInt32.toUInt16.toUInt32.toInt32)), .unset, .unset, .unset, .unset, .unset, .unset]) rfl ?_
  refine own_x_iloadN X0.here hx (hb hby at_6) rfl ?_
  refine own_x_bipush X0.here hx (hb hby at_7) (z := (16 : Int32)) rfl ?_
  refine own_x_iushr X0.here hx (hb hby at_9) rfl ?_
  refine own_x_i2c X0.here hx (hb hby at_10) rfl ?_
  refine own_x_istore X0.here hx (hb hby at_11) rfl (l' := #[.val (.int p1), .val (.int p2), .val (.int p3), .val (.int ((p1 &&& (65535 : Int32)).toUInt32.toUInt16.toUInt32.toInt32)), .val (.int (((p1.toUInt32 >>> ((16 : Int32) &&& 31).toUInt32).toInt32).toUInt32.toUInt16.toUInt32.toInt32)), .unset, .unset, .unset, .unset, .unset]) rfl ?_
  refine own_x_iloadN X0.here hx (hb hby at_13) rfl ?_
  refine own_Go.of (S' := s₁.setTop (mkF m 16 #[.val (.int p1), .val (.int p2), .val (.int p3), .val (.int ((p1 &&& (65535 : Int32)).toUInt32.toUInt16.toUInt32.toInt32)), .val (.int (((p1.toUInt32 >>> ((16 : Int32) &&& 31).toUInt32).toInt32).toUInt32.toUInt16.toUInt32.toInt32)), .unset, .unset, .unset, .unset, .unset] [(.int (65535 : Int32)), (.int p2)])) (fun tgt kst => X0.ldcInt hx hown (mvT hZ (own_w0 hw)) (g := (mkF m 14 #[.val (.int p1), .val (.int p2), .val (.int p3), .val (.int ((p1 &&& (65535 : Int32)).toUInt32.toUInt16.toUInt32.toInt32)), .val (.int (((p1.toUInt32 >>> ((16 : Int32) &&& 31).toUInt32).toInt32).toUInt32.toUInt16.toUInt32.toInt32)), .unset, .unset, .unset, .unset, .unset] [(.int p2)])) rfl (hb hby at_14) _ kst) ?_
  refine own_x_iand X0.here hx (hb hby at_16) rfl ?_
  refine own_x_i2c X0.here hx (hb hby at_17) rfl ?_
  refine own_x_istore X0.here hx (hb hby at_18) rfl (l' := #[.val (.int p1), .val (.int p2), .val (.int p3), .val (.int ((p1 &&& (65535 : Int32)).toUInt32.toUInt16.toUInt32.toInt32)), .val (.int (((p1.toUInt32 >>> ((16 : Int32) &&& 31).toUInt32).toInt32).toUInt32.toUInt16.toUInt32.toInt32)), .val (.int ((p2 &&& (65535 : Int32)).toUInt32.toUInt16.toUInt32.toInt32)), .unset, .unset, .unset, .unset]) rfl ?_
  refine own_x_iloadN X0.here hx (hb hby at_20) rfl ?_
  refine own_x_bipush X0.here hx (hb hby at_21) (z := (16 : Int32)) rfl ?_
  refine own_x_iushr X0.here hx (hb hby at_23) rfl ?_
  refine own_x_i2c X0.here hx (hb hby at_24) rfl ?_
  refine own_x_istore X0.here hx (hb hby at_25) rfl (l' := #[.val (.int p1), .val (.int p2), .val (.int p3), .val (.int ((p1 &&& (65535 : Int32)).toUInt32.toUInt16.toUInt32.toInt32)), .val (.int (((p1.toUInt32 >>> ((16 : Int32) &&& 31).toUInt32).toInt32).toUInt32.toUInt16.toUInt32.toInt32)), .val (.int ((p2 &&& (65535 : Int32)).toUInt32.toUInt16.toUInt32.toInt32)), .val (.int (((p2.toUInt32 >>> ((16 : Int32) &&& 31).toUInt32).toInt32).toUInt32.toUInt16.toUInt32.toInt32)), .unset, .unset, .unset]) rfl ?_
  refine own_x_iloadN X0.here hx (hb hby at_27) rfl ?_
  refine own_Go.of (S' := s₁.setTop (mkF m 30 #[.val (.int p1), .val (.int p2), .val (.int p3), .val (.int ((p1 &&& (65535 : Int32)).toUInt32.toUInt16.toUInt32.toInt32)), .val (.int (((p1.toUInt32 >>> ((16 : Int32) &&& 31).toUInt32).toInt32).toUInt32.toUInt16.toUInt32.toInt32)), .val (.int ((p2 &&& (65535 : Int32)).toUInt32.toUInt16.toUInt32.toInt32)), .val (.int (((p2.toUInt32 >>> ((16 : Int32) &&& 31).toUInt32).toInt32).toUInt32.toUInt16.toUInt32.toInt32)), .unset, .unset, .unset] [(.int (2147483647 : Int32)), (.int p3)])) (fun tgt kst => X0.ldcInt hx hown (mvT hZ (own_w1 hw)) (g := (mkF m 28 #[.val (.int p1), .val (.int p2), .val (.int p3), .val (.int ((p1 &&& (65535 : Int32)).toUInt32.toUInt16.toUInt32.toInt32)), .val (.int (((p1.toUInt32 >>> ((16 : Int32) &&& 31).toUInt32).toInt32).toUInt32.toUInt16.toUInt32.toInt32)), .val (.int ((p2 &&& (65535 : Int32)).toUInt32.toUInt16.toUInt32.toInt32)), .val (.int (((p2.toUInt32 >>> ((16 : Int32) &&& 31).toUInt32).toInt32).toUInt32.toUInt16.toUInt32.toInt32)), .unset, .unset, .unset] [(.int p3)])) rfl (hb hby at_28) _ kst) ?_
  refine own_x_iand X0.here hx (hb hby at_30) rfl ?_
  refine own_x_iconst X0.here hx (hb hby at_31) (z := (5 : Int32)) rfl ?_
  refine own_Go.of (S' := s₁.setTop (mkF m 33 #[.val (.int p1), .val (.int p2), .val (.int p3), .val (.int ((p1 &&& (65535 : Int32)).toUInt32.toUInt16.toUInt32.toInt32)), .val (.int (((p1.toUInt32 >>> ((16 : Int32) &&& 31).toUInt32).toInt32).toUInt32.toUInt16.toUInt32.toInt32)), .val (.int ((p2 &&& (65535 : Int32)).toUInt32.toUInt16.toUInt32.toInt32)), .val (.int (((p2.toUInt32 >>> ((16 : Int32) &&& 31).toUInt32).toInt32).toUInt32.toUInt16.toUInt32.toInt32)), .unset, .unset, .unset] [(.int ((p3 &&& (2147483647 : Int32)) % (5 : Int32)))])) (fun tgt kst => iremM X0 hx rfl (hb hby at_32) rfl (by decide) kst) ?_
  refine own_x_istore X0.here hx (hb hby at_33) rfl (l' := #[.val (.int p1), .val (.int p2), .val (.int p3), .val (.int ((p1 &&& (65535 : Int32)).toUInt32.toUInt16.toUInt32.toInt32)), .val (.int (((p1.toUInt32 >>> ((16 : Int32) &&& 31).toUInt32).toInt32).toUInt32.toUInt16.toUInt32.toInt32)), .val (.int ((p2 &&& (65535 : Int32)).toUInt32.toUInt16.toUInt32.toInt32)), .val (.int (((p2.toUInt32 >>> ((16 : Int32) &&& 31).toUInt32).toInt32).toUInt32.toUInt16.toUInt32.toInt32)), .val (.int ((p3 &&& (2147483647 : Int32)) % (5 : Int32))), .unset, .unset]) rfl ?_
  refine own_x_iload X0.here hx (hb hby at_35) rfl ?_
  obtain ⟨hr0, hs0⟩ : nar .char ((p1 &&& (65535 : Int32)).toUInt32.toUInt16.toUInt32.toInt32) = ((p1 &&& (65535 : Int32)).toUInt32.toUInt16.toUInt32.toInt32) ∧ (¬ ((p1 &&& (65535 : Int32)).toUInt32.toUInt16.toUInt32.toInt32) < 0 ∧ ¬ (65535 : Int32) < ((p1 &&& (65535 : Int32)).toUInt32.toUInt16.toUInt32.toInt32)) := ⟨own_narc _, own_rchar _⟩
  generalize ((p1 &&& (65535 : Int32)).toUInt32.toUInt16.toUInt32.toInt32) = c0 at hr0 hs0 ⊢
  obtain ⟨hr1, hs1⟩ : nar .char (((p1.toUInt32 >>> ((16 : Int32) &&& 31).toUInt32).toInt32).toUInt32.toUInt16.toUInt32.toInt32) = (((p1.toUInt32 >>> ((16 : Int32) &&& 31).toUInt32).toInt32).toUInt32.toUInt16.toUInt32.toInt32) ∧ (¬ (((p1.toUInt32 >>> ((16 : Int32) &&& 31).toUInt32).toInt32).toUInt32.toUInt16.toUInt32.toInt32) < 0 ∧ ¬ (65535 : Int32) < (((p1.toUInt32 >>> ((16 : Int32) &&& 31).toUInt32).toInt32).toUInt32.toUInt16.toUInt32.toInt32)) := ⟨own_narc _, own_rchar _⟩
  generalize (((p1.toUInt32 >>> ((16 : Int32) &&& 31).toUInt32).toInt32).toUInt32.toUInt16.toUInt32.toInt32) = c1 at hr1 hs1 ⊢
  obtain ⟨hr2, hs2⟩ : nar .char ((p2 &&& (65535 : Int32)).toUInt32.toUInt16.toUInt32.toInt32) = ((p2 &&& (65535 : Int32)).toUInt32.toUInt16.toUInt32.toInt32) ∧ (¬ ((p2 &&& (65535 : Int32)).toUInt32.toUInt16.toUInt32.toInt32) < 0 ∧ ¬ (65535 : Int32) < ((p2 &&& (65535 : Int32)).toUInt32.toUInt16.toUInt32.toInt32)) := ⟨own_narc _, own_rchar _⟩
  generalize ((p2 &&& (65535 : Int32)).toUInt32.toUInt16.toUInt32.toInt32) = c2 at hr2 hs2 ⊢
  obtain ⟨hr3, hs3⟩ : nar .char (((p2.toUInt32 >>> ((16 : Int32) &&& 31).toUInt32).toInt32).toUInt32.toUInt16.toUInt32.toInt32) = (((p2.toUInt32 >>> ((16 : Int32) &&& 31).toUInt32).toInt32).toUInt32.toUInt16.toUInt32.toInt32) ∧ (¬ (((p2.toUInt32 >>> ((16 : Int32) &&& 31).toUInt32).toInt32).toUInt32.toUInt16.toUInt32.toInt32) < 0 ∧ ¬ (65535 : Int32) < (((p2.toUInt32 >>> ((16 : Int32) &&& 31).toUInt32).toInt32).toUInt32.toUInt16.toUInt32.toInt32)) := ⟨own_narc _, own_rchar _⟩
  generalize (((p2.toUInt32 >>> ((16 : Int32) &&& 31).toUInt32).toInt32).toUInt32.toUInt16.toUInt32.toInt32) = c3 at hr3 hs3 ⊢
  have hk := own_mod5 p3
  generalize ((p3 &&& (2147483647 : Int32)) % (5 : Int32)) = k at hk ⊢
  show own_Go p e below Pst (s₁.setTop (mkF m 37 #[.val (.int p1), .val (.int p2), .val (.int p3), .val (.int c0), .val (.int c1), .val (.int c2), .val (.int c3), .val (.int k), .unset, .unset] [(.int k)]))
  by_cases hkk0 : k = (0 : Int32)
  · subst hkk0
    show own_Go p e below Pst (s₁.setTop (mkF m 37 #[.val (.int p1), .val (.int p2), .val (.int p3), .val (.int c0), .val (.int c1), .val (.int c2), .val (.int c3), .val (.int (0 : Int32)), .unset, .unset] [(.int (0 : Int32))]))
    refine own_x_ifNo X0.here hx (hb hby at_37) rfl ((if0 _ _).trans (teq rfl).2) ?_
    refine own_x_iconst X0.here hx (hb hby at_40) (z := (0 : Int32)) rfl ?_
    refine own_h_newP (aty := .char) X0 hx hZ (own_w2 hw) e0 (hb hby at_41) rfl (by decide) (cap := 0) (by decide) (by decide) (by decide) (by decide) fun T101 h101 k101 b101 g101 X101 e101 E101 A101 => ?_
    have gn_b101 : n0 ≤ b101 := Nat.le_trans Z0 (Nat.le_of_eq g101.symm)
    have sz_b101 : h0.size ≤ b101 := Nat.le_trans (Keep.refl h0 []).1 (Nat.le_of_eq g101.symm)
    have sf_b101 := Safe.ext E101 hCH0 (Safe.new (Nat.le_of_eq g101.symm))
    have c102 := (CHv.ext E101 hCH0)
    have c103 := (CHr.trans (CHr.refl hCH0) (CHr.ext E101 hCH0))
    have c104 := (Nat.le_trans hk0 E101.1)
    have V101 : Arv Z h101 b101 k101 .char (0 : Int32) [] (.int (0 : Int32)) := Arv.new A101 (by decide)
    refine own_x_astore X101.here hx (hb hby at_43) rfl rfl (l' := #[.val (.int p1), .val (.int p2), .val (.int p3), .val (.int c0), .val (.int c1), .val (.int c2), .val (.int c3), .val (.int (0 : Int32)), .val (.ref b101), .unset]) rfl ?_
    refine own_x_goto X101.here hx (pc0 := 45) (pc' := 141) rfl (hb hby at_45) (by decide) (by decide) ?_
    have join : ∀ (T' : State) (locs' : List Loc) (X' : Stand p l e room_1 (s.setVm s.vm) m #[(.int p1), (.int p2), (.int p3)] below meth c T' locs' 1 0) (N' : Fr n0 locs') (e' : T'.heap = h101) (ev : Int32) (hev : (ev = 1 ∧ (True)) ∨ (ev = 0 ∧ ¬ (True))), own_Go p e below Pst (T'.setTop (mkF m 201 #[.val (.int p1), .val (.int p2), .val (.int p3), .val (.int c0), .val (.int c1), .val (.int c2), .val (.int c3), .val (.int (0 : Int32)), .val (.ref b101), .unset] [(.int ev)])) := by
      intro T' locs' X' N' e' ev hev
      refine own_x_istore X'.here hx (hb hby at_201) rfl (l' := #[.val (.int p1), .val (.int p2), .val (.int p3), .val (.int c0), .val (.int c1), .val (.int c2), .val (.int c3), .val (.int (0 : Int32)), .val (.ref b101), .val (.int ev)]) rfl ?_
      have c106 := (Nat.le_trans Z0 E101.1)
      have c107 := ((Keep.refl h0 []).ext E101)
      refine own_h_newO X' hx hZ hown (own_w7 hw) (own_w8 hw) (own_w9 hw) e' (hb hby at_203) (by decide) (by decide) fun T105 h105 b105 g105 X105 e105 E105 A105 D105 U105 => ?_
      have ne_b101_b105 : b101 ≠ b105 := Nat.ne_of_lt (Nat.lt_of_lt_of_le V101.lt (Nat.le_of_eq g105.symm))
      have gn_b105 : n0 ≤ b105 := Nat.le_trans c106 (Nat.le_of_eq g105.symm)
      have sz_b105 : h0.size ≤ b105 := Nat.le_trans c107.1 (Nat.le_of_eq g105.symm)
      have sf_b105 := Safe.ext E105 c102 (Safe.new (Nat.le_of_eq g105.symm))
      have c108 := (CHv.ext E105 c102)
      have c109 := (CHr.trans c103 (CHr.ext E105 c102))
      have c110 := (Nat.le_trans c104 E105.1)
      have f105_coder : Fld Z h105 b105 "java/lang/String" "coder" "B" (.int (0 : Int32)) := D105 (Or.inr (own_w33 hw)) (ty := .byte) (by decide)
      have f105_value : Fld Z h105 b105 "java/lang/String" "value" "[B" .null := D105 (Or.inr (own_w35 hw)) (ty := (.array .byte)) (by decide)
      refine own_x_dup X105.here hx (hb hby at_206) rfl rfl ?_
      refine own_x_aload X105.here hx (hb hby at_207) rfl rfl ?_
      have c111 := (V101.ext E105)
      have c113 := (Nat.le_trans c106 E105.1)
      refine own_cS X105 hS0 (by rw [e105]; exact c110) hZ hown (X105.specialBackS hx (y := (⟨"java/lang/String", "<init>", "([C)V"⟩ : MethodName)) rfl hown (mvT hZ (own_w10 hw)) (mvT hZ (own_w11 hw)) (mvT hZ (own_w12 hw)) (by decide) (backOfSH (W := 1) (rm_i1z l Z a0 hw [] b105 b101 k101 [] (.int (0 : Int32)) h105 n0 c113 A105 f105_value f105_coder gn_b105 c111) hZ (own_w12 hw) (own_w9 hw) (by decide) (by decide) hEL c108) (g := (mkF m 209 #[.val (.int p1), .val (.int p2), .val (.int p3), .val (.int c0), .val (.int c1), .val (.int c2), .val (.int c3), .val (.int (0 : Int32)), .val (.ref b101), .val (.int ev)] [(.ref b101), (.ref b105), (.ref b105)])) rfl (by rw [hml]; rfl) (Steps.refl _) (a := b105) (argsL := [(.ref b101)]) (rest := [(.ref b105)]) (lenOf own_pd19 rfl) rfl (by show 2 * 0 + _ ≤ _; exact Nat.le_of_eq rfl) (hb hby at_209) (fun _ _ => ⟨rfl, e105, (by decide : 2 + 4 ≤ _), (by decide : 4 + 8 ≤ _)⟩)) fun v112 T112 L112 X112 hS112 hZ112 hown112 hQ112 cr112 => ?_
      obtain ⟨rfl, Nq112, K112, A112, C112, t112, kb112, V112, B112⟩ := hQ112
      have N112 := Fr.app N' Nq112
      have c114 := cr112.1
      have c115 := (CHr.trans c109 cr112)
      have c116 := (Nat.le_trans c110 K112.1)
      show own_Go p e below Pst (T112.setTop (mkF m 212 #[.val (.int p1), .val (.int p2), .val (.int p3), .val (.int c0), .val (.int c1), .val (.int c2), .val (.int c3), .val (.int (0 : Int32)), .val (.ref b101), .val (.int ev)] [(.ref b105)]))
      have c117 := (((O.ext E101).ext E105).keep K112 (allS gn_b105 all0))
      have c119 := (Nat.le_trans c113 K112.1)
      refine own_cF X112 (Jvm.LawKit.callS X112 hx (y := (⟨"com/example/entitl/entitl/Names", "printable", "(Ljava/lang/String;)Z"⟩ : MethodName)) hown112 (mvT hZ112 (own_w36 hw)) (mvT hZ112 (own_w37 hw)) (mvT hZ112 (own_w38 hw)) (mvT hZ112 (own_w39 hw)) (by decide) (backOf (W := 0) (rm_pr0 l Z a0 hw [] z b105 t112 kb112 0 0 [] fm  T112.heap n0 c119 c117 SC hz SF rfm SU0 SU1 SU2 A112 C112 V112 B112 (by decide)  ) hZ112 (own_w39 hw) (own_w38 hw) (by decide) (by decide)) (g := (mkF m 212 #[.val (.int p1), .val (.int p2), .val (.int p3), .val (.int c0), .val (.int c1), .val (.int c2), .val (.int c3), .val (.int (0 : Int32)), .val (.ref b101), .val (.int ev)] [(.ref b105)])) rfl (by rw [hml]; rfl) (argsL := [(.ref b105)]) (rest := []) (lenOf own_pd20 rfl) rfl (by show 2 * 0 + _ ≤ _; exact Nat.le_of_eq rfl) (hb hby at_212) (fun _ _ => ⟨rfl, rfl, (by decide : 6 + 0 ≤ _), (by decide : 12 + 0 ≤ _)⟩)) fun v118 T118 L118 X118 hQ118 => ?_
      obtain ⟨r118, rfl, Nq118, e118, q118⟩ := hQ118
      have N118 := Fr.app N112 Nq118
      show own_Go p e below Pst (T118.setTop (mkF m 215 #[.val (.int p1), .val (.int p2), .val (.int p3), .val (.int c0), .val (.int c1), .val (.int c2), .val (.int c3), .val (.int (0 : Int32)), .val (.ref b101), .val (.int ev)] [(.int r118)]))
      have heq : r118 = ev := own_same0  hev q118
      refine own_x_iload X118.here hx (hb hby at_215) rfl ?_
      refine own_x_icmpNo X118.here hx (hb hby at_217) rfl (teq heq).2 ?_
      refine own_x_iconst X118.here hx (hb hby at_220) (z := (1 : Int32)) rfl ?_
      refine own_x_goto X118.here hx (pc0 := 221) (pc' := 225) rfl (hb hby at_221) (by decide) (by decide) ?_
      rw [hPst]
      exact own_retW X118 hS112 (by rw [e118]; exact (Nat.le_refl _)) (v := (some (.int (nar .boolean (1 : Int32))))) (Q := Q0 Z z p1 p2 p3 fm h0 n0) (fun h => by rw [Bd.returns] at h; cases h) Bd.notSynchronized (fun fs hr => retN X118 hx (t := .boolean) Bd.returns (by simp) (hb hby at_225) hr) (by decide) (by decide) (by rw [hh0, e118]; exact CHr.trans c115 (CHv.at X118 hZ112 hEL c114)) (by rw [e118]; exact ⟨rfl, N118⟩)
    refine own_x_iload X101.here hx (hb hby at_141) rfl ?_
    refine own_x_iconst X101.here hx (hb hby at_143) (z := (1 : Int32)) rfl ?_
    refine own_x_icmpYes X101.here hx (pc0 := 144) (pc' := 154) rfl (hb hby at_144) rfl (tlt (by decide)).1 (by decide) (by decide) ?_
    refine own_x_iload X101.here hx (hb hby at_154) rfl ?_
    refine own_x_iconst X101.here hx (hb hby at_156) (z := (2 : Int32)) rfl ?_
    refine own_x_icmpYes X101.here hx (pc0 := 157) (pc' := 168) rfl (hb hby at_157) rfl (tlt (by decide)).1 (by decide) (by decide) ?_
    refine own_x_iload X101.here hx (hb hby at_168) rfl ?_
    refine own_x_iconst X101.here hx (hb hby at_170) (z := (3 : Int32)) rfl ?_
    refine own_x_icmpYes X101.here hx (pc0 := 171) (pc' := 182) rfl (hb hby at_171) rfl (tlt (by decide)).1 (by decide) (by decide) ?_
    refine own_x_iload X101.here hx (hb hby at_182) rfl ?_
    refine own_x_iconst X101.here hx (hb hby at_184) (z := (4 : Int32)) rfl ?_
    refine own_x_icmpYes X101.here hx (pc0 := 185) (pc' := 196) rfl (hb hby at_185) rfl (tlt (by decide)).1 (by decide) (by decide) ?_
    refine own_x_iconst X101.here hx (hb hby at_196) (z := (1 : Int32)) rfl ?_
    refine own_x_goto X101.here hx (pc0 := 197) (pc' := 201) rfl (hb hby at_197) (by decide) (by decide) ?_
    exact join _ _ X101 N0 e101 _ (Or.inl ⟨rfl, trivial⟩)
  · refine own_x_ifYes X0.here hx (pc0 := 37) (pc' := 48) rfl (hb hby at_37) rfl ((if0 _ _).trans (feq hkk0).2) (by decide) (by decide) ?_
    refine own_x_iload X0.here hx (hb hby at_48) rfl ?_
    refine own_x_iconst X0.here hx (hb hby at_50) (z := (1 : Int32)) rfl ?_
    by_cases hkk1 : k = (1 : Int32)
    · subst hkk1
      show own_Go p e below Pst (s₁.setTop (mkF m 51 #[.val (.int p1), .val (.int p2), .val (.int p3), .val (.int c0), .val (.int c1), .val (.int c2), .val (.int c3), .val (.int (1 : Int32)), .unset, .unset] [(.int (1 : Int32)), (.int (1 : Int32))]))
      refine own_x_icmpNo X0.here hx (hb hby at_51) rfl (teq rfl).2 ?_
      refine own_x_iconst X0.here hx (hb hby at_54) (z := (1 : Int32)) rfl ?_
      refine own_h_newP (aty := .char) X0 hx hZ (own_w2 hw) e0 (hb hby at_55) rfl (by decide) (cap := 1) (by decide) (by decide) (by decide) (by decide) fun T120 h120 k120 b120 g120 X120 e120 E120 A120 => ?_
      have gn_b120 : n0 ≤ b120 := Nat.le_trans Z0 (Nat.le_of_eq g120.symm)
      have sz_b120 : h0.size ≤ b120 := Nat.le_trans (Keep.refl h0 []).1 (Nat.le_of_eq g120.symm)
      have sf_b120 := Safe.ext E120 hCH0 (Safe.new (Nat.le_of_eq g120.symm))
      have c121 := (CHv.ext E120 hCH0)
      have c122 := (CHr.trans (CHr.refl hCH0) (CHr.ext E120 hCH0))
      have c123 := (Nat.le_trans hk0 E120.1)
      have V120 : Arv Z h120 b120 k120 .char (1 : Int32) [(.int (0 : Int32))] (.int (0 : Int32)) := (Arv.new A120 (by decide)).pad (pad_rep [] (.int (0 : Int32)) 1)
      refine own_x_dup X120.here hx (hb hby at_57) rfl rfl ?_
      refine own_x_iconst X120.here hx (hb hby at_58) (z := (0 : Int32)) rfl ?_
      refine own_x_iloadN X120.here hx (hb hby at_59) rfl ?_
      refine own_h_arC X120 hx hZ e120 V120 (0 : Int32) 0 ⟨by decide, by decide⟩ rfl (Nat.le_of_ble_eq_true rfl) rfl (hb hby at_60) fun T124 h124 X124 e124 W124 V124 => ?_
      have c125 := (CHv.wr W124 sf_b120 c121)
      have c126 := (CHr.trans c122 (CHr.wr W124 sf_b120 c121))
      have c127 := (Nat.le_trans c123 (Keep.of_wr W124).1)
      have N124 := Fr.snoc X124 N0 gn_b120
      refine own_x_astore X124.here hx (hb hby at_61) rfl rfl (l' := #[.val (.int p1), .val (.int p2), .val (.int p3), .val (.int c0), .val (.int c1), .val (.int c2), .val (.int c3), .val (.int (1 : Int32)), .val (.ref b120), .unset]) rfl ?_
      refine own_x_goto X124.here hx (pc0 := 63) (pc' := 141) rfl (hb hby at_63) (by decide) (by decide) ?_
      have join : ∀ (T' : State) (locs' : List Loc) (X' : Stand p l e room_1 (s.setVm s.vm) m #[(.int p1), (.int p2), (.int p3)] below meth c T' locs' 1 1) (N' : Fr n0 locs') (e' : T'.heap = h124) (ev : Int32) (hev : (ev = 1 ∧ (own_bI c0 = 0 ∧ True)) ∨ (ev = 0 ∧ ¬ (own_bI c0 = 0 ∧ True))), own_Go p e below Pst (T'.setTop (mkF m 201 #[.val (.int p1), .val (.int p2), .val (.int p3), .val (.int c0), .val (.int c1), .val (.int c2), .val (.int c3), .val (.int (1 : Int32)), .val (.ref b120), .unset] [(.int ev)])) := by
        intro T' locs' X' N' e' ev hev
        refine own_x_istore X'.here hx (hb hby at_201) rfl (l' := #[.val (.int p1), .val (.int p2), .val (.int p3), .val (.int c0), .val (.int c1), .val (.int c2), .val (.int c3), .val (.int (1 : Int32)), .val (.ref b120), .val (.int ev)]) rfl ?_
        have c129 := (Nat.le_trans (Nat.le_trans Z0 E120.1) (Keep.of_wr W124).1)
        have c130 := (((Keep.refl h0 []).ext E120).wr W124 (Or.inr sz_b120))
        refine own_h_newO X' hx hZ hown (own_w7 hw) (own_w8 hw) (own_w9 hw) e' (hb hby at_203) (by decide) (by decide) fun T128 h128 b128 g128 X128 e128 E128 A128 D128 U128 => ?_
        have ne_b120_b128 : b120 ≠ b128 := Nat.ne_of_lt (Nat.lt_of_lt_of_le V124.lt (Nat.le_of_eq g128.symm))
        have gn_b128 : n0 ≤ b128 := Nat.le_trans c129 (Nat.le_of_eq g128.symm)
        have sz_b128 : h0.size ≤ b128 := Nat.le_trans c130.1 (Nat.le_of_eq g128.symm)
        have sf_b128 := Safe.ext E128 c125 (Safe.new (Nat.le_of_eq g128.symm))
        have c131 := (CHv.ext E128 c125)
        have c132 := (CHr.trans c126 (CHr.ext E128 c125))
        have c133 := (Nat.le_trans c127 E128.1)
        have f128_coder : Fld Z h128 b128 "java/lang/String" "coder" "B" (.int (0 : Int32)) := D128 (Or.inr (own_w33 hw)) (ty := .byte) (by decide)
        have f128_value : Fld Z h128 b128 "java/lang/String" "value" "[B" .null := D128 (Or.inr (own_w35 hw)) (ty := (.array .byte)) (by decide)
        refine own_x_dup X128.here hx (hb hby at_206) rfl rfl ?_
        refine own_x_aload X128.here hx (hb hby at_207) rfl rfl ?_
        have c134 := (V124.ext E128)
        have AA : Arv Z h128 b120 k120 .char (1 : Int32) [(.int c0)] (.int (0 : Int32)) := by rw [hr0] at c134; exact c134
        by_cases hl : ¬ (255 : Int32) < c0
        · have hp : ∀ c ∈ ([c0] : List Int32), ¬ c < 0 ∧ ¬ (255 : Int32) < c := by
            intro c hc
            simp only [List.mem_cons, List.not_mem_nil, or_false] at hc
            have e := hc
            · rw [e]; exact ⟨hs0.1, hl⟩
          have c135 := (Nat.le_trans c129 E128.1)
          have c136 := (((O.ext E120).wr W124 gn_b120).ext E128)
          refine own_cP X128 (X128.specialBack hx (y := (⟨"java/lang/String", "<init>", "([C)V"⟩ : MethodName)) rfl hown (mvT hZ (own_w10 hw)) (mvT hZ (own_w11 hw)) (mvT hZ (own_w12 hw)) (by decide) (StrChars.Road.backV (W := 1) hZ (own_words Z a0 hw) (kI := 4) (own_w8 hw) (cs := [c0]) (bs := ([c0] : List Int32).map (fun c => c.toInt8.toInt32)) (n := 1) gn_b128 c135 A128 f128_value f128_coder AA (SC.ext c136.2) hz rfl rfl (by decide) (by decide) hp rfl (by decide) (by decide)) (g := (mkF m 209 #[.val (.int p1), .val (.int p2), .val (.int p3), .val (.int c0), .val (.int c1), .val (.int c2), .val (.int c3), .val (.int (1 : Int32)), .val (.ref b120), .val (.int ev)] [(.ref b120), (.ref b128), (.ref b128)])) rfl (by rw [hml]; rfl) (Steps.refl _) (a := b128) (argsL := [(.ref b120)]) (rest := [(.ref b128)]) (lenOf own_pd19 rfl) rfl (by show 2 * 0 + _ ≤ _; exact Nat.le_of_eq rfl) (hb hby at_209) (fun _ _ => ⟨rfl, e128, (by decide : 2 + 1 ≤ _), (by decide : 5 + 1 ≤ _)⟩)) fun v137 T137 L137 X137 hQ137 => ?_
          obtain ⟨rfl, Nq137, K137, A137, C137, t137, kb137, -, -, -, V137, B137⟩ := hQ137
          have N137 := Fr.app N' Nq137
          have c138 := (CHv.keep K137 (sfS sf_b128 sf0) c131)
          have c139 := (CHr.trans c132 (CHr.keep K137 (sfS sf_b128 sf0) c131))
          have c140 := (Nat.le_trans c133 K137.1)
          show own_Go p e below Pst (T137.setTop (mkF m 212 #[.val (.int p1), .val (.int p2), .val (.int p3), .val (.int c0), .val (.int c1), .val (.int c2), .val (.int c3), .val (.int (1 : Int32)), .val (.ref b120), .val (.int ev)] [(.ref b128)]))
          have c141 := (c136.keep K137 (allS gn_b128 all0))
          have c143 := (Nat.le_trans c135 K137.1)
          refine own_cF X137 (Jvm.LawKit.callS X137 hx (y := (⟨"com/example/entitl/entitl/Names", "printable", "(Ljava/lang/String;)Z"⟩ : MethodName)) hown (mvT hZ (own_w36 hw)) (mvT hZ (own_w37 hw)) (mvT hZ (own_w38 hw)) (mvT hZ (own_w39 hw)) (by decide) (backOf (W := 0) (rm_pr1 l Z a0 hw [] z b128 t137 kb137 0 (1 : Int32) _ fm c0 T137.heap n0 c143 c141 SC hz SF rfm SU0 SU1 SU2 A137 C137 V137 B137 (by decide) hr0 (Or.inl ⟨rfl, by decide, _, rfl, own_lat_eq hs0.1 hl⟩)) hZ (own_w39 hw) (own_w38 hw) (by decide) (by decide)) (g := (mkF m 212 #[.val (.int p1), .val (.int p2), .val (.int p3), .val (.int c0), .val (.int c1), .val (.int c2), .val (.int c3), .val (.int (1 : Int32)), .val (.ref b120), .val (.int ev)] [(.ref b128)])) rfl (by rw [hml]; rfl) (argsL := [(.ref b128)]) (rest := []) (lenOf own_pd20 rfl) rfl (by show 2 * 0 + _ ≤ _; exact Nat.le_of_eq rfl) (hb hby at_212) (fun _ _ => ⟨rfl, rfl, (by decide : 3 + 0 ≤ _), (by decide : 6 + 0 ≤ _)⟩)) fun v142 T142 L142 X142 hQ142 => ?_
          obtain ⟨r142, rfl, Nq142, e142, q142⟩ := hQ142
          have N142 := Fr.app N137 Nq142
          show own_Go p e below Pst (T142.setTop (mkF m 215 #[.val (.int p1), .val (.int p2), .val (.int p3), .val (.int c0), .val (.int c1), .val (.int c2), .val (.int c3), .val (.int (1 : Int32)), .val (.ref b120), .val (.int ev)] [(.int r142)]))
          have heq : r142 = ev := own_same1 hs0 hev q142
          refine own_x_iload X142.here hx (hb hby at_215) rfl ?_
          refine own_x_icmpNo X142.here hx (hb hby at_217) rfl (teq heq).2 ?_
          refine own_x_iconst X142.here hx (hb hby at_220) (z := (1 : Int32)) rfl ?_
          refine own_x_goto X142.here hx (pc0 := 221) (pc' := 225) rfl (hb hby at_221) (by decide) (by decide) ?_
          rw [hPst]
          exact own_retW X142 hS0 (by rw [e142]; exact c140) (v := (some (.int (nar .boolean (1 : Int32))))) (Q := Q0 Z z p1 p2 p3 fm h0 n0) (fun h => by rw [Bd.returns] at h; cases h) Bd.notSynchronized (fun fs hr => retN X142 hx (t := .boolean) Bd.returns (by simp) (hb hby at_225) hr) (by decide) (by decide) (by rw [hh0, e142]; exact CHr.trans c139 (CHv.at X142 hZ hEL c138)) (by rw [e142]; exact ⟨rfl, N142⟩)
        · have c144 := (((O.ext E120).wr W124 gn_b120).ext E128)
          have c146 := (Nat.le_trans c129 E128.1)
          refine own_cP X128 (X128.specialBack hx (y := (⟨"java/lang/String", "<init>", "([C)V"⟩ : MethodName)) rfl hown (mvT hZ (own_w10 hw)) (mvT hZ (own_w11 hw)) (mvT hZ (own_w12 hw)) (by decide) (backOf (W := 1) (rm_i1u1 l Z a0 hw [] z b128 b120 k120 (.int (0 : Int32)) c0 .null (.int 0) h128 n0 c146 c144 SC hz SU0 SU1 SU2 A128 f128_value f128_coder gn_b128 AA ⟨hs0.1, hs0.2⟩ hl) hZ (own_w12 hw) (own_w9 hw) (by decide) (by decide)) (g := (mkF m 209 #[.val (.int p1), .val (.int p2), .val (.int p3), .val (.int c0), .val (.int c1), .val (.int c2), .val (.int c3), .val (.int (1 : Int32)), .val (.ref b120), .val (.int ev)] [(.ref b120), (.ref b128), (.ref b128)])) rfl (by rw [hml]; rfl) (Steps.refl _) (a := b128) (argsL := [(.ref b120)]) (rest := [(.ref b128)]) (lenOf own_pd19 rfl) rfl (by show 2 * 0 + _ ≤ _; exact Nat.le_of_eq rfl) (hb hby at_209) (fun _ _ => ⟨rfl, e128, (by decide : 2 + 2 ≤ _), (by decide : 5 + 3 ≤ _)⟩)) fun v145 T145 L145 X145 hQ145 => ?_
          obtain ⟨rfl, Nq145, K145, A145, C145, t145, kb145, st_145, V145, B145⟩ := hQ145
          have N145 := Fr.app N' Nq145
          have c147 := (CHv.keep K145 (sfS sf_b128 sf0) c131)
          have c148 := (CHr.trans c132 (CHr.keep K145 (sfS sf_b128 sf0) c131))
          have c149 := (Nat.le_trans c133 K145.1)
          show own_Go p e below Pst (T145.setTop (mkF m 212 #[.val (.int p1), .val (.int p2), .val (.int p3), .val (.int c0), .val (.int c1), .val (.int c2), .val (.int c3), .val (.int (1 : Int32)), .val (.ref b120), .val (.int ev)] [(.ref b128)]))
          have c150 := (c144.keep K145 (allS gn_b128 all0))
          have c152 := (Nat.le_trans c146 K145.1)
          refine own_cF X145 (Jvm.LawKit.callS X145 hx (y := (⟨"com/example/entitl/entitl/Names", "printable", "(Ljava/lang/String;)Z"⟩ : MethodName)) hown (mvT hZ (own_w36 hw)) (mvT hZ (own_w37 hw)) (mvT hZ (own_w38 hw)) (mvT hZ (own_w39 hw)) (by decide) (backOf (W := 0) (rm_pr1 l Z a0 hw [] z b128 t145 kb145 1 (2 : Int32) (own_u16 [c0]) fm c0 T145.heap n0 c152 c150 SC hz SF rfm SU0 SU1 SU2 A145 C145 V145 B145 (by decide) hr0 (Or.inr ⟨rfl, by decide, by decide, _, _, rfl, rfl, own_join_eq hs0.1 hs0.2⟩)) hZ (own_w39 hw) (own_w38 hw) (by decide) (by decide)) (g := (mkF m 212 #[.val (.int p1), .val (.int p2), .val (.int p3), .val (.int c0), .val (.int c1), .val (.int c2), .val (.int c3), .val (.int (1 : Int32)), .val (.ref b120), .val (.int ev)] [(.ref b128)])) rfl (by rw [hml]; rfl) (argsL := [(.ref b128)]) (rest := []) (lenOf own_pd20 rfl) rfl (by show 2 * 0 + _ ≤ _; exact Nat.le_of_eq rfl) (hb hby at_212) (fun _ _ => ⟨rfl, rfl, (by decide : 4 + 0 ≤ _), (by decide : 8 + 0 ≤ _)⟩)) fun v151 T151 L151 X151 hQ151 => ?_
          obtain ⟨r151, rfl, Nq151, e151, q151⟩ := hQ151
          have N151 := Fr.app N145 Nq151
          show own_Go p e below Pst (T151.setTop (mkF m 215 #[.val (.int p1), .val (.int p2), .val (.int p3), .val (.int c0), .val (.int c1), .val (.int c2), .val (.int c3), .val (.int (1 : Int32)), .val (.ref b120), .val (.int ev)] [(.int r151)]))
          have heq : r151 = ev := own_same1 hs0 hev q151
          refine own_x_iload X151.here hx (hb hby at_215) rfl ?_
          refine own_x_icmpNo X151.here hx (hb hby at_217) rfl (teq heq).2 ?_
          refine own_x_iconst X151.here hx (hb hby at_220) (z := (1 : Int32)) rfl ?_
          refine own_x_goto X151.here hx (pc0 := 221) (pc' := 225) rfl (hb hby at_221) (by decide) (by decide) ?_
          rw [hPst]
          exact own_retW X151 hS0 (by rw [e151]; exact c149) (v := (some (.int (nar .boolean (1 : Int32))))) (Q := Q0 Z z p1 p2 p3 fm h0 n0) (fun h => by rw [Bd.returns] at h; cases h) Bd.notSynchronized (fun fs hr => retN X151 hx (t := .boolean) Bd.returns (by simp) (hb hby at_225) hr) (by decide) (by decide) (by rw [hh0, e151]; exact CHr.trans c148 (CHv.at X151 hZ hEL c147)) (by rw [e151]; exact ⟨rfl, N151⟩)
      refine own_x_iload X124.here hx (hb hby at_141) rfl ?_
      refine own_x_iconst X124.here hx (hb hby at_143) (z := (1 : Int32)) rfl ?_
      refine own_x_icmpNo X124.here hx (hb hby at_144) rfl (flt (by decide)).1 ?_
      refine own_x_iloadN X124.here hx (hb hby at_147) rfl ?_
      have c154 := (Nat.le_trans (Nat.le_trans Z0 E120.1) (Keep.of_wr W124).1)
      refine own_cF X124 (Jvm.LawKit.callS X124 hx (y := (⟨"com/example/entitl/entitl/NamesPrintablePinLaw", "bad", "(C)Z"⟩ : MethodName)) hown (mvT hZ (own_w3 hw)) (mvT hZ (own_w4 hw)) (mvT hZ (own_w5 hw)) (mvT hZ (own_w6 hw)) (by decide) (backOf (W := 0) (rm_bad l Z a0 hw [] c0 h124 n0 c154 ) hZ (own_w6 hw) (own_w5 hw) (by decide) (by decide)) (g := (mkF m 148 #[.val (.int p1), .val (.int p2), .val (.int p3), .val (.int c0), .val (.int c1), .val (.int c2), .val (.int c3), .val (.int (1 : Int32)), .val (.ref b120), .unset] [(.int c0)])) rfl (by rw [hml]; rfl) (argsL := [(.int c0)]) (rest := []) (lenOf own_pd18 rfl) rfl (by show 2 * 0 + _ ≤ _; exact Nat.le_of_eq rfl) (hb hby at_148) (fun _ _ => ⟨rfl, e124, (by decide : 1 + 0 ≤ _), (by decide : 1 + 0 ≤ _)⟩)) fun v153 T153 L153 X153 hQ153 => ?_
      obtain ⟨rfl, Nq153, e153⟩ := hQ153
      have N153 := Fr.app N124 Nq153
      show own_Go p e below Pst (T153.setTop (mkF m 151 #[.val (.int p1), .val (.int p2), .val (.int p3), .val (.int c0), .val (.int c1), .val (.int c2), .val (.int c3), .val (.int (1 : Int32)), .val (.ref b120), .unset] [(.int (own_bI c0))]))
      by_cases b0 : own_bI c0 = (0 : Int32)
      · refine own_x_ifNo X153.here hx (hb hby at_151) rfl ((if0 _ _).trans (teq b0).2) ?_
        refine own_x_iload X153.here hx (hb hby at_154) rfl ?_
        refine own_x_iconst X153.here hx (hb hby at_156) (z := (2 : Int32)) rfl ?_
        refine own_x_icmpYes X153.here hx (pc0 := 157) (pc' := 168) rfl (hb hby at_157) rfl (tlt (by decide)).1 (by decide) (by decide) ?_
        refine own_x_iload X153.here hx (hb hby at_168) rfl ?_
        refine own_x_iconst X153.here hx (hb hby at_170) (z := (3 : Int32)) rfl ?_
        refine own_x_icmpYes X153.here hx (pc0 := 171) (pc' := 182) rfl (hb hby at_171) rfl (tlt (by decide)).1 (by decide) (by decide) ?_
        refine own_x_iload X153.here hx (hb hby at_182) rfl ?_
        refine own_x_iconst X153.here hx (hb hby at_184) (z := (4 : Int32)) rfl ?_
        refine own_x_icmpYes X153.here hx (pc0 := 185) (pc' := 196) rfl (hb hby at_185) rfl (tlt (by decide)).1 (by decide) (by decide) ?_
        refine own_x_iconst X153.here hx (hb hby at_196) (z := (1 : Int32)) rfl ?_
        refine own_x_goto X153.here hx (pc0 := 197) (pc' := 201) rfl (hb hby at_197) (by decide) (by decide) ?_
        exact join _ _ X153 N153 e153 _ (Or.inl ⟨rfl, ⟨b0, trivial⟩⟩)
      · refine own_x_ifYes X153.here hx (pc0 := 151) (pc' := 200) rfl (hb hby at_151) rfl ((if0 _ _).trans (feq b0).2) (by decide) (by decide) ?_
        refine own_x_iconst X153.here hx (hb hby at_200) (z := (0 : Int32)) rfl ?_
        exact join _ _ X153 N153 e153 _ (Or.inr ⟨rfl, fun q => b0 q.1⟩)
    · refine own_x_icmpYes X0.here hx (pc0 := 51) (pc' := 66) rfl (hb hby at_51) rfl (feq hkk1).2 (by decide) (by decide) ?_
      refine own_x_iload X0.here hx (hb hby at_66) rfl ?_
      refine own_x_iconst X0.here hx (hb hby at_68) (z := (2 : Int32)) rfl ?_
      by_cases hkk2 : k = (2 : Int32)
      · subst hkk2
        show own_Go p e below Pst (s₁.setTop (mkF m 69 #[.val (.int p1), .val (.int p2), .val (.int p3), .val (.int c0), .val (.int c1), .val (.int c2), .val (.int c3), .val (.int (2 : Int32)), .unset, .unset] [(.int (2 : Int32)), (.int (2 : Int32))]))
        refine own_x_icmpNo X0.here hx (hb hby at_69) rfl (teq rfl).2 ?_
        refine own_x_iconst X0.here hx (hb hby at_72) (z := (2 : Int32)) rfl ?_
        refine own_h_newP (aty := .char) X0 hx hZ (own_w2 hw) e0 (hb hby at_73) rfl (by decide) (cap := 2) (by decide) (by decide) (by decide) (by decide) fun T155 h155 k155 b155 g155 X155 e155 E155 A155 => ?_
        have gn_b155 : n0 ≤ b155 := Nat.le_trans Z0 (Nat.le_of_eq g155.symm)
        have sz_b155 : h0.size ≤ b155 := Nat.le_trans (Keep.refl h0 []).1 (Nat.le_of_eq g155.symm)
        have sf_b155 := Safe.ext E155 hCH0 (Safe.new (Nat.le_of_eq g155.symm))
        have c156 := (CHv.ext E155 hCH0)
        have c157 := (CHr.trans (CHr.refl hCH0) (CHr.ext E155 hCH0))
        have c158 := (Nat.le_trans hk0 E155.1)
        have V155 : Arv Z h155 b155 k155 .char (2 : Int32) [(.int (0 : Int32)), (.int (0 : Int32))] (.int (0 : Int32)) := (Arv.new A155 (by decide)).pad (pad_rep [] (.int (0 : Int32)) 2)
        refine own_x_dup X155.here hx (hb hby at_75) rfl rfl ?_
        refine own_x_iconst X155.here hx (hb hby at_76) (z := (0 : Int32)) rfl ?_
        refine own_x_iloadN X155.here hx (hb hby at_77) rfl ?_
        refine own_h_arC X155 hx hZ e155 V155 (0 : Int32) 0 ⟨by decide, by decide⟩ rfl (Nat.le_of_ble_eq_true rfl) rfl (hb hby at_78) fun T159 h159 X159 e159 W159 V159 => ?_
        have c160 := (CHv.wr W159 sf_b155 c156)
        have c161 := (CHr.trans c157 (CHr.wr W159 sf_b155 c156))
        have c162 := (Nat.le_trans c158 (Keep.of_wr W159).1)
        have N159 := Fr.snoc X159 N0 gn_b155
        refine own_x_dup X159.here hx (hb hby at_79) rfl rfl ?_
        refine own_x_iconst X159.here hx (hb hby at_80) (z := (1 : Int32)) rfl ?_
        refine own_x_iload X159.here hx (hb hby at_81) rfl ?_
        refine own_h_arC X159 hx hZ e159 V159 (1 : Int32) 1 ⟨by decide, by decide⟩ rfl (Nat.le_of_ble_eq_true rfl) rfl (hb hby at_83) fun T163 h163 X163 e163 W163 V163 => ?_
        have c164 := (Safe.wr W159 sf_b155 c156 sf_b155)
        have c165 := (CHv.wr W163 c164 c160)
        have c166 := (CHr.trans c161 (CHr.wr W163 c164 c160))
        have c167 := (Nat.le_trans c162 (Keep.of_wr W163).1)
        have N163 := Fr.snoc X163 N159 gn_b155
        refine own_x_astore X163.here hx (hb hby at_84) rfl rfl (l' := #[.val (.int p1), .val (.int p2), .val (.int p3), .val (.int c0), .val (.int c1), .val (.int c2), .val (.int c3), .val (.int (2 : Int32)), .val (.ref b155), .unset]) rfl ?_
        refine own_x_goto X163.here hx (pc0 := 86) (pc' := 141) rfl (hb hby at_86) (by decide) (by decide) ?_
        have join : ∀ (T' : State) (locs' : List Loc) (X' : Stand p l e room_1 (s.setVm s.vm) m #[(.int p1), (.int p2), (.int p3)] below meth c T' locs' 1 2) (N' : Fr n0 locs') (e' : T'.heap = h163) (ev : Int32) (hev : (ev = 1 ∧ (own_bI c0 = 0 ∧ own_bI c1 = 0 ∧ True)) ∨ (ev = 0 ∧ ¬ (own_bI c0 = 0 ∧ own_bI c1 = 0 ∧ True))), own_Go p e below Pst (T'.setTop (mkF m 201 #[.val (.int p1), .val (.int p2), .val (.int p3), .val (.int c0), .val (.int c1), .val (.int c2), .val (.int c3), .val (.int (2 : Int32)), .val (.ref b155), .unset] [(.int ev)])) := by
          intro T' locs' X' N' e' ev hev
          refine own_x_istore X'.here hx (hb hby at_201) rfl (l' := #[.val (.int p1), .val (.int p2), .val (.int p3), .val (.int c0), .val (.int c1), .val (.int c2), .val (.int c3), .val (.int (2 : Int32)), .val (.ref b155), .val (.int ev)]) rfl ?_
          have c169 := (Nat.le_trans (Nat.le_trans (Nat.le_trans Z0 E155.1) (Keep.of_wr W159).1) (Keep.of_wr W163).1)
          have c170 := ((((Keep.refl h0 []).ext E155).wr W159 (Or.inr sz_b155)).wr W163 (Or.inr sz_b155))
          refine own_h_newO X' hx hZ hown (own_w7 hw) (own_w8 hw) (own_w9 hw) e' (hb hby at_203) (by decide) (by decide) fun T168 h168 b168 g168 X168 e168 E168 A168 D168 U168 => ?_
          have ne_b155_b168 : b155 ≠ b168 := Nat.ne_of_lt (Nat.lt_of_lt_of_le V163.lt (Nat.le_of_eq g168.symm))
          have gn_b168 : n0 ≤ b168 := Nat.le_trans c169 (Nat.le_of_eq g168.symm)
          have sz_b168 : h0.size ≤ b168 := Nat.le_trans c170.1 (Nat.le_of_eq g168.symm)
          have sf_b168 := Safe.ext E168 c165 (Safe.new (Nat.le_of_eq g168.symm))
          have c171 := (CHv.ext E168 c165)
          have c172 := (CHr.trans c166 (CHr.ext E168 c165))
          have c173 := (Nat.le_trans c167 E168.1)
          have f168_coder : Fld Z h168 b168 "java/lang/String" "coder" "B" (.int (0 : Int32)) := D168 (Or.inr (own_w33 hw)) (ty := .byte) (by decide)
          have f168_value : Fld Z h168 b168 "java/lang/String" "value" "[B" .null := D168 (Or.inr (own_w35 hw)) (ty := (.array .byte)) (by decide)
          refine own_x_dup X168.here hx (hb hby at_206) rfl rfl ?_
          refine own_x_aload X168.here hx (hb hby at_207) rfl rfl ?_
          have c174 := (V163.ext E168)
          have AA : Arv Z h168 b155 k155 .char (2 : Int32) [(.int c0), (.int c1)] (.int (0 : Int32)) := by rw [hr0, hr1] at c174; exact c174
          by_cases hl : ¬ (255 : Int32) < c0 ∧ ¬ (255 : Int32) < c1
          · have hp : ∀ c ∈ ([c0, c1] : List Int32), ¬ c < 0 ∧ ¬ (255 : Int32) < c := by
              intro c hc
              simp only [List.mem_cons, List.not_mem_nil, or_false] at hc
              rcases hc with e | e
              · rw [e]; exact ⟨hs0.1, hl.1⟩
              · rw [e]; exact ⟨hs1.1, hl.2⟩
            have c175 := (Nat.le_trans c169 E168.1)
            have c176 := ((((O.ext E155).wr W159 gn_b155).wr W163 gn_b155).ext E168)
            refine own_cP X168 (X168.specialBack hx (y := (⟨"java/lang/String", "<init>", "([C)V"⟩ : MethodName)) rfl hown (mvT hZ (own_w10 hw)) (mvT hZ (own_w11 hw)) (mvT hZ (own_w12 hw)) (by decide) (StrChars.Road.backV (W := 1) hZ (own_words Z a0 hw) (kI := 4) (own_w8 hw) (cs := [c0, c1]) (bs := ([c0, c1] : List Int32).map (fun c => c.toInt8.toInt32)) (n := 2) gn_b168 c175 A168 f168_value f168_coder AA (SC.ext c176.2) hz rfl rfl (by decide) (by decide) hp rfl (by decide) (by decide)) (g := (mkF m 209 #[.val (.int p1), .val (.int p2), .val (.int p3), .val (.int c0), .val (.int c1), .val (.int c2), .val (.int c3), .val (.int (2 : Int32)), .val (.ref b155), .val (.int ev)] [(.ref b155), (.ref b168), (.ref b168)])) rfl (by rw [hml]; rfl) (Steps.refl _) (a := b168) (argsL := [(.ref b155)]) (rest := [(.ref b168)]) (lenOf own_pd19 rfl) rfl (by show 2 * 0 + _ ≤ _; exact Nat.le_of_eq rfl) (hb hby at_209) (fun _ _ => ⟨rfl, e168, (by decide : 2 + 1 ≤ _), (by decide : 6 + 2 ≤ _)⟩)) fun v177 T177 L177 X177 hQ177 => ?_
            obtain ⟨rfl, Nq177, K177, A177, C177, t177, kb177, -, -, -, V177, B177⟩ := hQ177
            have N177 := Fr.app N' Nq177
            have c178 := (CHv.keep K177 (sfS sf_b168 sf0) c171)
            have c179 := (CHr.trans c172 (CHr.keep K177 (sfS sf_b168 sf0) c171))
            have c180 := (Nat.le_trans c173 K177.1)
            show own_Go p e below Pst (T177.setTop (mkF m 212 #[.val (.int p1), .val (.int p2), .val (.int p3), .val (.int c0), .val (.int c1), .val (.int c2), .val (.int c3), .val (.int (2 : Int32)), .val (.ref b155), .val (.int ev)] [(.ref b168)]))
            have c181 := (c176.keep K177 (allS gn_b168 all0))
            have c183 := (Nat.le_trans c175 K177.1)
            refine own_cF X177 (Jvm.LawKit.callS X177 hx (y := (⟨"com/example/entitl/entitl/Names", "printable", "(Ljava/lang/String;)Z"⟩ : MethodName)) hown (mvT hZ (own_w36 hw)) (mvT hZ (own_w37 hw)) (mvT hZ (own_w38 hw)) (mvT hZ (own_w39 hw)) (by decide) (backOf (W := 0) (rm_pr2 l Z a0 hw [] z b168 t177 kb177 0 (2 : Int32) _ fm c0 c1 T177.heap n0 c183 c181 SC hz SF rfm SU0 SU1 SU2 A177 C177 V177 B177 (by decide) hr0 hr1 (Or.inl ⟨rfl, by decide, _, rfl, own_lat_eq hs0.1 hl.1⟩) (Or.inl ⟨rfl, by decide, _, rfl, own_lat_eq hs1.1 hl.2⟩)) hZ (own_w39 hw) (own_w38 hw) (by decide) (by decide)) (g := (mkF m 212 #[.val (.int p1), .val (.int p2), .val (.int p3), .val (.int c0), .val (.int c1), .val (.int c2), .val (.int c3), .val (.int (2 : Int32)), .val (.ref b155), .val (.int ev)] [(.ref b168)])) rfl (by rw [hml]; rfl) (argsL := [(.ref b168)]) (rest := []) (lenOf own_pd20 rfl) rfl (by show 2 * 0 + _ ≤ _; exact Nat.le_of_eq rfl) (hb hby at_212) (fun _ _ => ⟨rfl, rfl, (by decide : 3 + 0 ≤ _), (by decide : 8 + 0 ≤ _)⟩)) fun v182 T182 L182 X182 hQ182 => ?_
            obtain ⟨r182, rfl, Nq182, e182, q182⟩ := hQ182
            have N182 := Fr.app N177 Nq182
            show own_Go p e below Pst (T182.setTop (mkF m 215 #[.val (.int p1), .val (.int p2), .val (.int p3), .val (.int c0), .val (.int c1), .val (.int c2), .val (.int c3), .val (.int (2 : Int32)), .val (.ref b155), .val (.int ev)] [(.int r182)]))
            have heq : r182 = ev := own_same2 hs0 hs1 hev q182
            refine own_x_iload X182.here hx (hb hby at_215) rfl ?_
            refine own_x_icmpNo X182.here hx (hb hby at_217) rfl (teq heq).2 ?_
            refine own_x_iconst X182.here hx (hb hby at_220) (z := (1 : Int32)) rfl ?_
            refine own_x_goto X182.here hx (pc0 := 221) (pc' := 225) rfl (hb hby at_221) (by decide) (by decide) ?_
            rw [hPst]
            exact own_retW X182 hS0 (by rw [e182]; exact c180) (v := (some (.int (nar .boolean (1 : Int32))))) (Q := Q0 Z z p1 p2 p3 fm h0 n0) (fun h => by rw [Bd.returns] at h; cases h) Bd.notSynchronized (fun fs hr => retN X182 hx (t := .boolean) Bd.returns (by simp) (hb hby at_225) hr) (by decide) (by decide) (by rw [hh0, e182]; exact CHr.trans c179 (CHv.at X182 hZ hEL c178)) (by rw [e182]; exact ⟨rfl, N182⟩)
          · have c184 := ((((O.ext E155).wr W159 gn_b155).wr W163 gn_b155).ext E168)
            have c186 := (Nat.le_trans c169 E168.1)
            refine own_cP X168 (X168.specialBack hx (y := (⟨"java/lang/String", "<init>", "([C)V"⟩ : MethodName)) rfl hown (mvT hZ (own_w10 hw)) (mvT hZ (own_w11 hw)) (mvT hZ (own_w12 hw)) (by decide) (backOf (W := 1) (rm_i1u2 l Z a0 hw [] z b168 b155 k155 (.int (0 : Int32)) c0 c1 .null (.int 0) h168 n0 c186 c184 SC hz SU0 SU1 SU2 A168 f168_value f168_coder gn_b168 AA ⟨hs0.1, hs0.2, hs1.1, hs1.2⟩ hl) hZ (own_w12 hw) (own_w9 hw) (by decide) (by decide)) (g := (mkF m 209 #[.val (.int p1), .val (.int p2), .val (.int p3), .val (.int c0), .val (.int c1), .val (.int c2), .val (.int c3), .val (.int (2 : Int32)), .val (.ref b155), .val (.int ev)] [(.ref b155), (.ref b168), (.ref b168)])) rfl (by rw [hml]; rfl) (Steps.refl _) (a := b168) (argsL := [(.ref b155)]) (rest := [(.ref b168)]) (lenOf own_pd19 rfl) rfl (by show 2 * 0 + _ ≤ _; exact Nat.le_of_eq rfl) (hb hby at_209) (fun _ _ => ⟨rfl, e168, (by decide : 2 + 2 ≤ _), (by decide : 6 + 6 ≤ _)⟩)) fun v185 T185 L185 X185 hQ185 => ?_
            obtain ⟨rfl, Nq185, K185, A185, C185, t185, kb185, st_185, V185, B185⟩ := hQ185
            have N185 := Fr.app N' Nq185
            have c187 := (CHv.keep K185 (sfS sf_b168 sf0) c171)
            have c188 := (CHr.trans c172 (CHr.keep K185 (sfS sf_b168 sf0) c171))
            have c189 := (Nat.le_trans c173 K185.1)
            show own_Go p e below Pst (T185.setTop (mkF m 212 #[.val (.int p1), .val (.int p2), .val (.int p3), .val (.int c0), .val (.int c1), .val (.int c2), .val (.int c3), .val (.int (2 : Int32)), .val (.ref b155), .val (.int ev)] [(.ref b168)]))
            have c190 := (c184.keep K185 (allS gn_b168 all0))
            have c192 := (Nat.le_trans c186 K185.1)
            refine own_cF X185 (Jvm.LawKit.callS X185 hx (y := (⟨"com/example/entitl/entitl/Names", "printable", "(Ljava/lang/String;)Z"⟩ : MethodName)) hown (mvT hZ (own_w36 hw)) (mvT hZ (own_w37 hw)) (mvT hZ (own_w38 hw)) (mvT hZ (own_w39 hw)) (by decide) (backOf (W := 0) (rm_pr2 l Z a0 hw [] z b168 t185 kb185 1 (4 : Int32) (own_u16 [c0, c1]) fm c0 c1 T185.heap n0 c192 c190 SC hz SF rfm SU0 SU1 SU2 A185 C185 V185 B185 (by decide) hr0 hr1 (Or.inr ⟨rfl, by decide, by decide, _, _, rfl, rfl, own_join_eq hs0.1 hs0.2⟩) (Or.inr ⟨rfl, by decide, by decide, _, _, rfl, rfl, own_join_eq hs1.1 hs1.2⟩)) hZ (own_w39 hw) (own_w38 hw) (by decide) (by decide)) (g := (mkF m 212 #[.val (.int p1), .val (.int p2), .val (.int p3), .val (.int c0), .val (.int c1), .val (.int c2), .val (.int c3), .val (.int (2 : Int32)), .val (.ref b155), .val (.int ev)] [(.ref b168)])) rfl (by rw [hml]; rfl) (argsL := [(.ref b168)]) (rest := []) (lenOf own_pd20 rfl) rfl (by show 2 * 0 + _ ≤ _; exact Nat.le_of_eq rfl) (hb hby at_212) (fun _ _ => ⟨rfl, rfl, (by decide : 4 + 0 ≤ _), (by decide : 12 + 0 ≤ _)⟩)) fun v191 T191 L191 X191 hQ191 => ?_
            obtain ⟨r191, rfl, Nq191, e191, q191⟩ := hQ191
            have N191 := Fr.app N185 Nq191
            show own_Go p e below Pst (T191.setTop (mkF m 215 #[.val (.int p1), .val (.int p2), .val (.int p3), .val (.int c0), .val (.int c1), .val (.int c2), .val (.int c3), .val (.int (2 : Int32)), .val (.ref b155), .val (.int ev)] [(.int r191)]))
            have heq : r191 = ev := own_same2 hs0 hs1 hev q191
            refine own_x_iload X191.here hx (hb hby at_215) rfl ?_
            refine own_x_icmpNo X191.here hx (hb hby at_217) rfl (teq heq).2 ?_
            refine own_x_iconst X191.here hx (hb hby at_220) (z := (1 : Int32)) rfl ?_
            refine own_x_goto X191.here hx (pc0 := 221) (pc' := 225) rfl (hb hby at_221) (by decide) (by decide) ?_
            rw [hPst]
            exact own_retW X191 hS0 (by rw [e191]; exact c189) (v := (some (.int (nar .boolean (1 : Int32))))) (Q := Q0 Z z p1 p2 p3 fm h0 n0) (fun h => by rw [Bd.returns] at h; cases h) Bd.notSynchronized (fun fs hr => retN X191 hx (t := .boolean) Bd.returns (by simp) (hb hby at_225) hr) (by decide) (by decide) (by rw [hh0, e191]; exact CHr.trans c188 (CHv.at X191 hZ hEL c187)) (by rw [e191]; exact ⟨rfl, N191⟩)
        refine own_x_iload X163.here hx (hb hby at_141) rfl ?_
        refine own_x_iconst X163.here hx (hb hby at_143) (z := (1 : Int32)) rfl ?_
        refine own_x_icmpNo X163.here hx (hb hby at_144) rfl (flt (by decide)).1 ?_
        refine own_x_iloadN X163.here hx (hb hby at_147) rfl ?_
        have c194 := (Nat.le_trans (Nat.le_trans (Nat.le_trans Z0 E155.1) (Keep.of_wr W159).1) (Keep.of_wr W163).1)
        refine own_cF X163 (Jvm.LawKit.callS X163 hx (y := (⟨"com/example/entitl/entitl/NamesPrintablePinLaw", "bad", "(C)Z"⟩ : MethodName)) hown (mvT hZ (own_w3 hw)) (mvT hZ (own_w4 hw)) (mvT hZ (own_w5 hw)) (mvT hZ (own_w6 hw)) (by decide) (backOf (W := 0) (rm_bad l Z a0 hw [] c0 h163 n0 c194 ) hZ (own_w6 hw) (own_w5 hw) (by decide) (by decide)) (g := (mkF m 148 #[.val (.int p1), .val (.int p2), .val (.int p3), .val (.int c0), .val (.int c1), .val (.int c2), .val (.int c3), .val (.int (2 : Int32)), .val (.ref b155), .unset] [(.int c0)])) rfl (by rw [hml]; rfl) (argsL := [(.int c0)]) (rest := []) (lenOf own_pd18 rfl) rfl (by show 2 * 0 + _ ≤ _; exact Nat.le_of_eq rfl) (hb hby at_148) (fun _ _ => ⟨rfl, e163, (by decide : 1 + 0 ≤ _), (by decide : 2 + 0 ≤ _)⟩)) fun v193 T193 L193 X193 hQ193 => ?_
        obtain ⟨rfl, Nq193, e193⟩ := hQ193
        have N193 := Fr.app N163 Nq193
        show own_Go p e below Pst (T193.setTop (mkF m 151 #[.val (.int p1), .val (.int p2), .val (.int p3), .val (.int c0), .val (.int c1), .val (.int c2), .val (.int c3), .val (.int (2 : Int32)), .val (.ref b155), .unset] [(.int (own_bI c0))]))
        by_cases b0 : own_bI c0 = (0 : Int32)
        · refine own_x_ifNo X193.here hx (hb hby at_151) rfl ((if0 _ _).trans (teq b0).2) ?_
          refine own_x_iload X193.here hx (hb hby at_154) rfl ?_
          refine own_x_iconst X193.here hx (hb hby at_156) (z := (2 : Int32)) rfl ?_
          refine own_x_icmpNo X193.here hx (hb hby at_157) rfl (flt (by decide)).1 ?_
          refine own_x_iload X193.here hx (hb hby at_160) rfl ?_
          refine own_cF X193 (Jvm.LawKit.callS X193 hx (y := (⟨"com/example/entitl/entitl/NamesPrintablePinLaw", "bad", "(C)Z"⟩ : MethodName)) hown (mvT hZ (own_w3 hw)) (mvT hZ (own_w4 hw)) (mvT hZ (own_w5 hw)) (mvT hZ (own_w6 hw)) (by decide) (backOf (W := 0) (rm_bad l Z a0 hw [] c1 h163 n0 c194 ) hZ (own_w6 hw) (own_w5 hw) (by decide) (by decide)) (g := (mkF m 162 #[.val (.int p1), .val (.int p2), .val (.int p3), .val (.int c0), .val (.int c1), .val (.int c2), .val (.int c3), .val (.int (2 : Int32)), .val (.ref b155), .unset] [(.int c1)])) rfl (by rw [hml]; rfl) (argsL := [(.int c1)]) (rest := []) (lenOf own_pd18 rfl) rfl (by show 2 * 0 + _ ≤ _; exact Nat.le_of_eq rfl) (hb hby at_162) (fun _ _ => ⟨rfl, e193, (by decide : 1 + 0 ≤ _), (by decide : 2 + 0 ≤ _)⟩)) fun v195 T195 L195 X195 hQ195 => ?_
          obtain ⟨rfl, Nq195, e195⟩ := hQ195
          have N195 := Fr.app N193 Nq195
          show own_Go p e below Pst (T195.setTop (mkF m 165 #[.val (.int p1), .val (.int p2), .val (.int p3), .val (.int c0), .val (.int c1), .val (.int c2), .val (.int c3), .val (.int (2 : Int32)), .val (.ref b155), .unset] [(.int (own_bI c1))]))
          by_cases b1 : own_bI c1 = (0 : Int32)
          · refine own_x_ifNo X195.here hx (hb hby at_165) rfl ((if0 _ _).trans (teq b1).2) ?_
            refine own_x_iload X195.here hx (hb hby at_168) rfl ?_
            refine own_x_iconst X195.here hx (hb hby at_170) (z := (3 : Int32)) rfl ?_
            refine own_x_icmpYes X195.here hx (pc0 := 171) (pc' := 182) rfl (hb hby at_171) rfl (tlt (by decide)).1 (by decide) (by decide) ?_
            refine own_x_iload X195.here hx (hb hby at_182) rfl ?_
            refine own_x_iconst X195.here hx (hb hby at_184) (z := (4 : Int32)) rfl ?_
            refine own_x_icmpYes X195.here hx (pc0 := 185) (pc' := 196) rfl (hb hby at_185) rfl (tlt (by decide)).1 (by decide) (by decide) ?_
            refine own_x_iconst X195.here hx (hb hby at_196) (z := (1 : Int32)) rfl ?_
            refine own_x_goto X195.here hx (pc0 := 197) (pc' := 201) rfl (hb hby at_197) (by decide) (by decide) ?_
            exact join _ _ X195 N195 e195 _ (Or.inl ⟨rfl, ⟨b0, b1, trivial⟩⟩)
          · refine own_x_ifYes X195.here hx (pc0 := 165) (pc' := 200) rfl (hb hby at_165) rfl ((if0 _ _).trans (feq b1).2) (by decide) (by decide) ?_
            refine own_x_iconst X195.here hx (hb hby at_200) (z := (0 : Int32)) rfl ?_
            exact join _ _ X195 N195 e195 _ (Or.inr ⟨rfl, fun q => b1 q.2.1⟩)
        · refine own_x_ifYes X193.here hx (pc0 := 151) (pc' := 200) rfl (hb hby at_151) rfl ((if0 _ _).trans (feq b0).2) (by decide) (by decide) ?_
          refine own_x_iconst X193.here hx (hb hby at_200) (z := (0 : Int32)) rfl ?_
          exact join _ _ X193 N193 e193 _ (Or.inr ⟨rfl, fun q => b0 q.1⟩)
      · refine own_x_icmpYes X0.here hx (pc0 := 69) (pc' := 89) rfl (hb hby at_69) rfl (feq hkk2).2 (by decide) (by decide) ?_
        refine own_x_iload X0.here hx (hb hby at_89) rfl ?_
        refine own_x_iconst X0.here hx (hb hby at_91) (z := (3 : Int32)) rfl ?_
        by_cases hkk3 : k = (3 : Int32)
        · subst hkk3
          show own_Go p e below Pst (s₁.setTop (mkF m 92 #[.val (.int p1), .val (.int p2), .val (.int p3), .val (.int c0), .val (.int c1), .val (.int c2), .val (.int c3), .val (.int (3 : Int32)), .unset, .unset] [(.int (3 : Int32)), (.int (3 : Int32))]))
          refine own_x_icmpNo X0.here hx (hb hby at_92) rfl (teq rfl).2 ?_
          refine own_x_iconst X0.here hx (hb hby at_95) (z := (3 : Int32)) rfl ?_
          refine own_h_newP (aty := .char) X0 hx hZ (own_w2 hw) e0 (hb hby at_96) rfl (by decide) (cap := 3) (by decide) (by decide) (by decide) (by decide) fun T196 h196 k196 b196 g196 X196 e196 E196 A196 => ?_
          have gn_b196 : n0 ≤ b196 := Nat.le_trans Z0 (Nat.le_of_eq g196.symm)
          have sz_b196 : h0.size ≤ b196 := Nat.le_trans (Keep.refl h0 []).1 (Nat.le_of_eq g196.symm)
          have sf_b196 := Safe.ext E196 hCH0 (Safe.new (Nat.le_of_eq g196.symm))
          have c197 := (CHv.ext E196 hCH0)
          have c198 := (CHr.trans (CHr.refl hCH0) (CHr.ext E196 hCH0))
          have c199 := (Nat.le_trans hk0 E196.1)
          have V196 : Arv Z h196 b196 k196 .char (3 : Int32) [(.int (0 : Int32)), (.int (0 : Int32)), (.int (0 : Int32))] (.int (0 : Int32)) := (Arv.new A196 (by decide)).pad (pad_rep [] (.int (0 : Int32)) 3)
          refine own_x_dup X196.here hx (hb hby at_98) rfl rfl ?_
          refine own_x_iconst X196.here hx (hb hby at_99) (z := (0 : Int32)) rfl ?_
          refine own_x_iloadN X196.here hx (hb hby at_100) rfl ?_
          refine own_h_arC X196 hx hZ e196 V196 (0 : Int32) 0 ⟨by decide, by decide⟩ rfl (Nat.le_of_ble_eq_true rfl) rfl (hb hby at_101) fun T200 h200 X200 e200 W200 V200 => ?_
          have c201 := (CHv.wr W200 sf_b196 c197)
          have c202 := (CHr.trans c198 (CHr.wr W200 sf_b196 c197))
          have c203 := (Nat.le_trans c199 (Keep.of_wr W200).1)
          have N200 := Fr.snoc X200 N0 gn_b196
          refine own_x_dup X200.here hx (hb hby at_102) rfl rfl ?_
          refine own_x_iconst X200.here hx (hb hby at_103) (z := (1 : Int32)) rfl ?_
          refine own_x_iload X200.here hx (hb hby at_104) rfl ?_
          refine own_h_arC X200 hx hZ e200 V200 (1 : Int32) 1 ⟨by decide, by decide⟩ rfl (Nat.le_of_ble_eq_true rfl) rfl (hb hby at_106) fun T204 h204 X204 e204 W204 V204 => ?_
          have c205 := (Safe.wr W200 sf_b196 c197 sf_b196)
          have c206 := (CHv.wr W204 c205 c201)
          have c207 := (CHr.trans c202 (CHr.wr W204 c205 c201))
          have c208 := (Nat.le_trans c203 (Keep.of_wr W204).1)
          have N204 := Fr.snoc X204 N200 gn_b196
          refine own_x_dup X204.here hx (hb hby at_107) rfl rfl ?_
          refine own_x_iconst X204.here hx (hb hby at_108) (z := (2 : Int32)) rfl ?_
          refine own_x_iload X204.here hx (hb hby at_109) rfl ?_
          refine own_h_arC X204 hx hZ e204 V204 (2 : Int32) 2 ⟨by decide, by decide⟩ rfl (Nat.le_of_ble_eq_true rfl) rfl (hb hby at_111) fun T209 h209 X209 e209 W209 V209 => ?_
          have c210 := (Safe.wr W204 c205 c201 c205)
          have c211 := (CHv.wr W209 c210 c206)
          have c212 := (CHr.trans c207 (CHr.wr W209 c210 c206))
          have c213 := (Nat.le_trans c208 (Keep.of_wr W209).1)
          have N209 := Fr.snoc X209 N204 gn_b196
          refine own_x_astore X209.here hx (hb hby at_112) rfl rfl (l' := #[.val (.int p1), .val (.int p2), .val (.int p3), .val (.int c0), .val (.int c1), .val (.int c2), .val (.int c3), .val (.int (3 : Int32)), .val (.ref b196), .unset]) rfl ?_
          refine own_x_goto X209.here hx (pc0 := 114) (pc' := 141) rfl (hb hby at_114) (by decide) (by decide) ?_
          have join : ∀ (T' : State) (locs' : List Loc) (X' : Stand p l e room_1 (s.setVm s.vm) m #[(.int p1), (.int p2), (.int p3)] below meth c T' locs' 1 3) (N' : Fr n0 locs') (e' : T'.heap = h209) (ev : Int32) (hev : (ev = 1 ∧ (own_bI c0 = 0 ∧ own_bI c1 = 0 ∧ own_bI c2 = 0 ∧ True)) ∨ (ev = 0 ∧ ¬ (own_bI c0 = 0 ∧ own_bI c1 = 0 ∧ own_bI c2 = 0 ∧ True))), own_Go p e below Pst (T'.setTop (mkF m 201 #[.val (.int p1), .val (.int p2), .val (.int p3), .val (.int c0), .val (.int c1), .val (.int c2), .val (.int c3), .val (.int (3 : Int32)), .val (.ref b196), .unset] [(.int ev)])) := by
            intro T' locs' X' N' e' ev hev
            refine own_x_istore X'.here hx (hb hby at_201) rfl (l' := #[.val (.int p1), .val (.int p2), .val (.int p3), .val (.int c0), .val (.int c1), .val (.int c2), .val (.int c3), .val (.int (3 : Int32)), .val (.ref b196), .val (.int ev)]) rfl ?_
            have c215 := (Nat.le_trans (Nat.le_trans (Nat.le_trans (Nat.le_trans Z0 E196.1) (Keep.of_wr W200).1) (Keep.of_wr W204).1) (Keep.of_wr W209).1)
            have c216 := (((((Keep.refl h0 []).ext E196).wr W200 (Or.inr sz_b196)).wr W204 (Or.inr sz_b196)).wr W209 (Or.inr sz_b196))
            refine own_h_newO X' hx hZ hown (own_w7 hw) (own_w8 hw) (own_w9 hw) e' (hb hby at_203) (by decide) (by decide) fun T214 h214 b214 g214 X214 e214 E214 A214 D214 U214 => ?_
            have ne_b196_b214 : b196 ≠ b214 := Nat.ne_of_lt (Nat.lt_of_lt_of_le V209.lt (Nat.le_of_eq g214.symm))
            have gn_b214 : n0 ≤ b214 := Nat.le_trans c215 (Nat.le_of_eq g214.symm)
            have sz_b214 : h0.size ≤ b214 := Nat.le_trans c216.1 (Nat.le_of_eq g214.symm)
            have sf_b214 := Safe.ext E214 c211 (Safe.new (Nat.le_of_eq g214.symm))
            have c217 := (CHv.ext E214 c211)
            have c218 := (CHr.trans c212 (CHr.ext E214 c211))
            have c219 := (Nat.le_trans c213 E214.1)
            have f214_coder : Fld Z h214 b214 "java/lang/String" "coder" "B" (.int (0 : Int32)) := D214 (Or.inr (own_w33 hw)) (ty := .byte) (by decide)
            have f214_value : Fld Z h214 b214 "java/lang/String" "value" "[B" .null := D214 (Or.inr (own_w35 hw)) (ty := (.array .byte)) (by decide)
            refine own_x_dup X214.here hx (hb hby at_206) rfl rfl ?_
            refine own_x_aload X214.here hx (hb hby at_207) rfl rfl ?_
            have c220 := (V209.ext E214)
            have AA : Arv Z h214 b196 k196 .char (3 : Int32) [(.int c0), (.int c1), (.int c2)] (.int (0 : Int32)) := by rw [hr0, hr1, hr2] at c220; exact c220
            by_cases hl : ¬ (255 : Int32) < c0 ∧ ¬ (255 : Int32) < c1 ∧ ¬ (255 : Int32) < c2
            · have hp : ∀ c ∈ ([c0, c1, c2] : List Int32), ¬ c < 0 ∧ ¬ (255 : Int32) < c := by
                intro c hc
                simp only [List.mem_cons, List.not_mem_nil, or_false] at hc
                rcases hc with e | e | e
                · rw [e]; exact ⟨hs0.1, hl.1⟩
                · rw [e]; exact ⟨hs1.1, hl.2.1⟩
                · rw [e]; exact ⟨hs2.1, hl.2.2⟩
              have c221 := (Nat.le_trans c215 E214.1)
              have c222 := (((((O.ext E196).wr W200 gn_b196).wr W204 gn_b196).wr W209 gn_b196).ext E214)
              refine own_cP X214 (X214.specialBack hx (y := (⟨"java/lang/String", "<init>", "([C)V"⟩ : MethodName)) rfl hown (mvT hZ (own_w10 hw)) (mvT hZ (own_w11 hw)) (mvT hZ (own_w12 hw)) (by decide) (StrChars.Road.backV (W := 1) hZ (own_words Z a0 hw) (kI := 4) (own_w8 hw) (cs := [c0, c1, c2]) (bs := ([c0, c1, c2] : List Int32).map (fun c => c.toInt8.toInt32)) (n := 3) gn_b214 c221 A214 f214_value f214_coder AA (SC.ext c222.2) hz rfl rfl (by decide) (by decide) hp rfl (by decide) (by decide)) (g := (mkF m 209 #[.val (.int p1), .val (.int p2), .val (.int p3), .val (.int c0), .val (.int c1), .val (.int c2), .val (.int c3), .val (.int (3 : Int32)), .val (.ref b196), .val (.int ev)] [(.ref b196), (.ref b214), (.ref b214)])) rfl (by rw [hml]; rfl) (Steps.refl _) (a := b214) (argsL := [(.ref b196)]) (rest := [(.ref b214)]) (lenOf own_pd19 rfl) rfl (by show 2 * 0 + _ ≤ _; exact Nat.le_of_eq rfl) (hb hby at_209) (fun _ _ => ⟨rfl, e214, (by decide : 2 + 1 ≤ _), (by decide : 7 + 3 ≤ _)⟩)) fun v223 T223 L223 X223 hQ223 => ?_
              obtain ⟨rfl, Nq223, K223, A223, C223, t223, kb223, -, -, -, V223, B223⟩ := hQ223
              have N223 := Fr.app N' Nq223
              have c224 := (CHv.keep K223 (sfS sf_b214 sf0) c217)
              have c225 := (CHr.trans c218 (CHr.keep K223 (sfS sf_b214 sf0) c217))
              have c226 := (Nat.le_trans c219 K223.1)
              show own_Go p e below Pst (T223.setTop (mkF m 212 #[.val (.int p1), .val (.int p2), .val (.int p3), .val (.int c0), .val (.int c1), .val (.int c2), .val (.int c3), .val (.int (3 : Int32)), .val (.ref b196), .val (.int ev)] [(.ref b214)]))
              have c227 := (c222.keep K223 (allS gn_b214 all0))
              have c229 := (Nat.le_trans c221 K223.1)
              refine own_cF X223 (Jvm.LawKit.callS X223 hx (y := (⟨"com/example/entitl/entitl/Names", "printable", "(Ljava/lang/String;)Z"⟩ : MethodName)) hown (mvT hZ (own_w36 hw)) (mvT hZ (own_w37 hw)) (mvT hZ (own_w38 hw)) (mvT hZ (own_w39 hw)) (by decide) (backOf (W := 0) (rm_pr3 l Z a0 hw [] z b214 t223 kb223 0 (3 : Int32) _ fm c0 c1 c2 T223.heap n0 c229 c227 SC hz SF rfm SU0 SU1 SU2 A223 C223 V223 B223 (by decide) hr0 hr1 hr2 (Or.inl ⟨rfl, by decide, _, rfl, own_lat_eq hs0.1 hl.1⟩) (Or.inl ⟨rfl, by decide, _, rfl, own_lat_eq hs1.1 hl.2.1⟩) (Or.inl ⟨rfl, by decide, _, rfl, own_lat_eq hs2.1 hl.2.2⟩)) hZ (own_w39 hw) (own_w38 hw) (by decide) (by decide)) (g := (mkF m 212 #[.val (.int p1), .val (.int p2), .val (.int p3), .val (.int c0), .val (.int c1), .val (.int c2), .val (.int c3), .val (.int (3 : Int32)), .val (.ref b196), .val (.int ev)] [(.ref b214)])) rfl (by rw [hml]; rfl) (argsL := [(.ref b214)]) (rest := []) (lenOf own_pd20 rfl) rfl (by show 2 * 0 + _ ≤ _; exact Nat.le_of_eq rfl) (hb hby at_212) (fun _ _ => ⟨rfl, rfl, (by decide : 3 + 0 ≤ _), (by decide : 10 + 0 ≤ _)⟩)) fun v228 T228 L228 X228 hQ228 => ?_
              obtain ⟨r228, rfl, Nq228, e228, q228⟩ := hQ228
              have N228 := Fr.app N223 Nq228
              show own_Go p e below Pst (T228.setTop (mkF m 215 #[.val (.int p1), .val (.int p2), .val (.int p3), .val (.int c0), .val (.int c1), .val (.int c2), .val (.int c3), .val (.int (3 : Int32)), .val (.ref b196), .val (.int ev)] [(.int r228)]))
              have heq : r228 = ev := own_same3 hs0 hs1 hs2 hev q228
              refine own_x_iload X228.here hx (hb hby at_215) rfl ?_
              refine own_x_icmpNo X228.here hx (hb hby at_217) rfl (teq heq).2 ?_
              refine own_x_iconst X228.here hx (hb hby at_220) (z := (1 : Int32)) rfl ?_
              refine own_x_goto X228.here hx (pc0 := 221) (pc' := 225) rfl (hb hby at_221) (by decide) (by decide) ?_
              rw [hPst]
              exact own_retW X228 hS0 (by rw [e228]; exact c226) (v := (some (.int (nar .boolean (1 : Int32))))) (Q := Q0 Z z p1 p2 p3 fm h0 n0) (fun h => by rw [Bd.returns] at h; cases h) Bd.notSynchronized (fun fs hr => retN X228 hx (t := .boolean) Bd.returns (by simp) (hb hby at_225) hr) (by decide) (by decide) (by rw [hh0, e228]; exact CHr.trans c225 (CHv.at X228 hZ hEL c224)) (by rw [e228]; exact ⟨rfl, N228⟩)
            · have c230 := (((((O.ext E196).wr W200 gn_b196).wr W204 gn_b196).wr W209 gn_b196).ext E214)
              have c232 := (Nat.le_trans c215 E214.1)
              refine own_cP X214 (X214.specialBack hx (y := (⟨"java/lang/String", "<init>", "([C)V"⟩ : MethodName)) rfl hown (mvT hZ (own_w10 hw)) (mvT hZ (own_w11 hw)) (mvT hZ (own_w12 hw)) (by decide) (backOf (W := 1) (rm_i1u3 l Z a0 hw [] z b214 b196 k196 (.int (0 : Int32)) c0 c1 c2 .null (.int 0) h214 n0 c232 c230 SC hz SU0 SU1 SU2 A214 f214_value f214_coder gn_b214 AA ⟨hs0.1, hs0.2, hs1.1, hs1.2, hs2.1, hs2.2⟩ hl) hZ (own_w12 hw) (own_w9 hw) (by decide) (by decide)) (g := (mkF m 209 #[.val (.int p1), .val (.int p2), .val (.int p3), .val (.int c0), .val (.int c1), .val (.int c2), .val (.int c3), .val (.int (3 : Int32)), .val (.ref b196), .val (.int ev)] [(.ref b196), (.ref b214), (.ref b214)])) rfl (by rw [hml]; rfl) (Steps.refl _) (a := b214) (argsL := [(.ref b196)]) (rest := [(.ref b214)]) (lenOf own_pd19 rfl) rfl (by show 2 * 0 + _ ≤ _; exact Nat.le_of_eq rfl) (hb hby at_209) (fun _ _ => ⟨rfl, e214, (by decide : 2 + 2 ≤ _), (by decide : 7 + 9 ≤ _)⟩)) fun v231 T231 L231 X231 hQ231 => ?_
              obtain ⟨rfl, Nq231, K231, A231, C231, t231, kb231, st_231, V231, B231⟩ := hQ231
              have N231 := Fr.app N' Nq231
              have c233 := (CHv.keep K231 (sfS sf_b214 sf0) c217)
              have c234 := (CHr.trans c218 (CHr.keep K231 (sfS sf_b214 sf0) c217))
              have c235 := (Nat.le_trans c219 K231.1)
              show own_Go p e below Pst (T231.setTop (mkF m 212 #[.val (.int p1), .val (.int p2), .val (.int p3), .val (.int c0), .val (.int c1), .val (.int c2), .val (.int c3), .val (.int (3 : Int32)), .val (.ref b196), .val (.int ev)] [(.ref b214)]))
              have c236 := (c230.keep K231 (allS gn_b214 all0))
              have c238 := (Nat.le_trans c232 K231.1)
              refine own_cF X231 (Jvm.LawKit.callS X231 hx (y := (⟨"com/example/entitl/entitl/Names", "printable", "(Ljava/lang/String;)Z"⟩ : MethodName)) hown (mvT hZ (own_w36 hw)) (mvT hZ (own_w37 hw)) (mvT hZ (own_w38 hw)) (mvT hZ (own_w39 hw)) (by decide) (backOf (W := 0) (rm_pr3 l Z a0 hw [] z b214 t231 kb231 1 (6 : Int32) (own_u16 [c0, c1, c2]) fm c0 c1 c2 T231.heap n0 c238 c236 SC hz SF rfm SU0 SU1 SU2 A231 C231 V231 B231 (by decide) hr0 hr1 hr2 (Or.inr ⟨rfl, by decide, by decide, _, _, rfl, rfl, own_join_eq hs0.1 hs0.2⟩) (Or.inr ⟨rfl, by decide, by decide, _, _, rfl, rfl, own_join_eq hs1.1 hs1.2⟩) (Or.inr ⟨rfl, by decide, by decide, _, _, rfl, rfl, own_join_eq hs2.1 hs2.2⟩)) hZ (own_w39 hw) (own_w38 hw) (by decide) (by decide)) (g := (mkF m 212 #[.val (.int p1), .val (.int p2), .val (.int p3), .val (.int c0), .val (.int c1), .val (.int c2), .val (.int c3), .val (.int (3 : Int32)), .val (.ref b196), .val (.int ev)] [(.ref b214)])) rfl (by rw [hml]; rfl) (argsL := [(.ref b214)]) (rest := []) (lenOf own_pd20 rfl) rfl (by show 2 * 0 + _ ≤ _; exact Nat.le_of_eq rfl) (hb hby at_212) (fun _ _ => ⟨rfl, rfl, (by decide : 4 + 0 ≤ _), (by decide : 16 + 0 ≤ _)⟩)) fun v237 T237 L237 X237 hQ237 => ?_
              obtain ⟨r237, rfl, Nq237, e237, q237⟩ := hQ237
              have N237 := Fr.app N231 Nq237
              show own_Go p e below Pst (T237.setTop (mkF m 215 #[.val (.int p1), .val (.int p2), .val (.int p3), .val (.int c0), .val (.int c1), .val (.int c2), .val (.int c3), .val (.int (3 : Int32)), .val (.ref b196), .val (.int ev)] [(.int r237)]))
              have heq : r237 = ev := own_same3 hs0 hs1 hs2 hev q237
              refine own_x_iload X237.here hx (hb hby at_215) rfl ?_
              refine own_x_icmpNo X237.here hx (hb hby at_217) rfl (teq heq).2 ?_
              refine own_x_iconst X237.here hx (hb hby at_220) (z := (1 : Int32)) rfl ?_
              refine own_x_goto X237.here hx (pc0 := 221) (pc' := 225) rfl (hb hby at_221) (by decide) (by decide) ?_
              rw [hPst]
              exact own_retW X237 hS0 (by rw [e237]; exact c235) (v := (some (.int (nar .boolean (1 : Int32))))) (Q := Q0 Z z p1 p2 p3 fm h0 n0) (fun h => by rw [Bd.returns] at h; cases h) Bd.notSynchronized (fun fs hr => retN X237 hx (t := .boolean) Bd.returns (by simp) (hb hby at_225) hr) (by decide) (by decide) (by rw [hh0, e237]; exact CHr.trans c234 (CHv.at X237 hZ hEL c233)) (by rw [e237]; exact ⟨rfl, N237⟩)
          refine own_x_iload X209.here hx (hb hby at_141) rfl ?_
          refine own_x_iconst X209.here hx (hb hby at_143) (z := (1 : Int32)) rfl ?_
          refine own_x_icmpNo X209.here hx (hb hby at_144) rfl (flt (by decide)).1 ?_
          refine own_x_iloadN X209.here hx (hb hby at_147) rfl ?_
          have c240 := (Nat.le_trans (Nat.le_trans (Nat.le_trans (Nat.le_trans Z0 E196.1) (Keep.of_wr W200).1) (Keep.of_wr W204).1) (Keep.of_wr W209).1)
          refine own_cF X209 (Jvm.LawKit.callS X209 hx (y := (⟨"com/example/entitl/entitl/NamesPrintablePinLaw", "bad", "(C)Z"⟩ : MethodName)) hown (mvT hZ (own_w3 hw)) (mvT hZ (own_w4 hw)) (mvT hZ (own_w5 hw)) (mvT hZ (own_w6 hw)) (by decide) (backOf (W := 0) (rm_bad l Z a0 hw [] c0 h209 n0 c240 ) hZ (own_w6 hw) (own_w5 hw) (by decide) (by decide)) (g := (mkF m 148 #[.val (.int p1), .val (.int p2), .val (.int p3), .val (.int c0), .val (.int c1), .val (.int c2), .val (.int c3), .val (.int (3 : Int32)), .val (.ref b196), .unset] [(.int c0)])) rfl (by rw [hml]; rfl) (argsL := [(.int c0)]) (rest := []) (lenOf own_pd18 rfl) rfl (by show 2 * 0 + _ ≤ _; exact Nat.le_of_eq rfl) (hb hby at_148) (fun _ _ => ⟨rfl, e209, (by decide : 1 + 0 ≤ _), (by decide : 3 + 0 ≤ _)⟩)) fun v239 T239 L239 X239 hQ239 => ?_
          obtain ⟨rfl, Nq239, e239⟩ := hQ239
          have N239 := Fr.app N209 Nq239
          show own_Go p e below Pst (T239.setTop (mkF m 151 #[.val (.int p1), .val (.int p2), .val (.int p3), .val (.int c0), .val (.int c1), .val (.int c2), .val (.int c3), .val (.int (3 : Int32)), .val (.ref b196), .unset] [(.int (own_bI c0))]))
          by_cases b0 : own_bI c0 = (0 : Int32)
          · refine own_x_ifNo X239.here hx (hb hby at_151) rfl ((if0 _ _).trans (teq b0).2) ?_
            refine own_x_iload X239.here hx (hb hby at_154) rfl ?_
            refine own_x_iconst X239.here hx (hb hby at_156) (z := (2 : Int32)) rfl ?_
            refine own_x_icmpNo X239.here hx (hb hby at_157) rfl (flt (by decide)).1 ?_
            refine own_x_iload X239.here hx (hb hby at_160) rfl ?_
            refine own_cF X239 (Jvm.LawKit.callS X239 hx (y := (⟨"com/example/entitl/entitl/NamesPrintablePinLaw", "bad", "(C)Z"⟩ : MethodName)) hown (mvT hZ (own_w3 hw)) (mvT hZ (own_w4 hw)) (mvT hZ (own_w5 hw)) (mvT hZ (own_w6 hw)) (by decide) (backOf (W := 0) (rm_bad l Z a0 hw [] c1 h209 n0 c240 ) hZ (own_w6 hw) (own_w5 hw) (by decide) (by decide)) (g := (mkF m 162 #[.val (.int p1), .val (.int p2), .val (.int p3), .val (.int c0), .val (.int c1), .val (.int c2), .val (.int c3), .val (.int (3 : Int32)), .val (.ref b196), .unset] [(.int c1)])) rfl (by rw [hml]; rfl) (argsL := [(.int c1)]) (rest := []) (lenOf own_pd18 rfl) rfl (by show 2 * 0 + _ ≤ _; exact Nat.le_of_eq rfl) (hb hby at_162) (fun _ _ => ⟨rfl, e239, (by decide : 1 + 0 ≤ _), (by decide : 3 + 0 ≤ _)⟩)) fun v241 T241 L241 X241 hQ241 => ?_
            obtain ⟨rfl, Nq241, e241⟩ := hQ241
            have N241 := Fr.app N239 Nq241
            show own_Go p e below Pst (T241.setTop (mkF m 165 #[.val (.int p1), .val (.int p2), .val (.int p3), .val (.int c0), .val (.int c1), .val (.int c2), .val (.int c3), .val (.int (3 : Int32)), .val (.ref b196), .unset] [(.int (own_bI c1))]))
            by_cases b1 : own_bI c1 = (0 : Int32)
            · refine own_x_ifNo X241.here hx (hb hby at_165) rfl ((if0 _ _).trans (teq b1).2) ?_
              refine own_x_iload X241.here hx (hb hby at_168) rfl ?_
              refine own_x_iconst X241.here hx (hb hby at_170) (z := (3 : Int32)) rfl ?_
              refine own_x_icmpNo X241.here hx (hb hby at_171) rfl (flt (by decide)).1 ?_
              refine own_x_iload X241.here hx (hb hby at_174) rfl ?_
              refine own_cF X241 (Jvm.LawKit.callS X241 hx (y := (⟨"com/example/entitl/entitl/NamesPrintablePinLaw", "bad", "(C)Z"⟩ : MethodName)) hown (mvT hZ (own_w3 hw)) (mvT hZ (own_w4 hw)) (mvT hZ (own_w5 hw)) (mvT hZ (own_w6 hw)) (by decide) (backOf (W := 0) (rm_bad l Z a0 hw [] c2 h209 n0 c240 ) hZ (own_w6 hw) (own_w5 hw) (by decide) (by decide)) (g := (mkF m 176 #[.val (.int p1), .val (.int p2), .val (.int p3), .val (.int c0), .val (.int c1), .val (.int c2), .val (.int c3), .val (.int (3 : Int32)), .val (.ref b196), .unset] [(.int c2)])) rfl (by rw [hml]; rfl) (argsL := [(.int c2)]) (rest := []) (lenOf own_pd18 rfl) rfl (by show 2 * 0 + _ ≤ _; exact Nat.le_of_eq rfl) (hb hby at_176) (fun _ _ => ⟨rfl, e241, (by decide : 1 + 0 ≤ _), (by decide : 3 + 0 ≤ _)⟩)) fun v242 T242 L242 X242 hQ242 => ?_
              obtain ⟨rfl, Nq242, e242⟩ := hQ242
              have N242 := Fr.app N241 Nq242
              show own_Go p e below Pst (T242.setTop (mkF m 179 #[.val (.int p1), .val (.int p2), .val (.int p3), .val (.int c0), .val (.int c1), .val (.int c2), .val (.int c3), .val (.int (3 : Int32)), .val (.ref b196), .unset] [(.int (own_bI c2))]))
              by_cases b2 : own_bI c2 = (0 : Int32)
              · refine own_x_ifNo X242.here hx (hb hby at_179) rfl ((if0 _ _).trans (teq b2).2) ?_
                refine own_x_iload X242.here hx (hb hby at_182) rfl ?_
                refine own_x_iconst X242.here hx (hb hby at_184) (z := (4 : Int32)) rfl ?_
                refine own_x_icmpYes X242.here hx (pc0 := 185) (pc' := 196) rfl (hb hby at_185) rfl (tlt (by decide)).1 (by decide) (by decide) ?_
                refine own_x_iconst X242.here hx (hb hby at_196) (z := (1 : Int32)) rfl ?_
                refine own_x_goto X242.here hx (pc0 := 197) (pc' := 201) rfl (hb hby at_197) (by decide) (by decide) ?_
                exact join _ _ X242 N242 e242 _ (Or.inl ⟨rfl, ⟨b0, b1, b2, trivial⟩⟩)
              · refine own_x_ifYes X242.here hx (pc0 := 179) (pc' := 200) rfl (hb hby at_179) rfl ((if0 _ _).trans (feq b2).2) (by decide) (by decide) ?_
                refine own_x_iconst X242.here hx (hb hby at_200) (z := (0 : Int32)) rfl ?_
                exact join _ _ X242 N242 e242 _ (Or.inr ⟨rfl, fun q => b2 q.2.2.1⟩)
            · refine own_x_ifYes X241.here hx (pc0 := 165) (pc' := 200) rfl (hb hby at_165) rfl ((if0 _ _).trans (feq b1).2) (by decide) (by decide) ?_
              refine own_x_iconst X241.here hx (hb hby at_200) (z := (0 : Int32)) rfl ?_
              exact join _ _ X241 N241 e241 _ (Or.inr ⟨rfl, fun q => b1 q.2.1⟩)
          · refine own_x_ifYes X239.here hx (pc0 := 151) (pc' := 200) rfl (hb hby at_151) rfl ((if0 _ _).trans (feq b0).2) (by decide) (by decide) ?_
            refine own_x_iconst X239.here hx (hb hby at_200) (z := (0 : Int32)) rfl ?_
            exact join _ _ X239 N239 e239 _ (Or.inr ⟨rfl, fun q => b0 q.1⟩)
        · refine own_x_icmpYes X0.here hx (pc0 := 92) (pc' := 117) rfl (hb hby at_92) rfl (feq hkk3).2 (by decide) (by decide) ?_
          refine own_x_iconst X0.here hx (hb hby at_117) (z := (4 : Int32)) rfl ?_
          refine own_h_newP (aty := .char) X0 hx hZ (own_w2 hw) e0 (hb hby at_118) rfl (by decide) (cap := 4) (by decide) (by decide) (by decide) (by decide) fun T243 h243 k243 b243 g243 X243 e243 E243 A243 => ?_
          have gn_b243 : n0 ≤ b243 := Nat.le_trans Z0 (Nat.le_of_eq g243.symm)
          have sz_b243 : h0.size ≤ b243 := Nat.le_trans (Keep.refl h0 []).1 (Nat.le_of_eq g243.symm)
          have sf_b243 := Safe.ext E243 hCH0 (Safe.new (Nat.le_of_eq g243.symm))
          have c244 := (CHv.ext E243 hCH0)
          have c245 := (CHr.trans (CHr.refl hCH0) (CHr.ext E243 hCH0))
          have c246 := (Nat.le_trans hk0 E243.1)
          have V243 : Arv Z h243 b243 k243 .char (4 : Int32) [(.int (0 : Int32)), (.int (0 : Int32)), (.int (0 : Int32)), (.int (0 : Int32))] (.int (0 : Int32)) := (Arv.new A243 (by decide)).pad (pad_rep [] (.int (0 : Int32)) 4)
          refine own_x_dup X243.here hx (hb hby at_120) rfl rfl ?_
          refine own_x_iconst X243.here hx (hb hby at_121) (z := (0 : Int32)) rfl ?_
          refine own_x_iloadN X243.here hx (hb hby at_122) rfl ?_
          refine own_h_arC X243 hx hZ e243 V243 (0 : Int32) 0 ⟨by decide, by decide⟩ rfl (Nat.le_of_ble_eq_true rfl) rfl (hb hby at_123) fun T247 h247 X247 e247 W247 V247 => ?_
          have c248 := (CHv.wr W247 sf_b243 c244)
          have c249 := (CHr.trans c245 (CHr.wr W247 sf_b243 c244))
          have c250 := (Nat.le_trans c246 (Keep.of_wr W247).1)
          have N247 := Fr.snoc X247 N0 gn_b243
          refine own_x_dup X247.here hx (hb hby at_124) rfl rfl ?_
          refine own_x_iconst X247.here hx (hb hby at_125) (z := (1 : Int32)) rfl ?_
          refine own_x_iload X247.here hx (hb hby at_126) rfl ?_
          refine own_h_arC X247 hx hZ e247 V247 (1 : Int32) 1 ⟨by decide, by decide⟩ rfl (Nat.le_of_ble_eq_true rfl) rfl (hb hby at_128) fun T251 h251 X251 e251 W251 V251 => ?_
          have c252 := (Safe.wr W247 sf_b243 c244 sf_b243)
          have c253 := (CHv.wr W251 c252 c248)
          have c254 := (CHr.trans c249 (CHr.wr W251 c252 c248))
          have c255 := (Nat.le_trans c250 (Keep.of_wr W251).1)
          have N251 := Fr.snoc X251 N247 gn_b243
          refine own_x_dup X251.here hx (hb hby at_129) rfl rfl ?_
          refine own_x_iconst X251.here hx (hb hby at_130) (z := (2 : Int32)) rfl ?_
          refine own_x_iload X251.here hx (hb hby at_131) rfl ?_
          refine own_h_arC X251 hx hZ e251 V251 (2 : Int32) 2 ⟨by decide, by decide⟩ rfl (Nat.le_of_ble_eq_true rfl) rfl (hb hby at_133) fun T256 h256 X256 e256 W256 V256 => ?_
          have c257 := (Safe.wr W251 c252 c248 c252)
          have c258 := (CHv.wr W256 c257 c253)
          have c259 := (CHr.trans c254 (CHr.wr W256 c257 c253))
          have c260 := (Nat.le_trans c255 (Keep.of_wr W256).1)
          have N256 := Fr.snoc X256 N251 gn_b243
          refine own_x_dup X256.here hx (hb hby at_134) rfl rfl ?_
          refine own_x_iconst X256.here hx (hb hby at_135) (z := (3 : Int32)) rfl ?_
          refine own_x_iload X256.here hx (hb hby at_136) rfl ?_
          refine own_h_arC X256 hx hZ e256 V256 (3 : Int32) 3 ⟨by decide, by decide⟩ rfl (Nat.le_of_ble_eq_true rfl) rfl (hb hby at_138) fun T261 h261 X261 e261 W261 V261 => ?_
          have c262 := (Safe.wr W256 c257 c253 c257)
          have c263 := (CHv.wr W261 c262 c258)
          have c264 := (CHr.trans c259 (CHr.wr W261 c262 c258))
          have c265 := (Nat.le_trans c260 (Keep.of_wr W261).1)
          have N261 := Fr.snoc X261 N256 gn_b243
          refine own_x_astore X261.here hx (hb hby at_139) rfl rfl (l' := #[.val (.int p1), .val (.int p2), .val (.int p3), .val (.int c0), .val (.int c1), .val (.int c2), .val (.int c3), .val (.int k), .val (.ref b243), .unset]) rfl ?_
          refine own_x_iload X261.here hx (hb hby at_141) rfl ?_
          refine own_x_iconst X261.here hx (hb hby at_143) (z := (1 : Int32)) rfl ?_
          have hk4 : k = (4 : Int32) := own_is4 hk hkk0 hkk1 hkk2 hkk3
          subst hk4
          show own_Go p e below Pst (T261.setTop (mkF m 144 #[.val (.int p1), .val (.int p2), .val (.int p3), .val (.int c0), .val (.int c1), .val (.int c2), .val (.int c3), .val (.int (4 : Int32)), .val (.ref b243), .unset] [(.int (1 : Int32)), (.int (4 : Int32))]))
          have join : ∀ (T' : State) (locs' : List Loc) (X' : Stand p l e room_1 (s.setVm s.vm) m #[(.int p1), (.int p2), (.int p3)] below meth c T' locs' 1 4) (N' : Fr n0 locs') (e' : T'.heap = h261) (ev : Int32) (hev : (ev = 1 ∧ (own_bI c0 = 0 ∧ own_bI c1 = 0 ∧ own_bI c2 = 0 ∧ own_bI c3 = 0 ∧ True)) ∨ (ev = 0 ∧ ¬ (own_bI c0 = 0 ∧ own_bI c1 = 0 ∧ own_bI c2 = 0 ∧ own_bI c3 = 0 ∧ True))), own_Go p e below Pst (T'.setTop (mkF m 201 #[.val (.int p1), .val (.int p2), .val (.int p3), .val (.int c0), .val (.int c1), .val (.int c2), .val (.int c3), .val (.int (4 : Int32)), .val (.ref b243), .unset] [(.int ev)])) := by
            intro T' locs' X' N' e' ev hev
            refine own_x_istore X'.here hx (hb hby at_201) rfl (l' := #[.val (.int p1), .val (.int p2), .val (.int p3), .val (.int c0), .val (.int c1), .val (.int c2), .val (.int c3), .val (.int (4 : Int32)), .val (.ref b243), .val (.int ev)]) rfl ?_
            have c267 := (Nat.le_trans (Nat.le_trans (Nat.le_trans (Nat.le_trans (Nat.le_trans Z0 E243.1) (Keep.of_wr W247).1) (Keep.of_wr W251).1) (Keep.of_wr W256).1) (Keep.of_wr W261).1)
            have c268 := ((((((Keep.refl h0 []).ext E243).wr W247 (Or.inr sz_b243)).wr W251 (Or.inr sz_b243)).wr W256 (Or.inr sz_b243)).wr W261 (Or.inr sz_b243))
            refine own_h_newO X' hx hZ hown (own_w7 hw) (own_w8 hw) (own_w9 hw) e' (hb hby at_203) (by decide) (by decide) fun T266 h266 b266 g266 X266 e266 E266 A266 D266 U266 => ?_
            have ne_b243_b266 : b243 ≠ b266 := Nat.ne_of_lt (Nat.lt_of_lt_of_le V261.lt (Nat.le_of_eq g266.symm))
            have gn_b266 : n0 ≤ b266 := Nat.le_trans c267 (Nat.le_of_eq g266.symm)
            have sz_b266 : h0.size ≤ b266 := Nat.le_trans c268.1 (Nat.le_of_eq g266.symm)
            have sf_b266 := Safe.ext E266 c263 (Safe.new (Nat.le_of_eq g266.symm))
            have c269 := (CHv.ext E266 c263)
            have c270 := (CHr.trans c264 (CHr.ext E266 c263))
            have c271 := (Nat.le_trans c265 E266.1)
            have f266_coder : Fld Z h266 b266 "java/lang/String" "coder" "B" (.int (0 : Int32)) := D266 (Or.inr (own_w33 hw)) (ty := .byte) (by decide)
            have f266_value : Fld Z h266 b266 "java/lang/String" "value" "[B" .null := D266 (Or.inr (own_w35 hw)) (ty := (.array .byte)) (by decide)
            refine own_x_dup X266.here hx (hb hby at_206) rfl rfl ?_
            refine own_x_aload X266.here hx (hb hby at_207) rfl rfl ?_
            have c272 := (V261.ext E266)
            have AA : Arv Z h266 b243 k243 .char (4 : Int32) [(.int c0), (.int c1), (.int c2), (.int c3)] (.int (0 : Int32)) := by rw [hr0, hr1, hr2, hr3] at c272; exact c272
            by_cases hl : ¬ (255 : Int32) < c0 ∧ ¬ (255 : Int32) < c1 ∧ ¬ (255 : Int32) < c2 ∧ ¬ (255 : Int32) < c3
            · have hp : ∀ c ∈ ([c0, c1, c2, c3] : List Int32), ¬ c < 0 ∧ ¬ (255 : Int32) < c := by
                intro c hc
                simp only [List.mem_cons, List.not_mem_nil, or_false] at hc
                rcases hc with e | e | e | e
                · rw [e]; exact ⟨hs0.1, hl.1⟩
                · rw [e]; exact ⟨hs1.1, hl.2.1⟩
                · rw [e]; exact ⟨hs2.1, hl.2.2.1⟩
                · rw [e]; exact ⟨hs3.1, hl.2.2.2⟩
              have c273 := (Nat.le_trans c267 E266.1)
              have c274 := ((((((O.ext E243).wr W247 gn_b243).wr W251 gn_b243).wr W256 gn_b243).wr W261 gn_b243).ext E266)
              refine own_cP X266 (X266.specialBack hx (y := (⟨"java/lang/String", "<init>", "([C)V"⟩ : MethodName)) rfl hown (mvT hZ (own_w10 hw)) (mvT hZ (own_w11 hw)) (mvT hZ (own_w12 hw)) (by decide) (StrChars.Road.backV (W := 1) hZ (own_words Z a0 hw) (kI := 4) (own_w8 hw) (cs := [c0, c1, c2, c3]) (bs := ([c0, c1, c2, c3] : List Int32).map (fun c => c.toInt8.toInt32)) (n := 4) gn_b266 c273 A266 f266_value f266_coder AA (SC.ext c274.2) hz rfl rfl (by decide) (by decide) hp rfl (by decide) (by decide)) (g := (mkF m 209 #[.val (.int p1), .val (.int p2), .val (.int p3), .val (.int c0), .val (.int c1), .val (.int c2), .val (.int c3), .val (.int (4 : Int32)), .val (.ref b243), .val (.int ev)] [(.ref b243), (.ref b266), (.ref b266)])) rfl (by rw [hml]; rfl) (Steps.refl _) (a := b266) (argsL := [(.ref b243)]) (rest := [(.ref b266)]) (lenOf own_pd19 rfl) rfl (by show 2 * 0 + _ ≤ _; exact Nat.le_of_eq rfl) (hb hby at_209) (fun _ _ => ⟨rfl, e266, (by decide : 2 + 1 ≤ _), (by decide : 8 + 4 ≤ _)⟩)) fun v275 T275 L275 X275 hQ275 => ?_
              obtain ⟨rfl, Nq275, K275, A275, C275, t275, kb275, -, -, -, V275, B275⟩ := hQ275
              have N275 := Fr.app N' Nq275
              have c276 := (CHv.keep K275 (sfS sf_b266 sf0) c269)
              have c277 := (CHr.trans c270 (CHr.keep K275 (sfS sf_b266 sf0) c269))
              have c278 := (Nat.le_trans c271 K275.1)
              show own_Go p e below Pst (T275.setTop (mkF m 212 #[.val (.int p1), .val (.int p2), .val (.int p3), .val (.int c0), .val (.int c1), .val (.int c2), .val (.int c3), .val (.int (4 : Int32)), .val (.ref b243), .val (.int ev)] [(.ref b266)]))
              have c279 := (c274.keep K275 (allS gn_b266 all0))
              have c281 := (Nat.le_trans c273 K275.1)
              refine own_cF X275 (Jvm.LawKit.callS X275 hx (y := (⟨"com/example/entitl/entitl/Names", "printable", "(Ljava/lang/String;)Z"⟩ : MethodName)) hown (mvT hZ (own_w36 hw)) (mvT hZ (own_w37 hw)) (mvT hZ (own_w38 hw)) (mvT hZ (own_w39 hw)) (by decide) (backOf (W := 0) (rm_pr4 l Z a0 hw [] z b266 t275 kb275 0 (4 : Int32) _ fm c0 c1 c2 c3 T275.heap n0 c281 c279 SC hz SF rfm SU0 SU1 SU2 A275 C275 V275 B275 (by decide) hr0 hr1 hr2 hr3 (Or.inl ⟨rfl, by decide, _, rfl, own_lat_eq hs0.1 hl.1⟩) (Or.inl ⟨rfl, by decide, _, rfl, own_lat_eq hs1.1 hl.2.1⟩) (Or.inl ⟨rfl, by decide, _, rfl, own_lat_eq hs2.1 hl.2.2.1⟩) (Or.inl ⟨rfl, by decide, _, rfl, own_lat_eq hs3.1 hl.2.2.2⟩)) hZ (own_w39 hw) (own_w38 hw) (by decide) (by decide)) (g := (mkF m 212 #[.val (.int p1), .val (.int p2), .val (.int p3), .val (.int c0), .val (.int c1), .val (.int c2), .val (.int c3), .val (.int (4 : Int32)), .val (.ref b243), .val (.int ev)] [(.ref b266)])) rfl (by rw [hml]; rfl) (argsL := [(.ref b266)]) (rest := []) (lenOf own_pd20 rfl) rfl (by show 2 * 0 + _ ≤ _; exact Nat.le_of_eq rfl) (hb hby at_212) (fun _ _ => ⟨rfl, rfl, (by decide : 3 + 0 ≤ _), (by decide : 12 + 0 ≤ _)⟩)) fun v280 T280 L280 X280 hQ280 => ?_
              obtain ⟨r280, rfl, Nq280, e280, q280⟩ := hQ280
              have N280 := Fr.app N275 Nq280
              show own_Go p e below Pst (T280.setTop (mkF m 215 #[.val (.int p1), .val (.int p2), .val (.int p3), .val (.int c0), .val (.int c1), .val (.int c2), .val (.int c3), .val (.int (4 : Int32)), .val (.ref b243), .val (.int ev)] [(.int r280)]))
              have heq : r280 = ev := own_same4 hs0 hs1 hs2 hs3 hev q280
              refine own_x_iload X280.here hx (hb hby at_215) rfl ?_
              refine own_x_icmpNo X280.here hx (hb hby at_217) rfl (teq heq).2 ?_
              refine own_x_iconst X280.here hx (hb hby at_220) (z := (1 : Int32)) rfl ?_
              refine own_x_goto X280.here hx (pc0 := 221) (pc' := 225) rfl (hb hby at_221) (by decide) (by decide) ?_
              rw [hPst]
              exact own_retW X280 hS0 (by rw [e280]; exact c278) (v := (some (.int (nar .boolean (1 : Int32))))) (Q := Q0 Z z p1 p2 p3 fm h0 n0) (fun h => by rw [Bd.returns] at h; cases h) Bd.notSynchronized (fun fs hr => retN X280 hx (t := .boolean) Bd.returns (by simp) (hb hby at_225) hr) (by decide) (by decide) (by rw [hh0, e280]; exact CHr.trans c277 (CHv.at X280 hZ hEL c276)) (by rw [e280]; exact ⟨rfl, N280⟩)
            · have c282 := ((((((O.ext E243).wr W247 gn_b243).wr W251 gn_b243).wr W256 gn_b243).wr W261 gn_b243).ext E266)
              have c284 := (Nat.le_trans c267 E266.1)
              refine own_cP X266 (X266.specialBack hx (y := (⟨"java/lang/String", "<init>", "([C)V"⟩ : MethodName)) rfl hown (mvT hZ (own_w10 hw)) (mvT hZ (own_w11 hw)) (mvT hZ (own_w12 hw)) (by decide) (backOf (W := 1) (rm_i1u4 l Z a0 hw [] z b266 b243 k243 (.int (0 : Int32)) c0 c1 c2 c3 .null (.int 0) h266 n0 c284 c282 SC hz SU0 SU1 SU2 A266 f266_value f266_coder gn_b266 AA ⟨hs0.1, hs0.2, hs1.1, hs1.2, hs2.1, hs2.2, hs3.1, hs3.2⟩ hl) hZ (own_w12 hw) (own_w9 hw) (by decide) (by decide)) (g := (mkF m 209 #[.val (.int p1), .val (.int p2), .val (.int p3), .val (.int c0), .val (.int c1), .val (.int c2), .val (.int c3), .val (.int (4 : Int32)), .val (.ref b243), .val (.int ev)] [(.ref b243), (.ref b266), (.ref b266)])) rfl (by rw [hml]; rfl) (Steps.refl _) (a := b266) (argsL := [(.ref b243)]) (rest := [(.ref b266)]) (lenOf own_pd19 rfl) rfl (by show 2 * 0 + _ ≤ _; exact Nat.le_of_eq rfl) (hb hby at_209) (fun _ _ => ⟨rfl, e266, (by decide : 2 + 2 ≤ _), (by decide : 8 + 12 ≤ _)⟩)) fun v283 T283 L283 X283 hQ283 => ?_
              obtain ⟨rfl, Nq283, K283, A283, C283, t283, kb283, st_283, V283, B283⟩ := hQ283
              have N283 := Fr.app N' Nq283
              have c285 := (CHv.keep K283 (sfS sf_b266 sf0) c269)
              have c286 := (CHr.trans c270 (CHr.keep K283 (sfS sf_b266 sf0) c269))
              have c287 := (Nat.le_trans c271 K283.1)
              show own_Go p e below Pst (T283.setTop (mkF m 212 #[.val (.int p1), .val (.int p2), .val (.int p3), .val (.int c0), .val (.int c1), .val (.int c2), .val (.int c3), .val (.int (4 : Int32)), .val (.ref b243), .val (.int ev)] [(.ref b266)]))
              have c288 := (c282.keep K283 (allS gn_b266 all0))
              have c290 := (Nat.le_trans c284 K283.1)
              refine own_cF X283 (Jvm.LawKit.callS X283 hx (y := (⟨"com/example/entitl/entitl/Names", "printable", "(Ljava/lang/String;)Z"⟩ : MethodName)) hown (mvT hZ (own_w36 hw)) (mvT hZ (own_w37 hw)) (mvT hZ (own_w38 hw)) (mvT hZ (own_w39 hw)) (by decide) (backOf (W := 0) (rm_pr4 l Z a0 hw [] z b266 t283 kb283 1 (8 : Int32) (own_u16 [c0, c1, c2, c3]) fm c0 c1 c2 c3 T283.heap n0 c290 c288 SC hz SF rfm SU0 SU1 SU2 A283 C283 V283 B283 (by decide) hr0 hr1 hr2 hr3 (Or.inr ⟨rfl, by decide, by decide, _, _, rfl, rfl, own_join_eq hs0.1 hs0.2⟩) (Or.inr ⟨rfl, by decide, by decide, _, _, rfl, rfl, own_join_eq hs1.1 hs1.2⟩) (Or.inr ⟨rfl, by decide, by decide, _, _, rfl, rfl, own_join_eq hs2.1 hs2.2⟩) (Or.inr ⟨rfl, by decide, by decide, _, _, rfl, rfl, own_join_eq hs3.1 hs3.2⟩)) hZ (own_w39 hw) (own_w38 hw) (by decide) (by decide)) (g := (mkF m 212 #[.val (.int p1), .val (.int p2), .val (.int p3), .val (.int c0), .val (.int c1), .val (.int c2), .val (.int c3), .val (.int (4 : Int32)), .val (.ref b243), .val (.int ev)] [(.ref b266)])) rfl (by rw [hml]; rfl) (argsL := [(.ref b266)]) (rest := []) (lenOf own_pd20 rfl) rfl (by show 2 * 0 + _ ≤ _; exact Nat.le_of_eq rfl) (hb hby at_212) (fun _ _ => ⟨rfl, rfl, (by decide : 4 + 0 ≤ _), (by decide : 20 + 0 ≤ _)⟩)) fun v289 T289 L289 X289 hQ289 => ?_
              obtain ⟨r289, rfl, Nq289, e289, q289⟩ := hQ289
              have N289 := Fr.app N283 Nq289
              show own_Go p e below Pst (T289.setTop (mkF m 215 #[.val (.int p1), .val (.int p2), .val (.int p3), .val (.int c0), .val (.int c1), .val (.int c2), .val (.int c3), .val (.int (4 : Int32)), .val (.ref b243), .val (.int ev)] [(.int r289)]))
              have heq : r289 = ev := own_same4 hs0 hs1 hs2 hs3 hev q289
              refine own_x_iload X289.here hx (hb hby at_215) rfl ?_
              refine own_x_icmpNo X289.here hx (hb hby at_217) rfl (teq heq).2 ?_
              refine own_x_iconst X289.here hx (hb hby at_220) (z := (1 : Int32)) rfl ?_
              refine own_x_goto X289.here hx (pc0 := 221) (pc' := 225) rfl (hb hby at_221) (by decide) (by decide) ?_
              rw [hPst]
              exact own_retW X289 hS0 (by rw [e289]; exact c287) (v := (some (.int (nar .boolean (1 : Int32))))) (Q := Q0 Z z p1 p2 p3 fm h0 n0) (fun h => by rw [Bd.returns] at h; cases h) Bd.notSynchronized (fun fs hr => retN X289 hx (t := .boolean) Bd.returns (by simp) (hb hby at_225) hr) (by decide) (by decide) (by rw [hh0, e289]; exact CHr.trans c286 (CHv.at X289 hZ hEL c285)) (by rw [e289]; exact ⟨rfl, N289⟩)
          refine own_x_icmpNo X261.here hx (hb hby at_144) rfl (flt (by decide)).1 ?_
          refine own_x_iloadN X261.here hx (hb hby at_147) rfl ?_
          have c292 := (Nat.le_trans (Nat.le_trans (Nat.le_trans (Nat.le_trans (Nat.le_trans Z0 E243.1) (Keep.of_wr W247).1) (Keep.of_wr W251).1) (Keep.of_wr W256).1) (Keep.of_wr W261).1)
          refine own_cF X261 (Jvm.LawKit.callS X261 hx (y := (⟨"com/example/entitl/entitl/NamesPrintablePinLaw", "bad", "(C)Z"⟩ : MethodName)) hown (mvT hZ (own_w3 hw)) (mvT hZ (own_w4 hw)) (mvT hZ (own_w5 hw)) (mvT hZ (own_w6 hw)) (by decide) (backOf (W := 0) (rm_bad l Z a0 hw [] c0 h261 n0 c292 ) hZ (own_w6 hw) (own_w5 hw) (by decide) (by decide)) (g := (mkF m 148 #[.val (.int p1), .val (.int p2), .val (.int p3), .val (.int c0), .val (.int c1), .val (.int c2), .val (.int c3), .val (.int (4 : Int32)), .val (.ref b243), .unset] [(.int c0)])) rfl (by rw [hml]; rfl) (argsL := [(.int c0)]) (rest := []) (lenOf own_pd18 rfl) rfl (by show 2 * 0 + _ ≤ _; exact Nat.le_of_eq rfl) (hb hby at_148) (fun _ _ => ⟨rfl, e261, (by decide : 1 + 0 ≤ _), (by decide : 4 + 0 ≤ _)⟩)) fun v291 T291 L291 X291 hQ291 => ?_
          obtain ⟨rfl, Nq291, e291⟩ := hQ291
          have N291 := Fr.app N261 Nq291
          show own_Go p e below Pst (T291.setTop (mkF m 151 #[.val (.int p1), .val (.int p2), .val (.int p3), .val (.int c0), .val (.int c1), .val (.int c2), .val (.int c3), .val (.int (4 : Int32)), .val (.ref b243), .unset] [(.int (own_bI c0))]))
          by_cases b0 : own_bI c0 = (0 : Int32)
          · refine own_x_ifNo X291.here hx (hb hby at_151) rfl ((if0 _ _).trans (teq b0).2) ?_
            refine own_x_iload X291.here hx (hb hby at_154) rfl ?_
            refine own_x_iconst X291.here hx (hb hby at_156) (z := (2 : Int32)) rfl ?_
            refine own_x_icmpNo X291.here hx (hb hby at_157) rfl (flt (by decide)).1 ?_
            refine own_x_iload X291.here hx (hb hby at_160) rfl ?_
            refine own_cF X291 (Jvm.LawKit.callS X291 hx (y := (⟨"com/example/entitl/entitl/NamesPrintablePinLaw", "bad", "(C)Z"⟩ : MethodName)) hown (mvT hZ (own_w3 hw)) (mvT hZ (own_w4 hw)) (mvT hZ (own_w5 hw)) (mvT hZ (own_w6 hw)) (by decide) (backOf (W := 0) (rm_bad l Z a0 hw [] c1 h261 n0 c292 ) hZ (own_w6 hw) (own_w5 hw) (by decide) (by decide)) (g := (mkF m 162 #[.val (.int p1), .val (.int p2), .val (.int p3), .val (.int c0), .val (.int c1), .val (.int c2), .val (.int c3), .val (.int (4 : Int32)), .val (.ref b243), .unset] [(.int c1)])) rfl (by rw [hml]; rfl) (argsL := [(.int c1)]) (rest := []) (lenOf own_pd18 rfl) rfl (by show 2 * 0 + _ ≤ _; exact Nat.le_of_eq rfl) (hb hby at_162) (fun _ _ => ⟨rfl, e291, (by decide : 1 + 0 ≤ _), (by decide : 4 + 0 ≤ _)⟩)) fun v293 T293 L293 X293 hQ293 => ?_
            obtain ⟨rfl, Nq293, e293⟩ := hQ293
            have N293 := Fr.app N291 Nq293
            show own_Go p e below Pst (T293.setTop (mkF m 165 #[.val (.int p1), .val (.int p2), .val (.int p3), .val (.int c0), .val (.int c1), .val (.int c2), .val (.int c3), .val (.int (4 : Int32)), .val (.ref b243), .unset] [(.int (own_bI c1))]))
            by_cases b1 : own_bI c1 = (0 : Int32)
            · refine own_x_ifNo X293.here hx (hb hby at_165) rfl ((if0 _ _).trans (teq b1).2) ?_
              refine own_x_iload X293.here hx (hb hby at_168) rfl ?_
              refine own_x_iconst X293.here hx (hb hby at_170) (z := (3 : Int32)) rfl ?_
              refine own_x_icmpNo X293.here hx (hb hby at_171) rfl (flt (by decide)).1 ?_
              refine own_x_iload X293.here hx (hb hby at_174) rfl ?_
              refine own_cF X293 (Jvm.LawKit.callS X293 hx (y := (⟨"com/example/entitl/entitl/NamesPrintablePinLaw", "bad", "(C)Z"⟩ : MethodName)) hown (mvT hZ (own_w3 hw)) (mvT hZ (own_w4 hw)) (mvT hZ (own_w5 hw)) (mvT hZ (own_w6 hw)) (by decide) (backOf (W := 0) (rm_bad l Z a0 hw [] c2 h261 n0 c292 ) hZ (own_w6 hw) (own_w5 hw) (by decide) (by decide)) (g := (mkF m 176 #[.val (.int p1), .val (.int p2), .val (.int p3), .val (.int c0), .val (.int c1), .val (.int c2), .val (.int c3), .val (.int (4 : Int32)), .val (.ref b243), .unset] [(.int c2)])) rfl (by rw [hml]; rfl) (argsL := [(.int c2)]) (rest := []) (lenOf own_pd18 rfl) rfl (by show 2 * 0 + _ ≤ _; exact Nat.le_of_eq rfl) (hb hby at_176) (fun _ _ => ⟨rfl, e293, (by decide : 1 + 0 ≤ _), (by decide : 4 + 0 ≤ _)⟩)) fun v294 T294 L294 X294 hQ294 => ?_
              obtain ⟨rfl, Nq294, e294⟩ := hQ294
              have N294 := Fr.app N293 Nq294
              show own_Go p e below Pst (T294.setTop (mkF m 179 #[.val (.int p1), .val (.int p2), .val (.int p3), .val (.int c0), .val (.int c1), .val (.int c2), .val (.int c3), .val (.int (4 : Int32)), .val (.ref b243), .unset] [(.int (own_bI c2))]))
              by_cases b2 : own_bI c2 = (0 : Int32)
              · refine own_x_ifNo X294.here hx (hb hby at_179) rfl ((if0 _ _).trans (teq b2).2) ?_
                refine own_x_iload X294.here hx (hb hby at_182) rfl ?_
                refine own_x_iconst X294.here hx (hb hby at_184) (z := (4 : Int32)) rfl ?_
                refine own_x_icmpNo X294.here hx (hb hby at_185) rfl (flt (by decide)).1 ?_
                refine own_x_iload X294.here hx (hb hby at_188) rfl ?_
                refine own_cF X294 (Jvm.LawKit.callS X294 hx (y := (⟨"com/example/entitl/entitl/NamesPrintablePinLaw", "bad", "(C)Z"⟩ : MethodName)) hown (mvT hZ (own_w3 hw)) (mvT hZ (own_w4 hw)) (mvT hZ (own_w5 hw)) (mvT hZ (own_w6 hw)) (by decide) (backOf (W := 0) (rm_bad l Z a0 hw [] c3 h261 n0 c292 ) hZ (own_w6 hw) (own_w5 hw) (by decide) (by decide)) (g := (mkF m 190 #[.val (.int p1), .val (.int p2), .val (.int p3), .val (.int c0), .val (.int c1), .val (.int c2), .val (.int c3), .val (.int (4 : Int32)), .val (.ref b243), .unset] [(.int c3)])) rfl (by rw [hml]; rfl) (argsL := [(.int c3)]) (rest := []) (lenOf own_pd18 rfl) rfl (by show 2 * 0 + _ ≤ _; exact Nat.le_of_eq rfl) (hb hby at_190) (fun _ _ => ⟨rfl, e294, (by decide : 1 + 0 ≤ _), (by decide : 4 + 0 ≤ _)⟩)) fun v295 T295 L295 X295 hQ295 => ?_
                obtain ⟨rfl, Nq295, e295⟩ := hQ295
                have N295 := Fr.app N294 Nq295
                show own_Go p e below Pst (T295.setTop (mkF m 193 #[.val (.int p1), .val (.int p2), .val (.int p3), .val (.int c0), .val (.int c1), .val (.int c2), .val (.int c3), .val (.int (4 : Int32)), .val (.ref b243), .unset] [(.int (own_bI c3))]))
                by_cases b3 : own_bI c3 = (0 : Int32)
                · refine own_x_ifNo X295.here hx (hb hby at_193) rfl ((if0 _ _).trans (teq b3).2) ?_
                  refine own_x_iconst X295.here hx (hb hby at_196) (z := (1 : Int32)) rfl ?_
                  refine own_x_goto X295.here hx (pc0 := 197) (pc' := 201) rfl (hb hby at_197) (by decide) (by decide) ?_
                  exact join _ _ X295 N295 e295 _ (Or.inl ⟨rfl, ⟨b0, b1, b2, b3, trivial⟩⟩)
                · refine own_x_ifYes X295.here hx (pc0 := 193) (pc' := 200) rfl (hb hby at_193) rfl ((if0 _ _).trans (feq b3).2) (by decide) (by decide) ?_
                  refine own_x_iconst X295.here hx (hb hby at_200) (z := (0 : Int32)) rfl ?_
                  exact join _ _ X295 N295 e295 _ (Or.inr ⟨rfl, fun q => b3 q.2.2.2.1⟩)
              · refine own_x_ifYes X294.here hx (pc0 := 179) (pc' := 200) rfl (hb hby at_179) rfl ((if0 _ _).trans (feq b2).2) (by decide) (by decide) ?_
                refine own_x_iconst X294.here hx (hb hby at_200) (z := (0 : Int32)) rfl ?_
                exact join _ _ X294 N294 e294 _ (Or.inr ⟨rfl, fun q => b2 q.2.2.1⟩)
            · refine own_x_ifYes X293.here hx (pc0 := 165) (pc' := 200) rfl (hb hby at_165) rfl ((if0 _ _).trans (feq b1).2) (by decide) (by decide) ?_
              refine own_x_iconst X293.here hx (hb hby at_200) (z := (0 : Int32)) rfl ?_
              exact join _ _ X293 N293 e293 _ (Or.inr ⟨rfl, fun q => b1 q.2.1⟩)
          · refine own_x_ifYes X291.here hx (pc0 := 151) (pc' := 200) rfl (hb hby at_151) rfl ((if0 _ _).trans (feq b0).2) (by decide) (by decide) ?_
            refine own_x_iconst X291.here hx (hb hby at_200) (z := (0 : Int32)) rfl ?_
            exact join _ _ X291 N291 e291 _ (Or.inr ⟨rfl, fun q => b0 q.1⟩)
theorem comes_1 {Post : Tables → Env → Array Value → State → Outcome → State → Prop} (hpost : ∀ tb e args s v u, (limb_1_1.after args s (.returned v) u = true ∧ limb_1_2.after args s (.returned v) u = true ∧ True) → ReturnedEndW s (.returned v) u (Jvm.fieldLocs frame_1_writes args s ++ Jvm.arrayLocs frame_1_arrays args s ++ Jvm.staticLocs frame_1_statics s) 24 1152 → Post tb e args s (.returned v) u) :
    ArmFor flags0 classFile x code maxLocals ret World_1 tables_1 room_1 Calls_1 rest_1 Pre_1 Post := by
  intro l hfl _ _ p e ha hc hk s m args below hf hA hF happ hP
  obtain ⟨hcalls, hrest, hpre⟩ := hP
  obtain ⟨-, -, -, hnamed, -, -, -, hat⟩ := (Spec.applies_iff hf).mp happ
  obtain ⟨hg, hn⟩ := and_e (Cond.before_iff.mp (show (Jvm.Cond.and given_1 narrow_1).before args s = true from hpre))
  obtain ⟨h1, h2⟩ := and_e hg
  obtain ⟨h3, h4⟩ := and_e h2
  obtain ⟨h5, h6⟩ := and_e h4
  obtain ⟨w0, w1, w2, rfl⟩ : ∃ w0 w1 w2 : Value, args = #[w0, w1, w2] := by
    have hs : args.size = 3 := by simpa [Cond.value, given_1] using h1
    obtain ⟨L⟩ := args
    match L, hs with
    | [w0, w1, w2], _ => exact ⟨w0, w1, w2, rfl⟩
  have hw := fun d (hd : d ∈ tables_1) => atoms_spec (ws := Jvm.Cond.code x code maxLocals ret :: tables_1) hat d (List.mem_cons_of_mem _ hd)
  obtain ⟨hsets, hown0⟩ := atoms_of _ (rest_1_c_eq ▸ (show rest_1_c.before _ s = true from hrest))
  obtain ⟨i0, ei0⟩ := is_v h3
  obtain rfl : w0 = (.int i0) := Option.some.inj ei0
  obtain ⟨i1, ei1⟩ := is_v h5
  obtain rfl : w1 = (.int i1) := Option.some.inj ei1
  obtain ⟨i2, ei2⟩ := is_v h6
  obtain rfl : w2 = (.int i2) := Option.some.inj ei2
  obtain ⟨z, ez⟩ := is_v (Cond.before_iff.mp (hsets _ (List.mem_of_getElem? (i := 1) rfl)))
  have SC : Sta s s.heap "java/lang/String" "COMPACT_STRINGS" "Z" (.int z) := Sta.start (args := #[(.int i0), (.int i1), (.int i2)]) ez (Or.inl (hsets _ (List.mem_of_getElem? (i := 0) rfl)))
  have hz : ¬ z = 0 := by
    have q := not_v (Cond.before_iff.mp (hsets _ (List.mem_of_getElem? (i := 2) rfl)))
    intro e0; subst e0
    have r := eq_i (o := none) (idx := []) (s := s) ez (Term.int_eval (0)) rfl
    rw [r] at q; cases q
  obtain ⟨fm, ef, rfm⟩ := isR_v (Cond.before_iff.mp (hsets _ (List.mem_of_getElem? (i := 8) rfl)))
  have SF : Sta s s.heap "jdk/internal/util/Preconditions" "SIOOBE_FORMATTER" "Ljava/util/function/BiFunction;" fm := Sta.start (args := #[(.int i0), (.int i1), (.int i2)]) ef (Or.inl (hsets _ (List.mem_of_getElem? (i := 7) rfl)))
  have SU0 := Sta.start (args := #[(.int i0), (.int i1), (.int i2)]) (eqv_i (Term.int_eval (1)) (Cond.before_iff.mp (hsets _ (List.mem_of_getElem? (i := 12) rfl)))) (Or.inl (hsets _ (List.mem_of_getElem? (i := 11) rfl)))
  have SU1 := Sta.start (args := #[(.int i0), (.int i1), (.int i2)]) (eqv_i (Term.int_eval (0)) (Cond.before_iff.mp (hsets _ (List.mem_of_getElem? (i := 15) rfl)))) (Or.inl (hsets _ (List.mem_of_getElem? (i := 14) rfl)))
  have SU2 := Sta.start (args := #[(.int i0), (.int i1), (.int i2)]) (eqv_i (Term.int_eval (8)) (Cond.before_iff.mp (hsets _ (List.mem_of_getElem? (i := 18) rfl)))) (Or.inl (hsets _ (List.mem_of_getElem? (i := 17) rfl)))
  have hcw : Jvm.Lit.compactW.before #[(.int i0), (.int i1), (.int i2)] s = true := hsets _ (List.mem_of_getElem? (i := 2) rfl)
  have CH : CHv s own_EL s.vm s.heap := CHv.start (own_hEL s _ hw) (fun p hp => hcalls.1 p hp) hcw (own_wS s _ hw _ (by simp [Bundle.stringAtoms])) (own_wS s _ hw _ (by simp [Bundle.stringAtoms, Bundle.sN]))
  obtain ⟨n, o, h1, h2, h3, _, L, rfl, ⟨rfl, N⟩, -, hq⟩ := rm0 l s _ hw tables_1 z i0 i1 i2 fm s.heap s.heap.size (Nat.le_refl _) (Old.start s) SC hz SF rfm SU0 SU1 SU2 p e ha hc hk s m _ below hf ((Spec.applies_iff_loose hf).mp happ).1 ⟨rfl, State.Warmed39.refl s, rfl, CH⟩ trivial
  refine ⟨n, _, h1, h2, h3, hpost _ _ _ _ _ _ ⟨Cond.after_iff.mpr rfl, Cond.after_iff.mpr (eq_i res_at (Term.int_eval (1)) rfl), trivial⟩ ⟨hq.1, hq.2.1, hq.2.2.1, (hq.2.2.2.sift fun y hy => Or.inr (N y hy)).mono (by decide) (by decide)⟩⟩
theorem main_1_1 : Claimed_1_1 := comes_1 fun _ _ _ _ _ _ h hF => ⟨h.1, hF⟩
theorem main_1_2 : Claimed_1_2 := comes_1 fun _ _ _ _ _ _ h hF => ⟨h.2.1, hF⟩
end Jvm.Pilot.@@N@@
namespace Jvm.Pilot.@@N@@
open Jvm Jvm.ClassFile Sem Op Lib Jvm.Free Jvm.Stand Jvm.Pilot.@@N@@.Jvm.D
/-! MADE BY PROGRAM (witnessworld.py) out of the Statement's table words and the real class files: 21 classes; the members and pool entries that the words name. The judged class is class 1, her method 1. -/
namespace start1
open Jvm.ClassFile
def u (s : String) : CpInfo := .utf8 (stringToUtf16 s)
/-- a pool by its gaps: so many unusable entries, then the entry; so many at the end -/
def gap : Nat → List CpInfo → List CpInfo
  | 0, r => r
  | n + 1, r => .unusable :: gap n r
def poolList (es : List (Nat × CpInfo)) (last : Nat) : List CpInfo := es.foldr (fun e r => gap e.1 (e.2 :: r)) (gap last [])
def pool (es : List (Nat × CpInfo)) (last : Nat) : Array CpInfo := ⟨poolList es last⟩
def fileOf (pool : Array CpInfo) (this : Nat) (attrs : Array Attribute := #[]) (ms : Array MethodInfo := #[]) (fl : Nat := 33) (sup : Nat := 0) (ifs : Array Nat := #[]) (fds : Array FieldInfo := #[]) : ClassFile where
  minorVersion := 0
  majorVersion := 65
  constantPool := pool
  accessFlags := fl
  thisClass := this
  superClass := sup
  interfaces := ifs
  fields := fds
  methods := ms
  attributes := attrs
def plain (name : String) (sup : Option ClassId) : Class where
  name := name
  kind := .ordinary
  loader := none
  accessFlags := 33
  super := sup
  interfaces := #[]
  cf := none
  fields := #[]
  methods := #[]
  instanceTypes := #[]
  staticTypes := #[]
  resolved := #[]
  callSites := []
  init := .initialized
  statics := none
  mirror := none

def pool0 : Array CpInfo := pool [(5, u "<init>"), (0, u "()V"), (1, .class_ 10), (1, u "java/lang/Object")] 113

def k0c0 : Code := { maxStack := 0, maxLocals := 1, code := object_method_1_code, exceptionTable := #[], attributes := #[] }
def k0m0 : Method := { name := "<init>", desc := "()V", sig := { parameters := [], returnType := none }, accessFlags := 1, code := some k0c0 }
/-- java/lang/Object -/
def k0 : Class := { plain "java/lang/Object" none with
  accessFlags := 33
  interfaces := #[]
  cf := some (fileOf pool0 8 #[] #[{ accessFlags := 1, nameIndex := 5, descriptorIndex := 6, attributes := #[] }] 33 0 #[] #[])
  fields := #[]
  methods := #[k0m0]
  instanceTypes := #[]
  staticTypes := #[]
  resolved := Array.replicate 124 none
  statics := none }

def pool1 : Array CpInfo := pool [(2, .class_ 4), (1, u "java/lang/Object"), (0, u "<init>"), (0, u "()V"), (0, .integer 65535), (0, .integer 2147483647), (0, .methodref 10 11), (0, .class_ 12), (0, .nameAndType 13 14), (0, u "com/example/entitl/entitl/NamesPrintablePinLaw"), (0, u "bad"), (0, u "(C)Z"), (0, .class_ 16), (0, u "java/lang/String"), (0, .methodref 15 18), (0, .nameAndType 5 19), (0, u "([C)V"), (0, .methodref 21 22), (0, .class_ 23), (0, .nameAndType 24 25), (0, u "com/example/entitl/entitl/Names"), (0, u "printable"), (0, u "(Ljava/lang/String;)Z"), (2, u "law"), (0, u "(III)Z")] 5

def k1m0 : Method := { name := "<init>", desc := "()V", sig := { parameters := [], returnType := none }, accessFlags := 2, code := none }
def k1c1 : Code := { maxStack := 4, maxLocals := 10, code := code, exceptionTable := #[], attributes := #[] }
def k1m1 : Method := { name := "law", desc := "(III)Z", sig := { parameters := [.int, .int, .int], returnType := some .boolean }, accessFlags := 9, code := some k1c1 }
def k1c2 : Code := { maxStack := 2, maxLocals := 2, code := method_3_code, exceptionTable := #[], attributes := #[] }
def k1m2 : Method := { name := "bad", desc := "(C)Z", sig := { parameters := [.char], returnType := some .boolean }, accessFlags := 10, code := some k1c2 }
/-- com/example/entitl/entitl/NamesPrintablePinLaw -/
def k1 : Class := { plain "com/example/entitl/entitl/NamesPrintablePinLaw" (some 0) with
  accessFlags := 49
  interfaces := #[]
  cf := some (fileOf pool1 10 #[] #[{ accessFlags := 2, nameIndex := 5, descriptorIndex := 6, attributes := #[] }, { accessFlags := 9, nameIndex := 28, descriptorIndex := 29, attributes := #[] }, { accessFlags := 10, nameIndex := 13, descriptorIndex := 14, attributes := #[] }] 49 2 #[] #[])
  fields := #[]
  methods := #[k1m0, k1m1, k1m2]
  instanceTypes := #[]
  staticTypes := #[]
  resolved := Array.replicate 35 none
  statics := none }

def pool2 : Array CpInfo := pool [(1, .class_ 2), (0, u "java/io/Serializable"), (0, .class_ 4), (0, u "java/lang/Object")] 2

/-- java/io/Serializable -/
def k2 : Class := { plain "java/io/Serializable" (some 0) with
  accessFlags := 1537
  interfaces := #[]
  cf := some (fileOf pool2 1 #[] #[] 1537 3 #[] #[])
  fields := #[]
  methods := #[]
  instanceTypes := #[]
  staticTypes := #[]
  resolved := Array.replicate 7 none
  statics := none }

def pool3 : Array CpInfo := pool [(1, .class_ 2), (0, u "java/lang/Comparable"), (0, .class_ 4), (0, u "java/lang/Object")] 7

/-- java/lang/Comparable -/
def k3 : Class := { plain "java/lang/Comparable" (some 0) with
  accessFlags := 1537
  interfaces := #[]
  cf := some (fileOf pool3 1 #[] #[] 1537 3 #[] #[])
  fields := #[]
  methods := #[]
  instanceTypes := #[]
  staticTypes := #[]
  resolved := Array.replicate 12 none
  statics := none }

def pool4 : Array CpInfo := pool [(2, .class_ 4), (1, u "java/lang/CharSequence"), (42, .class_ 48), (0, u "java/lang/CharSequence$1CodePointIterator"), (10, .class_ 60), (0, u "java/lang/CharSequence$1CharIterator"), (5, .class_ 67), (0, u "java/lang/Object")] 63

/-- java/lang/CharSequence -/
def k4 : Class := { plain "java/lang/CharSequence" (some 0) with
  accessFlags := 1537
  interfaces := #[]
  cf := some (fileOf pool4 2 #[.nestMembers #[47, 59]] #[] 1537 66 #[] #[])
  fields := #[]
  methods := #[]
  instanceTypes := #[]
  staticTypes := #[]
  resolved := Array.replicate 131 none
  statics := none }

def pool5 : Array CpInfo := pool [(1, .class_ 2), (0, u "java/lang/constant/Constable"), (0, .class_ 4), (0, u "java/lang/Object")] 6

/-- java/lang/constant/Constable -/
def k5 : Class := { plain "java/lang/constant/Constable" (some 0) with
  accessFlags := 1537
  interfaces := #[]
  cf := some (fileOf pool5 1 #[] #[] 1537 3 #[] #[])
  fields := #[]
  methods := #[]
  instanceTypes := #[]
  staticTypes := #[]
  resolved := Array.replicate 11 none
  statics := none }

def pool6 : Array CpInfo := pool [(1, .class_ 2), (0, u "java/lang/constant/ConstantDesc"), (0, .class_ 4), (0, u "java/lang/Object")] 32

/-- java/lang/constant/ConstantDesc -/
def k6 : Class := { plain "java/lang/constant/ConstantDesc" (some 0) with
  accessFlags := 1537
  interfaces := #[]
  cf := some (fileOf pool6 1 #[] #[] 1537 3 #[] #[])
  fields := #[]
  methods := #[]
  instanceTypes := #[]
  staticTypes := #[]
  resolved := Array.replicate 37 none
  statics := none }

def pool7 : Array CpInfo := pool [(1, .methodref 2 3), (0, .class_ 4), (0, .nameAndType 5 6), (0, u "java/lang/Object"), (0, u "<init>"), (0, u "()V"), (0, .string 8), (0, u ""), (0, .fieldref 10 11), (0, .class_ 12), (0, .nameAndType 13 14), (0, u "java/lang/String"), (0, u "value"), (0, u "[B"), (0, .fieldref 10 16), (0, .nameAndType 17 18), (0, u "coder"), (0, u "B"), (2, u "hash"), (0, u "I"), (2, u "hashIsZero"), (0, u "Z"), (0, .methodref 10 28), (0, .nameAndType 5 29), (0, u "([CIILjava/lang/Void;)V"), (8, .fieldref 10 39), (0, .nameAndType 40 26), (0, u "COMPACT_STRINGS"), (1, .class_ 44), (1, u "java/lang/StringUTF16"), (0, u "compress"), (1, .methodref 42 48), (0, .nameAndType 49 50), (0, u "coderFromArrayLen"), (0, u "([BI)B"), (56, .class_ 109), (1, u "java/lang/StringLatin1"), (32, u "()Z"), (34, .methodref 42 178), (0, .nameAndType 45 179), (0, u "([CII)[B"), (154, u "()I"), (0, .methodref 10 336), (0, .nameAndType 17 337), (0, u "()B"), (25, u "([BI)C"), (27, u "(II)V"), (35, u "(I)C"), (64, .methodref 10 493), (0, .nameAndType 494 142), (0, u "isLatin1"), (0, .methodref 107 496), (0, .nameAndType 497 363), (0, u "charAt"), (0, .methodref 42 496), (2, u "checkIndex"), (5, u "length"), (67, .class_ 576), (0, u "java/lang/CharSequence"), (22, u "CASE_INSENSITIVE_ORDER"), (0, u "Ljava/util/Comparator;"), (409, u "([C)V"), (42, .fieldref 1054 1055), (0, .class_ 1056), (0, .nameAndType 1057 1058), (0, u "jdk/internal/util/Preconditions"), (0, u "SIOOBE_FORMATTER"), (0, u "Ljava/util/function/BiFunction;"), (0, .methodref 1054 1060), (0, .nameAndType 501 1061), (0, u "(IILjava/util/function/BiFunction;)I"), (39, u "serialPersistentFields"), (0, u "[Ljava/io/ObjectStreamField;"), (0, .class_ 1104), (0, u "java/lang/String$CaseInsensitiveComparator"), (1, .class_ 1107), (0, u "java/io/Serializable"), (0, .class_ 1109), (0, u "java/lang/Comparable"), (0, .class_ 1111), (0, u "java/lang/constant/Constable"), (0, .class_ 1113), (0, u "java/lang/constant/ConstantDesc"), (2, u "serialVersionUID"), (0, u "J"), (3, u "REPL"), (0, u "C"), (2, u "LATIN1"), (1, u "UTF16")] 323

def k7m0 : Method := { name := "<init>", desc := "()V", sig := { parameters := [], returnType := none }, accessFlags := 1, code := none }
def k7c1 : Code := { maxStack := 5, maxLocals := 2, code := jdk_42_method_3_code, exceptionTable := #[], attributes := #[] }
def k7m1 : Method := { name := "<init>", desc := "([C)V", sig := { parameters := [(.array .char)], returnType := none }, accessFlags := 1, code := some k7c1 }
def k7c2 : Code := { maxStack := 2, maxLocals := 1, code := jdk_42_method_54_code, exceptionTable := #[], attributes := #[] }
def k7m2 : Method := { name := "length", desc := "()I", sig := { parameters := [], returnType := some .int }, accessFlags := 1, code := some k7c2 }
def k7c3 : Code := { maxStack := 2, maxLocals := 2, code := jdk_42_method_56_code, exceptionTable := #[], attributes := #[] }
def k7m3 : Method := { name := "charAt", desc := "(I)C", sig := { parameters := [.int], returnType := some .char }, accessFlags := 1, code := some k7c3 }
def k7c4 : Code := { maxStack := 4, maxLocals := 6, code := jdk_42_method_149_code, exceptionTable := #[], attributes := #[] }
def k7m4 : Method := { name := "<init>", desc := "([CIILjava/lang/Void;)V", sig := { parameters := [(.array .char), .int, .int, (.object "java/lang/Void")], returnType := none }, accessFlags := 2, code := some k7c4 }
def k7c5 : Code := { maxStack := 1, maxLocals := 1, code := jdk_42_method_152_code, exceptionTable := #[], attributes := #[] }
def k7m5 : Method := { name := "coder", desc := "()B", sig := { parameters := [], returnType := some .byte }, accessFlags := 0, code := some k7c5 }
def k7c6 : Code := { maxStack := 1, maxLocals := 1, code := jdk_42_method_154_code, exceptionTable := #[], attributes := #[] }
def k7m6 : Method := { name := "isLatin1", desc := "()Z", sig := { parameters := [], returnType := some .boolean }, accessFlags := 0, code := some k7c6 }
def k7c7 : Code := { maxStack := 3, maxLocals := 2, code := jdk_42_method_155_code, exceptionTable := #[], attributes := #[] }
def k7m7 : Method := { name := "checkIndex", desc := "(II)V", sig := { parameters := [.int, .int], returnType := none }, accessFlags := 8, code := some k7c7 }
/-- java/lang/String -/
def k7 : Class := { plain "java/lang/String" (some 0) with
  accessFlags := 49
  interfaces := #[2, 3, 4, 5, 6]
  cf := some (fileOf pool7 10 #[.nestMembers #[1103]] #[{ accessFlags := 1, nameIndex := 5, descriptorIndex := 6, attributes := #[] }, { accessFlags := 1, nameIndex := 5, descriptorIndex := 1010, attributes := #[] }, { accessFlags := 1, nameIndex := 507, descriptorIndex := 334, attributes := #[] }, { accessFlags := 1, nameIndex := 497, descriptorIndex := 427, attributes := #[] }, { accessFlags := 2, nameIndex := 5, descriptorIndex := 29, attributes := #[] }, { accessFlags := 0, nameIndex := 17, descriptorIndex := 337, attributes := #[] }, { accessFlags := 0, nameIndex := 494, descriptorIndex := 142, attributes := #[] }, { accessFlags := 8, nameIndex := 501, descriptorIndex := 391, attributes := #[] }] 49 2 #[1106, 1108, 575, 1110, 1112] #[{ accessFlags := 18, nameIndex := 13, descriptorIndex := 14, attributes := #[] }, { accessFlags := 18, nameIndex := 17, descriptorIndex := 18, attributes := #[] }, { accessFlags := 2, nameIndex := 21, descriptorIndex := 22, attributes := #[] }, { accessFlags := 2, nameIndex := 25, descriptorIndex := 26, attributes := #[] }, { accessFlags := 26, nameIndex := 1116, descriptorIndex := 1117, attributes := #[] }, { accessFlags := 24, nameIndex := 40, descriptorIndex := 26, attributes := #[] }, { accessFlags := 26, nameIndex := 1101, descriptorIndex := 1102, attributes := #[] }, { accessFlags := 26, nameIndex := 1121, descriptorIndex := 1122, attributes := #[] }, { accessFlags := 25, nameIndex := 599, descriptorIndex := 600, attributes := #[] }, { accessFlags := 24, nameIndex := 1125, descriptorIndex := 18, attributes := #[] }, { accessFlags := 24, nameIndex := 1127, descriptorIndex := 18, attributes := #[] }])
  fields := #[{ name := "value", type := (.array .byte), accessFlags := 18, slot := 0, constantValue := 0 }, { name := "coder", type := .byte, accessFlags := 18, slot := 1, constantValue := 0 }, { name := "hash", type := .int, accessFlags := 2, slot := 2, constantValue := 0 }, { name := "hashIsZero", type := .boolean, accessFlags := 2, slot := 3, constantValue := 0 }, { name := "serialVersionUID", type := .long, accessFlags := 26, slot := 0, constantValue := 0 }, { name := "COMPACT_STRINGS", type := .boolean, accessFlags := 24, slot := 1, constantValue := 0 }, { name := "serialPersistentFields", type := (.array (.object "java/io/ObjectStreamField")), accessFlags := 26, slot := 2, constantValue := 0 }, { name := "REPL", type := .char, accessFlags := 26, slot := 3, constantValue := 0 }, { name := "CASE_INSENSITIVE_ORDER", type := (.object "java/util/Comparator"), accessFlags := 25, slot := 4, constantValue := 0 }, { name := "LATIN1", type := .byte, accessFlags := 24, slot := 5, constantValue := 0 }, { name := "UTF16", type := .byte, accessFlags := 24, slot := 6, constantValue := 0 }]
  methods := #[k7m0, k7m1, k7m2, k7m3, k7m4, k7m5, k7m6, k7m7]
  instanceTypes := #[(.array .byte), .byte, .int, .boolean]
  staticTypes := #[.long, .boolean, (.array (.object "java/io/ObjectStreamField")), .char, (.object "java/util/Comparator"), .byte, .byte]
  resolved := Array.replicate 1451 none
  statics := some 0 }

def pool8 : Array CpInfo := pool [(3, .class_ 4), (0, u "java/lang/String"), (1, .class_ 8), (1, u "java/lang/Object"), (0, u "<init>"), (0, u "()V"), (0, .methodref 12 13), (0, .class_ 14), (0, .nameAndType 15 16), (0, u "java/lang/StringUTF16"), (0, u "newBytesLength"), (0, u "(I)I"), (3, .integer 1073741823), (23, .fieldref 12 45), (0, .nameAndType 46 47), (0, u "$assertionsDisabled"), (0, u "Z"), (0, .methodref 12 49), (0, .nameAndType 50 51), (0, u "length"), (0, u "([B)I"), (7, .fieldref 12 60), (0, .nameAndType 61 62), (0, u "HI_BYTE_SHIFT"), (0, u "I"), (0, .fieldref 12 64), (0, .nameAndType 65 62), (0, u "LO_BYTE_SHIFT"), (1, .methodref 12 68), (0, .nameAndType 69 70), (0, u "checkIndex"), (0, u "(I[B)V"), (0, .methodref 12 72), (0, .nameAndType 73 74), (0, u "getChar"), (0, u "([BI)C"), (32, .methodref 12 108), (0, .nameAndType 109 110), (0, u "newBytesFor"), (0, u "(I)[B"), (0, .methodref 12 112), (0, .nameAndType 113 114), (0, u "putChar"), (0, u "([BII)V"), (0, .methodref 12 116), (0, .nameAndType 117 118), (0, u "compress"), (0, u "([CI[BII)I"), (0, .methodref 12 120), (0, .nameAndType 121 122), (0, u "toBytes"), (0, u "([CII)[B"), (138, u "coderFromArrayLen"), (0, u "([BI)B"), (106, .class_ 371), (1, u "java/lang/StringUTF16$LinesSpliterator"), (20, u "charAt"), (21, .methodref 3 415), (0, .nameAndType 69 416), (0, u "(II)V"), (13, u "MAX_LENGTH"), (196, .class_ 628), (0, u "java/lang/StringUTF16$CodePointsSpliterator"), (0, .class_ 630), (0, u "java/lang/StringUTF16$CharsSpliterator")] 4

def k8m0 : Method := { name := "<init>", desc := "()V", sig := { parameters := [], returnType := none }, accessFlags := 0, code := none }
def k8c1 : Code := { maxStack := 1, maxLocals := 1, code := jdk_52_method_2_code, exceptionTable := #[], attributes := #[] }
def k8m1 : Method := { name := "newBytesFor", desc := "(I)[B", sig := { parameters := [.int], returnType := some (.array .byte) }, accessFlags := 9, code := some k8c1 }
def k8c2 : Code := { maxStack := 4, maxLocals := 1, code := jdk_52_method_3_code, exceptionTable := #[], attributes := #[] }
def k8m2 : Method := { name := "newBytesLength", desc := "(I)I", sig := { parameters := [.int], returnType := some .int }, accessFlags := 9, code := some k8c2 }
def k8c3 : Code := { maxStack := 4, maxLocals := 3, code := jdk_52_method_4_code, exceptionTable := #[], attributes := #[] }
def k8m3 : Method := { name := "putChar", desc := "([BII)V", sig := { parameters := [(.array .byte), .int, .int], returnType := none }, accessFlags := 8, code := some k8c3 }
def k8c4 : Code := { maxStack := 3, maxLocals := 2, code := jdk_52_method_5_code, exceptionTable := #[], attributes := #[] }
def k8m4 : Method := { name := "getChar", desc := "([BI)C", sig := { parameters := [(.array .byte), .int], returnType := some .char }, accessFlags := 8, code := some k8c4 }
def k8c5 : Code := { maxStack := 2, maxLocals := 1, code := jdk_52_method_6_code, exceptionTable := #[], attributes := #[] }
def k8m5 : Method := { name := "length", desc := "([B)I", sig := { parameters := [(.array .byte)], returnType := some .int }, accessFlags := 9, code := some k8c5 }
def k8c6 : Code := { maxStack := 4, maxLocals := 5, code := jdk_52_method_14_code, exceptionTable := #[], attributes := #[] }
def k8m6 : Method := { name := "toBytes", desc := "([CII)[B", sig := { parameters := [(.array .char), .int, .int], returnType := some (.array .byte) }, accessFlags := 9, code := some k8c6 }
def k8c7 : Code := { maxStack := 2, maxLocals := 2, code := jdk_52_method_15_code, exceptionTable := #[], attributes := #[] }
def k8m7 : Method := { name := "coderFromArrayLen", desc := "([BI)B", sig := { parameters := [(.array .byte), .int], returnType := some .byte }, accessFlags := 8, code := some k8c7 }
def k8c8 : Code := { maxStack := 5, maxLocals := 6, code := jdk_52_method_16_code, exceptionTable := #[], attributes := #[] }
def k8m8 : Method := { name := "compress", desc := "([CII)[B", sig := { parameters := [(.array .char), .int, .int], returnType := some (.array .byte) }, accessFlags := 9, code := some k8c8 }
def k8c9 : Code := { maxStack := 3, maxLocals := 7, code := jdk_52_method_21_code, exceptionTable := #[], attributes := #[] }
def k8m9 : Method := { name := "compress", desc := "([CI[BII)I", sig := { parameters := [(.array .char), .int, (.array .byte), .int, .int], returnType := some .int }, accessFlags := 9, code := some k8c9 }
def k8c10 : Code := { maxStack := 2, maxLocals := 2, code := jdk_52_method_83_code, exceptionTable := #[], attributes := #[] }
def k8m10 : Method := { name := "charAt", desc := "([BI)C", sig := { parameters := [(.array .byte), .int], returnType := some .char }, accessFlags := 9, code := some k8c10 }
def k8c11 : Code := { maxStack := 2, maxLocals := 2, code := jdk_52_method_91_code, exceptionTable := #[], attributes := #[] }
def k8m11 : Method := { name := "checkIndex", desc := "(I[B)V", sig := { parameters := [.int, (.array .byte)], returnType := none }, accessFlags := 9, code := some k8c11 }
/-- java/lang/StringUTF16 -/
def k8 : Class := { plain "java/lang/StringUTF16" (some 0) with
  accessFlags := 48
  interfaces := #[]
  cf := some (fileOf pool8 12 #[.nestMembers #[627, 629, 369]] #[{ accessFlags := 0, nameIndex := 9, descriptorIndex := 10, attributes := #[] }, { accessFlags := 9, nameIndex := 109, descriptorIndex := 110, attributes := #[] }, { accessFlags := 9, nameIndex := 15, descriptorIndex := 16, attributes := #[] }, { accessFlags := 8, nameIndex := 113, descriptorIndex := 114, attributes := #[] }, { accessFlags := 8, nameIndex := 73, descriptorIndex := 74, attributes := #[] }, { accessFlags := 9, nameIndex := 50, descriptorIndex := 51, attributes := #[] }, { accessFlags := 9, nameIndex := 121, descriptorIndex := 122, attributes := #[] }, { accessFlags := 8, nameIndex := 261, descriptorIndex := 262, attributes := #[] }, { accessFlags := 9, nameIndex := 117, descriptorIndex := 122, attributes := #[] }, { accessFlags := 9, nameIndex := 117, descriptorIndex := 118, attributes := #[] }, { accessFlags := 9, nameIndex := 392, descriptorIndex := 74, attributes := #[] }, { accessFlags := 9, nameIndex := 69, descriptorIndex := 70, attributes := #[] }] 48 6 #[] #[{ accessFlags := 26, nameIndex := 61, descriptorIndex := 62, attributes := #[] }, { accessFlags := 26, nameIndex := 65, descriptorIndex := 62, attributes := #[] }, { accessFlags := 24, nameIndex := 430, descriptorIndex := 62, attributes := #[] }, { accessFlags := 4120, nameIndex := 46, descriptorIndex := 47, attributes := #[] }])
  fields := #[{ name := "HI_BYTE_SHIFT", type := .int, accessFlags := 26, slot := 0, constantValue := 0 }, { name := "LO_BYTE_SHIFT", type := .int, accessFlags := 26, slot := 1, constantValue := 0 }, { name := "MAX_LENGTH", type := .int, accessFlags := 24, slot := 2, constantValue := 0 }, { name := "$assertionsDisabled", type := .boolean, accessFlags := 4120, slot := 3, constantValue := 0 }]
  methods := #[k8m0, k8m1, k8m2, k8m3, k8m4, k8m5, k8m6, k8m7, k8m8, k8m9, k8m10, k8m11]
  instanceTypes := #[]
  staticTypes := #[.int, .int, .int, .boolean]
  resolved := Array.replicate 635 none
  statics := some 1 }

def pool9 : Array CpInfo := pool [(2, .class_ 4), (1, u "java/lang/Object"), (0, u "<init>"), (0, u "()V"), (0, .methodref 8 9), (0, .class_ 10), (0, .nameAndType 11 12), (0, u "com/example/entitl/entitl/Names"), (0, u "unprintableAt"), (0, u "(Ljava/lang/String;)I"), (0, .methodref 14 15), (0, .class_ 16), (0, .nameAndType 17 18), (0, u "java/lang/String"), (0, u "charAt"), (0, u "(I)C"), (33, .methodref 14 53), (0, .nameAndType 54 55), (0, u "length"), (0, u "()I"), (0, .methodref 57 58), (0, .class_ 59), (0, .nameAndType 60 61), (0, u "java/lang/Character"), (0, u "isISOControl"), (0, u "(C)Z"), (0, u "LINE_SEPARATOR"), (0, u "C"), (2, u "PARAGRAPH_SEPARATOR"), (3, u "printable"), (0, u "(Ljava/lang/String;)Z")] 23

def k9m0 : Method := { name := "<init>", desc := "()V", sig := { parameters := [], returnType := none }, accessFlags := 2, code := none }
def k9c1 : Code := { maxStack := 1, maxLocals := 1, code := prog_10_method_2_code, exceptionTable := #[], attributes := #[] }
def k9m1 : Method := { name := "printable", desc := "(Ljava/lang/String;)Z", sig := { parameters := [(.object "java/lang/String")], returnType := some .boolean }, accessFlags := 8, code := some k9c1 }
def k9c2 : Code := { maxStack := 2, maxLocals := 3, code := prog_10_method_5_code, exceptionTable := #[], attributes := #[] }
def k9m2 : Method := { name := "unprintableAt", desc := "(Ljava/lang/String;)I", sig := { parameters := [(.object "java/lang/String")], returnType := some .int }, accessFlags := 10, code := some k9c2 }
/-- com/example/entitl/entitl/Names -/
def k9 : Class := { plain "com/example/entitl/entitl/Names" (some 0) with
  accessFlags := 32
  interfaces := #[]
  cf := some (fileOf pool9 8 #[] #[{ accessFlags := 2, nameIndex := 5, descriptorIndex := 6, attributes := #[] }, { accessFlags := 8, nameIndex := 70, descriptorIndex := 71, attributes := #[] }, { accessFlags := 10, nameIndex := 11, descriptorIndex := 12, attributes := #[] }] 32 2 #[] #[{ accessFlags := 26, nameIndex := 62, descriptorIndex := 63, attributes := #[] }, { accessFlags := 26, nameIndex := 66, descriptorIndex := 63, attributes := #[] }])
  fields := #[{ name := "LINE_SEPARATOR", type := .char, accessFlags := 26, slot := 0, constantValue := 0 }, { name := "PARAGRAPH_SEPARATOR", type := .char, accessFlags := 26, slot := 1, constantValue := 0 }]
  methods := #[k9m0, k9m1, k9m2]
  instanceTypes := #[]
  staticTypes := #[.char, .char]
  resolved := Array.replicate 95 none
  statics := none }

def pool10 : Array CpInfo := pool [(1, .class_ 2), (0, u "java/lang/String"), (1, .class_ 6), (1, u "java/lang/Object"), (0, u "<init>"), (0, u "()V"), (0, .methodref 1 10), (0, .nameAndType 11 12), (0, u "checkIndex"), (0, u "(II)V"), (1, .class_ 16), (1, u "java/lang/StringLatin1"), (36, u "([BI)C"), (67, u "$assertionsDisabled"), (0, u "Z"), (98, .class_ 223), (1, u "java/lang/StringLatin1$LinesSpliterator"), (28, u "charAt"), (137, .class_ 391), (0, u "java/lang/StringLatin1$CharsSpliterator")] 3

def k10m0 : Method := { name := "<init>", desc := "()V", sig := { parameters := [], returnType := none }, accessFlags := 0, code := none }
def k10c1 : Code := { maxStack := 2, maxLocals := 2, code := jdk_43_method_2_code, exceptionTable := #[], attributes := #[] }
def k10m1 : Method := { name := "charAt", desc := "([BI)C", sig := { parameters := [(.array .byte), .int], returnType := some .char }, accessFlags := 9, code := some k10c1 }
/-- java/lang/StringLatin1 -/
def k10 : Class := { plain "java/lang/StringLatin1" (some 0) with
  accessFlags := 48
  interfaces := #[]
  cf := some (fileOf pool10 14 #[.nestMembers #[390, 221]] #[{ accessFlags := 0, nameIndex := 7, descriptorIndex := 8, attributes := #[] }, { accessFlags := 9, nameIndex := 252, descriptorIndex := 53, attributes := #[] }] 48 4 #[] #[{ accessFlags := 4120, nameIndex := 121, descriptorIndex := 122, attributes := #[] }])
  fields := #[{ name := "$assertionsDisabled", type := .boolean, accessFlags := 4120, slot := 0, constantValue := 0 }]
  methods := #[k10m0, k10m1]
  instanceTypes := #[]
  staticTypes := #[.boolean]
  resolved := Array.replicate 395 none
  statics := none }

def pool11 : Array CpInfo := pool [(2, .class_ 4), (1, u "java/lang/Object"), (0, u "<init>"), (0, u "()V"), (17, .class_ 26), (1, u "jdk/internal/util/Preconditions"), (6, u "checkIndex"), (21, .class_ 56), (0, u "jdk/internal/util/Preconditions$4"), (57, .class_ 115), (0, u "jdk/internal/util/Preconditions$1"), (7, u "SIOOBE_FORMATTER"), (0, u "Ljava/util/function/BiFunction;"), (0, .class_ 126), (0, u "jdk/internal/util/Preconditions$2"), (3, u "AIOOBE_FORMATTER"), (0, .class_ 132), (0, u "jdk/internal/util/Preconditions$3"), (3, u "IOOBE_FORMATTER"), (41, u "(IILjava/util/function/BiFunction;)I")] 15

def k11m0 : Method := { name := "<init>", desc := "()V", sig := { parameters := [], returnType := none }, accessFlags := 1, code := none }
def k11c1 : Code := { maxStack := 3, maxLocals := 3, code := jdk_41_method_11_code, exceptionTable := #[], attributes := #[] }
def k11m1 : Method := { name := "checkIndex", desc := "(IILjava/util/function/BiFunction;)I", sig := { parameters := [.int, .int, (.object "java/util/function/BiFunction")], returnType := some .int }, accessFlags := 9, code := some k11c1 }
/-- jdk/internal/util/Preconditions -/
def k11 : Class := { plain "jdk/internal/util/Preconditions" (some 0) with
  accessFlags := 33
  interfaces := #[]
  cf := some (fileOf pool11 24 #[.nestMembers #[55, 131, 125, 114]] #[{ accessFlags := 1, nameIndex := 5, descriptorIndex := 6, attributes := #[] }, { accessFlags := 9, nameIndex := 33, descriptorIndex := 178, attributes := #[] }] 33 2 #[] #[{ accessFlags := 25, nameIndex := 123, descriptorIndex := 124, attributes := #[] }, { accessFlags := 25, nameIndex := 130, descriptorIndex := 124, attributes := #[] }, { accessFlags := 25, nameIndex := 136, descriptorIndex := 124, attributes := #[] }])
  fields := #[{ name := "SIOOBE_FORMATTER", type := (.object "java/util/function/BiFunction"), accessFlags := 25, slot := 0, constantValue := 0 }, { name := "AIOOBE_FORMATTER", type := (.object "java/util/function/BiFunction"), accessFlags := 25, slot := 1, constantValue := 0 }, { name := "IOOBE_FORMATTER", type := (.object "java/util/function/BiFunction"), accessFlags := 25, slot := 2, constantValue := 0 }]
  methods := #[k11m0, k11m1]
  instanceTypes := #[]
  staticTypes := #[(.object "java/util/function/BiFunction"), (.object "java/util/function/BiFunction"), (.object "java/util/function/BiFunction")]
  resolved := Array.replicate 194 none
  statics := some 2 }

def pool12 : Array CpInfo := pool [(1, .class_ 2), (0, u "java/lang/Character"), (18, u "value"), (0, u "C"), (19, .class_ 44), (1, u "java/lang/Object"), (3, .class_ 50), (1, u "java/lang/Character$CharacterCache"), (30, u "(C)Z"), (32, u "(I)Z"), (151, .methodref 1 267), (0, .nameAndType 268 114), (0, u "isISOControl"), (15, u "$assertionsDisabled"), (0, u "Z"), (21, .class_ 309), (1, u "java/lang/Character$UnicodeBlock"), (73, u "TYPE"), (0, u "Ljava/lang/Class;"), (0, .class_ 386), (0, u "java/io/Serializable"), (0, .class_ 388), (0, u "java/lang/Comparable"), (0, .class_ 390), (0, u "java/lang/constant/Constable"), (0, u "MIN_RADIX"), (0, u "I"), (2, u "MAX_RADIX"), (1, u "MIN_VALUE"), (1, u "MAX_VALUE"), (3, u "UNASSIGNED"), (0, u "B"), (0, u "UPPERCASE_LETTER"), (1, u "LOWERCASE_LETTER"), (0, u "TITLECASE_LETTER"), (1, u "MODIFIER_LETTER"), (1, u "OTHER_LETTER"), (1, u "NON_SPACING_MARK"), (1, u "ENCLOSING_MARK"), (1, u "COMBINING_SPACING_MARK"), (1, u "DECIMAL_DIGIT_NUMBER"), (1, u "LETTER_NUMBER"), (1, u "OTHER_NUMBER"), (1, u "SPACE_SEPARATOR"), (1, u "LINE_SEPARATOR"), (1, u "PARAGRAPH_SEPARATOR"), (1, u "CONTROL"), (1, u "FORMAT"), (1, u "PRIVATE_USE"), (1, u "SURROGATE"), (1, u "DASH_PUNCTUATION"), (1, u "START_PUNCTUATION"), (1, u "END_PUNCTUATION"), (1, u "CONNECTOR_PUNCTUATION"), (1, u "OTHER_PUNCTUATION"), (1, u "MATH_SYMBOL"), (1, u "CURRENCY_SYMBOL"), (1, u "MODIFIER_SYMBOL"), (1, u "OTHER_SYMBOL"), (1, u "INITIAL_QUOTE_PUNCTUATION"), (1, u "FINAL_QUOTE_PUNCTUATION"), (1, u "ERROR"), (1, u "DIRECTIONALITY_UNDEFINED"), (0, u "DIRECTIONALITY_LEFT_TO_RIGHT"), (0, u "DIRECTIONALITY_RIGHT_TO_LEFT"), (0, u "DIRECTIONALITY_RIGHT_TO_LEFT_ARABIC"), (0, u "DIRECTIONALITY_EUROPEAN_NUMBER"), (0, u "DIRECTIONALITY_EUROPEAN_NUMBER_SEPARATOR"), (0, u "DIRECTIONALITY_EUROPEAN_NUMBER_TERMINATOR"), (0, u "DIRECTIONALITY_ARABIC_NUMBER"), (0, u "DIRECTIONALITY_COMMON_NUMBER_SEPARATOR"), (0, u "DIRECTIONALITY_NONSPACING_MARK"), (0, u "DIRECTIONALITY_BOUNDARY_NEUTRAL"), (0, u "DIRECTIONALITY_PARAGRAPH_SEPARATOR"), (0, u "DIRECTIONALITY_SEGMENT_SEPARATOR"), (0, u "DIRECTIONALITY_WHITESPACE"), (0, u "DIRECTIONALITY_OTHER_NEUTRALS"), (0, u "DIRECTIONALITY_LEFT_TO_RIGHT_EMBEDDING"), (0, u "DIRECTIONALITY_LEFT_TO_RIGHT_OVERRIDE"), (0, u "DIRECTIONALITY_RIGHT_TO_LEFT_EMBEDDING"), (0, u "DIRECTIONALITY_RIGHT_TO_LEFT_OVERRIDE"), (1, u "DIRECTIONALITY_POP_DIRECTIONAL_FORMAT"), (0, u "DIRECTIONALITY_LEFT_TO_RIGHT_ISOLATE"), (0, u "DIRECTIONALITY_RIGHT_TO_LEFT_ISOLATE"), (0, u "DIRECTIONALITY_FIRST_STRONG_ISOLATE"), (0, u "DIRECTIONALITY_POP_DIRECTIONAL_ISOLATE"), (0, u "MIN_HIGH_SURROGATE"), (0, u "MAX_HIGH_SURROGATE"), (1, u "MIN_LOW_SURROGATE"), (0, u "MAX_LOW_SURROGATE"), (1, u "MIN_SURROGATE"), (0, u "MAX_SURROGATE"), (0, u "MIN_SUPPLEMENTARY_CODE_POINT"), (0, u "MIN_CODE_POINT"), (0, u "MAX_CODE_POINT"), (1, u "serialVersionUID"), (0, u "J"), (2, u "SIZE"), (0, u "BYTES"), (88, .class_ 596), (0, u "java/lang/Character$UnicodeScript"), (0, .class_ 598), (0, u "java/lang/Character$Subset")] 5

def k12c0 : Code := { maxStack := 1, maxLocals := 1, code := jdk_89_method_88_code, exceptionTable := #[], attributes := #[] }
def k12m0 : Method := { name := "isISOControl", desc := "(C)Z", sig := { parameters := [.char], returnType := some .boolean }, accessFlags := 9, code := some k12c0 }
def k12c1 : Code := { maxStack := 2, maxLocals := 1, code := jdk_89_method_89_code, exceptionTable := #[], attributes := #[] }
def k12m1 : Method := { name := "isISOControl", desc := "(I)Z", sig := { parameters := [.int], returnType := some .boolean }, accessFlags := 9, code := some k12c1 }
/-- java/lang/Character -/
def k12 : Class := { plain "java/lang/Character" (some 0) with
  accessFlags := 49
  interfaces := #[2, 3, 5]
  cf := some (fileOf pool12 1 #[.nestMembers #[48, 595, 307, 597]] #[{ accessFlags := 9, nameIndex := 268, descriptorIndex := 81, attributes := #[] }, { accessFlags := 9, nameIndex := 268, descriptorIndex := 114, attributes := #[] }] 49 42 #[385, 387, 389] #[{ accessFlags := 25, nameIndex := 391, descriptorIndex := 392, attributes := #[] }, { accessFlags := 25, nameIndex := 395, descriptorIndex := 392, attributes := #[] }, { accessFlags := 25, nameIndex := 397, descriptorIndex := 22, attributes := #[] }, { accessFlags := 25, nameIndex := 399, descriptorIndex := 22, attributes := #[] }, { accessFlags := 25, nameIndex := 383, descriptorIndex := 384, attributes := #[] }, { accessFlags := 25, nameIndex := 403, descriptorIndex := 404, attributes := #[] }, { accessFlags := 25, nameIndex := 405, descriptorIndex := 404, attributes := #[] }, { accessFlags := 25, nameIndex := 407, descriptorIndex := 404, attributes := #[] }, { accessFlags := 25, nameIndex := 408, descriptorIndex := 404, attributes := #[] }, { accessFlags := 25, nameIndex := 410, descriptorIndex := 404, attributes := #[] }, { accessFlags := 25, nameIndex := 412, descriptorIndex := 404, attributes := #[] }, { accessFlags := 25, nameIndex := 414, descriptorIndex := 404, attributes := #[] }, { accessFlags := 25, nameIndex := 416, descriptorIndex := 404, attributes := #[] }, { accessFlags := 25, nameIndex := 418, descriptorIndex := 404, attributes := #[] }, { accessFlags := 25, nameIndex := 420, descriptorIndex := 404, attributes := #[] }, { accessFlags := 25, nameIndex := 422, descriptorIndex := 404, attributes := #[] }, { accessFlags := 25, nameIndex := 424, descriptorIndex := 404, attributes := #[] }, { accessFlags := 25, nameIndex := 426, descriptorIndex := 404, attributes := #[] }, { accessFlags := 25, nameIndex := 428, descriptorIndex := 404, attributes := #[] }, { accessFlags := 25, nameIndex := 430, descriptorIndex := 404, attributes := #[] }, { accessFlags := 25, nameIndex := 432, descriptorIndex := 404, attributes := #[] }, { accessFlags := 25, nameIndex := 434, descriptorIndex := 404, attributes := #[] }, { accessFlags := 25, nameIndex := 436, descriptorIndex := 404, attributes := #[] }, { accessFlags := 25, nameIndex := 438, descriptorIndex := 404, attributes := #[] }, { accessFlags := 25, nameIndex := 440, descriptorIndex := 404, attributes := #[] }, { accessFlags := 25, nameIndex := 442, descriptorIndex := 404, attributes := #[] }, { accessFlags := 25, nameIndex := 444, descriptorIndex := 404, attributes := #[] }, { accessFlags := 25, nameIndex := 446, descriptorIndex := 404, attributes := #[] }, { accessFlags := 25, nameIndex := 448, descriptorIndex := 404, attributes := #[] }, { accessFlags := 25, nameIndex := 450, descriptorIndex := 404, attributes := #[] }, { accessFlags := 25, nameIndex := 452, descriptorIndex := 404, attributes := #[] }, { accessFlags := 25, nameIndex := 454, descriptorIndex := 404, attributes := #[] }, { accessFlags := 25, nameIndex := 456, descriptorIndex := 404, attributes := #[] }, { accessFlags := 25, nameIndex := 458, descriptorIndex := 404, attributes := #[] }, { accessFlags := 25, nameIndex := 460, descriptorIndex := 404, attributes := #[] }, { accessFlags := 24, nameIndex := 462, descriptorIndex := 392, attributes := #[] }, { accessFlags := 25, nameIndex := 464, descriptorIndex := 404, attributes := #[] }, { accessFlags := 25, nameIndex := 465, descriptorIndex := 404, attributes := #[] }, { accessFlags := 25, nameIndex := 466, descriptorIndex := 404, attributes := #[] }, { accessFlags := 25, nameIndex := 467, descriptorIndex := 404, attributes := #[] }, { accessFlags := 25, nameIndex := 468, descriptorIndex := 404, attributes := #[] }, { accessFlags := 25, nameIndex := 469, descriptorIndex := 404, attributes := #[] }, { accessFlags := 25, nameIndex := 470, descriptorIndex := 404, attributes := #[] }, { accessFlags := 25, nameIndex := 471, descriptorIndex := 404, attributes := #[] }, { accessFlags := 25, nameIndex := 472, descriptorIndex := 404, attributes := #[] }, { accessFlags := 25, nameIndex := 473, descriptorIndex := 404, attributes := #[] }, { accessFlags := 25, nameIndex := 474, descriptorIndex := 404, attributes := #[] }, { accessFlags := 25, nameIndex := 475, descriptorIndex := 404, attributes := #[] }, { accessFlags := 25, nameIndex := 476, descriptorIndex := 404, attributes := #[] }, { accessFlags := 25, nameIndex := 477, descriptorIndex := 404, attributes := #[] }, { accessFlags := 25, nameIndex := 478, descriptorIndex := 404, attributes := #[] }, { accessFlags := 25, nameIndex := 479, descriptorIndex := 404, attributes := #[] }, { accessFlags := 25, nameIndex := 480, descriptorIndex := 404, attributes := #[] }, { accessFlags := 25, nameIndex := 481, descriptorIndex := 404, attributes := #[] }, { accessFlags := 25, nameIndex := 482, descriptorIndex := 404, attributes := #[] }, { accessFlags := 25, nameIndex := 484, descriptorIndex := 404, attributes := #[] }, { accessFlags := 25, nameIndex := 485, descriptorIndex := 404, attributes := #[] }, { accessFlags := 25, nameIndex := 486, descriptorIndex := 404, attributes := #[] }, { accessFlags := 25, nameIndex := 487, descriptorIndex := 404, attributes := #[] }, { accessFlags := 25, nameIndex := 488, descriptorIndex := 404, attributes := #[] }, { accessFlags := 25, nameIndex := 489, descriptorIndex := 22, attributes := #[] }, { accessFlags := 25, nameIndex := 490, descriptorIndex := 22, attributes := #[] }, { accessFlags := 25, nameIndex := 492, descriptorIndex := 22, attributes := #[] }, { accessFlags := 25, nameIndex := 493, descriptorIndex := 22, attributes := #[] }, { accessFlags := 25, nameIndex := 495, descriptorIndex := 22, attributes := #[] }, { accessFlags := 25, nameIndex := 496, descriptorIndex := 22, attributes := #[] }, { accessFlags := 25, nameIndex := 497, descriptorIndex := 392, attributes := #[] }, { accessFlags := 25, nameIndex := 498, descriptorIndex := 392, attributes := #[] }, { accessFlags := 25, nameIndex := 499, descriptorIndex := 392, attributes := #[] }, { accessFlags := 18, nameIndex := 21, descriptorIndex := 22, attributes := #[] }, { accessFlags := 26, nameIndex := 501, descriptorIndex := 502, attributes := #[] }, { accessFlags := 25, nameIndex := 505, descriptorIndex := 392, attributes := #[] }, { accessFlags := 25, nameIndex := 506, descriptorIndex := 392, attributes := #[] }, { accessFlags := 4120, nameIndex := 284, descriptorIndex := 285, attributes := #[] }])
  fields := #[{ name := "MIN_RADIX", type := .int, accessFlags := 25, slot := 0, constantValue := 0 }, { name := "MAX_RADIX", type := .int, accessFlags := 25, slot := 1, constantValue := 0 }, { name := "MIN_VALUE", type := .char, accessFlags := 25, slot := 2, constantValue := 0 }, { name := "MAX_VALUE", type := .char, accessFlags := 25, slot := 3, constantValue := 0 }, { name := "TYPE", type := (.object "java/lang/Class"), accessFlags := 25, slot := 4, constantValue := 0 }, { name := "UNASSIGNED", type := .byte, accessFlags := 25, slot := 5, constantValue := 0 }, { name := "UPPERCASE_LETTER", type := .byte, accessFlags := 25, slot := 6, constantValue := 0 }, { name := "LOWERCASE_LETTER", type := .byte, accessFlags := 25, slot := 7, constantValue := 0 }, { name := "TITLECASE_LETTER", type := .byte, accessFlags := 25, slot := 8, constantValue := 0 }, { name := "MODIFIER_LETTER", type := .byte, accessFlags := 25, slot := 9, constantValue := 0 }, { name := "OTHER_LETTER", type := .byte, accessFlags := 25, slot := 10, constantValue := 0 }, { name := "NON_SPACING_MARK", type := .byte, accessFlags := 25, slot := 11, constantValue := 0 }, { name := "ENCLOSING_MARK", type := .byte, accessFlags := 25, slot := 12, constantValue := 0 }, { name := "COMBINING_SPACING_MARK", type := .byte, accessFlags := 25, slot := 13, constantValue := 0 }, { name := "DECIMAL_DIGIT_NUMBER", type := .byte, accessFlags := 25, slot := 14, constantValue := 0 }, { name := "LETTER_NUMBER", type := .byte, accessFlags := 25, slot := 15, constantValue := 0 }, { name := "OTHER_NUMBER", type := .byte, accessFlags := 25, slot := 16, constantValue := 0 }, { name := "SPACE_SEPARATOR", type := .byte, accessFlags := 25, slot := 17, constantValue := 0 }, { name := "LINE_SEPARATOR", type := .byte, accessFlags := 25, slot := 18, constantValue := 0 }, { name := "PARAGRAPH_SEPARATOR", type := .byte, accessFlags := 25, slot := 19, constantValue := 0 }, { name := "CONTROL", type := .byte, accessFlags := 25, slot := 20, constantValue := 0 }, { name := "FORMAT", type := .byte, accessFlags := 25, slot := 21, constantValue := 0 }, { name := "PRIVATE_USE", type := .byte, accessFlags := 25, slot := 22, constantValue := 0 }, { name := "SURROGATE", type := .byte, accessFlags := 25, slot := 23, constantValue := 0 }, { name := "DASH_PUNCTUATION", type := .byte, accessFlags := 25, slot := 24, constantValue := 0 }, { name := "START_PUNCTUATION", type := .byte, accessFlags := 25, slot := 25, constantValue := 0 }, { name := "END_PUNCTUATION", type := .byte, accessFlags := 25, slot := 26, constantValue := 0 }, { name := "CONNECTOR_PUNCTUATION", type := .byte, accessFlags := 25, slot := 27, constantValue := 0 }, { name := "OTHER_PUNCTUATION", type := .byte, accessFlags := 25, slot := 28, constantValue := 0 }, { name := "MATH_SYMBOL", type := .byte, accessFlags := 25, slot := 29, constantValue := 0 }, { name := "CURRENCY_SYMBOL", type := .byte, accessFlags := 25, slot := 30, constantValue := 0 }, { name := "MODIFIER_SYMBOL", type := .byte, accessFlags := 25, slot := 31, constantValue := 0 }, { name := "OTHER_SYMBOL", type := .byte, accessFlags := 25, slot := 32, constantValue := 0 }, { name := "INITIAL_QUOTE_PUNCTUATION", type := .byte, accessFlags := 25, slot := 33, constantValue := 0 }, { name := "FINAL_QUOTE_PUNCTUATION", type := .byte, accessFlags := 25, slot := 34, constantValue := 0 }, { name := "ERROR", type := .int, accessFlags := 24, slot := 35, constantValue := 0 }, { name := "DIRECTIONALITY_UNDEFINED", type := .byte, accessFlags := 25, slot := 36, constantValue := 0 }, { name := "DIRECTIONALITY_LEFT_TO_RIGHT", type := .byte, accessFlags := 25, slot := 37, constantValue := 0 }, { name := "DIRECTIONALITY_RIGHT_TO_LEFT", type := .byte, accessFlags := 25, slot := 38, constantValue := 0 }, { name := "DIRECTIONALITY_RIGHT_TO_LEFT_ARABIC", type := .byte, accessFlags := 25, slot := 39, constantValue := 0 }, { name := "DIRECTIONALITY_EUROPEAN_NUMBER", type := .byte, accessFlags := 25, slot := 40, constantValue := 0 }, { name := "DIRECTIONALITY_EUROPEAN_NUMBER_SEPARATOR", type := .byte, accessFlags := 25, slot := 41, constantValue := 0 }, { name := "DIRECTIONALITY_EUROPEAN_NUMBER_TERMINATOR", type := .byte, accessFlags := 25, slot := 42, constantValue := 0 }, { name := "DIRECTIONALITY_ARABIC_NUMBER", type := .byte, accessFlags := 25, slot := 43, constantValue := 0 }, { name := "DIRECTIONALITY_COMMON_NUMBER_SEPARATOR", type := .byte, accessFlags := 25, slot := 44, constantValue := 0 }, { name := "DIRECTIONALITY_NONSPACING_MARK", type := .byte, accessFlags := 25, slot := 45, constantValue := 0 }, { name := "DIRECTIONALITY_BOUNDARY_NEUTRAL", type := .byte, accessFlags := 25, slot := 46, constantValue := 0 }, { name := "DIRECTIONALITY_PARAGRAPH_SEPARATOR", type := .byte, accessFlags := 25, slot := 47, constantValue := 0 }, { name := "DIRECTIONALITY_SEGMENT_SEPARATOR", type := .byte, accessFlags := 25, slot := 48, constantValue := 0 }, { name := "DIRECTIONALITY_WHITESPACE", type := .byte, accessFlags := 25, slot := 49, constantValue := 0 }, { name := "DIRECTIONALITY_OTHER_NEUTRALS", type := .byte, accessFlags := 25, slot := 50, constantValue := 0 }, { name := "DIRECTIONALITY_LEFT_TO_RIGHT_EMBEDDING", type := .byte, accessFlags := 25, slot := 51, constantValue := 0 }, { name := "DIRECTIONALITY_LEFT_TO_RIGHT_OVERRIDE", type := .byte, accessFlags := 25, slot := 52, constantValue := 0 }, { name := "DIRECTIONALITY_RIGHT_TO_LEFT_EMBEDDING", type := .byte, accessFlags := 25, slot := 53, constantValue := 0 }, { name := "DIRECTIONALITY_RIGHT_TO_LEFT_OVERRIDE", type := .byte, accessFlags := 25, slot := 54, constantValue := 0 }, { name := "DIRECTIONALITY_POP_DIRECTIONAL_FORMAT", type := .byte, accessFlags := 25, slot := 55, constantValue := 0 }, { name := "DIRECTIONALITY_LEFT_TO_RIGHT_ISOLATE", type := .byte, accessFlags := 25, slot := 56, constantValue := 0 }, { name := "DIRECTIONALITY_RIGHT_TO_LEFT_ISOLATE", type := .byte, accessFlags := 25, slot := 57, constantValue := 0 }, { name := "DIRECTIONALITY_FIRST_STRONG_ISOLATE", type := .byte, accessFlags := 25, slot := 58, constantValue := 0 }, { name := "DIRECTIONALITY_POP_DIRECTIONAL_ISOLATE", type := .byte, accessFlags := 25, slot := 59, constantValue := 0 }, { name := "MIN_HIGH_SURROGATE", type := .char, accessFlags := 25, slot := 60, constantValue := 0 }, { name := "MAX_HIGH_SURROGATE", type := .char, accessFlags := 25, slot := 61, constantValue := 0 }, { name := "MIN_LOW_SURROGATE", type := .char, accessFlags := 25, slot := 62, constantValue := 0 }, { name := "MAX_LOW_SURROGATE", type := .char, accessFlags := 25, slot := 63, constantValue := 0 }, { name := "MIN_SURROGATE", type := .char, accessFlags := 25, slot := 64, constantValue := 0 }, { name := "MAX_SURROGATE", type := .char, accessFlags := 25, slot := 65, constantValue := 0 }, { name := "MIN_SUPPLEMENTARY_CODE_POINT", type := .int, accessFlags := 25, slot := 66, constantValue := 0 }, { name := "MIN_CODE_POINT", type := .int, accessFlags := 25, slot := 67, constantValue := 0 }, { name := "MAX_CODE_POINT", type := .int, accessFlags := 25, slot := 68, constantValue := 0 }, { name := "value", type := .char, accessFlags := 18, slot := 0, constantValue := 0 }, { name := "serialVersionUID", type := .long, accessFlags := 26, slot := 69, constantValue := 0 }, { name := "SIZE", type := .int, accessFlags := 25, slot := 70, constantValue := 0 }, { name := "BYTES", type := .int, accessFlags := 25, slot := 71, constantValue := 0 }, { name := "$assertionsDisabled", type := .boolean, accessFlags := 4120, slot := 72, constantValue := 0 }]
  methods := #[k12m0, k12m1]
  instanceTypes := #[.char]
  staticTypes := #[.int, .int, .char, .char, (.object "java/lang/Class"), .byte, .byte, .byte, .byte, .byte, .byte, .byte, .byte, .byte, .byte, .byte, .byte, .byte, .byte, .byte, .byte, .byte, .byte, .byte, .byte, .byte, .byte, .byte, .byte, .byte, .byte, .byte, .byte, .byte, .byte, .int, .byte, .byte, .byte, .byte, .byte, .byte, .byte, .byte, .byte, .byte, .byte, .byte, .byte, .byte, .byte, .byte, .byte, .byte, .byte, .byte, .byte, .byte, .byte, .byte, .char, .char, .char, .char, .char, .char, .int, .int, .int, .long, .int, .int, .boolean]
  resolved := Array.replicate 604 none
  statics := none }

def pool13 : Array CpInfo := pool [(9, u "<init>"), (6, .class_ 18), (1, u "java/lang/Object"), (0, u "()V"), (1, .class_ 23), (1, u "jdk/internal/util/ArraysSupport"), (0, u "LOG2_ARRAY_LONG_INDEX_SCALE"), (0, u "I"), (2, u "U"), (0, u "Ljdk/internal/misc/Unsafe;"), (8, u "BIG_ENDIAN"), (0, u "Z"), (8, u "LOG2_BYTE_BIT_SIZE"), (4, u "LOG2_ARRAY_INT_INDEX_SCALE"), (54, u "JLA"), (0, u "Ljdk/internal/access/JavaLangAccess;"), (11, u "LOG2_ARRAY_BOOLEAN_INDEX_SCALE"), (9, u "LOG2_ARRAY_BYTE_INDEX_SCALE"), (5, u "LOG2_ARRAY_CHAR_INDEX_SCALE"), (5, u "LOG2_ARRAY_SHORT_INDEX_SCALE"), (18, u "LOG2_ARRAY_FLOAT_INDEX_SCALE"), (24, u "LOG2_ARRAY_DOUBLE_INDEX_SCALE"), (89, u "T_BOOLEAN"), (2, u "T_CHAR"), (1, u "T_FLOAT"), (1, u "T_DOUBLE"), (1, u "T_BYTE"), (1, u "T_SHORT"), (1, u "T_INT"), (1, u "T_LONG"), (1, u "SOFT_MAX_ARRAY_LENGTH")] 83

def k13m0 : Method := { name := "<init>", desc := "()V", sig := { parameters := [], returnType := none }, accessFlags := 2, code := none }
/-- jdk/internal/util/ArraysSupport -/
def k13 : Class := { plain "jdk/internal/util/ArraysSupport" (some 0) with
  accessFlags := 33
  interfaces := #[]
  cf := some (fileOf pool13 21 #[] #[{ accessFlags := 2, nameIndex := 9, descriptorIndex := 19, attributes := #[] }] 33 16 #[] #[{ accessFlags := 24, nameIndex := 28, descriptorIndex := 29, attributes := #[] }, { accessFlags := 26, nameIndex := 38, descriptorIndex := 39, attributes := #[] }, { accessFlags := 25, nameIndex := 121, descriptorIndex := 25, attributes := #[] }, { accessFlags := 25, nameIndex := 131, descriptorIndex := 25, attributes := #[] }, { accessFlags := 25, nameIndex := 137, descriptorIndex := 25, attributes := #[] }, { accessFlags := 25, nameIndex := 143, descriptorIndex := 25, attributes := #[] }, { accessFlags := 25, nameIndex := 53, descriptorIndex := 25, attributes := #[] }, { accessFlags := 25, nameIndex := 24, descriptorIndex := 25, attributes := #[] }, { accessFlags := 25, nameIndex := 162, descriptorIndex := 25, attributes := #[] }, { accessFlags := 25, nameIndex := 187, descriptorIndex := 25, attributes := #[] }, { accessFlags := 26, nameIndex := 48, descriptorIndex := 25, attributes := #[] }, { accessFlags := 25, nameIndex := 277, descriptorIndex := 25, attributes := #[] }, { accessFlags := 25, nameIndex := 280, descriptorIndex := 25, attributes := #[] }, { accessFlags := 25, nameIndex := 282, descriptorIndex := 25, attributes := #[] }, { accessFlags := 25, nameIndex := 284, descriptorIndex := 25, attributes := #[] }, { accessFlags := 25, nameIndex := 286, descriptorIndex := 25, attributes := #[] }, { accessFlags := 25, nameIndex := 288, descriptorIndex := 25, attributes := #[] }, { accessFlags := 25, nameIndex := 290, descriptorIndex := 25, attributes := #[] }, { accessFlags := 25, nameIndex := 292, descriptorIndex := 25, attributes := #[] }, { accessFlags := 26, nameIndex := 108, descriptorIndex := 109, attributes := #[] }, { accessFlags := 25, nameIndex := 294, descriptorIndex := 25, attributes := #[] }])
  fields := #[{ name := "U", type := (.object "jdk/internal/misc/Unsafe"), accessFlags := 24, slot := 0, constantValue := 0 }, { name := "BIG_ENDIAN", type := .boolean, accessFlags := 26, slot := 1, constantValue := 0 }, { name := "LOG2_ARRAY_BOOLEAN_INDEX_SCALE", type := .int, accessFlags := 25, slot := 2, constantValue := 0 }, { name := "LOG2_ARRAY_BYTE_INDEX_SCALE", type := .int, accessFlags := 25, slot := 3, constantValue := 0 }, { name := "LOG2_ARRAY_CHAR_INDEX_SCALE", type := .int, accessFlags := 25, slot := 4, constantValue := 0 }, { name := "LOG2_ARRAY_SHORT_INDEX_SCALE", type := .int, accessFlags := 25, slot := 5, constantValue := 0 }, { name := "LOG2_ARRAY_INT_INDEX_SCALE", type := .int, accessFlags := 25, slot := 6, constantValue := 0 }, { name := "LOG2_ARRAY_LONG_INDEX_SCALE", type := .int, accessFlags := 25, slot := 7, constantValue := 0 }, { name := "LOG2_ARRAY_FLOAT_INDEX_SCALE", type := .int, accessFlags := 25, slot := 8, constantValue := 0 }, { name := "LOG2_ARRAY_DOUBLE_INDEX_SCALE", type := .int, accessFlags := 25, slot := 9, constantValue := 0 }, { name := "LOG2_BYTE_BIT_SIZE", type := .int, accessFlags := 26, slot := 10, constantValue := 0 }, { name := "T_BOOLEAN", type := .int, accessFlags := 25, slot := 11, constantValue := 0 }, { name := "T_CHAR", type := .int, accessFlags := 25, slot := 12, constantValue := 0 }, { name := "T_FLOAT", type := .int, accessFlags := 25, slot := 13, constantValue := 0 }, { name := "T_DOUBLE", type := .int, accessFlags := 25, slot := 14, constantValue := 0 }, { name := "T_BYTE", type := .int, accessFlags := 25, slot := 15, constantValue := 0 }, { name := "T_SHORT", type := .int, accessFlags := 25, slot := 16, constantValue := 0 }, { name := "T_INT", type := .int, accessFlags := 25, slot := 17, constantValue := 0 }, { name := "T_LONG", type := .int, accessFlags := 25, slot := 18, constantValue := 0 }, { name := "JLA", type := (.object "jdk/internal/access/JavaLangAccess"), accessFlags := 26, slot := 19, constantValue := 0 }, { name := "SOFT_MAX_ARRAY_LENGTH", type := .int, accessFlags := 25, slot := 20, constantValue := 0 }]
  methods := #[k13m0]
  instanceTypes := #[]
  staticTypes := #[(.object "jdk/internal/misc/Unsafe"), .boolean, .int, .int, .int, .int, .int, .int, .int, .int, .int, .int, .int, .int, .int, .int, .int, .int, .int, (.object "jdk/internal/access/JavaLangAccess"), .int]
  resolved := Array.replicate 378 none
  statics := none }

def pool14 : Array CpInfo := pool [(1, u "java/lang/Cloneable"), (0, .class_ 1), (0, u "java/lang/Object"), (0, .class_ 3)] 3

/-- java/lang/Cloneable -/
def k14 : Class := { plain "java/lang/Cloneable" (some 0) with
  accessFlags := 1537
  interfaces := #[]
  cf := some (fileOf pool14 2 #[] #[] 1537 4 #[] #[])
  fields := #[]
  methods := #[]
  instanceTypes := #[]
  staticTypes := #[]
  resolved := Array.replicate 8 none
  statics := none }

/-- the primitive byte -/
def k15 : Class := { plain "byte" none with kind := .primitive 'B', accessFlags := 0x411 }
/-- [B -/
def k16 : Class := { plain "[B" (some 0) with kind := .array 15 .byte, interfaces := #[14, 2], accessFlags := 1041 }

/-- the primitive char -/
def k17 : Class := { plain "char" none with kind := .primitive 'C', accessFlags := 0x411 }
/-- [C -/
def k18 : Class := { plain "[C" (some 0) with kind := .array 17 .char, interfaces := #[14, 2], accessFlags := 1041 }

/-- the primitive int -/
def k19 : Class := { plain "int" none with kind := .primitive 'I', accessFlags := 0x411 }
/-- [I -/
def k20 : Class := { plain "[I" (some 0) with kind := .array 19 .int, interfaces := #[14, 2], accessFlags := 1041 }

def heap : Heap := #[{ cls := 7, slots := #[.long 0, .int 1, .null, .int 0, .null, .int 0, .int 0], vm := .statics 7 },
  { cls := 8, slots := #[.int 0, .int 8, .int 0, .int 1], vm := .statics 8 },
  { cls := 11, slots := #[.null, .null, .null], vm := .statics 11 }]
def classes : Array Class := #[k0, k1, k2, k3, k4, k5, k6, k7, k8, k9, k10, k11, k12, k13, k14, k15, k16, k17, k18, k19, k20]
def interned : List (Array UInt16 × Addr) := []
def slotsUsed : Nat := 14
def theMethod : MethodId := ⟨1, 1⟩
def args0 : Array Value := #[.int 5, .int 5, .int 5]
def aboutOver (below : List Frame) : State where
  vm := { classes := classes, interned := interned.toArray }
  heap := heap
  slotsUsed := slotsUsed
  threads := #[{ frames := .invoking theMethod args0 :: below }]
def below0 : List Frame := [.native { method := ⟨0, 0⟩, args := #[] }]
def about1 : State := aboutOver below0
def p0 : Program := .bare "" "" ""
def e0 : Env := launch0.env 0 0 0
theorem w_frames : about1.frames = Frame.invoking theMethod args0 :: below0 := rfl
set_option maxRecDepth 65536 in
theorem w_args : argsFit about1.vm theMethod args0 = true := by decide +kernel
set_option maxRecDepth 65536 in
theorem w_heap : heapFits about1 = true := by decide +kernel
set_option maxRecDepth 65536 in
theorem w_runnable : about1.curStatus? = some .runnable := by decide +kernel
set_option maxRecDepth 65536 in
theorem w_alone : about1.alone = true := by decide +kernel
set_option maxRecDepth 65536 in
theorem w_named : about1.methodNamed? x = some theMethod := by decide +kernel
set_option maxRecDepth 65536 in
theorem w_hears : about1.hears theMethod below0 = true := by decide +kernel
set_option maxRecDepth 65536 in
theorem w_ripe : about1.ripe theMethod args0 below0 = true := by decide +kernel
theorem w_running : about1.status = .running := rfl
set_option maxRecDepth 65536 in
theorem w_room : about1.hasRoom e0.platform room_1 = true :=
  launch0.hasRoom_least _ room_1 (by decide +kernel) (by decide +kernel) (by decide +kernel) (by decide +kernel) (by decide +kernel) (by decide +kernel)
theorem allAtoms_all (ts : List Jvm.Cond) (a : Array Jvm.Value) (st : Jvm.State) : (allAtoms ts).before a st = ts.all (fun c => c.before a st) := by
  induction ts with
  | nil => rfl
  | cons c t ih =>
    show (Jvm.Cond.and c (allAtoms t)).before a st = _
    rw [Jvm.Cond.before_and, ih, List.all_cons]
def words1 : List Jvm.Cond := Jvm.Cond.code x code maxLocals ret :: tables_1
/-- a 'code' word, met by the world's own term for the bytes: nothing is compared byte by byte -/
theorem code_word {y : MethodName} {bytes : ByteArray} {mx : Nat} {rt : Option FieldType} {a : Array Value} {s : State} {m : MethodId} {meth : Method} {c : Code} (h1 : s.methodNamed? y = some m) (h2 : s.vm.method? m = some meth) (h3 : meth.code = some c) (h4 : c.code = bytes)
    (h5 : (c.maxLocals == mx && c.exceptionTable.isEmpty && decide (c.maxStack ≤ mostOperands) && decide (meth.sig.returnType = rt) && !meth.locks && decide (parseMethodDescriptor y.desc = some meth.sig)) = true) : (Jvm.Cond.code y bytes mx rt).before a s = true := by
  simp only [Bool.and_eq_true, beq_iff_eq, Bool.not_eq_true', decide_eq_true_eq] at h5
  obtain ⟨⟨⟨⟨⟨g1, g2⟩, g3⟩, g4⟩, g5⟩, g6⟩ := h5
  simp [Cond.before, Cond.holds, Cond.value, h1, h2, h3, h4, g1, g2, g3, g4, g5, g6]
def isCode : Jvm.Cond → Bool
  | .code _ _ _ _ => true
  | _ => false
theorem all_split {L : List Jvm.Cond} {P : Jvm.Cond → Bool} (h1 : L.all (fun c => isCode c || P c) = true) (h2 : ∀ c ∈ L.filter isCode, P c = true) : L.all P = true := by
  refine List.all_eq_true.mpr fun c hc => ?_
  have h := List.all_eq_true.mp h1 c hc
  rcases Bool.eq_false_or_eq_true (isCode c) with hi | hi
  · exact h2 c (List.mem_filter.mpr ⟨hc, hi⟩)
  · simpa [hi] using h
set_option maxRecDepth 65536 in
theorem w_c0 : (Jvm.Cond.code x code maxLocals ret).before args0 about1 = true := code_word (m := ⟨1, 1⟩) (meth := k1m1) (c := k1c1) (by decide +kernel) rfl rfl rfl (by decide +kernel)
set_option maxRecDepth 65536 in
theorem w_c1 : (Jvm.Cond.code ({ cls := "com/example/entitl/entitl/NamesPrintablePinLaw", name := "bad", desc := "(C)Z" } : Jvm.MethodName) method_3_code (2 : Nat) (Option.some Jvm.ClassFile.FieldType.boolean)).before args0 about1 = true := code_word (m := ⟨1, 2⟩) (meth := k1m2) (c := k1c2) (by decide +kernel) rfl rfl rfl (by decide +kernel)
set_option maxRecDepth 65536 in
theorem w_c2 : (Jvm.Cond.code ({ cls := "java/lang/String", name := "<init>", desc := "([C)V" } : Jvm.MethodName) jdk_42_method_3_code (2 : Nat) (Option.none : Option Jvm.ClassFile.FieldType)).before args0 about1 = true := code_word (m := ⟨7, 1⟩) (meth := k7m1) (c := k7c1) (by decide +kernel) rfl rfl rfl (by decide +kernel)
set_option maxRecDepth 65536 in
theorem w_c3 : (Jvm.Cond.code ({ cls := "java/lang/String", name := "<init>", desc := "([CIILjava/lang/Void;)V" } : Jvm.MethodName) jdk_42_method_149_code (6 : Nat) (Option.none : Option Jvm.ClassFile.FieldType)).before args0 about1 = true := code_word (m := ⟨7, 4⟩) (meth := k7m4) (c := k7c4) (by decide +kernel) rfl rfl rfl (by decide +kernel)
set_option maxRecDepth 65536 in
theorem w_c4 : (Jvm.Cond.code ({ cls := "java/lang/Object", name := "<init>", desc := "()V" } : Jvm.MethodName) object_method_1_code (1 : Nat) (Option.none : Option Jvm.ClassFile.FieldType)).before args0 about1 = true := code_word (m := ⟨0, 0⟩) (meth := k0m0) (c := k0c0) (by decide +kernel) rfl rfl rfl (by decide +kernel)
set_option maxRecDepth 65536 in
theorem w_c5 : (Jvm.Cond.code ({ cls := "java/lang/StringUTF16", name := "compress", desc := "([CII)[B" } : Jvm.MethodName) jdk_52_method_16_code (6 : Nat) (Option.some (Jvm.ClassFile.FieldType.array Jvm.ClassFile.FieldType.byte))).before args0 about1 = true := code_word (m := ⟨8, 8⟩) (meth := k8m8) (c := k8c8) (by decide +kernel) rfl rfl rfl (by decide +kernel)
set_option maxRecDepth 65536 in
theorem w_c6 : (Jvm.Cond.code ({ cls := "java/lang/StringUTF16", name := "compress", desc := "([CI[BII)I" } : Jvm.MethodName) jdk_52_method_21_code (7 : Nat) (Option.some Jvm.ClassFile.FieldType.int)).before args0 about1 = true := code_word (m := ⟨8, 9⟩) (meth := k8m9) (c := k8c9) (by decide +kernel) rfl rfl rfl (by decide +kernel)
set_option maxRecDepth 65536 in
theorem w_c7 : (Jvm.Cond.code ({ cls := "java/lang/StringUTF16", name := "coderFromArrayLen", desc := "([BI)B" } : Jvm.MethodName) jdk_52_method_15_code (2 : Nat) (Option.some Jvm.ClassFile.FieldType.byte)).before args0 about1 = true := code_word (m := ⟨8, 7⟩) (meth := k8m7) (c := k8c7) (by decide +kernel) rfl rfl rfl (by decide +kernel)
set_option maxRecDepth 65536 in
theorem w_c8 : (Jvm.Cond.code ({ cls := "com/example/entitl/entitl/Names", name := "printable", desc := "(Ljava/lang/String;)Z" } : Jvm.MethodName) prog_10_method_2_code (1 : Nat) (Option.some Jvm.ClassFile.FieldType.boolean)).before args0 about1 = true := code_word (m := ⟨9, 1⟩) (meth := k9m1) (c := k9c1) (by decide +kernel) rfl rfl rfl (by decide +kernel)
set_option maxRecDepth 65536 in
theorem w_c9 : (Jvm.Cond.code ({ cls := "com/example/entitl/entitl/Names", name := "unprintableAt", desc := "(Ljava/lang/String;)I" } : Jvm.MethodName) prog_10_method_5_code (3 : Nat) (Option.some Jvm.ClassFile.FieldType.int)).before args0 about1 = true := code_word (m := ⟨9, 2⟩) (meth := k9m2) (c := k9c2) (by decide +kernel) rfl rfl rfl (by decide +kernel)
set_option maxRecDepth 65536 in
theorem w_c10 : (Jvm.Cond.code ({ cls := "java/lang/String", name := "length", desc := "()I" } : Jvm.MethodName) jdk_42_method_54_code (1 : Nat) (Option.some Jvm.ClassFile.FieldType.int)).before args0 about1 = true := code_word (m := ⟨7, 2⟩) (meth := k7m2) (c := k7c2) (by decide +kernel) rfl rfl rfl (by decide +kernel)
set_option maxRecDepth 65536 in
theorem w_c11 : (Jvm.Cond.code ({ cls := "java/lang/String", name := "coder", desc := "()B" } : Jvm.MethodName) jdk_42_method_152_code (1 : Nat) (Option.some Jvm.ClassFile.FieldType.byte)).before args0 about1 = true := code_word (m := ⟨7, 5⟩) (meth := k7m5) (c := k7c5) (by decide +kernel) rfl rfl rfl (by decide +kernel)
set_option maxRecDepth 65536 in
theorem w_c12 : (Jvm.Cond.code ({ cls := "java/lang/String", name := "charAt", desc := "(I)C" } : Jvm.MethodName) jdk_42_method_56_code (2 : Nat) (Option.some Jvm.ClassFile.FieldType.char)).before args0 about1 = true := code_word (m := ⟨7, 3⟩) (meth := k7m3) (c := k7c3) (by decide +kernel) rfl rfl rfl (by decide +kernel)
set_option maxRecDepth 65536 in
theorem w_c13 : (Jvm.Cond.code ({ cls := "java/lang/String", name := "isLatin1", desc := "()Z" } : Jvm.MethodName) jdk_42_method_154_code (1 : Nat) (Option.some Jvm.ClassFile.FieldType.boolean)).before args0 about1 = true := code_word (m := ⟨7, 6⟩) (meth := k7m6) (c := k7c6) (by decide +kernel) rfl rfl rfl (by decide +kernel)
set_option maxRecDepth 65536 in
theorem w_c14 : (Jvm.Cond.code ({ cls := "java/lang/StringLatin1", name := "charAt", desc := "([BI)C" } : Jvm.MethodName) jdk_43_method_2_code (2 : Nat) (Option.some Jvm.ClassFile.FieldType.char)).before args0 about1 = true := code_word (m := ⟨10, 1⟩) (meth := k10m1) (c := k10c1) (by decide +kernel) rfl rfl rfl (by decide +kernel)
set_option maxRecDepth 65536 in
theorem w_c15 : (Jvm.Cond.code ({ cls := "java/lang/String", name := "checkIndex", desc := "(II)V" } : Jvm.MethodName) jdk_42_method_155_code (2 : Nat) (Option.none : Option Jvm.ClassFile.FieldType)).before args0 about1 = true := code_word (m := ⟨7, 7⟩) (meth := k7m7) (c := k7c7) (by decide +kernel) rfl rfl rfl (by decide +kernel)
set_option maxRecDepth 65536 in
theorem w_c16 : (Jvm.Cond.code ({ cls := "jdk/internal/util/Preconditions", name := "checkIndex", desc := "(IILjava/util/function/BiFunction;)I" } : Jvm.MethodName) jdk_41_method_11_code (3 : Nat) (Option.some Jvm.ClassFile.FieldType.int)).before args0 about1 = true := code_word (m := ⟨11, 1⟩) (meth := k11m1) (c := k11c1) (by decide +kernel) rfl rfl rfl (by decide +kernel)
set_option maxRecDepth 65536 in
theorem w_c17 : (Jvm.Cond.code ({ cls := "java/lang/Character", name := "isISOControl", desc := "(C)Z" } : Jvm.MethodName) jdk_89_method_88_code (1 : Nat) (Option.some Jvm.ClassFile.FieldType.boolean)).before args0 about1 = true := code_word (m := ⟨12, 0⟩) (meth := k12m0) (c := k12c0) (by decide +kernel) rfl rfl rfl (by decide +kernel)
set_option maxRecDepth 65536 in
theorem w_c18 : (Jvm.Cond.code ({ cls := "java/lang/Character", name := "isISOControl", desc := "(I)Z" } : Jvm.MethodName) jdk_89_method_89_code (1 : Nat) (Option.some Jvm.ClassFile.FieldType.boolean)).before args0 about1 = true := code_word (m := ⟨12, 1⟩) (meth := k12m1) (c := k12c1) (by decide +kernel) rfl rfl rfl (by decide +kernel)
set_option maxRecDepth 65536 in
theorem w_c19 : (Jvm.Cond.code ({ cls := "java/lang/StringUTF16", name := "toBytes", desc := "([CII)[B" } : Jvm.MethodName) jdk_52_method_14_code (5 : Nat) (Option.some (Jvm.ClassFile.FieldType.array Jvm.ClassFile.FieldType.byte))).before args0 about1 = true := code_word (m := ⟨8, 6⟩) (meth := k8m6) (c := k8c6) (by decide +kernel) rfl rfl rfl (by decide +kernel)
set_option maxRecDepth 65536 in
theorem w_c20 : (Jvm.Cond.code ({ cls := "java/lang/StringUTF16", name := "newBytesFor", desc := "(I)[B" } : Jvm.MethodName) jdk_52_method_2_code (1 : Nat) (Option.some (Jvm.ClassFile.FieldType.array Jvm.ClassFile.FieldType.byte))).before args0 about1 = true := code_word (m := ⟨8, 1⟩) (meth := k8m1) (c := k8c1) (by decide +kernel) rfl rfl rfl (by decide +kernel)
set_option maxRecDepth 65536 in
theorem w_c21 : (Jvm.Cond.code ({ cls := "java/lang/StringUTF16", name := "newBytesLength", desc := "(I)I" } : Jvm.MethodName) jdk_52_method_3_code (1 : Nat) (Option.some Jvm.ClassFile.FieldType.int)).before args0 about1 = true := code_word (m := ⟨8, 2⟩) (meth := k8m2) (c := k8c2) (by decide +kernel) rfl rfl rfl (by decide +kernel)
set_option maxRecDepth 65536 in
theorem w_c22 : (Jvm.Cond.code ({ cls := "java/lang/StringUTF16", name := "putChar", desc := "([BII)V" } : Jvm.MethodName) jdk_52_method_4_code (3 : Nat) (Option.none : Option Jvm.ClassFile.FieldType)).before args0 about1 = true := code_word (m := ⟨8, 3⟩) (meth := k8m3) (c := k8c3) (by decide +kernel) rfl rfl rfl (by decide +kernel)
set_option maxRecDepth 65536 in
theorem w_c23 : (Jvm.Cond.code ({ cls := "java/lang/StringUTF16", name := "getChar", desc := "([BI)C" } : Jvm.MethodName) jdk_52_method_5_code (2 : Nat) (Option.some Jvm.ClassFile.FieldType.char)).before args0 about1 = true := code_word (m := ⟨8, 4⟩) (meth := k8m4) (c := k8c4) (by decide +kernel) rfl rfl rfl (by decide +kernel)
set_option maxRecDepth 65536 in
theorem w_c24 : (Jvm.Cond.code ({ cls := "java/lang/StringUTF16", name := "charAt", desc := "([BI)C" } : Jvm.MethodName) jdk_52_method_83_code (2 : Nat) (Option.some Jvm.ClassFile.FieldType.char)).before args0 about1 = true := code_word (m := ⟨8, 10⟩) (meth := k8m10) (c := k8c10) (by decide +kernel) rfl rfl rfl (by decide +kernel)
set_option maxRecDepth 65536 in
theorem w_c25 : (Jvm.Cond.code ({ cls := "java/lang/StringUTF16", name := "checkIndex", desc := "(I[B)V" } : Jvm.MethodName) jdk_52_method_91_code (2 : Nat) (Option.none : Option Jvm.ClassFile.FieldType)).before args0 about1 = true := code_word (m := ⟨8, 11⟩) (meth := k8m11) (c := k8c11) (by decide +kernel) rfl rfl rfl (by decide +kernel)
set_option maxRecDepth 65536 in
theorem w_c26 : (Jvm.Cond.code ({ cls := "java/lang/StringUTF16", name := "length", desc := "([B)I" } : Jvm.MethodName) jdk_52_method_6_code (1 : Nat) (Option.some Jvm.ClassFile.FieldType.int)).before args0 about1 = true := code_word (m := ⟨8, 5⟩) (meth := k8m5) (c := k8c5) (by decide +kernel) rfl rfl rfl (by decide +kernel)
def codes1 : List Jvm.Cond := [Jvm.Cond.code x code maxLocals ret, Jvm.Cond.code ({ cls := "com/example/entitl/entitl/NamesPrintablePinLaw", name := "bad", desc := "(C)Z" } : Jvm.MethodName) method_3_code (2 : Nat) (Option.some Jvm.ClassFile.FieldType.boolean), Jvm.Cond.code ({ cls := "java/lang/String", name := "<init>", desc := "([C)V" } : Jvm.MethodName) jdk_42_method_3_code (2 : Nat) (Option.none : Option Jvm.ClassFile.FieldType), Jvm.Cond.code ({ cls := "java/lang/String", name := "<init>", desc := "([CIILjava/lang/Void;)V" } : Jvm.MethodName) jdk_42_method_149_code (6 : Nat) (Option.none : Option Jvm.ClassFile.FieldType), Jvm.Cond.code ({ cls := "java/lang/Object", name := "<init>", desc := "()V" } : Jvm.MethodName) object_method_1_code (1 : Nat) (Option.none : Option Jvm.ClassFile.FieldType), Jvm.Cond.code ({ cls := "java/lang/StringUTF16", name := "compress", desc := "([CII)[B" } : Jvm.MethodName) jdk_52_method_16_code (6 : Nat) (Option.some (Jvm.ClassFile.FieldType.array Jvm.ClassFile.FieldType.byte)), Jvm.Cond.code ({ cls := "java/lang/StringUTF16", name := "compress", desc := "([CI[BII)I" } : Jvm.MethodName) jdk_52_method_21_code (7 : Nat) (Option.some Jvm.ClassFile.FieldType.int), Jvm.Cond.code ({ cls := "java/lang/StringUTF16", name := "coderFromArrayLen", desc := "([BI)B" } : Jvm.MethodName) jdk_52_method_15_code (2 : Nat) (Option.some Jvm.ClassFile.FieldType.byte), Jvm.Cond.code ({ cls := "com/example/entitl/entitl/Names", name := "printable", desc := "(Ljava/lang/String;)Z" } : Jvm.MethodName) prog_10_method_2_code (1 : Nat) (Option.some Jvm.ClassFile.FieldType.boolean), Jvm.Cond.code ({ cls := "com/example/entitl/entitl/Names", name := "unprintableAt", desc := "(Ljava/lang/String;)I" } : Jvm.MethodName) prog_10_method_5_code (3 : Nat) (Option.some Jvm.ClassFile.FieldType.int), Jvm.Cond.code ({ cls := "java/lang/String", name := "length", desc := "()I" } : Jvm.MethodName) jdk_42_method_54_code (1 : Nat) (Option.some Jvm.ClassFile.FieldType.int), Jvm.Cond.code ({ cls := "java/lang/String", name := "coder", desc := "()B" } : Jvm.MethodName) jdk_42_method_152_code (1 : Nat) (Option.some Jvm.ClassFile.FieldType.byte), Jvm.Cond.code ({ cls := "java/lang/String", name := "charAt", desc := "(I)C" } : Jvm.MethodName) jdk_42_method_56_code (2 : Nat) (Option.some Jvm.ClassFile.FieldType.char), Jvm.Cond.code ({ cls := "java/lang/String", name := "isLatin1", desc := "()Z" } : Jvm.MethodName) jdk_42_method_154_code (1 : Nat) (Option.some Jvm.ClassFile.FieldType.boolean), Jvm.Cond.code ({ cls := "java/lang/StringLatin1", name := "charAt", desc := "([BI)C" } : Jvm.MethodName) jdk_43_method_2_code (2 : Nat) (Option.some Jvm.ClassFile.FieldType.char), Jvm.Cond.code ({ cls := "java/lang/String", name := "checkIndex", desc := "(II)V" } : Jvm.MethodName) jdk_42_method_155_code (2 : Nat) (Option.none : Option Jvm.ClassFile.FieldType), Jvm.Cond.code ({ cls := "jdk/internal/util/Preconditions", name := "checkIndex", desc := "(IILjava/util/function/BiFunction;)I" } : Jvm.MethodName) jdk_41_method_11_code (3 : Nat) (Option.some Jvm.ClassFile.FieldType.int), Jvm.Cond.code ({ cls := "java/lang/Character", name := "isISOControl", desc := "(C)Z" } : Jvm.MethodName) jdk_89_method_88_code (1 : Nat) (Option.some Jvm.ClassFile.FieldType.boolean), Jvm.Cond.code ({ cls := "java/lang/Character", name := "isISOControl", desc := "(I)Z" } : Jvm.MethodName) jdk_89_method_89_code (1 : Nat) (Option.some Jvm.ClassFile.FieldType.boolean), Jvm.Cond.code ({ cls := "java/lang/StringUTF16", name := "toBytes", desc := "([CII)[B" } : Jvm.MethodName) jdk_52_method_14_code (5 : Nat) (Option.some (Jvm.ClassFile.FieldType.array Jvm.ClassFile.FieldType.byte)), Jvm.Cond.code ({ cls := "java/lang/StringUTF16", name := "newBytesFor", desc := "(I)[B" } : Jvm.MethodName) jdk_52_method_2_code (1 : Nat) (Option.some (Jvm.ClassFile.FieldType.array Jvm.ClassFile.FieldType.byte)), Jvm.Cond.code ({ cls := "java/lang/StringUTF16", name := "newBytesLength", desc := "(I)I" } : Jvm.MethodName) jdk_52_method_3_code (1 : Nat) (Option.some Jvm.ClassFile.FieldType.int), Jvm.Cond.code ({ cls := "java/lang/StringUTF16", name := "putChar", desc := "([BII)V" } : Jvm.MethodName) jdk_52_method_4_code (3 : Nat) (Option.none : Option Jvm.ClassFile.FieldType), Jvm.Cond.code ({ cls := "java/lang/StringUTF16", name := "getChar", desc := "([BI)C" } : Jvm.MethodName) jdk_52_method_5_code (2 : Nat) (Option.some Jvm.ClassFile.FieldType.char), Jvm.Cond.code ({ cls := "java/lang/StringUTF16", name := "charAt", desc := "([BI)C" } : Jvm.MethodName) jdk_52_method_83_code (2 : Nat) (Option.some Jvm.ClassFile.FieldType.char), Jvm.Cond.code ({ cls := "java/lang/StringUTF16", name := "checkIndex", desc := "(I[B)V" } : Jvm.MethodName) jdk_52_method_91_code (2 : Nat) (Option.none : Option Jvm.ClassFile.FieldType), Jvm.Cond.code ({ cls := "java/lang/StringUTF16", name := "length", desc := "([B)I" } : Jvm.MethodName) jdk_52_method_6_code (1 : Nat) (Option.some Jvm.ClassFile.FieldType.int)]
set_option maxRecDepth 65536 in
theorem codes_eq : words1.filter isCode = codes1 := rfl
theorem w_codes : ∀ c ∈ words1.filter isCode, c.before args0 about1 = true := by
  rw [codes_eq]
  intro c hc
  simp only [codes1, List.mem_cons, List.not_mem_nil, or_false] at hc
  rcases hc with rfl | rfl | rfl | rfl | rfl | rfl | rfl | rfl | rfl | rfl | rfl | rfl | rfl | rfl | rfl | rfl | rfl | rfl | rfl | rfl | rfl | rfl | rfl | rfl | rfl | rfl | rfl
  · exact w_c0
  · exact w_c1
  · exact w_c2
  · exact w_c3
  · exact w_c4
  · exact w_c5
  · exact w_c6
  · exact w_c7
  · exact w_c8
  · exact w_c9
  · exact w_c10
  · exact w_c11
  · exact w_c12
  · exact w_c13
  · exact w_c14
  · exact w_c15
  · exact w_c16
  · exact w_c17
  · exact w_c18
  · exact w_c19
  · exact w_c20
  · exact w_c21
  · exact w_c22
  · exact w_c23
  · exact w_c24
  · exact w_c25
  · exact w_c26
set_option maxRecDepth 65536 in
theorem w_t1 : (words1.take 24).all (fun c => isCode c || c.before args0 about1) = true := by decide +kernel
set_option maxRecDepth 65536 in
theorem w_t2 : ((words1.drop 24).take 24).all (fun c => isCode c || c.before args0 about1) = true := by decide +kernel
set_option maxRecDepth 65536 in
theorem w_t3 : (((words1.drop 24).drop 24).take 24).all (fun c => isCode c || c.before args0 about1) = true := by decide +kernel
set_option maxRecDepth 65536 in
theorem w_t4 : ((((words1.drop 24).drop 24).drop 24).take 24).all (fun c => isCode c || c.before args0 about1) = true := by decide +kernel
set_option maxRecDepth 65536 in
theorem w_t5 : ((((words1.drop 24).drop 24).drop 24).drop 24).all (fun c => isCode c || c.before args0 about1) = true := by decide +kernel
theorem w_tables : (allAtoms (Jvm.Cond.code x code maxLocals ret :: tables_1)).before args0 about1 = true := by
  rw [allAtoms_all]
  show words1.all (fun c => c.before args0 about1) = true
  refine all_split ?_ w_codes
  rw [← List.take_append_drop 24 words1, List.all_append, w_t1, ← List.take_append_drop 24 (words1.drop 24), List.all_append, w_t2, ← List.take_append_drop 24 ((words1.drop 24).drop 24), List.all_append, w_t3, ← List.take_append_drop 24 (((words1.drop 24).drop 24).drop 24), List.all_append, w_t4, w_t5]
  rfl
set_option maxRecDepth 65536 in
theorem w_rest : rest_1_c.before args0 about1 = true := by decide +kernel
set_option maxRecDepth 65536 in
theorem w_case : (Jvm.Cond.and given_1 narrow_1).before args0 about1 = true := by decide +kernel
set_option maxRecDepth 65536 in
theorem w_consts : constsHeld consts_1 about1 := Jvm.Lit.constsHeldB_iff.mp (by decide +kernel)
theorem w_applies : (headSpec (Jvm.Cond.code x code maxLocals ret :: tables_1) room_1).applies x e0.platform about1 = true :=
  (Spec.applies_iff w_frames).mpr ⟨w_running, w_runnable, w_alone, w_named, w_hears, w_ripe, w_room, w_tables⟩
theorem atStart : AtStart classFile x code maxLocals ret World_1 tables_1 room_1 Calls_1 rest_1 Pre_1 launch0 p0 e0 about1 theMethod args0 below0 :=
  ⟨lists_1, trivial, launch0.admits_env _ _ _, launch0.least_env, fairChoices_fair.cas, fairChoices_fair.clock, w_frames, w_args, w_heap, w_applies, ⟨w_consts, trivial⟩, w_rest, w_case⟩
end start1
theorem witness_1 : WitnessClaimed_1 := ⟨start1.p0, start1.e0, start1.about1, start1.theMethod, start1.args0, start1.below0, start1.atStart⟩
end Jvm.Pilot.@@N@@
