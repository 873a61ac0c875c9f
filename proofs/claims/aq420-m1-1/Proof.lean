import JvmDerived
import JvmDerived.Pilot.@@N@@Statement
import JvmDerived.Pilot.@@N@@Code
set_option linter.unusedVariables false
set_option linter.unusedSimpArgs false
set_option maxRecDepth 65536
set_option maxHeartbeats 40000000
/- laws to paste: Road.backV (cut by pick.py; bodies as the Statement names them) -/
namespace Jvm.Pilot.@@N@@
namespace StrChars
open Jvm Sem ClassFile Op Lib Jvm.Stand Jvm.Free.XT Jvm.Free.ALB Jvm.Free.JM Jvm.Free
open Jvm.Lib.Cold (StaticIs)
/-- a char array whose places are chars -/
def Ch (a : Addr) (A : Cell) (U : State) : Prop := Arr .char a A U ∧ Typed .char A
theorem Ch.mv {a : Addr} {A : Cell} {U U' : State} (h : Ch a A U) (hal : U.vm.Alike U'.vm) (hh : U'.heap = U.heap) : Ch a A U' := ⟨h.1.mv hal hh, h.2⟩
theorem Ch.keep {a : Addr} {A : Cell} {U U' : State} (h : Ch a A U) (hal : U.vm.Alike U'.vm) (hk : U'.heap[a]? = some A) : Ch a A U' := ⟨h.1.keep hal hk, h.2⟩
/-- what place i of a char[]'s cell holds -/
def cv (A : Cell) (i : Nat) : Int32 := match A.slots[i]? with | some (.int x) => x | _ => 0
theorem Ch.get {a : Addr} {A : Cell} {U : State} (h : Ch a A U) {i : Nat} (hi : i < A.slots.size) : A.slots[i]? = some (.int (cv A i)) := by
  have e := Array.getElem?_eq_getElem hi
  have f := h.2 i _ e
  unfold cv; rw [e]
  generalize A.slots[i] = v at f
  cases v <;> simp [fits] at f ⊢
/-- the byte that i2b leaves of a char -/
def lo8 (x : Int32) : Int32 := x.toInt8.toInt32
theorem fits_lo8 (y : Int32) : fits .byte (.int (lo8 y)) = true := by
  have h1 := y.toInt8.le_toInt
  have h2 := y.toInt8.toInt_lt
  simp only [lo8, fits, Bool.and_eq_true, decide_eq_true_eq, Int32.le_iff_toInt_le, Int8.toInt_toInt32, show (-128 : Int32).toInt = -128 from by decide, show (127 : Int32).toInt = 127 from by decide]
  omega
/-- A' is A but that each place j of lo .. hi - 1 holds f j -/
def Laid (A A' : Cell) (lo hi : Nat) (f : Nat → Value) : Prop := A'.cls = A.cls ∧ A'.vm = A.vm ∧ A'.slots.size = A.slots.size ∧ ∀ i, A'.slots[i]? = if lo ≤ i ∧ i < hi then some (f i) else A.slots[i]?
theorem Laid.zero (A : Cell) (lo : Nat) (f : Nat → Value) : Laid A A lo (lo + 0) f := ⟨rfl, rfl, rfl, fun i => by rw [if_neg (by omega)]⟩
theorem Laid.step {A Ak : Cell} {lo k : Nat} {f : Nat → Value} {v : Value} (h : Laid A Ak lo k f) (hlo : lo ≤ k) (hk : k < Ak.slots.size) (hv : v = f k) : Laid A (Ak.setSlot k v) lo (k + 1) f := by
  refine ⟨h.1, h.2.1, by simpa [Cell.setSlot] using h.2.2.1, fun i => ?_⟩
  by_cases e : k = i
  · subst e; rw [Cell.slots_setSlot_self v hk, if_pos (by omega), hv]
  · rw [Cell.slots_setSlot_ne v e, h.2.2.2 i]
    by_cases q : lo ≤ i ∧ i < k
    · rw [if_pos q, if_pos (by omega)]
    · rw [if_neg q, if_neg (by omega)]
def U16 : String := "java/lang/StringUTF16"
namespace Cmp5
def yN : MethodName := ⟨"java/lang/StringUTF16", "compress", "([CI[BII)I"⟩
abbrev yB : ByteArray := jdk_52_method_21_code
theorem d0 : decode yB 0 = .ok (.iconst 0, 1) := by decide +kernel
theorem d1 : decode yB 1 = .ok (.istore 5, 2) := by decide +kernel
theorem d3 : decode yB 3 = .ok (.iload 5, 2) := by decide +kernel
theorem d5 : decode yB 5 = .ok (.iload 4, 2) := by decide +kernel
theorem d7 : decode yB 7 = .ok (.if_icmp (.ge) 37, 3) := by decide +kernel
theorem d10 : decode yB 10 = .ok (.aload_n 0, 1) := by decide +kernel
theorem d11 : decode yB 11 = .ok (.iload_n 1, 1) := by decide +kernel
theorem d12 : decode yB 12 = .ok (.caload, 1) := by decide +kernel
theorem d13 : decode yB 13 = .ok (.istore 6, 2) := by decide +kernel
theorem d15 : decode yB 15 = .ok (.iload 6, 2) := by decide +kernel
theorem d17 : decode yB 17 = .ok (.sipush 255, 3) := by decide +kernel
theorem d20 : decode yB 20 = .ok (.if_icmp (.le) 6, 3) := by decide +kernel
theorem d26 : decode yB 26 = .ok (.aload_n 2, 1) := by decide +kernel
theorem d27 : decode yB 27 = .ok (.iload_n 3, 1) := by decide +kernel
theorem d28 : decode yB 28 = .ok (.iload 6, 2) := by decide +kernel
theorem d30 : decode yB 30 = .ok (.i2b, 1) := by decide +kernel
theorem d31 : decode yB 31 = .ok (.bastore, 1) := by decide +kernel
theorem d32 : decode yB 32 = .ok (.iinc 1 1, 3) := by decide +kernel
theorem d35 : decode yB 35 = .ok (.iinc 3 1, 3) := by decide +kernel
theorem d38 : decode yB 38 = .ok (.iinc 5 1, 3) := by decide +kernel
theorem d41 : decode yB 41 = .ok (.goto (-38), 3) := by decide +kernel
theorem d44 : decode yB 44 = .ok (.iload 4, 2) := by decide +kernel
theorem d46 : decode yB 46 = .ok (.ireturn, 1) := by decide +kernel
def site : List Cond := []
def tab : Cond := tabOf yN yB 7 (some .int) site
def P (b : Addr) (A : Cell) (d : Addr) (B : Cell) (o q len : Nat) (args : Array Value) (s : State) : Prop := args = #[.ref b, .int (Int32.ofNat o), .ref d, .int (Int32.ofNat q), .int (Int32.ofNat len)] ∧ Ch b A s ∧ Arr .byte d B s ∧ b ≠ d ∧ o + len ≤ A.slots.size ∧ q + len ≤ B.slots.size ∧ ∀ i, i < len → ¬ 255 < cv A (o + i)
def E (b : Addr) (A : Cell) (d : Addr) (B : Cell) (o q len : Nat) (r : Option Value) (s u : State) : Prop := r = some (.int (Int32.ofNat len)) ∧ ∃ B', Put d B' s u ∧ Laid B B' q (q + len) (fun j => Value.int (lo8 (cv A (o + (j - q)))))
/-- no char of the range above 255: len; the places written hold each char's low byte -/
theorem law (l : Launch) (b : Addr) (A : Cell) (d : Addr) (B : Cell) (o q len : Nat) : Law l yN 5 5 0 0 yB 7 (some .int) site (P b A d B o q len) (E b A d B o q len) (copyLocs d q len) 0 0 := by
  refine Law.of_walk (plainFor_of_name (by decide +kernel)) (by decide +kernel) (by decide +kernel) (by decide) (fun _ _ h => by rw [h.1]; rfl) (fun _ U U' hal hh h => ⟨h.1, h.2.1.mv hal hh, h.2.2.1.mv hal hh, h.2.2.2⟩) (fun r U U' V V' h1 hal h2 h => ⟨h.1, h.2.elim fun B' q => ⟨B', q.1.mv h1 h2, q.2⟩⟩) ?_
  intro p e s m args below meth c s₁ X0 hexec hbytes hml hret hlk hnm hown hh0 W hP
  obtain ⟨rfl, hA, hB, hne, l1, l2, hp⟩ := hP
  have c1 : Steps p.tables e below (s₁.setTop (entryFrame m #[.ref b, .int (Int32.ofNat o), .ref d, .int (Int32.ofNat q), .int (Int32.ofNat len)] 7)) (s₁.setTop (mkF m 0 #[.val (.ref b), .val (.int (Int32.ofNat o)), .val (.ref d), .val (.int (Int32.ofNat q)), .val (.int (Int32.ofNat len)), .unset, .unset] [])) := entry rfl
  have hA0 := hA.1.mv X0.warmed.alike hh0
  have hB0 := hB.mv X0.warmed.alike hh0
  have a31 := hA.1.2.2.2
  have c2 : Steps p.tables e below (s₁.setTop (entryFrame m #[.ref b, .int (Int32.ofNat o), .ref d, .int (Int32.ofNat q), .int (Int32.ofNat len)] 7)) (s₁.setTop (mkF m 3 #[.val (.ref b), .val (.int (Int32.ofNat o)), .val (.ref d), .val (.int (Int32.ofNat q)), .val (.int (Int32.ofNat len)), .val (.int 0), .unset] [])) := c1.trans (by
    refine iconstV X0.here hexec rfl 0 (hb hbytes d0) (by decide) ?_
    refine XS.istore X0.here hexec rfl (hb hbytes d1) rfl rfl ?_
    exact Steps.refl _)
  have loop : ∀ (r i : Nat), i + r = len → ∀ (z : Slot), (z = .unset ∨ ∃ w, z = .val w ∧ w.category = 1) → ∀ (Tl : State) (Bk : Cell), Stand p l e { frames := 0, locals := 0, cells := 0, slots := 0 } s m #[.ref b, .int (Int32.ofNat o), .ref d, .int (Int32.ofNat q), .int (Int32.ofNat len)] below meth c Tl ([] ++ copyLocs d q i) 0 0 → Put d Bk s₁ Tl → Laid B Bk q (q + i) (fun j => Value.int (lo8 (cv A (o + (j - q))))) →
      Steps p.tables e below (s₁.setTop (entryFrame m #[.ref b, .int (Int32.ofNat o), .ref d, .int (Int32.ofNat q), .int (Int32.ofNat len)] 7)) (Tl.setTop (mkF m 3 #[.val (.ref b), .val (.int (Int32.ofNat (o + i))), .val (.ref d), .val (.int (Int32.ofNat (q + i))), .val (.int (Int32.ofNat len)), .val (.int (Int32.ofNat i)), z] [])) → ∃ (T' : State) (B' : Cell) (z' : Slot), Stand p l e { frames := 0, locals := 0, cells := 0, slots := 0 } s m #[.ref b, .int (Int32.ofNat o), .ref d, .int (Int32.ofNat q), .int (Int32.ofNat len)] below meth c T' ([] ++ copyLocs d q len) 0 0 ∧ Put d B' s₁ T' ∧ Laid B B' q (q + len) (fun j => Value.int (lo8 (cv A (o + (j - q))))) ∧
      Steps p.tables e below (s₁.setTop (entryFrame m #[.ref b, .int (Int32.ofNat o), .ref d, .int (Int32.ofNat q), .int (Int32.ofNat len)] 7)) (T'.setTop (mkF m 3 #[.val (.ref b), .val (.int (Int32.ofNat (o + len))), .val (.ref d), .val (.int (Int32.ofNat (q + len))), .val (.int (Int32.ofNat len)), .val (.int (Int32.ofNat len)), z'] [])) := by
    intro r
    induction r with
    | zero =>
      intro i hi z hz Tl Bk Xl pl fl cl
      have hil : i = len := by omega
      rw [hil] at Xl fl cl
      exact ⟨Tl, Bk, z, Xl, pl, fl, cl⟩
    | succ r ih =>
      intro i hi z hz Tl Bk Xl pl fl cl
      have all := X0.warmed.alike.symm.trans Xl.warmed.alike
      have hAl := hA0.keep all (pl.other hne hA0.1)
      have hBk := hB0.like all pl.1 fl.1 fl.2.1 fl.2.2.1
      have hlt : q + i < Bk.slots.size := by rw [fl.2.2.1]; omega
      have c3 : Steps p.tables e below (s₁.setTop (entryFrame m #[.ref b, .int (Int32.ofNat o), .ref d, .int (Int32.ofNat q), .int (Int32.ofNat len)] 7)) (Tl.setTop (mkF m 12 #[.val (.ref b), .val (.int (Int32.ofNat (o + i))), .val (.ref d), .val (.int (Int32.ofNat (q + i))), .val (.int (Int32.ofNat len)), .val (.int (Int32.ofNat i)), z] [.int (Int32.ofNat (o + i)), .ref b])) := cl.trans (by
        refine XS.iload Xl.here hexec rfl (hb hbytes d3) rfl ?_
        refine XS.iload Xl.here hexec rfl (hb hbytes d5) rfl ?_
        refine XS.icmpNo Xl.here hexec rfl (hb hbytes d7) rfl (ii_ge_f (lt32 (by omega) (by omega))) ?_
        refine XS.aloadN Xl.here hexec rfl (hb hbytes d10) rfl rfl ?_
        refine XS.iloadN Xl.here hexec rfl (hb hbytes d11) rfl ?_
        exact Steps.refl _)
      have c4 : Steps p.tables e below (s₁.setTop (entryFrame m #[.ref b, .int (Int32.ofNat o), .ref d, .int (Int32.ofNat q), .int (Int32.ofNat len)] 7)) (Tl.setTop (mkF m 13 #[.val (.ref b), .val (.int (Int32.ofNat (o + i))), .val (.ref d), .val (.int (Int32.ofNat (q + i))), .val (.int (Int32.ofNat len)), .val (.int (Int32.ofNat i)), z] [.int (cv A (o + i))])) := c3.trans (by
        refine Xl.aget hexec hAl rfl (hA.get (i := o + i) (by omega)) rfl rfl (hb hbytes d12) ?_
        exact Steps.refl _)
      have c5 : Steps p.tables e below (s₁.setTop (entryFrame m #[.ref b, .int (Int32.ofNat o), .ref d, .int (Int32.ofNat q), .int (Int32.ofNat len)] 7)) (Tl.setTop (mkF m 15 #[.val (.ref b), .val (.int (Int32.ofNat (o + i))), .val (.ref d), .val (.int (Int32.ofNat (q + i))), .val (.int (Int32.ofNat len)), .val (.int (Int32.ofNat i)), .val (.int (cv A (o + i)))] [])) := c4.trans (by
        refine XS.istoreS Xl.here hexec rfl (hb hbytes d13) rfl rfl hz ?_
        exact Steps.refl _)
      have c6 : Steps p.tables e below (s₁.setTop (entryFrame m #[.ref b, .int (Int32.ofNat o), .ref d, .int (Int32.ofNat q), .int (Int32.ofNat len)] 7)) (Tl.setTop (mkF m 31 #[.val (.ref b), .val (.int (Int32.ofNat (o + i))), .val (.ref d), .val (.int (Int32.ofNat (q + i))), .val (.int (Int32.ofNat len)), .val (.int (Int32.ofNat i)), .val (.int (cv A (o + i)))] [.int (lo8 (cv A (o + i))), .int (Int32.ofNat (q + i)), .ref d])) := c5.trans (by
        refine XS.iload Xl.here hexec rfl (hb hbytes d15) rfl ?_
        refine sipushV Xl.here hexec rfl 255 (hb hbytes d17) (by decide) ?_
        refine XS.icmpYes Xl.here hexec rfl (pc0 := 20) rfl (hb hbytes d20) rfl (ii_le_t (hp i (by omega))) (by decide) rfl ?_
        refine XS.aloadN Xl.here hexec rfl (hb hbytes d26) rfl rfl ?_
        refine XS.iloadN Xl.here hexec rfl (hb hbytes d27) rfl ?_
        refine XS.iload Xl.here hexec rfl (hb hbytes d28) rfl ?_
        refine i2b Xl.here hexec rfl (hb hbytes d30) rfl ?_
        exact Steps.refl _)
      obtain ⟨T7, X7, p7, st7⟩ := Xl.aput hexec hBk rfl hlt rfl (fits_lo8 (cv A (o + i))) (g := (mkF m 31 #[.val (.ref b), .val (.int (Int32.ofNat (o + i))), .val (.ref d), .val (.int (Int32.ofNat (q + i))), .val (.int (Int32.ofNat len)), .val (.int (Int32.ofNat i)), .val (.int (cv A (o + i)))] [.int (lo8 (cv A (o + i))), .int (Int32.ofNat (q + i)), .ref d])) rfl (rest := []) rfl (hb hbytes d31)
      have c8 : Steps p.tables e below (s₁.setTop (entryFrame m #[.ref b, .int (Int32.ofNat o), .ref d, .int (Int32.ofNat q), .int (Int32.ofNat len)] 7)) (T7.setTop (mkF m 32 #[.val (.ref b), .val (.int (Int32.ofNat (o + i))), .val (.ref d), .val (.int (Int32.ofNat (q + i))), .val (.int (Int32.ofNat len)), .val (.int (Int32.ofNat i)), .val (.int (cv A (o + i)))] [])) := c6.trans (st7 _ (Steps.refl _))
      have c9 : Steps p.tables e below (s₁.setTop (entryFrame m #[.ref b, .int (Int32.ofNat o), .ref d, .int (Int32.ofNat q), .int (Int32.ofNat len)] 7)) (T7.setTop (mkF m 3 #[.val (.ref b), .val (.int (Int32.ofNat (o + i) + 1)), .val (.ref d), .val (.int (Int32.ofNat (q + i) + 1)), .val (.int (Int32.ofNat len)), .val (.int (Int32.ofNat i + 1)), .val (.int (cv A (o + i)))] [])) := c8.trans (by
        refine iincV X7.here hexec rfl 1 (hb hbytes d32) (by decide) rfl rfl ?_
        refine iincV X7.here hexec rfl 1 (hb hbytes d35) (by decide) rfl rfl ?_
        refine iincV X7.here hexec rfl 1 (hb hbytes d38) (by decide) rfl rfl ?_
        refine XS.goto X7.here hexec rfl (pc0 := 41) rfl (hb hbytes d41) (by decide) rfl ?_
        exact Steps.refl _)
      have c10 : Steps p.tables e below (s₁.setTop (entryFrame m #[.ref b, .int (Int32.ofNat o), .ref d, .int (Int32.ofNat q), .int (Int32.ofNat len)] 7)) (T7.setTop (mkF m 3 #[.val (.ref b), .val (.int (Int32.ofNat (o + (i + 1)))), .val (.ref d), .val (.int (Int32.ofNat (q + (i + 1)))), .val (.int (Int32.ofNat len)), .val (.int (Int32.ofNat (i + 1))), .val (.int (cv A (o + i)))] [])) := by
        have := c9
        rw [succ32, succ32, succ32] at this
        exact this
      exact ih (i + 1) (by omega) _ (Or.inr ⟨_, rfl, rfl⟩) T7 _ (by rw [copyLocs_step, ← List.append_assoc]; exact X7) (pl.trans p7) (fl.step (by omega) hlt (by simp)) c10
  obtain ⟨T9, B9, z9, X9, p9, f9, g9⟩ := loop len 0 (by omega) .unset (Or.inl rfl) s₁ B (by simpa [copyLocs] using X0) ⟨hB0.1, fun _ _ => rfl, rfl⟩ (Laid.zero _ _ _) c2
  have c11 : Steps p.tables e below (s₁.setTop (entryFrame m #[.ref b, .int (Int32.ofNat o), .ref d, .int (Int32.ofNat q), .int (Int32.ofNat len)] 7)) (T9.setTop (mkF m 46 #[.val (.ref b), .val (.int (Int32.ofNat (o + len))), .val (.ref d), .val (.int (Int32.ofNat (q + len))), .val (.int (Int32.ofNat len)), .val (.int (Int32.ofNat len)), z9] [.int (Int32.ofNat len)])) := g9.trans (by
    refine XS.iload X9.here hexec rfl (hb hbytes d3) rfl ?_
    refine XS.iload X9.here hexec rfl (hb hbytes d5) rfl ?_
    refine XS.icmpYes X9.here hexec rfl (pc0 := 7) rfl (hb hbytes d7) rfl (ii_ge_t (nlt32 (by omega) (Nat.le_refl _))) (by decide) rfl ?_
    refine XS.iload X9.here hexec rfl (hb hbytes d44) rfl ?_
    exact Steps.refl _)
  exact ⟨T9, some (.int (Int32.ofNat len)), _, _, _, X9, by simp, rfl, rfl, (fun h => by cases h), ⟨rfl, B9, p9.from hh0, f9⟩, fun fs hl => c11.trans (X9.ireturnOut hexec hret rfl (Or.inl rfl) (hb hbytes d46) hl)⟩
end Cmp5
namespace Cmp3
def yN : MethodName := ⟨"java/lang/StringUTF16", "compress", "([CII)[B"⟩
abbrev yB : ByteArray := jdk_52_method_16_code
theorem d0 : decode yB 0 = .ok (.iload_n 2, 1) := by decide +kernel
theorem d1 : decode yB 1 = .ok (.newarray .byte, 2) := by decide +kernel
theorem d3 : decode yB 3 = .ok (.astore_n 3, 1) := by decide +kernel
theorem d4 : decode yB 4 = .ok (.aload_n 0, 1) := by decide +kernel
theorem d5 : decode yB 5 = .ok (.iload_n 1, 1) := by decide +kernel
theorem d6 : decode yB 6 = .ok (.aload_n 3, 1) := by decide +kernel
theorem d7 : decode yB 7 = .ok (.iconst 0, 1) := by decide +kernel
theorem d8 : decode yB 8 = .ok (.iload_n 2, 1) := by decide +kernel
theorem d9 : decode yB 9 = .ok (.invokestatic 115, 3) := by decide +kernel
theorem d12 : decode yB 12 = .ok (.istore 4, 2) := by decide +kernel
theorem d14 : decode yB 14 = .ok (.iload 4, 2) := by decide +kernel
theorem d16 : decode yB 16 = .ok (.iload_n 2, 1) := by decide +kernel
theorem d17 : decode yB 17 = .ok (.if_icmp (.eq) 40, 3) := by decide +kernel
theorem d57 : decode yB 57 = .ok (.aload_n 3, 1) := by decide +kernel
theorem d58 : decode yB 58 = .ok (.areturn, 1) := by decide +kernel
def site : List Cond := [.arrayClass .byte, Cmp5.tab] ++ staticW U16 115 Cmp5.yN
def tab : Cond := tabOf yN yB 6 (some (.array .byte)) site
def P (b : Addr) (A : Cell) (o len : Nat) (args : Array Value) (s : State) : Prop := args = #[.ref b, .int (Int32.ofNat o), .int (Int32.ofNat len)] ∧ Ch b A s ∧ o + len ≤ A.slots.size ∧ len ≤ 536870912 ∧ ∀ i, i < len → ¬ 255 < cv A (o + i)
def E (b : Addr) (A : Cell) (o len : Nat) (r : Option Value) (s u : State) : Prop := NewArr .byte "[B" len (fun j => .int (lo8 (cv A (o + j)))) r s u ∧ u.heap.size = s.heap.size + 1
/-- no char of the range above 255: a new byte[] of their low bytes -/
theorem law (l : Launch) (b : Addr) (A : Cell) (o len : Nat) : Law l yN 3 3 1 18 yB 6 (some (.array .byte)) site (P b A o len) (E b A o len) [] 1 len := by
  refine Law.of_walk (plainFor_of_name (by decide +kernel)) (by decide +kernel) (by decide +kernel) (by decide) (fun _ _ h => by rw [h.1]; rfl) (fun _ U U' hal hh h => ⟨h.1, h.2.1.mv hal hh, h.2.2⟩) (fun r U U' V V' h1 hal h2 h => ⟨NewArr.mv r U U' V V' h1 hal h2 h.1, by rw [h1, h2]; exact h.2⟩) ?_
  intro p e s m args below meth c s₁ X0 hexec hbytes hml hret hlk hnm hown hh0 W hP
  obtain ⟨rfl, hA, l1, l2, hp⟩ := hP
  have a31 := hA.1.2.2.2
  have c1 : Steps p.tables e below (s₁.setTop (entryFrame m #[.ref b, .int (Int32.ofNat o), .int (Int32.ofNat len)] 6)) (s₁.setTop (mkF m 0 #[.val (.ref b), .val (.int (Int32.ofNat o)), .val (.int (Int32.ofNat len)), .unset, .unset, .unset] [])) := entry rfl
  have c2 : Steps p.tables e below (s₁.setTop (entryFrame m #[.ref b, .int (Int32.ofNat o), .int (Int32.ofNat len)] 6)) (s₁.setTop (mkF m 1 #[.val (.ref b), .val (.int (Int32.ofNat o)), .val (.int (Int32.ofNat len)), .unset, .unset, .unset] [.int (Int32.ofNat len)])) := c1.trans (by
    refine XS.iloadN X0.here hexec rfl (hb hbytes d0) rfl ?_
    exact Steps.refl _)
  obtain ⟨T3, B3, X3, ba3, bs3, bv3, bh3, bf3, st3⟩ := X0.anew hexec (atype := .byte) (wk W (.arrayClass .byte)) rfl (by show len * 1 ≤ _; omega) (by omega) (g := (mkF m 1 #[.val (.ref b), .val (.int (Int32.ofNat o)), .val (.int (Int32.ofNat len)), .unset, .unset, .unset] [.int (Int32.ofNat len)])) rfl (hb hbytes d1) (rest := []) rfl (Nat.le_refl _) (by show 0 + len ≤ len; omega)
  rw [hh0] at ba3 st3
  have kp3 : XT.Kept s T3 := (XT.Kept.of_eq hh0).push bh3
  have hA3 := hA.keep X3.warmed.alike (kp3 _ _ hA.1.1)
  have hne : b ≠ s.heap.size := hA.1.ne
  have c4 : Steps p.tables e below (s₁.setTop (entryFrame m #[.ref b, .int (Int32.ofNat o), .int (Int32.ofNat len)] 6)) (T3.setTop (mkF m 3 #[.val (.ref b), .val (.int (Int32.ofNat o)), .val (.int (Int32.ofNat len)), .unset, .unset, .unset] [.ref s.heap.size])) := c2.trans (st3 _ (Steps.refl _))
  have c5 : Steps p.tables e below (s₁.setTop (entryFrame m #[.ref b, .int (Int32.ofNat o), .int (Int32.ofNat len)] 6)) (T3.setTop (mkF m 9 #[.val (.ref b), .val (.int (Int32.ofNat o)), .val (.int (Int32.ofNat len)), .val (.ref s.heap.size), .unset, .unset] [.int (Int32.ofNat len), .int 0, .ref s.heap.size, .int (Int32.ofNat o), .ref b])) := c4.trans (by
    refine XS.astoreN X3.here hexec rfl (hb hbytes d3) rfl rfl rfl ?_
    refine XS.aloadN X3.here hexec rfl (hb hbytes d4) rfl rfl ?_
    refine XS.iloadN X3.here hexec rfl (hb hbytes d5) rfl ?_
    refine XS.aloadN X3.here hexec rfl (hb hbytes d6) rfl rfl ?_
    refine iconstV X3.here hexec rfl 0 (hb hbytes d7) (by decide) ?_
    refine XS.iloadN X3.here hexec rfl (hb hbytes d8) rfl ?_
    exact Steps.refl _)
  obtain ⟨v6, T6, X6, E6, g6⟩ := X3.callS hexec (Cmp5.law l b A s.heap.size B3 o 0 len) hown (wks W (staticW U16 115 Cmp5.yN)) (wk W Cmp5.tab) (W := 0) (Nat.le_of_ble_eq_true rfl) (Nat.le_of_ble_eq_true rfl) (Nat.le_refl _) (by show 0 + len + 0 ≤ len; omega) (g := (mkF m 9 #[.val (.ref b), .val (.int (Int32.ofNat o)), .val (.int (Int32.ofNat len)), .val (.ref s.heap.size), .unset, .unset] [.int (Int32.ofNat len), .int (Int32.ofNat 0), .ref s.heap.size, .int (Int32.ofNat o), .ref b])) rfl (by rw [hml]; rfl) c5 (argsL := [.ref b, .int (Int32.ofNat o), .ref s.heap.size, .int (Int32.ofNat 0), .int (Int32.ofNat len)]) (rest := []) rfl rfl (by show 2 * 0 + 0 ≤ _; decide) (hb hbytes d9) (⟨rfl, hA3, ba3, hne, l1, by rw [bs3]; simp, hp⟩)
  obtain ⟨rfl, B6, p6, f6⟩ := E6
  have c7 : Steps p.tables e below (s₁.setTop (entryFrame m #[.ref b, .int (Int32.ofNat o), .int (Int32.ofNat len)] 6)) (T6.setTop (mkF m 12 #[.val (.ref b), .val (.int (Int32.ofNat o)), .val (.int (Int32.ofNat len)), .val (.ref s.heap.size), .unset, .unset] [.int (Int32.ofNat len)])) := g6
  have c8 : Steps p.tables e below (s₁.setTop (entryFrame m #[.ref b, .int (Int32.ofNat o), .int (Int32.ofNat len)] 6)) (T6.setTop (mkF m 58 #[.val (.ref b), .val (.int (Int32.ofNat o)), .val (.int (Int32.ofNat len)), .val (.ref s.heap.size), .val (.int (Int32.ofNat len)), .unset] [.ref s.heap.size])) := c7.trans (by
    refine XS.istore X6.here hexec rfl (hb hbytes d12) rfl rfl ?_
    refine XS.iload X6.here hexec rfl (hb hbytes d14) rfl ?_
    refine XS.iloadN X6.here hexec rfl (hb hbytes d16) rfl ?_
    refine XS.icmpYes X6.here hexec rfl (pc0 := 17) rfl (hb hbytes d17) rfl (ii_eq_t rfl) (by decide) rfl ?_
    refine XS.aloadN X6.here hexec rfl (hb hbytes d57) rfl rfl ?_
    exact Steps.refl _)
  have X8 := X6.wide (L' := []) (cells' := 1) (slots' := len) (fun x hx hlt => by
    simp only [List.nil_append, copyLocs, List.mem_map, List.mem_range] at hx
    obtain ⟨i, -, rfl⟩ := hx
    exact absurd hlt (Nat.lt_irrefl _)) (Nat.le_refl _) (by omega)
  exact ⟨T6, some (.ref s.heap.size), _, _, _, X8, rfl, rfl, rfl, (fun h => by cases h), ⟨⟨rfl, B6, ba3.like (X3.warmed.alike.symm.trans X6.warmed.alike) p6.1 f6.1 f6.2.1 f6.2.2.1, f6.2.1.trans bv3, by rw [X6.warmed.alike.findClass, f6.1]; exact bf3, by rw [f6.2.2.1, bs3]; simp, fun j hj => by rw [f6.2.2.2 j, if_pos (by omega)]; rfl, kp3.put p6 (Nat.le_refl _)⟩, by rw [p6.2.2, bh3, hh0]; simp⟩, fun fs hl => c8.trans (X8.areturnOut hexec rfl hret rfl (hb hbytes d58) hl)⟩
end Cmp3
namespace CodL
def yN : MethodName := ⟨"java/lang/StringUTF16", "coderFromArrayLen", "([BI)B"⟩
abbrev yB : ByteArray := jdk_52_method_15_code
theorem d0 : decode yB 0 = .ok (.iload_n 1, 1) := by decide +kernel
theorem d1 : decode yB 1 = .ok (.aload_n 0, 1) := by decide +kernel
theorem d2 : decode yB 2 = .ok (.arraylength, 1) := by decide +kernel
theorem d3 : decode yB 3 = .ok (.isub, 1) := by decide +kernel
theorem d4 : decode yB 4 = .ok (.bipush 31, 2) := by decide +kernel
theorem d6 : decode yB 6 = .ok (.iushr, 1) := by decide +kernel
theorem d7 : decode yB 7 = .ok (.i2b, 1) := by decide +kernel
theorem d8 : decode yB 8 = .ok (.ireturn, 1) := by decide +kernel
def site : List Cond := []
def tab : Cond := tabOf yN yB 2 (some .byte) site
def P (d : Addr) (B : Cell) (args : Array Value) (s : State) : Prop := args = #[.ref d, .int (Int32.ofNat B.slots.size)] ∧ Arr .byte d B s
def E (r : Option Value) (s u : State) : Prop := XT.PureE (some (.int 0)) r s u
/-- an array as long as the number of chars: LATIN1 -/
theorem law (l : Launch) (d : Addr) (B : Cell) : Law l yN 2 2 0 0 yB 2 (some .byte) site (P d B) E [] 0 0 := by
  refine Law.of_walk (plainFor_of_name (by decide +kernel)) (by decide +kernel) (by decide +kernel) (by decide) (fun _ _ h => by rw [h.1]; rfl) (fun _ U U' hal hh h => ⟨h.1, h.2.mv hal hh⟩) (fun r U U' V V' h1 hal h2 h => XT.PureE.mv r U U' V V' h1 hal h2 h) ?_
  intro p e s m args below meth c s₁ X0 hexec hbytes hml hret hlk hnm hown hh0 W hP
  obtain ⟨rfl, hB⟩ := hP
  have hB0 := hB.mv X0.warmed.alike hh0
  have c1 : Steps p.tables e below (s₁.setTop (entryFrame m #[.ref d, .int (Int32.ofNat B.slots.size)] 2)) (s₁.setTop (mkF m 0 #[.val (.ref d), .val (.int (Int32.ofNat B.slots.size))] [])) := entry rfl
  have c2 : Steps p.tables e below (s₁.setTop (entryFrame m #[.ref d, .int (Int32.ofNat B.slots.size)] 2)) (s₁.setTop (mkF m 2 #[.val (.ref d), .val (.int (Int32.ofNat B.slots.size))] [.ref d, .int (Int32.ofNat B.slots.size)])) := c1.trans (by
    refine XS.iloadN X0.here hexec rfl (hb hbytes d0) rfl ?_
    refine XS.aloadN X0.here hexec rfl (hb hbytes d1) rfl rfl ?_
    exact Steps.refl _)
  have c3 : Steps p.tables e below (s₁.setTop (entryFrame m #[.ref d, .int (Int32.ofNat B.slots.size)] 2)) (s₁.setTop (mkF m 8 #[.val (.ref d), .val (.int (Int32.ofNat B.slots.size))] [.int (lo8 (ushr (Int32.ofNat B.slots.size - Int32.ofNat B.slots.size) 31))])) := c2.trans (by
    refine X0.alen hexec hB0 rfl rfl (hb hbytes d2) ?_
    refine XS.isub X0.here hexec rfl (hb hbytes d3) rfl ?_
    refine bipushV X0.here hexec rfl 31 (hb hbytes d4) (by decide) ?_
    refine iushr X0.here hexec rfl (hb hbytes d6) rfl ?_
    refine i2b X0.here hexec rfl (hb hbytes d7) rfl ?_
    exact Steps.refl _)
  have e0 : lo8 (ushr (Int32.ofNat B.slots.size - Int32.ofNat B.slots.size) 31) = 0 := by rw [Int32.sub_self]; decide
  rw [e0] at c3
  exact ⟨s₁, some (.int 0), _, _, _, X0, rfl, rfl, rfl, (fun h => by cases h), ⟨rfl, hh0⟩, fun fs hl => c3.trans (X0.ireturnOut hexec hret rfl (Or.inr (Or.inr (Or.inl rfl))) (hb hbytes d8) hl)⟩
end CodL
/-- the String at a is Latin-1 over a new byte[] (the heap's one new cell): the low bytes of the len chars of A from o on; every cell but a is kept -/
def Got (a : Addr) (D : Cell) (fV fC : Field) (A : Cell) (o len : Nat) (r : Option Value) (s u : State) : Prop := r = none ∧ ∃ D' V : Cell, Blank "java/lang/String" a D' u ∧ Same D D' [fV.slot, fC.slot] ∧ D'.slots[fV.slot]? = some (.ref s.heap.size) ∧ D'.slots[fC.slot]? = some (.int 0) ∧ Arr .byte s.heap.size V u ∧ V.vm = .none ∧ u.vm.findClass "[B" = some V.cls ∧ V.slots.size = len ∧ (∀ j, j < len → V.slots[j]? = some (.int (lo8 (cv A (o + j))))) ∧ (∀ (y : Addr) (c : Cell), y ≠ a → s.heap[y]? = some c → u.heap[y]? = some c) ∧ u.heap.size = s.heap.size + 1
theorem Got.mv {a : Addr} {D A : Cell} {fV fC : Field} {o len : Nat} : ∀ r (U U' V V' : State), U'.heap = U.heap → V.vm.Alike V'.vm → V'.heap = V.heap → Got a D fV fC A o len r U V → Got a D fV fC A o len r U' V' :=
  fun r U U' V V' h1 hal h2 ⟨e0, D', X, a1, a2, a3, a4, a5, a6, a7, a8, a9, a10, a11⟩ => ⟨e0, D', X, a1.mv hal h2, a2, by rw [h1]; exact a3, a4, by rw [h1]; exact a5.mv hal h2, a6, by rw [hal.findClass]; exact a7, a8, a9, by rw [h1, h2]; exact a10, by rw [h1, h2]; exact a11⟩
namespace New4
def yN : MethodName := ⟨"java/lang/String", "<init>", "([CIILjava/lang/Void;)V"⟩
abbrev yB : ByteArray := jdk_42_method_149_code
theorem d0 : decode yB 0 = .ok (.aload_n 0, 1) := by decide +kernel
theorem d1 : decode yB 1 = .ok (.invokespecial 1, 3) := by decide +kernel
theorem d4 : decode yB 4 = .ok (.iload_n 3, 1) := by decide +kernel
theorem d5 : decode yB 5 = .ok (.ifCond (.ne) 22, 3) := by decide +kernel
theorem d27 : decode yB 27 = .ok (.getstatic 38, 3) := by decide +kernel
theorem d30 : decode yB 30 = .ok (.ifCond (.eq) 28, 3) := by decide +kernel
theorem d33 : decode yB 33 = .ok (.aload_n 1, 1) := by decide +kernel
theorem d34 : decode yB 34 = .ok (.iload_n 2, 1) := by decide +kernel
theorem d35 : decode yB 35 = .ok (.iload_n 3, 1) := by decide +kernel
theorem d36 : decode yB 36 = .ok (.invokestatic 177, 3) := by decide +kernel
theorem d39 : decode yB 39 = .ok (.astore 5, 2) := by decide +kernel
theorem d41 : decode yB 41 = .ok (.aload_n 0, 1) := by decide +kernel
theorem d42 : decode yB 42 = .ok (.aload 5, 2) := by decide +kernel
theorem d44 : decode yB 44 = .ok (.iload_n 3, 1) := by decide +kernel
theorem d45 : decode yB 45 = .ok (.invokestatic 47, 3) := by decide +kernel
theorem d48 : decode yB 48 = .ok (.putfield 15, 3) := by decide +kernel
theorem d51 : decode yB 51 = .ok (.aload_n 0, 1) := by decide +kernel
theorem d52 : decode yB 52 = .ok (.aload 5, 2) := by decide +kernel
theorem d54 : decode yB 54 = .ok (.putfield 9, 3) := by decide +kernel
theorem d57 : decode yB 57 = .ok (.return_, 1) := by decide +kernel
def site : List Cond := [.fieldLink "java/lang/String" 38 "java/lang/String" "COMPACT_STRINGS" "Z", Cmp3.tab, CodL.tab, .laysFinal "java/lang/String" "java/lang/String" "value" "[B", .fieldLink "java/lang/String" 9 "java/lang/String" "value" "[B", .laysFinal "java/lang/String" "java/lang/String" "coder" "B", .fieldLink "java/lang/String" 15 "java/lang/String" "coder" "B"] ++ objW "java/lang/String" 1 ++ staticW "java/lang/String" 177 Cmp3.yN ++ staticW "java/lang/String" 47 CodL.yN
def tab : Cond := tabOf yN yB 6 none site
def P (a : Addr) (D : Cell) (fV fC : Field) (b : Addr) (A : Cell) (z : Int32) (o len : Nat) (args : Array Value) (s : State) : Prop := args = #[.ref a, .ref b, .int (Int32.ofNat o), .int (Int32.ofNat len), .null] ∧ Blank "java/lang/String" a D s ∧ Found "java/lang/String" "value" "[B" fV s ∧ Found "java/lang/String" "coder" "B" fC s ∧ Ch b A s ∧ StaticIs s "java/lang/String" "COMPACT_STRINGS" "Z" (.int z) ∧ ¬ z = 0 ∧ 0 < len ∧ o + len ≤ A.slots.size ∧ len ≤ 536870912 ∧ ∀ i, i < len → ¬ 255 < cv A (o + i)
def E (a : Addr) (D : Cell) (fV fC : Field) (A : Cell) (o len : Nat) (r : Option Value) (s u : State) : Prop := Got a D fV fC A o len r s u
/-- len > 0, no char of the range above 255: a Latin-1 String of their low bytes -/
theorem law (l : Launch) (a : Addr) (D : Cell) (fV fC : Field) (b : Addr) (A : Cell) (z : Int32) (o len : Nat) : Law l yN 5 4 2 35 yB 6 none site (P a D fV fC b A z o len) (E a D fV fC A o len) [⟨a, fC.slot⟩, ⟨a, fV.slot⟩] 1 len := by
  refine Law.of_walk (plainFor_of_name (by decide +kernel)) (by decide +kernel) (by decide +kernel) (by decide) (fun _ _ h => by rw [h.1]; rfl) (fun _ U U' hal hh h => ⟨h.1, h.2.1.mv hal hh, h.2.2.1.al hal, h.2.2.2.1.al hal, h.2.2.2.2.1.mv hal hh, h.2.2.2.2.2.1.there hal hh, h.2.2.2.2.2.2⟩) (fun r U U' V V' h1 hal h2 h => Got.mv r U U' V V' h1 hal h2 h) ?_
  intro p e s m args below meth c s₁ X0 hexec hbytes hml hret hlk hnm hown hh0 W hP
  obtain ⟨rfl, hB, f1, f2, hA, s1, hz, l0, l1, l2, hp⟩ := hP
  have a31 := hA.1.2.2.2
  have c1 : Steps p.tables e below (s₁.setTop (entryFrame m #[.ref a, .ref b, .int (Int32.ofNat o), .int (Int32.ofNat len), .null] 6)) (s₁.setTop (mkF m 0 #[.val (.ref a), .val (.ref b), .val (.int (Int32.ofNat o)), .val (.int (Int32.ofNat len)), .val .null, .unset] [])) := entry rfl
  have c2 : Steps p.tables e below (s₁.setTop (entryFrame m #[.ref a, .ref b, .int (Int32.ofNat o), .int (Int32.ofNat len), .null] 6)) (s₁.setTop (mkF m 1 #[.val (.ref a), .val (.ref b), .val (.int (Int32.ofNat o)), .val (.int (Int32.ofNat len)), .val .null, .unset] [.ref a])) := c1.trans (by
    refine XS.aloadN X0.here hexec rfl (hb hbytes d0) rfl rfl ?_
    exact Steps.refl _)
  obtain ⟨T3, X3, q3, st3⟩ := X0.oinit hexec hown (wks W (objW "java/lang/String" 1)) (g := (mkF m 1 #[.val (.ref a), .val (.ref b), .val (.int (Int32.ofNat o)), .val (.int (Int32.ofNat len)), .val .null, .unset] [.ref a])) rfl (by rw [hml]; rfl) (rest := []) rfl (hb hbytes d1) (W := 0) (by show 2 * 0 + 0 ≤ _; decide) (Nat.le_of_ble_eq_true rfl) (Nat.le_of_ble_eq_true rfl)
  have hh3 := q3.trans hh0
  have c4 : Steps p.tables e below (s₁.setTop (entryFrame m #[.ref a, .ref b, .int (Int32.ofNat o), .int (Int32.ofNat len), .null] 6)) (T3.setTop (mkF m 27 #[.val (.ref a), .val (.ref b), .val (.int (Int32.ofNat o)), .val (.int (Int32.ofNat len)), .val .null, .unset] [])) := (c2.trans (st3 _ (Steps.refl _))).trans (by
    refine XS.iloadN X3.here hexec rfl (hb hbytes d4) rfl ?_
    refine XS.ifYes X3.here hexec rfl (pc0 := 5) rfl (hb hbytes d5) rfl (i0_ne_t (nz32 (by omega) l0)) (by decide) rfl ?_
    exact Steps.refl _)
  obtain ⟨T5, X5, q5, st5⟩ := X3.sget hexec hown (wk W (.fieldLink "java/lang/String" 38 "java/lang/String" "COMPACT_STRINGS" "Z")) s1 (fun _ _ h => by rw [hh3]; exact h) (g := (mkF m 27 #[.val (.ref a), .val (.ref b), .val (.int (Int32.ofNat o)), .val (.int (Int32.ofNat len)), .val .null, .unset] [])) rfl (hb hbytes d27)
  have hh5 := q5.trans hh3
  have c6 : Steps p.tables e below (s₁.setTop (entryFrame m #[.ref a, .ref b, .int (Int32.ofNat o), .int (Int32.ofNat len), .null] 6)) (T5.setTop (mkF m 30 #[.val (.ref a), .val (.ref b), .val (.int (Int32.ofNat o)), .val (.int (Int32.ofNat len)), .val .null, .unset] [.int z])) := c4.trans (st5 _ (Steps.refl _))
  have c7 : Steps p.tables e below (s₁.setTop (entryFrame m #[.ref a, .ref b, .int (Int32.ofNat o), .int (Int32.ofNat len), .null] 6)) (T5.setTop (mkF m 36 #[.val (.ref a), .val (.ref b), .val (.int (Int32.ofNat o)), .val (.int (Int32.ofNat len)), .val .null, .unset] [.int (Int32.ofNat len), .int (Int32.ofNat o), .ref b])) := c6.trans (by
    refine XS.ifNo X5.here hexec rfl (hb hbytes d30) rfl (i0_eq_f hz) ?_
    refine XS.aloadN X5.here hexec rfl (hb hbytes d33) rfl rfl ?_
    refine XS.iloadN X5.here hexec rfl (hb hbytes d34) rfl ?_
    refine XS.iloadN X5.here hexec rfl (hb hbytes d35) rfl ?_
    exact Steps.refl _)
  obtain ⟨v8, T8, X8, E8, g8⟩ := X5.callS hexec (Cmp3.law l b A o len) hown (wks W (staticW "java/lang/String" 177 Cmp3.yN)) (wk W Cmp3.tab) (W := 0) (Nat.le_of_ble_eq_true rfl) (Nat.le_of_ble_eq_true rfl) (Nat.le_refl _) (by show 0 + len ≤ len; omega) (g := (mkF m 36 #[.val (.ref a), .val (.ref b), .val (.int (Int32.ofNat o)), .val (.int (Int32.ofNat len)), .val .null, .unset] [.int (Int32.ofNat len), .int (Int32.ofNat o), .ref b])) rfl (by rw [hml]; rfl) c7 (argsL := [.ref b, .int (Int32.ofNat o), .int (Int32.ofNat len)]) (rest := []) rfl rfl (by show 2 * 0 + 0 ≤ _; decide) (hb hbytes d36) (⟨rfl, hA.mv X5.warmed.alike hh5, l1, l2, hp⟩)
  obtain ⟨e8, z8⟩ := E8
  obtain ⟨rfl, N, n1, n2, n3, n4, n5, n6⟩ := NewArr.mv _ T5 s _ _ hh5.symm (Vm.Alike.refl _) rfl e8
  rw [hh5] at z8
  have hB1 := hB.keep X8.warmed.alike (n6 _ _ hB.1)
  have hne : s.heap.size ≠ a := (Nat.ne_of_lt (Array.getElem?_eq_some_iff.mp hB.1).1).symm
  have c9 : Steps p.tables e below (s₁.setTop (entryFrame m #[.ref a, .ref b, .int (Int32.ofNat o), .int (Int32.ofNat len), .null] 6)) (T8.setTop (mkF m 39 #[.val (.ref a), .val (.ref b), .val (.int (Int32.ofNat o)), .val (.int (Int32.ofNat len)), .val .null, .unset] [.ref s.heap.size])) := g8
  have c10 : Steps p.tables e below (s₁.setTop (entryFrame m #[.ref a, .ref b, .int (Int32.ofNat o), .int (Int32.ofNat len), .null] 6)) (T8.setTop (mkF m 45 #[.val (.ref a), .val (.ref b), .val (.int (Int32.ofNat o)), .val (.int (Int32.ofNat len)), .val .null, .val (.ref s.heap.size)] [.int (Int32.ofNat N.slots.size), .ref s.heap.size, .ref a])) := by
    have hc : Steps p.tables e below (s₁.setTop (entryFrame m #[.ref a, .ref b, .int (Int32.ofNat o), .int (Int32.ofNat len), .null] 6)) (T8.setTop (mkF m 45 #[.val (.ref a), .val (.ref b), .val (.int (Int32.ofNat o)), .val (.int (Int32.ofNat len)), .val .null, .val (.ref s.heap.size)] [.int (Int32.ofNat len), .ref s.heap.size, .ref a])) := c9.trans (by
      refine XS.astore X8.here hexec rfl (hb hbytes d39) rfl rfl rfl ?_
      refine XS.aloadN X8.here hexec rfl (hb hbytes d41) rfl rfl ?_
      refine XS.aload X8.here hexec rfl (hb hbytes d42) rfl rfl ?_
      refine XS.iloadN X8.here hexec rfl (hb hbytes d44) rfl ?_
      exact Steps.refl _)
    rw [n4]; exact hc
  obtain ⟨v11, T11, X11, E11, g11⟩ := X8.callS hexec (CodL.law l s.heap.size N) hown (wks W (staticW "java/lang/String" 47 CodL.yN)) (wk W CodL.tab) (W := 1) (Nat.le_of_ble_eq_true rfl) (Nat.le_of_ble_eq_true rfl) (Nat.le_refl _) (by show 0 + len + 0 ≤ len; omega) (g := (mkF m 45 #[.val (.ref a), .val (.ref b), .val (.int (Int32.ofNat o)), .val (.int (Int32.ofNat len)), .val .null, .val (.ref s.heap.size)] [.int (Int32.ofNat N.slots.size), .ref s.heap.size, .ref a])) rfl (by rw [hml]; rfl) c10 (argsL := [.ref s.heap.size, .int (Int32.ofNat N.slots.size)]) (rest := [.ref a]) rfl rfl (by show 2 * 0 + (1 + 0) ≤ _; decide) (hb hbytes d45) (⟨rfl, n1⟩)
  obtain ⟨rfl, q11⟩ := E11
  have hB11 := hB1.mv (X8.warmed.alike.symm.trans X11.warmed.alike) q11
  have c12 : Steps p.tables e below (s₁.setTop (entryFrame m #[.ref a, .ref b, .int (Int32.ofNat o), .int (Int32.ofNat len), .null] 6)) (T11.setTop (mkF m 48 #[.val (.ref a), .val (.ref b), .val (.int (Int32.ofNat o)), .val (.int (Int32.ofNat len)), .val .null, .val (.ref s.heap.size)] [.int 0, .ref a])) := g11
  obtain ⟨T13, X13, p13, bl13, sl13, st13⟩ := X11.finit hexec hown (wk W (.fieldLink "java/lang/String" 15 "java/lang/String" "coder" "B")) (Or.inr ⟨_, (wk W (.laysFinal "java/lang/String" "java/lang/String" "coder" "B"))⟩) (Or.inl ⟨rfl, hnm⟩) f2 (Or.inl rfl) hB11 (t := .byte) (by decide +kernel) rfl (g := (mkF m 48 #[.val (.ref a), .val (.ref b), .val (.int (Int32.ofNat o)), .val (.int (Int32.ofNat len)), .val .null, .val (.ref s.heap.size)] [.int 0, .ref a])) rfl (rest := []) rfl (hb hbytes d48)
  have c14 : Steps p.tables e below (s₁.setTop (entryFrame m #[.ref a, .ref b, .int (Int32.ofNat o), .int (Int32.ofNat len), .null] 6)) (T13.setTop (mkF m 54 #[.val (.ref a), .val (.ref b), .val (.int (Int32.ofNat o)), .val (.int (Int32.ofNat len)), .val .null, .val (.ref s.heap.size)] [.ref s.heap.size, .ref a])) := (c12.trans (st13 _ (Steps.refl _))).trans (by
    refine XS.aloadN X13.here hexec rfl (hb hbytes d51) rfl rfl ?_
    refine XS.aload X13.here hexec rfl (hb hbytes d52) rfl rfl ?_
    exact Steps.refl _)
  obtain ⟨T15, X15, p15, bl15, sl15, st15⟩ := X13.finit hexec hown (wk W (.fieldLink "java/lang/String" 9 "java/lang/String" "value" "[B")) (Or.inr ⟨_, (wk W (.laysFinal "java/lang/String" "java/lang/String" "value" "[B"))⟩) (Or.inl ⟨rfl, hnm⟩) f1 (Or.inl rfl) bl13 (t := (.array .byte)) (by decide +kernel) rfl (g := (mkF m 54 #[.val (.ref a), .val (.ref b), .val (.int (Int32.ofNat o)), .val (.int (Int32.ofNat len)), .val .null, .val (.ref s.heap.size)] [.ref s.heap.size, .ref a])) rfl (rest := []) rfl (hb hbytes d54)
  have c16 : Steps p.tables e below (s₁.setTop (entryFrame m #[.ref a, .ref b, .int (Int32.ofNat o), .int (Int32.ofNat len), .null] 6)) (T15.setTop (mkF m 57 #[.val (.ref a), .val (.ref b), .val (.int (Int32.ofNat o)), .val (.int (Int32.ofNat len)), .val .null, .val (.ref s.heap.size)] [])) := c14.trans (st15 _ (Steps.refl _))
  have ap := apart (Or.inr ⟨_, (wk W (.laysFinal "java/lang/String" "java/lang/String" "value" "[B"))⟩) (Or.inr ⟨_, (wk W (.laysFinal "java/lang/String" "java/lang/String" "coder" "B"))⟩) f1 f2 (t₁ := .array .byte) (t₂ := .byte) (by decide +kernel) (by decide +kernel) (by decide)
  have al := X8.warmed.alike.symm.trans X15.warmed.alike
  have n7 : T11.heap[s.heap.size]? = some N := by rw [q11]; exact n1.1
  exact ⟨T15, none, _, _, _, X15, by simp, rfl, by omega, (fun _ => rfl), ⟨rfl, _, N, bl15, ((Same.refl D _).set _ (by simp)).set _ (by simp), sl15, (Cell.slots_setSlot_ne _ ap).trans sl13, n1.keep al (p15.other hne (p13.other hne n7)), n2, by rw [al.findClass]; exact n3, n4, n5, fun y c h1 h2 => p15.other h1 (p13.other h1 (by rw [q11]; exact n6 y c h2)), by rw [p15.2.2, p13.2.2, q11]; exact z8⟩, fun fs hl => c16.trans (X15.returnOut hexec hret (hb hbytes d57) hl)⟩
end New4
namespace New1
def yN : MethodName := ⟨"java/lang/String", "<init>", "([C)V"⟩
abbrev yB : ByteArray := jdk_42_method_3_code
theorem d0 : decode yB 0 = .ok (.aload_n 0, 1) := by decide +kernel
theorem d1 : decode yB 1 = .ok (.aload_n 1, 1) := by decide +kernel
theorem d2 : decode yB 2 = .ok (.iconst 0, 1) := by decide +kernel
theorem d3 : decode yB 3 = .ok (.aload_n 1, 1) := by decide +kernel
theorem d4 : decode yB 4 = .ok (.arraylength, 1) := by decide +kernel
theorem d5 : decode yB 5 = .ok (.aconst_null, 1) := by decide +kernel
theorem d6 : decode yB 6 = .ok (.invokespecial 27, 3) := by decide +kernel
theorem d9 : decode yB 9 = .ok (.return_, 1) := by decide +kernel
def site : List Cond := [New4.tab] ++ initW "java/lang/String" 27 New4.yN
def tab : Cond := tabOf yN yB 2 none site
def P (a : Addr) (D : Cell) (fV fC : Field) (b : Addr) (A : Cell) (z : Int32) (args : Array Value) (s : State) : Prop := args = #[.ref a, .ref b] ∧ Blank "java/lang/String" a D s ∧ Found "java/lang/String" "value" "[B" fV s ∧ Found "java/lang/String" "coder" "B" fC s ∧ Ch b A s ∧ StaticIs s "java/lang/String" "COMPACT_STRINGS" "Z" (.int z) ∧ ¬ z = 0 ∧ 0 < A.slots.size ∧ A.slots.size ≤ 536870912 ∧ ∀ i, i < A.slots.size → ¬ 255 < cv A i
def E (a : Addr) (D : Cell) (fV fC : Field) (A : Cell) (r : Option Value) (s u : State) : Prop := Got a D fV fC A 0 A.slots.size r s u
/-- new String(chars), not empty, no char above 255: a Latin-1 String of their low bytes -/
theorem law (l : Launch) (a : Addr) (D : Cell) (fV fC : Field) (b : Addr) (A : Cell) (z : Int32) : Law l yN 2 1 3 52 yB 2 none site (P a D fV fC b A z) (E a D fV fC A) [⟨a, fC.slot⟩, ⟨a, fV.slot⟩] 1 A.slots.size := by
  refine Law.of_walk (plainFor_of_name (by decide +kernel)) (by decide +kernel) (by decide +kernel) (by decide) (fun _ _ h => by rw [h.1]; rfl) (fun _ U U' hal hh h => ⟨h.1, h.2.1.mv hal hh, h.2.2.1.al hal, h.2.2.2.1.al hal, h.2.2.2.2.1.mv hal hh, h.2.2.2.2.2.1.there hal hh, h.2.2.2.2.2.2⟩) (fun r U U' V V' h1 hal h2 h => Got.mv r U U' V V' h1 hal h2 h) ?_
  intro p e s m args below meth c s₁ X0 hexec hbytes hml hret hlk hnm hown hh0 W hP
  obtain ⟨rfl, hB, f1, f2, hA, s1, hz, l0, l2, hp⟩ := hP
  have c1 : Steps p.tables e below (s₁.setTop (entryFrame m #[.ref a, .ref b] 2)) (s₁.setTop (mkF m 0 #[.val (.ref a), .val (.ref b)] [])) := entry rfl
  have c2 : Steps p.tables e below (s₁.setTop (entryFrame m #[.ref a, .ref b] 2)) (s₁.setTop (mkF m 6 #[.val (.ref a), .val (.ref b)] [.null, .int (Int32.ofNat A.slots.size), .int 0, .ref b, .ref a])) := c1.trans (by
    refine XS.aloadN X0.here hexec rfl (hb hbytes d0) rfl rfl ?_
    refine XS.aloadN X0.here hexec rfl (hb hbytes d1) rfl rfl ?_
    refine iconstV X0.here hexec rfl 0 (hb hbytes d2) (by decide) ?_
    refine XS.aloadN X0.here hexec rfl (hb hbytes d3) rfl rfl ?_
    refine X0.alen hexec (hA.1.mv X0.warmed.alike hh0) rfl rfl (hb hbytes d4) ?_
    refine XS.aconstNull X0.here hexec rfl (hb hbytes d5) ?_
    exact Steps.refl _)
  obtain ⟨v3, T3, X3, E3, g3⟩ := X0.callN hexec (New4.law l a D fV fC b A z 0 A.slots.size) rfl hown (wks W (initW "java/lang/String" 27 New4.yN)) (W New4.tab (by simp only [site, List.mem_cons, List.mem_append, true_or, or_true])) (W := 0) (Nat.le_of_ble_eq_true rfl) (Nat.le_of_ble_eq_true rfl) (Nat.le_refl _) (by show 0 + A.slots.size ≤ A.slots.size; omega) (g := (mkF m 6 #[.val (.ref a), .val (.ref b)] [.null, .int (Int32.ofNat A.slots.size), .int (Int32.ofNat 0), .ref b, .ref a])) rfl (by rw [hml]; rfl) c2 (argsL := [.ref b, .int (Int32.ofNat 0), .int (Int32.ofNat A.slots.size), .null]) (rest := []) rfl rfl (by show 2 * 0 + 0 ≤ _; decide) (hb hbytes d6) (⟨rfl, hB.mv X0.warmed.alike hh0, f1.al X0.warmed.alike, f2.al X0.warmed.alike, hA.mv X0.warmed.alike hh0, s1.there X0.warmed.alike hh0, hz, l0, by omega, l2, fun i hi => by rw [Nat.zero_add]; exact hp i hi⟩)
  have e0 := Got.mv _ s₁ s _ _ hh0.symm (Vm.Alike.refl _) rfl E3
  obtain rfl := e0.1
  have c4 : Steps p.tables e below (s₁.setTop (entryFrame m #[.ref a, .ref b] 2)) (T3.setTop (mkF m 9 #[.val (.ref a), .val (.ref b)] [])) := g3
  exact ⟨T3, none, _, _, _, X3, by simp, rfl, by omega, (fun _ => rfl), e0, fun fs hl => c4.trans (X3.returnOut hexec hret (hb hbytes d9) hl)⟩
theorem pays {l : Launch} {R : Room} {p : Program} {e : Env} {below : List Frame} {s : State} {sargs : Array Value} {len W : Nat} (a : Addr) (D : Cell) (fV fC : Field) (b : Addr) (A : Cell) (z : Int32) (htab : tab.before sargs s = true) (hfr : 4 ≤ R.frames) (hlo : W + 65 ≤ R.locals) :
    Back l R p e below s sargs yN len W (fun A₁ a₁ => A₁.cells + 1 ≤ R.cells ∧ A₁.slots + A.slots.size ≤ R.slots ∧ P a D fV fC b A z a₁ A₁.U) (fun A₁ _ v₁ B₁ => E a D fV fC A v₁ A₁.U B₁.U ∧ B₁.locs = A₁.locs ++ [⟨a, fC.slot⟩, ⟨a, fV.slot⟩] ∧ B₁.cells = A₁.cells + 1 ∧ B₁.slots = A₁.slots + A.slots.size) :=
  (law l a D fV fC b A z).pays htab hfr (by omega)
end New1
end StrChars
namespace StrChars.Road
open Jvm Sem ClassFile Op Lib Jvm.Stand Jvm.Free Jvm.Free.XT
open Jvm.Lib.Cold (StaticIs)
abbrev ST : String := "java/lang/String"
/-- every table word that New1's law asks, flat -/
abbrev words : List Jvm.Cond := [.code New1.yN New1.yB 2 none, .initialized ST, .methodLink ST 27 New4.yN, .instanceMethod New4.yN,
  .code New4.yN New4.yB 6 none, .fieldLink ST 38 ST "COMPACT_STRINGS" "Z", .laysFinal ST ST "value" "[B", .fieldLink ST 9 ST "value" "[B", .laysFinal ST ST "coder" "B", .fieldLink ST 15 ST "coder" "B",
  .methodLink ST 1 Lib.objectInit, .instanceMethod Lib.objectInit, .code Lib.objectInit ⟨#[0xb1]⟩ 1 none, .methodLink ST 177 Cmp3.yN, .static Cmp3.yN, .methodLink ST 47 CodL.yN, .static CodL.yN,
  .code Cmp3.yN Cmp3.yB 6 (some (.array .byte)), .initialized U16, .arrayClass .byte, .methodLink U16 115 Cmp5.yN, .static Cmp5.yN, .code Cmp5.yN Cmp5.yB 7 (some .int), .code CodL.yN CodL.yB 2 (some .byte)]
theorem tab_of {a : Array Value} {s : State} (h : ∀ w ∈ words, w.before a s = true) : New1.tab.before a s = true := by
  have h5 : Cmp5.tab.before a s = true := unparts (wk h (.code Cmp5.yN Cmp5.yB 7 (some .int))) (wks h (.initialized Cmp5.yN.cls :: Cmp5.site))
  have hc : CodL.tab.before a s = true := unparts (wk h (.code CodL.yN CodL.yB 2 (some .byte))) (wks h (.initialized CodL.yN.cls :: CodL.site))
  have q5 : ∀ w ∈ Cmp5.tab :: words, w.before a s = true := fun w hw => (List.mem_cons.mp hw).elim (fun e => e ▸ h5) (h w)
  have h3 : Cmp3.tab.before a s = true := unparts (wk q5 (.code Cmp3.yN Cmp3.yB 6 (some (.array .byte)))) (wks q5 (.initialized Cmp3.yN.cls :: Cmp3.site))
  have q3 : ∀ w ∈ Cmp3.tab :: CodL.tab :: words, w.before a s = true := fun w hw => (List.mem_cons.mp hw).elim (fun e => e ▸ h3) fun hw => (List.mem_cons.mp hw).elim (fun e => e ▸ hc) (h w)
  have h4 : New4.tab.before a s = true := unparts (wk q3 (.code New4.yN New4.yB 6 none)) (wks q3 (.initialized New4.yN.cls :: New4.site))
  have q4 : ∀ w ∈ New4.tab :: words, w.before a s = true := fun w hw => (List.mem_cons.mp hw).elim (fun e => e ▸ h4) (h w)
  exact unparts (wk q4 (.code New1.yN New1.yB 2 none)) (wks q4 (.initialized New1.yN.cls :: New1.site))
/-- the words ride from the start Z to the walk's own state -/
theorem moved {Z s : State} {a0 args : Array Value} (hZ : Z.Warmed39 s.vm) (hw : ∀ d ∈ words, d.before a0 Z = true) : ∀ d ∈ words, d.before args s = true := fun d hd => by
  have q := hw d hd
  have t : ∀ d ∈ words, d = .arrayClass .byte ∨ (d.onTables && d.keepsFace) = true := by decide +kernel
  rcases t d hd with rfl | t
  · exact RoadKit.mvA hZ q
  · exact RoadKit.mv hZ q t
/-- WHAT COMES BACK, over the tables of the start Z: h the heap at the call, h' behind it -/
def Q (Z : State) (x : Addr) (A : Cell) (h : Heap) (v : Option Value) (h' : Heap) (L : List Loc) : Prop := v = none ∧ (∀ y ∈ L, y.base = x) ∧ RoadKit.Keep h h' [x] ∧ h'.size = h.size + 1 ∧ RoadKit.Exa Z h' x ST ∧ RoadKit.Fld Z h' x ST "value" "[B" (.ref h.size) ∧ RoadKit.Fld Z h' x ST "coder" "B" (.int 0) ∧
  (∃ V : Cell, RoadKit.Arr Z h' h.size V .byte ∧ V.vm = .none ∧ Z.vm.findClass "[B" = some V.cls ∧ V.slots.size = A.slots.size ∧ ∀ j, j < A.slots.size → V.slots[j]? = some (.int (lo8 (cv A j)))) ∧
  ∀ (O n d : String) (w : Value), RoadKit.Fld Z h x O n d w → RoadKit.slotOf Z O n d ≠ RoadKit.slotOf Z ST "value" "[B" → RoadKit.slotOf Z O n d ≠ RoadKit.slotOf Z ST "coder" "B" → RoadKit.Fld Z h' x O n d w
/-- **new String(chars) AT A CALL, IN THE ROAD'S FORM**: for specialBack behind newO: x the fresh String, b the char[] with the cell A -/
theorem back {p : Program} {l : Launch} {e : Env} {R : Room} {s : State} {args : Array Value} {below : List Frame} {len W : Nat} {Z : State} {a0 : Array Value} {h : Heap} (hZ : Z.Warmed39 s.vm) (hw : ∀ d ∈ words, d.before a0 Z = true) {kI : Nat} (wi : (Jvm.Cond.instantiable ST kI).before a0 Z = true)
    {x b : Addr} {A : Cell} {z : Int32} {v0 c0 : Value} (E : RoadKit.Exa Z h x ST) (V : RoadKit.Fld Z h x ST "value" "[B" v0) (C : RoadKit.Fld Z h x ST "coder" "B" c0) (K : RoadKit.Arr Z h b A .char) (hty : Typed .char A) (S : RoadKit.Sta Z h ST "COMPACT_STRINGS" "Z" (.int z)) (hz : ¬ z = 0)
    (l0 : 0 < A.slots.size) (l2 : A.slots.size ≤ 536870912) (hp : ∀ i, i < A.slots.size → ¬ 255 < cv A i) (hfr : 4 ≤ R.frames) (hlo : W + 65 ≤ R.locals) :
    Back l R p e below s args New1.yN len W (fun P a => a = #[.ref x, .ref b] ∧ P.U.heap = h ∧ P.cells + 1 ≤ R.cells ∧ P.slots + A.slots.size ≤ R.slots)
      (fun P _ v B => ∃ L, Q Z x A h v B.U.heap L ∧ B.locs = P.locs ++ L ∧ B.cells = P.cells + 1 ∧ B.slots = P.slots + A.slots.size) := by
  intro m meth c P g ig mk a X hg hsize hdg hW hn hp'
  obtain ⟨rfl, rfl, r1, r2⟩ := hp'
  have al : Z.vm.Alike P.U.vm := hZ.alike.trans X.warmed.alike
  obtain ⟨D, cfV, kV, iV, fV, hD, gV, stV, knV, obV, asV, slV⟩ := id V
  obtain ⟨D', cfC, kC, iC, fC, hD', gC, stC, -, -, asC, slC⟩ := id C
  cases hD.symm.trans hD'
  obtain ⟨D2, kD, e1, e2, e3, e4, e5⟩ := id E
  cases hD.symm.trans e1
  obtain ⟨c2, k2, i1, i2, i3, -⟩ := Cond.instantiable_spec wi
  cases e2.symm.trans i1
  cases e3.symm.trans i2
  obtain ⟨kU, u1, u2⟩ := al.2.2 _ _ e3
  have hB : Blank ST x D P.U := ⟨hD, ⟨knV, fun q hq => by rw [hq] at obV; cases obV⟩, by rw [al.findClass]; exact e2, kU, u1, by rw [u2]; exact i3, by rw [u2]; exact e5 i3⟩
  have F1 : Found ST "value" "[B" fV P.U := ⟨SBG.found_only al ⟨cfV, kV, iV, gV⟩, stV⟩
  have F2 : Found ST "coder" "B" fC P.U := ⟨SBG.found_only al ⟨cfC, kC, iC, gC⟩, stC⟩
  have hA : Ch b A P.U := ⟨⟨K.1, State.isArrayOf_alike al K.2.1, K.2.2, by omega⟩, hty⟩
  have hS : StaticIs P.U ST "COMPACT_STRINGS" "Z" (.int z) := by
    obtain ⟨cfS, iS, kS, fS, st, cS, t1, t2, t3, t4, t5, t6, t7⟩ := S
    exact StaticIs.there (s := { Z with heap := P.U.heap }) ⟨cfS, iS, kS, fS, st, cS, t1, t2, t3, t4, t5, (fun q => by rw [q] at t6; cases t6), t7⟩ al rfl
  obtain ⟨v, B, X', ⟨⟨hv, E', V', q1, q2, q3, q4, q5, q6, q7, q8, q9, q10, q11⟩, hl, hc, hs⟩, st⟩ := New1.pays x D fV fC b A z (tab_of (moved hZ hw)) hfr hlo m meth c P g ig mk _ X hg hsize hdg hW hn ⟨r1, r2, rfl, hB, F1, F2, hA, hS, hz, l0, l2, hp⟩
  have al' : Z.vm.Alike B.U.vm := hZ.alike.trans X'.warmed.alike
  have hsz : E'.slots.size = D.slots.size := by
    obtain ⟨-, -, -, kB, w1, w2, w3⟩ := q1
    obtain ⟨kB', y1, y2⟩ := al'.2.2 _ _ e3
    rw [q2.2.1] at w1
    cases w1.symm.trans y1
    rw [w3, e5 i3, y2]
  refine ⟨v, B, X', ⟨_, ⟨hv, ?_, ⟨by omega, fun y cy hy hn' => q10 y cy (by simpa using hn') hy, fun y cy hy => ?_⟩, q11, ⟨E', _, q1.1, by rw [q2.2.1]; exact e2, by rw [q2.2.1]; exact e3, by rw [q2.1]; exact obV, fun _ => by rw [hsz]; exact e5 i3⟩,
    ⟨E', cfV, kV, iV, fV, q1.1, gV, stV, by rw [q2.1]; exact knV, by rw [q2.1]; exact obV, by rw [q2.2.1]; exact asV, q3⟩, ⟨E', cfC, kC, iC, fC, q1.1, gC, stC, by rw [q2.1]; exact knV, by rw [q2.1]; exact obV, by rw [q2.2.1]; exact asC, q4⟩,
    ⟨V', ⟨q5.1, State.isArrayOf_alike al'.symm q5.2.1, q5.2.2.1⟩, q6, by rw [← al'.findClass]; exact q7, q8, fun j hj => by have := q9 j hj; rwa [Nat.zero_add] at this⟩, fun O n d w F n1 n2 => ?_⟩, hl, hc, hs⟩, st⟩
  · intro y hy
    simp only [List.mem_cons, List.not_mem_nil, or_false] at hy
    rcases hy with rfl | rfl <;> rfl
  · by_cases q : y = x
    · subst q
      cases hD.symm.trans hy
      exact ⟨E', q1.1, q2.2.1, q2.1, hsz⟩
    · exact ⟨cy, q10 y cy q hy, rfl, rfl, rfl⟩
  · obtain ⟨D3, cf, k, i, f, g1, g2, g3, g4, g5, g6, g7⟩ := F
    cases hD.symm.trans g1
    simp only [RoadKit.slotOf, g2, gV, gC, Option.map_some, Option.getD_some] at n1 n2
    exact ⟨E', cf, k, i, f, q1.1, g2, g3, by rw [q2.1]; exact g4, by rw [q2.1]; exact g5, by rw [q2.2.1]; exact g6, by rw [q2.2.2 f.slot (by simp [n1, n2])]; exact g7⟩
end StrChars.Road
namespace StrChars.Road
open Jvm Sem ClassFile Op Lib Jvm.Stand Jvm.Free Jvm.Free.XT
/-- WHAT COMES BACK, the byte[] as a list of values -/
def QA (Z : State) (x : Addr) (zn : Int32) (cs : List Int32) (h : Heap) (v : Option Value) (h' : Heap) (L : List Loc) : Prop := v = none ∧ (∀ y ∈ L, y.base = x) ∧ RoadKit.Keep h h' [x] ∧ h'.size = h.size + 1 ∧ RoadKit.Exa Z h' x ST ∧ RoadKit.Fld Z h' x ST "value" "[B" (.ref h.size) ∧ RoadKit.Fld Z h' x ST "coder" "B" (.int 0) ∧
  (∃ kb, Z.vm.findClass "[B" = some kb ∧ RoadKit.Arv Z h' h.size kb .byte zn (cs.map fun c => .int (lo8 c)) (.int 0)) ∧
  ∀ (O n d : String) (w : Value), RoadKit.Fld Z h x O n d w → RoadKit.slotOf Z O n d ≠ RoadKit.slotOf Z ST "value" "[B" → RoadKit.slotOf Z O n d ≠ RoadKit.slotOf Z ST "coder" "B" → RoadKit.Fld Z h' x O n d w
/-- **new String(chars) AT A CALL, THE ARRAYS AS LISTS**: the char[] at b holds cs, not empty, no char above 255 -/
theorem backArv {p : Program} {l : Launch} {e : Env} {R : Room} {s : State} {args : Array Value} {below : List Frame} {len W : Nat} {Z : State} {a0 : Array Value} {h : Heap} (hZ : Z.Warmed39 s.vm) (hw : ∀ d ∈ words, d.before a0 Z = true) {kI : Nat} (wi : (Jvm.Cond.instantiable ST kI).before a0 Z = true)
    {x b : Addr} {k : ClassId} {zn z : Int32} {cs : List Int32} {dv v0 c0 : Value} (E : RoadKit.Exa Z h x ST) (V : RoadKit.Fld Z h x ST "value" "[B" v0) (C : RoadKit.Fld Z h x ST "coder" "B" c0) (K : RoadKit.Arv Z h b k .char zn (cs.map Value.int) dv) (S : RoadKit.Sta Z h ST "COMPACT_STRINGS" "Z" (.int z)) (hz : ¬ z = 0)
    (hlen : zn.toNatClampNeg = cs.length) (h0 : 0 < cs.length) (hbig : cs.length ≤ 536870912) (hall : ∀ c ∈ cs, ¬ 255 < c) (hfr : 4 ≤ R.frames) (hlo : W + 65 ≤ R.locals) :
    Back l R p e below s args New1.yN len W (fun P a => a = #[.ref x, .ref b] ∧ P.U.heap = h ∧ P.cells + 1 ≤ R.cells ∧ P.slots + cs.length ≤ R.slots)
      (fun P _ v B => ∃ L, QA Z x zn cs h v B.U.heap L ∧ B.locs = P.locs ++ L ∧ B.cells = P.cells + 1 ∧ B.slots = P.slots + cs.length) := by
  obtain ⟨A, K1, K2, K3, K4, K5, K6⟩ := K
  have e : A.slots.size = cs.length := K3.trans hlen
  have hat : ∀ (i : Nat) (hi : i < cs.length), A.slots[i]? = some (.int cs[i]) := fun i hi => by rw [K5 i (by omega)]; simp [List.getD_eq_getElem?_getD, hi]
  have hcv : ∀ (i : Nat) (hi : i < cs.length), cv A i = cs[i] := fun i hi => by unfold cv; rw [hat i hi]
  have hty : Typed .char A := fun i v hv => by
    have hi : i < A.slots.size := (Array.getElem?_eq_some_iff.mp hv).1
    have q := K5 i hi
    rw [hv] at q
    rw [Option.some.inj q]
    exact K6 i hi
  refine Back.mono (back hZ hw wi E V C K1 hty S hz (by omega) (by omega) (fun i hi => by rw [hcv i (by omega)]; exact hall _ (List.getElem_mem _)) hfr hlo) (fun P a hp => ⟨hp.1, hp.2.1, hp.2.2.1, by rw [e]; exact hp.2.2.2⟩) (fun P a v B hp hq => ?_)
  obtain ⟨L, ⟨q1, q2, q3, q4, q5, q6, q7, ⟨V', v1, v2, v3, v4, v5⟩, q9⟩, hl, hc, hs⟩ := hq
  refine ⟨L, ⟨q1, q2, q3, q4, q5, q6, q7, ⟨V'.cls, v3, V', v1, rfl, by rw [v4, e, hlen], K4, fun i hi => ?_, fun i hi => ?_⟩, q9⟩, hl, hc, by rw [hs, e]⟩
  · have hi' : i < cs.length := by omega
    rw [v5 i (by omega), hcv i hi']; simp [List.getD_eq_getElem?_getD, hi']
  · have hi' : i < cs.length := by omega
    simp only [List.getD_eq_getElem?_getD, List.getElem?_map, List.getElem?_eq_getElem hi', Option.map_some, Option.getD_some]
    exact fits_lo8 _
end StrChars.Road
namespace StrChars.Road
open Jvm Sem ClassFile Op Lib Jvm.Stand Jvm.Free Jvm.Free.XT
/-- WHAT COMES BACK, in the writer's own shape -/
def QV (Z : State) (x : Addr) (N : Int32) (bs : List Int32) (h : Heap) (n0 : Nat) (v : Option Value) (h' : Heap) (L : List Loc) : Prop := v = none ∧ RoadKit.Fr n0 L ∧ RoadKit.Keep h h' [x] ∧ RoadKit.Exa Z h' x ST ∧ RoadKit.Fld Z h' x ST "coder" "B" (.int 0) ∧
  ∃ (t : Addr) (kb : ClassId), n0 ≤ t ∧ h.size ≤ t ∧ ¬ t = x ∧ RoadKit.Fld Z h' x ST "value" "[B" (.ref t) ∧ RoadKit.Arv Z h' t kb .byte N (bs.map Value.int) (.int 0)
/-- **new String(chars) AT A CALL, FOR THE WRITER**: a char[] of n known ints, each 0 to 255 -/
theorem backV {p : Program} {l : Launch} {e : Env} {R : Room} {s : State} {args : Array Value} {below : List Frame} {len W : Nat} {Z : State} {a0 : Array Value} {h : Heap} (hZ : Z.Warmed39 s.vm) (hw : ∀ d ∈ words, d.before a0 Z = true) {kI : Nat} (wi : (Jvm.Cond.instantiable ST kI).before a0 Z = true)
    {x b : Addr} {kC : ClassId} {cs bs : List Int32} {d v0 c0 : Value} {z N : Int32} {n n0 : Nat} (hx0 : n0 ≤ x) (hh0 : n0 ≤ h.size) (E : RoadKit.Exa Z h x ST) (V : RoadKit.Fld Z h x ST "value" "[B" v0) (C : RoadKit.Fld Z h x ST "coder" "B" c0) (K : RoadKit.Arv Z h b kC .char N (cs.map Value.int) d) (S : RoadKit.Sta Z h ST "COMPACT_STRINGS" "Z" (.int z)) (hz : ¬ z = 0)
    (hn : cs.length = n) (hN : N = Int32.ofNat n) (l0 : 0 < n) (l2 : n ≤ 4000) (hp : ∀ c ∈ cs, ¬ c < 0 ∧ ¬ (255 : Int32) < c) (hb : bs = cs.map (fun c => c.toInt8.toInt32)) (hfr : 4 ≤ R.frames) (hlo : W + 65 ≤ R.locals) :
    Back l R p e below s args (⟨"java/lang/String", "<init>", "([C)V"⟩ : MethodName) len W (fun P a => a = #[.ref x, .ref b] ∧ P.U.heap = h ∧ P.cells + 1 ≤ R.cells ∧ P.slots + n ≤ R.slots)
      (fun P _ v B => ∃ L, QV Z x N bs h n0 v B.U.heap L ∧ B.locs = P.locs ++ L ∧ B.cells = P.cells + 1 ∧ B.slots = P.slots + n) := by
  subst hn hN hb
  refine Back.mono (backArv hZ hw wi E V C K S hz (n32 (by omega)) l0 (by omega) (fun c hc => (hp c hc).2) hfr hlo) (fun P a hp => hp) (fun P a v B hp hq => ?_)
  obtain ⟨L, ⟨q1, q2, q3, q4, q5, q6, q7, ⟨kb, v1, v2⟩, q9⟩, hl, hc, hs⟩ := hq
  exact ⟨L, ⟨q1, fun y hy => by rw [q2 y hy]; exact hx0, q3, q5, q7, h.size, kb, hh0, Nat.le_refl _, Nat.ne_of_gt E.lt, q6, by rw [List.map_map]; exact v2⟩, hl, hc, hs⟩
end StrChars.Road
end Jvm.Pilot.@@N@@

namespace Jvm.Pilot.@@N@@
open Jvm Jvm.ClassFile Sem Op Lib Jvm.Free Jvm.Stand Jvm.LawKit Jvm.RoadKit Bundle Jvm.Pilot.@@N@@.Jvm.D
section Own
variable {p : Program} {l : Launch} {e : Env} {R : Room} {s : State} {m : MethodId} {args : Array Value} {below : List Frame} {meth : Method} {c : Code} {T : State} {locs : List Loc} {cells slots : Nat}
theorem own_retI (X : Stand p l e R s m args below meth c T locs cells slots) (hx : p.tables.exec = Jvm.exec) {pc : Nat} {Ls : Array Slot} {z : Int32} {rest : List Value} (hret : meth.sig.returnType = some .int) (hd : decode c.code pc = .ok (.ireturn, 1)) {fs : List Frame}
    (hl : ∀ (f : JFrame) (acts : List Action), f.method = m → f.locked = none → f.entered = [] → (doReturn e (T.setTop f) acts (some (.int z))).1 = T.setFrames fs) : Steps p.tables e below (T.setTop (mkF m pc Ls (.int z :: rest))) (T.setFrames fs) := by
  have hm' : T.vm.method? m = some meth := X.method'
  have hn : narrow .int (.int z) = .int z := rfl
  show Steps p.tables e below (T.setTop { method := m, pc := pc, locals := Ls, stack := _ :: rest, locked := none }) _
  jvm_step X.here [X.here.top, hx, hd, hm', hret, hn]
  first | (intro acts; rw [hl _ acts rfl rfl rfl]) | rw [hl _ _ rfl rfl rfl]
  exact Steps.refl _
/-- from the state S the invocation comes to an end at which Post holds -/
def own_Go (p : Program) (e : Env) (below : List Frame) (Post : Outcome → State → Prop) (S : State) : Prop := ∃ s₂ o, Steps p.tables e below S s₂ ∧ s₂.status = .running ∧ Ended s₂ below o ∧ Post o s₂
theorem own_Go.of {Post : Outcome → State → Prop} {S S' : State} (k : ∀ target, Steps p.tables e below S' target → Steps p.tables e below S target) (h : own_Go p e below Post S') : own_Go p e below Post S := by
  obtain ⟨s₂, o, h1, h2⟩ := h
  exact ⟨s₂, o, k _ h1, h2⟩
theorem own_Go.tr {Post : Outcome → State → Prop} {S S' : State} (k : Steps p.tables e below S S') (h : own_Go p e below Post S') : own_Go p e below Post S := by
  obtain ⟨s₂, o, h1, h2⟩ := h
  exact ⟨s₂, o, k.trans h1, h2⟩
theorem own_retP (X : Stand p l e R s m args below meth c T locs cells slots) {v : Option Value} {Q : Option Value → Heap → List Loc → Prop} {C S : Nat} {g : JFrame} (hv : meth.sig.returnType = none → v = none) (hlk : meth.locks = false)
    (st : ∀ fs, (∀ (f : JFrame) (acts : List Action), f.method = m → f.locked = none → f.entered = [] → (doReturn e (T.setTop f) acts v).1 = T.setFrames fs) → Steps p.tables e below (T.setTop g) (T.setFrames fs)) (hc : cells ≤ C) (hs : slots ≤ S) (hQ : Q v T.heap locs) :
    own_Go p e below (fun o U' => ∃ v L, o = .returned v ∧ Q v U'.heap L ∧ FrameEnd s o U' L C S) (T.setTop g) := by
  obtain ⟨fs, hr, hrun, hended, hW, hsame⟩ := X.leave (v := v) hv hlk
  exact ⟨_, _, st fs hr, hrun, hended, _, _, rfl, hQ, ⟨_, rfl⟩, hW, hsame.mono hc hs⟩
theorem own_nar_ref {t : FieldType} {v : Value} (h : v.isRef = true) : narrow t v = v := by
  cases v <;> first | (cases t <;> rfl) | cases h
theorem own_cP {pc : Nat} {Ls : Array Slot} {S rest : List Value} {Post : Outcome → State → Prop} {Q : Option Value → Heap → List Loc → Prop} {j n : Nat} (X : Stand p l e R s m args below meth c T locs cells slots)
    (H : ∃ (v : Option Value) (vm₁ : Vm) (B : Pt), s.WarmedH vm₁ ∧ Stand p l e R s m args below meth c B.U B.locs B.cells B.slots ∧ (∃ L, Q v B.U.heap L ∧ B.locs = locs ++ L ∧ B.cells = cells + j ∧ B.slots = slots + n) ∧ Steps p.tables e below (T.setTop (mkF m pc Ls S)) (B.U.setTop (mkF m (pc + 3) Ls (v.toList ++ rest))))
    (k : ∀ v T' L, Stand p l e R s m args below meth c T' (locs ++ L) (cells + j) (slots + n) → Q v T'.heap L → own_Go p e below Post (T'.setTop (mkF m (pc + 3) Ls (v.toList ++ rest)))) : own_Go p e below Post (T.setTop (mkF m pc Ls S)) := by
  obtain ⟨v, vm₁, ⟨T', L', c', n'⟩, -, X', ⟨L, hQ, e1, e2, e3⟩, st⟩ := H
  dsimp only [Pt.U, Pt.locs, Pt.cells, Pt.slots] at X' e1 e2 e3 st hQ
  subst e1 e2 e3
  exact own_Go.tr st (k v T' L X' hQ)
theorem own_cF {pc : Nat} {Ls : Array Slot} {S rest : List Value} {Post : Outcome → State → Prop} {Q : Option Value → Heap → List Loc → Prop} {j n : Nat} (X : Stand p l e R s m args below meth c T locs cells slots)
    (H : ∃ (v : Option Value) (vm₁ : Vm) (B : Pt), s.WarmedH vm₁ ∧ Stand p l e R s m args below meth c B.U B.locs B.cells B.slots ∧ (∃ L, Q v B.U.heap L ∧ B.locs = locs ++ L ∧ B.cells = cells + j ∧ B.slots = slots + n) ∧ ∀ target, Steps p.tables e below (B.U.setTop (mkF m (pc + 3) Ls (v.toList ++ rest))) target → Steps p.tables e below (T.setTop (mkF m pc Ls S)) target)
    (k : ∀ v T' L, Stand p l e R s m args below meth c T' (locs ++ L) (cells + j) (slots + n) → Q v T'.heap L → own_Go p e below Post (T'.setTop (mkF m (pc + 3) Ls (v.toList ++ rest)))) : own_Go p e below Post (T.setTop (mkF m pc Ls S)) := by
  obtain ⟨v, vm₁, ⟨T', L', c', n'⟩, -, X', ⟨L, hQ, e1, e2, e3⟩, st⟩ := H
  dsimp only [Pt.U, Pt.locs, Pt.cells, Pt.slots] at X' e1 e2 e3 st hQ
  subst e1 e2 e3
  exact own_Go.of st (k v T' L X' hQ)
abbrev own_MP (l : Launch) (y : MethodName) (b : ByteArray) (ml : Nat) (rt : Option FieldType) (ws : List Jvm.Cond) (R : Room) (Z : State) (h0 : Heap) (as : Array Value) (K : Program → Env → List Frame → State → Array Value → Prop) (Q : Option Value → Heap → List Loc → Prop) : Prop :=
  MetFree l y (head1 (Jvm.Cond.code y b ml rt :: ws) R) (fun a U => a = as ∧ Z.Warmed39 U.vm ∧ U.heap = h0) K (fun _ U o U' => ∃ v L, o = .returned v ∧ Q v U'.heap L ∧ FrameEnd U o U' L R.cells R.slots)
theorem own_startP {l : Launch} {y : MethodName} {b : ByteArray} {ml : Nat} {rt : Option FieldType} {ws : List Jvm.Cond} {R : Room} {Z : State} {h0 : Heap} {as : Array Value} {K : Program → Env → List Frame → State → Array Value → Prop} {Q : Option Value → Heap → List Loc → Prop} (hpn : plainFor y = true)
    (h : ∀ (p : Program) (e : Env) (s : State) (m : MethodId) (below : List Frame) (meth : Method) (c : Code) (s₁ : State), BodyLoose p l y (head1 (Jvm.Cond.code y b ml rt :: ws) R) b ml rt e s m as below meth c s₁ → p.tables.exec = Jvm.exec → c.code = b → c.maxLocals = ml → s.vm.findClass y.cls = some m.cls → Stand p l e R s m as below meth c s₁ [] 0 0 → s₁.heap = h0 → s.heap = h0 → Z.Warmed39 s.vm → K p e below s as →
      ∀ Pst : Outcome → State → Prop, Pst = (fun o U' => ∃ v L, o = .returned v ∧ Q v U'.heap L ∧ FrameEnd s o U' L R.cells R.slots) → own_Go p e below Pst (s₁.setTop (entryFrame m as ml))) : own_MP l y b ml rt ws R Z h0 as K Q := by
  refine MetFree.of_bodySF hpn hisR ?_
  intro p e s m args below meth c s₁ Bd hml0 hP hK
  obtain ⟨rfl, hZ, hh0⟩ := hP
  exact h p e s m below meth c s₁ Bd Bd.exec Bd.bytes hml0 (findClass_of_methodNamed Bd.named) (Stand.of_body Bd) (by rw [← hh0, Bd.state]; rfl) hh0 hZ hK _ rfl
end Own
section OwnS
variable {p : Program} {l : Launch} {e : Env} {R : Room} {s : State} {m : MethodId} {args : Array Value} {below : List Frame} {meth : Method} {c : Code} {T : State} {locs : List Loc} {cells slots : Nat}
theorem own_retW {Z : State} {EL : List (String × Nat)} {vm₁ : Vm} (X : Stand p l e R (s.setVm vm₁) m args below meth c T locs cells slots) {n : Nat} (hS : s.Since vm₁ n) (hn : n ≤ T.heap.size) {v : Option Value} {Q : Option Value → Heap → List Loc → Prop} {C S : Nat} {g : JFrame} (hv : meth.sig.returnType = none → v = none) (hlk : meth.locks = false)
    (st : ∀ fs, (∀ (f : JFrame) (acts : List Action), f.method = m → f.locked = none → f.entered = [] → (doReturn e (T.setTop f) acts v).1 = T.setFrames fs) → Steps p.tables e below (T.setTop g) (T.setFrames fs)) (hc : cells ≤ C) (hs : slots ≤ S) (hCH : CHr Z EL s.vm s.heap T.vm T.heap) (hQ : Q v T.heap locs) :
    own_Go p e below (fun o U' => ∃ v L, o = .returned v ∧ Q v U'.heap L ∧ CHr Z EL s.vm s.heap U'.vm U'.heap ∧ ReturnedEndW s o U' L C S) (T.setTop g) := by
  obtain ⟨fs, hr, hrun, hended, h1, h2, h3, h4⟩ := X.leaveW hS hn (v := v) hv hlk
  exact ⟨_, _, st fs hr, hrun, hended, _, _, rfl, hQ, hCH, h1, h2, h3, h4.mono hc hs⟩
theorem own_cS {Z : State} {EL : List (String × Nat)} {vm0 : Vm} {k0 : Nat} {own : String} {h : Heap} {pc : Nat} {Ls : Array Slot} {S rest : List Value} {Post : Outcome → State → Prop} {Q : Option Value → Heap → List Loc → Prop} {j n : Nat} (X : Stand p l e R (s.setVm vm0) m args below meth c T locs cells slots) (hS : s.Since vm0 k0) (hk : k0 ≤ T.heap.size) (hZ : Z.Warmed39 (s.setVm vm0).vm) (hown : (s.setVm vm0).vm.findClass own = some m.cls)
    (H : ∃ (v : Option Value) (vm₁ : Vm) (B : Pt), (s.setVm vm0).WarmedH vm₁ ∧ Stand p l e R ((s.setVm vm0).setVm B.U.vm) m args below meth c B.U B.locs B.cells B.slots ∧ (s.setVm vm0).Since B.U.vm B.U.heap.size ∧ T.heap.size ≤ B.U.heap.size ∧ (∃ L, Q v B.U.heap L ∧ B.locs = locs ++ L ∧ B.cells = cells + j ∧ B.slots = slots + n ∧ CHr Z EL vm0 h B.U.vm B.U.heap) ∧ Steps p.tables e below (T.setTop (mkF m pc Ls S)) (B.U.setTop (mkF m (pc + 3) Ls (v.toList ++ rest))))
    (k : ∀ v T' L, Stand p l e R (s.setVm T'.vm) m args below meth c T' (locs ++ L) (cells + j) (slots + n) → s.Since T'.vm T'.heap.size → Z.Warmed39 (s.setVm T'.vm).vm → (s.setVm T'.vm).vm.findClass own = some m.cls → Q v T'.heap L → CHr Z EL vm0 h T'.vm T'.heap → own_Go p e below Post (T'.setTop (mkF m (pc + 3) Ls (v.toList ++ rest)))) : own_Go p e below Post (T.setTop (mkF m pc Ls S)) := by
  obtain ⟨v, vm₁, ⟨T', L', c', n'⟩, -, X', hs, gr, ⟨L, hQ, e1, e2, e3, cr⟩, st⟩ := H
  dsimp only [Pt.U, Pt.locs, Pt.cells, Pt.slots] at X' e1 e2 e3 st hQ hs gr cr
  subst e1 e2 e3
  obtain ⟨q1, q2, q3, q4⟩ := rebS hS hk X' hs gr hZ hown
  exact own_Go.tr st (k v T' L q1 q2 q3 q4 hQ cr)
abbrev own_MS (EL : List (String × Nat)) (l : Launch) (y : MethodName) (b : ByteArray) (ml : Nat) (rt : Option FieldType) (ws : List Jvm.Cond) (R : Room) (Z : State) (h0 : Heap) (as : Array Value) (K : Program → Env → List Frame → State → Array Value → Prop) (Q : Option Value → Heap → List Loc → Prop) : Prop :=
  MetFree l y (head1 (Jvm.Cond.code y b ml rt :: ws) R) (fun a U => a = as ∧ Z.Warmed39 U.vm ∧ U.heap = h0 ∧ CHv Z EL U.vm h0) K (fun _ U o U' => ∃ v L, o = .returned v ∧ Q v U'.heap L ∧ CHr Z EL U.vm U.heap U'.vm U'.heap ∧ ReturnedEndW U o U' L R.cells R.slots)
theorem own_startS {EL : List (String × Nat)} {l : Launch} {y : MethodName} {b : ByteArray} {ml : Nat} {rt : Option FieldType} {ws : List Jvm.Cond} {R : Room} {Z : State} {h0 : Heap} {as : Array Value} {K : Program → Env → List Frame → State → Array Value → Prop} {Q : Option Value → Heap → List Loc → Prop} (hpn : plainFor y = true)
    (h : ∀ (p : Program) (e : Env) (s : State) (m : MethodId) (below : List Frame) (meth : Method) (c : Code) (s₁ : State), BodyLoose p l y (head1 (Jvm.Cond.code y b ml rt :: ws) R) b ml rt e s m as below meth c s₁ → p.tables.exec = Jvm.exec → c.code = b → c.maxLocals = ml → s.vm.findClass y.cls = some m.cls → Stand p l e R (s.setVm s.vm) m as below meth c s₁ [] 0 0 → s₁.heap = h0 → s.heap = h0 → Z.Warmed39 s.vm → CHv Z EL s.vm h0 → s.Since s.vm 0 → K p e below s as →
      ∀ Pst : Outcome → State → Prop, Pst = (fun o U' => ∃ v L, o = .returned v ∧ Q v U'.heap L ∧ CHr Z EL s.vm s.heap U'.vm U'.heap ∧ ReturnedEndW s o U' L R.cells R.slots) → own_Go p e below Pst (s₁.setTop (entryFrame m as ml))) : own_MS EL l y b ml rt ws R Z h0 as K Q := by
  refine MetFree.of_bodySF hpn hisR ?_
  intro p e s m args below meth c s₁ Bd hml0 hP hK
  obtain ⟨rfl, hZ, hh0, hCH⟩ := hP
  exact h p e s m below meth c s₁ Bd Bd.exec Bd.bytes hml0 (findClass_of_methodNamed Bd.named) (Stand.of_body Bd) (by rw [← hh0, Bd.state]; rfl) hh0 hZ hCH ((State.WarmedH.refl s).since 0) hK _ rfl
end OwnS
section OwnX
variable {p : Program} {e : Env} {m : MethodId} {below : List Frame} {c : Code} {T : State}
theorem own_x_aconstNull {pc : Nat} {Ls : Array Slot} {S : List Value} {Post : Outcome → State → Prop} (h : At T m c below) (hx : p.tables.exec = Jvm.exec) (hd : decode c.code pc = .ok (.aconst_null, 1)) (hr : own_Go p e below Post (T.setTop (mkF m (pc + 1) (Ls) (.null :: S)))) : own_Go p e below Post (T.setTop (mkF m pc Ls S)) := own_Go.of (fun t k => XS.aconstNull h hx rfl hd k) hr
theorem own_x_aload {pc : Nat} {Ls : Array Slot} {S : List Value} {Post : Outcome → State → Prop} (h : At T m c below) (hx : p.tables.exec = Jvm.exec) {k : Nat} {v : Value} (hd : decode c.code pc = .ok (.aload k, 2)) (hl : Ls[k]? = some (.val v)) (hv : v.isRef = true) (hr : own_Go p e below Post (T.setTop (mkF m (pc + 2) (Ls) (v :: S)))) : own_Go p e below Post (T.setTop (mkF m pc Ls S)) := own_Go.of (fun t k => XS.aload h hx rfl hd hl hv k) hr
theorem own_x_aloadN {pc : Nat} {Ls : Array Slot} {S : List Value} {Post : Outcome → State → Prop} (h : At T m c below) (hx : p.tables.exec = Jvm.exec) {k : Fin 4} {v : Value} (hd : decode c.code pc = .ok (.aload_n k, 1)) (hl : Ls[k.val]? = some (.val v)) (hv : v.isRef = true) (hr : own_Go p e below Post (T.setTop (mkF m (pc + 1) (Ls) (v :: S)))) : own_Go p e below Post (T.setTop (mkF m pc Ls S)) := own_Go.of (fun t k => XS.aloadN h hx rfl hd hl hv k) hr
theorem own_x_astore {pc : Nat} {Ls : Array Slot} {S : List Value} {Post : Outcome → State → Prop} (h : At T m c below) (hx : p.tables.exec = Jvm.exec) {k : Nat} {x : Value} {rest : List Value} {l' : Array Slot} (hd : decode c.code pc = .ok (.astore k, 2)) (hs : S = x :: rest) (hv : x.isRef = true) (hl : storeLocals Ls k x = some l') (hr : own_Go p e below Post (T.setTop (mkF m (pc + 2) (l') (rest)))) : own_Go p e below Post (T.setTop (mkF m pc Ls S)) := own_Go.of (fun t k => XS.astore h hx rfl hd hs hv hl k) hr
theorem own_x_astoreN {pc : Nat} {Ls : Array Slot} {S : List Value} {Post : Outcome → State → Prop} (h : At T m c below) (hx : p.tables.exec = Jvm.exec) {k : Fin 4} {x : Value} {rest : List Value} {l' : Array Slot} (hd : decode c.code pc = .ok (.astore_n k, 1)) (hs : S = x :: rest) (hv : x.isRef = true) (hl : storeLocals Ls k.val x = some l') (hr : own_Go p e below Post (T.setTop (mkF m (pc + 1) (l') (rest)))) : own_Go p e below Post (T.setTop (mkF m pc Ls S)) := own_Go.of (fun t k => XS.astoreN h hx rfl hd hs hv hl k) hr
theorem own_x_bipush {pc : Nat} {Ls : Array Slot} {S : List Value} {Post : Outcome → State → Prop} (h : At T m c below) (hx : p.tables.exec = Jvm.exec) {i : Int} (hd : decode c.code pc = .ok (.bipush i, 2)) {z : Int32} (hz : (Int8.ofInt i).toInt32 = z) (hr : own_Go p e below Post (T.setTop (mkF m (pc + 2) (Ls) (.int z :: S)))) : own_Go p e below Post (T.setTop (mkF m pc Ls S)) := by subst hz; exact own_Go.of (fun t k => XS.bipush h hx rfl hd k) hr
theorem own_x_dup {pc : Nat} {Ls : Array Slot} {S : List Value} {Post : Outcome → State → Prop} (h : At T m c below) (hx : p.tables.exec = Jvm.exec) {x : Value} {rest : List Value} (hd : decode c.code pc = .ok (.dup, 1)) (hs : S = x :: rest) (hc : x.category = 1) (hr : own_Go p e below Post (T.setTop (mkF m (pc + 1) (Ls) (x :: x :: rest)))) : own_Go p e below Post (T.setTop (mkF m pc Ls S)) := own_Go.of (fun t k => XS.dup h hx rfl hd hs hc k) hr
theorem own_x_goto {pc : Nat} {Ls : Array Slot} {S : List Value} {Post : Outcome → State → Prop} (h : At T m c below) (hx : p.tables.exec = Jvm.exec) {o : Int} {pc0 pc' : Nat} (hpc : pc = pc0) (hd : decode c.code pc = .ok (.goto o, 3)) (ho : 0 ≤ (pc0 : Int) + o) (hp : ((pc0 : Int) + o).toNat = pc') (hr : own_Go p e below Post (T.setTop (mkF m (pc') (Ls) (S)))) : own_Go p e below Post (T.setTop (mkF m pc Ls S)) := own_Go.of (fun t k => XS.goto h hx rfl hpc hd ho hp k) hr
theorem own_x_i2b {pc : Nat} {Ls : Array Slot} {S : List Value} {Post : Outcome → State → Prop} (h : At T m c below) (hx : p.tables.exec = Jvm.exec) {v : Int32} {rest : List Value} (hd : decode c.code pc = .ok (.i2b, 1)) (hs : S = .int v :: rest) (hr : own_Go p e below Post (T.setTop (mkF m (pc + 1) (Ls) (.int (v.toInt8.toInt32) :: rest)))) : own_Go p e below Post (T.setTop (mkF m pc Ls S)) := own_Go.of (fun t k => XS.i2b h hx rfl hd hs k) hr
theorem own_x_i2c {pc : Nat} {Ls : Array Slot} {S : List Value} {Post : Outcome → State → Prop} (h : At T m c below) (hx : p.tables.exec = Jvm.exec) {v : Int32} {rest : List Value} (hd : decode c.code pc = .ok (.i2c, 1)) (hs : S = .int v :: rest) (hr : own_Go p e below Post (T.setTop (mkF m (pc + 1) (Ls) (.int (v.toUInt32.toUInt16.toUInt32.toInt32) :: rest)))) : own_Go p e below Post (T.setTop (mkF m pc Ls S)) := own_Go.of (fun t k => XS.i2c h hx rfl hd hs k) hr
theorem own_x_iand {pc : Nat} {Ls : Array Slot} {S : List Value} {Post : Outcome → State → Prop} (h : At T m c below) (hx : p.tables.exec = Jvm.exec) {x y : Int32} {rest : List Value} (hd : decode c.code pc = .ok (.iand, 1)) (hs : S = .int y :: .int x :: rest) (hr : own_Go p e below Post (T.setTop (mkF m (pc + 1) (Ls) (.int (x &&& y) :: rest)))) : own_Go p e below Post (T.setTop (mkF m pc Ls S)) := own_Go.of (fun t k => XS.iand h hx rfl hd hs k) hr
theorem own_x_icmpNo {pc : Nat} {Ls : Array Slot} {S : List Value} {Post : Outcome → State → Prop} (h : At T m c below) (hx : p.tables.exec = Jvm.exec) {cd : ClassFile.Cond} {o : Int} {x y : Int32} {rest : List Value} (hd : decode c.code pc = .ok (.if_icmp cd o, 3)) (hs : S = .int y :: .int x :: rest) (hc : if_icmp.holds cd x y = false) (hr : own_Go p e below Post (T.setTop (mkF m (pc + 3) (Ls) (rest)))) : own_Go p e below Post (T.setTop (mkF m pc Ls S)) := own_Go.of (fun t k => XS.icmpNo h hx rfl hd hs hc k) hr
theorem own_x_icmpYes {pc : Nat} {Ls : Array Slot} {S : List Value} {Post : Outcome → State → Prop} (h : At T m c below) (hx : p.tables.exec = Jvm.exec) {cd : ClassFile.Cond} {x y : Int32} {rest : List Value} {o : Int} {pc0 pc' : Nat} (hpc : pc = pc0) (hd : decode c.code pc = .ok (.if_icmp cd o, 3)) (hs : S = .int y :: .int x :: rest) (hc : if_icmp.holds cd x y = true) (ho : 0 ≤ (pc0 : Int) + o) (hp : ((pc0 : Int) + o).toNat = pc') (hr : own_Go p e below Post (T.setTop (mkF m (pc') (Ls) (rest)))) : own_Go p e below Post (T.setTop (mkF m pc Ls S)) := own_Go.of (fun t k => XS.icmpYes h hx rfl hpc hd hs hc ho hp k) hr
theorem own_x_iconst {pc : Nat} {Ls : Array Slot} {S : List Value} {Post : Outcome → State → Prop} (h : At T m c below) (hx : p.tables.exec = Jvm.exec) {i : Int} (hd : decode c.code pc = .ok (.iconst i, 1)) {z : Int32} (hz : (Int32.ofInt i) = z) (hr : own_Go p e below Post (T.setTop (mkF m (pc + 1) (Ls) (.int z :: S)))) : own_Go p e below Post (T.setTop (mkF m pc Ls S)) := by subst hz; exact own_Go.of (fun t k => XS.iconst h hx rfl hd k) hr
theorem own_x_ifNo {pc : Nat} {Ls : Array Slot} {S : List Value} {Post : Outcome → State → Prop} (h : At T m c below) (hx : p.tables.exec = Jvm.exec) {cd : ClassFile.Cond} {o : Int} {x : Int32} {rest : List Value} (hd : decode c.code pc = .ok (.ifCond cd o, 3)) (hs : S = .int x :: rest) (hc : ifCond.holds cd x = false) (hr : own_Go p e below Post (T.setTop (mkF m (pc + 3) (Ls) (rest)))) : own_Go p e below Post (T.setTop (mkF m pc Ls S)) := own_Go.of (fun t k => XS.ifNo h hx rfl hd hs hc k) hr
theorem own_x_ifYes {pc : Nat} {Ls : Array Slot} {S : List Value} {Post : Outcome → State → Prop} (h : At T m c below) (hx : p.tables.exec = Jvm.exec) {cd : ClassFile.Cond} {x : Int32} {rest : List Value} {o : Int} {pc0 pc' : Nat} (hpc : pc = pc0) (hd : decode c.code pc = .ok (.ifCond cd o, 3)) (hs : S = .int x :: rest) (hc : ifCond.holds cd x = true) (ho : 0 ≤ (pc0 : Int) + o) (hp : ((pc0 : Int) + o).toNat = pc') (hr : own_Go p e below Post (T.setTop (mkF m (pc') (Ls) (rest)))) : own_Go p e below Post (T.setTop (mkF m pc Ls S)) := own_Go.of (fun t k => XS.ifYes h hx rfl hpc hd hs hc ho hp k) hr
theorem own_x_ifnonnullNo {pc : Nat} {Ls : Array Slot} {S : List Value} {Post : Outcome → State → Prop} (h : At T m c below) (hx : p.tables.exec = Jvm.exec) {o : Int} {rest : List Value} (hd : decode c.code pc = .ok (.ifnonnull o, 3)) (hs : S = .null :: rest) (hr : own_Go p e below Post (T.setTop (mkF m (pc + 3) (Ls) (rest)))) : own_Go p e below Post (T.setTop (mkF m pc Ls S)) := own_Go.of (fun t k => XS.ifnonnullNo h hx rfl hd hs k) hr
theorem own_x_ifnonnullYes {pc : Nat} {Ls : Array Slot} {S : List Value} {Post : Outcome → State → Prop} (h : At T m c below) (hx : p.tables.exec = Jvm.exec) {b : Addr} {rest : List Value} {o : Int} {pc0 pc' : Nat} (hpc : pc = pc0) (hd : decode c.code pc = .ok (.ifnonnull o, 3)) (hs : S = .ref b :: rest) (ho : 0 ≤ (pc0 : Int) + o) (hp : ((pc0 : Int) + o).toNat = pc') (hr : own_Go p e below Post (T.setTop (mkF m (pc') (Ls) (rest)))) : own_Go p e below Post (T.setTop (mkF m pc Ls S)) := own_Go.of (fun t k => XS.ifnonnullYes h hx rfl hpc hd hs ho hp k) hr
theorem own_x_ifnullNo {pc : Nat} {Ls : Array Slot} {S : List Value} {Post : Outcome → State → Prop} (h : At T m c below) (hx : p.tables.exec = Jvm.exec) {o : Int} {b : Addr} {rest : List Value} (hd : decode c.code pc = .ok (.ifnull o, 3)) (hs : S = .ref b :: rest) (hr : own_Go p e below Post (T.setTop (mkF m (pc + 3) (Ls) (rest)))) : own_Go p e below Post (T.setTop (mkF m pc Ls S)) := own_Go.of (fun t k => XS.ifnullNo h hx rfl hd hs k) hr
theorem own_x_ifnullYes {pc : Nat} {Ls : Array Slot} {S : List Value} {Post : Outcome → State → Prop} (h : At T m c below) (hx : p.tables.exec = Jvm.exec) {rest : List Value} {o : Int} {pc0 pc' : Nat} (hpc : pc = pc0) (hd : decode c.code pc = .ok (.ifnull o, 3)) (hs : S = .null :: rest) (ho : 0 ≤ (pc0 : Int) + o) (hp : ((pc0 : Int) + o).toNat = pc') (hr : own_Go p e below Post (T.setTop (mkF m (pc') (Ls) (rest)))) : own_Go p e below Post (T.setTop (mkF m pc Ls S)) := own_Go.of (fun t k => XS.ifnullYes h hx rfl hpc hd hs ho hp k) hr
theorem own_x_iinc {pc : Nat} {Ls : Array Slot} {S : List Value} {Post : Outcome → State → Prop} (h : At T m c below) (hx : p.tables.exec = Jvm.exec) {k : Nat} {cst : Int} {x : Int32} {l' : Array Slot} (hd : decode c.code pc = .ok (.iinc k cst, 3)) (hl : Ls[k]? = some (.val (.int x))) (hl' : storeLocals Ls k (.int (x + Int32.ofInt cst)) = some l') (hr : own_Go p e below Post (T.setTop (mkF m (pc + 3) (l') (S)))) : own_Go p e below Post (T.setTop (mkF m pc Ls S)) := own_Go.of (fun t k => XS.iinc h hx rfl hd hl hl' k) hr
theorem own_x_iload {pc : Nat} {Ls : Array Slot} {S : List Value} {Post : Outcome → State → Prop} (h : At T m c below) (hx : p.tables.exec = Jvm.exec) {k : Nat} {v : Int32} (hd : decode c.code pc = .ok (.iload k, 2)) (hl : Ls[k]? = some (.val (.int v))) (hr : own_Go p e below Post (T.setTop (mkF m (pc + 2) (Ls) (.int v :: S)))) : own_Go p e below Post (T.setTop (mkF m pc Ls S)) := own_Go.of (fun t k => XS.iload h hx rfl hd hl k) hr
theorem own_x_iloadN {pc : Nat} {Ls : Array Slot} {S : List Value} {Post : Outcome → State → Prop} (h : At T m c below) (hx : p.tables.exec = Jvm.exec) {k : Fin 4} {v : Int32} (hd : decode c.code pc = .ok (.iload_n k, 1)) (hl : Ls[k.val]? = some (.val (.int v))) (hr : own_Go p e below Post (T.setTop (mkF m (pc + 1) (Ls) (.int v :: S)))) : own_Go p e below Post (T.setTop (mkF m pc Ls S)) := own_Go.of (fun t k => XS.iloadN h hx rfl hd hl k) hr
theorem own_x_ior {pc : Nat} {Ls : Array Slot} {S : List Value} {Post : Outcome → State → Prop} (h : At T m c below) (hx : p.tables.exec = Jvm.exec) {x : Int32} {y : Int32} {rest : List Value} (hd : decode c.code pc = .ok (.ior, 1)) (hs : S = .int y :: .int x :: rest) (hr : own_Go p e below Post (T.setTop (mkF m (pc + 1) (Ls) (.int (x ||| y) :: rest)))) : own_Go p e below Post (T.setTop (mkF m pc Ls S)) := own_Go.of (fun t k => XS.ior h hx rfl hd hs k) hr
theorem own_x_ishl {pc : Nat} {Ls : Array Slot} {S : List Value} {Post : Outcome → State → Prop} (h : At T m c below) (hx : p.tables.exec = Jvm.exec) {x : Int32} {y : Int32} {rest : List Value} (hd : decode c.code pc = .ok (.ishl, 1)) (hs : S = .int y :: .int x :: rest) (hr : own_Go p e below Post (T.setTop (mkF m (pc + 1) (Ls) (.int (x <<< (y &&& 31)) :: rest)))) : own_Go p e below Post (T.setTop (mkF m pc Ls S)) := own_Go.of (fun t k => XS.ishl h hx rfl hd hs k) hr
theorem own_x_ishr {pc : Nat} {Ls : Array Slot} {S : List Value} {Post : Outcome → State → Prop} (h : At T m c below) (hx : p.tables.exec = Jvm.exec) {x : Int32} {y : Int32} {rest : List Value} (hd : decode c.code pc = .ok (.ishr, 1)) (hs : S = .int y :: .int x :: rest) (hr : own_Go p e below Post (T.setTop (mkF m (pc + 1) (Ls) (.int (x >>> (y &&& 31)) :: rest)))) : own_Go p e below Post (T.setTop (mkF m pc Ls S)) := own_Go.of (fun t k => XS.ishr h hx rfl hd hs k) hr
theorem own_x_istore {pc : Nat} {Ls : Array Slot} {S : List Value} {Post : Outcome → State → Prop} (h : At T m c below) (hx : p.tables.exec = Jvm.exec) {k : Nat} {x : Int32} {rest : List Value} {l' : Array Slot} (hd : decode c.code pc = .ok (.istore k, 2)) (hs : S = .int x :: rest) (hl : storeLocals Ls k (.int x) = some l') (hr : own_Go p e below Post (T.setTop (mkF m (pc + 2) (l') (rest)))) : own_Go p e below Post (T.setTop (mkF m pc Ls S)) := own_Go.of (fun t k => XS.istore h hx rfl hd hs hl k) hr
theorem own_x_istoreN {pc : Nat} {Ls : Array Slot} {S : List Value} {Post : Outcome → State → Prop} (h : At T m c below) (hx : p.tables.exec = Jvm.exec) {k : Fin 4} {x : Int32} {rest : List Value} {l' : Array Slot} (hd : decode c.code pc = .ok (.istore_n k, 1)) (hs : S = .int x :: rest) (hl : storeLocals Ls k.val (.int x) = some l') (hr : own_Go p e below Post (T.setTop (mkF m (pc + 1) (l') (rest)))) : own_Go p e below Post (T.setTop (mkF m pc Ls S)) := own_Go.of (fun t k => XS.istoreN h hx rfl hd hs hl k) hr
theorem own_x_isub {pc : Nat} {Ls : Array Slot} {S : List Value} {Post : Outcome → State → Prop} (h : At T m c below) (hx : p.tables.exec = Jvm.exec) {x y : Int32} {rest : List Value} (hd : decode c.code pc = .ok (.isub, 1)) (hs : S = .int y :: .int x :: rest) (hr : own_Go p e below Post (T.setTop (mkF m (pc + 1) (Ls) (.int (x - y) :: rest)))) : own_Go p e below Post (T.setTop (mkF m pc Ls S)) := own_Go.of (fun t k => XS.isub h hx rfl hd hs k) hr
theorem own_x_iushr {pc : Nat} {Ls : Array Slot} {S : List Value} {Post : Outcome → State → Prop} (h : At T m c below) (hx : p.tables.exec = Jvm.exec) {x : Int32} {y : Int32} {rest : List Value} (hd : decode c.code pc = .ok (.iushr, 1)) (hs : S = .int y :: .int x :: rest) (hr : own_Go p e below Post (T.setTop (mkF m (pc + 1) (Ls) (.int ((x.toUInt32 >>> (y &&& 31).toUInt32).toInt32) :: rest)))) : own_Go p e below Post (T.setTop (mkF m pc Ls S)) := own_Go.of (fun t k => XS.iushr h hx rfl hd hs k) hr
theorem own_x_sipush {pc : Nat} {Ls : Array Slot} {S : List Value} {Post : Outcome → State → Prop} (h : At T m c below) (hx : p.tables.exec = Jvm.exec) {i : Int} (hd : decode c.code pc = .ok (.sipush i, 3)) {z : Int32} (hz : (Int16.ofInt i).toInt32 = z) (hr : own_Go p e below Post (T.setTop (mkF m (pc + 3) (Ls) (.int z :: S)))) : own_Go p e below Post (T.setTop (mkF m pc Ls S)) := by subst hz; exact own_Go.of (fun t k => XS.sipush h hx rfl hd k) hr
end OwnX
section OwnH
variable {p : Program} {l : Launch} {e : Env} {R : Room} {s : State} {m : MethodId} {args : Array Value} {below : List Frame} {meth : Method} {c : Code} {T : State} {locs : List Loc} {cells slots : Nat} {Z : State} {a0 : Array Value} {h : Heap} {Post : Outcome → State → Prop} {pc : Nat} {Ls : Array Slot} {S : List Value}
theorem own_h_getF (X : Stand p l e R s m args below meth c T locs cells slots) (hx : p.tables.exec = Jvm.exec) (hZ : Z.Warmed39 s.vm) {own R0 O n d host : String} {index : Nat} (hown : s.vm.findClass own = some m.cls) (w : (Cond.fieldLink own index R0 n d).before a0 Z = true ∨ (Cond.fieldLinkNest own index R0 n d host).before a0 Z = true) (via : Via Z R0 O n d) (eT : T.heap = h) {a : Addr} {v : Value} (F : Fld Z h a O n d v) {rest : List Value} (hs : S = .ref a :: rest) (hd : decode c.code pc = .ok (.getfield index, 3)) (k : ∀ T', Stand p l e R s m args below meth c T' locs cells slots → T'.heap = h → own_Go p e below Post (T'.setTop (mkF m (pc + 3) (Ls) (v :: rest)))) : own_Go p e below Post (T.setTop (mkF m pc Ls S)) := by
  obtain ⟨T', q0, q1, st⟩ := getF X hx hZ hown w via eT F (g := mkF m pc Ls S) rfl hs hd
  exact own_Go.of st (k T' @q0 @q1)
theorem own_h_getS2 (X : Stand p l e R s m args below meth c T locs cells slots) (hx : p.tables.exec = Jvm.exec) (hZ : Z.Warmed39 s.vm) {own R0 O n d host : String} {index : Nat} (hown : s.vm.findClass own = some m.cls) (w : (Cond.fieldLink own index R0 n d).before a0 Z = true ∨ (Cond.fieldLinkNest own index R0 n d host).before a0 Z = true) (via : Via Z R0 O n d) (eT : T.heap = h) {v : Value} (F : Sta Z h O n d v) (hd : decode c.code pc = .ok (.getstatic index, 3)) (k : ∀ T', Stand p l e R s m args below meth c T' locs cells slots → T'.heap = h → own_Go p e below Post (T'.setTop (mkF m (pc + 3) (Ls) (v :: S)))) : own_Go p e below Post (T.setTop (mkF m pc Ls S)) := by
  obtain ⟨T', q0, q1, st⟩ := getS2 X hx hZ hown w via eT F (g := mkF m pc Ls S) rfl hd
  exact own_Go.of st (k T' @q0 @q1)
theorem own_h_initO (X : Stand p l e R s m args below meth c T locs cells slots) (hx : p.tables.exec = Jvm.exec) (hZ : Z.Warmed39 s.vm) {own : String} {idx : Nat} (hown : s.vm.findClass own = some m.cls) (w1 : (Cond.methodLink own idx Lib.objectInit).before a0 Z = true) (w2 : (Cond.instanceMethod Lib.objectInit).before a0 Z = true) (w3 : (Cond.code Lib.objectInit ⟨#[0xb1]⟩ 1 none).before a0 Z = true) (eT : T.heap = h) (hsize : Ls.size = c.maxLocals) {a : Addr} {rest : List Value} (hs : S = .ref a :: rest) (hd : decode c.code pc = .ok (.invokespecial idx, 3)) (hf : 1 ≤ R.frames) {W : Nat} (hW : 2 * (mkF m pc Ls S).monitorRoom + (rest.map fun v => v.category).sum ≤ W) (hl : W + 12 ≤ R.locals) (k : ∀ T', Stand p l e R s m args below meth c T' locs cells slots → T'.heap = h → own_Go p e below Post (T'.setTop (mkF m (pc + 3) (Ls) (rest)))) : own_Go p e below Post (T.setTop (mkF m pc Ls S)) := by
  obtain ⟨T', q0, q1, st⟩ := initO X hx hZ hown w1 w2 w3 eT (g := mkF m pc Ls S) rfl hsize hs hd hf hW hl
  exact own_Go.of st (k T' @q0 @q1)
theorem own_h_newO (X : Stand p l e R s m args below meth c T locs cells slots) (hx : p.tables.exec = Jvm.exec) (hZ : Z.Warmed39 s.vm) {own C : String} {index n : Nat} (hown : s.vm.findClass own = some m.cls) (w : (Cond.classLink own index C).before a0 Z = true) (wi : (Cond.instantiable C n).before a0 Z = true) (wz : (Cond.initialized C).before a0 Z = true) (eT : T.heap = h) (hd : decode c.code pc = .ok (.new index, 3)) (hc : cells + 1 ≤ R.cells) (hl : slots + n ≤ R.slots) (k : ∀ T' h' (x : Addr), x = h.size → Stand p l e R s m args below meth c T' locs (cells + 1) (slots + n) → T'.heap = h' → Ext h h' → Exa Z h' x C → (∀ {O nm d : String} {ty : FieldType}, Laid Z a0 C O nm d → parseFieldDescriptor d = some ty → Fld Z h' x O nm d (defaultValue ty)) → (∃ cell : Cell, h'[x]? = some cell ∧ cell.vm = .none ∧ cell.monitor = {}) → own_Go p e below Post (T'.setTop (mkF m (pc + 3) (Ls) (.ref x :: S)))) : own_Go p e below Post (T.setTop (mkF m pc Ls S)) := by
  obtain ⟨T', h', q0, q1, q2, q3, q4, q5, st⟩ := newO X hx hZ hown w wi wz eT (g := mkF m pc Ls S) rfl hd hc hl
  exact own_Go.of st (k T' h' _ rfl @q0 @q1 @q2 @q3 @q4 @q5)
theorem own_h_newP (X : Stand p l e R s m args below meth c T locs cells slots) (hx : p.tables.exec = Jvm.exec) (hZ : Z.Warmed39 s.vm) {aty : ArrayType} (w : (Cond.arrayClass (newarray.typeOf aty)).before a0 Z = true) (eT : T.heap = h) (hd : decode c.code pc = .ok (.newarray aty, 2)) {n : Int32} {rest : List Value} (hs : S = .int n :: rest) (hn : ¬ n < 0) {cap : Nat} (hcap : n.toNatClampNeg ≤ cap) (hb : cap * 8 ≤ 536870912) (hc : cells + 1 ≤ R.cells) (hl : slots + cap ≤ R.slots) (k : ∀ T' h' cA (x : Addr), x = h.size → Stand p l e R s m args below meth c T' locs (cells + 1) (slots + cap) → T'.heap = h' → Ext h h' → Arr Z h' x (newA cA (newarray.typeOf aty) n) (newarray.typeOf aty) → own_Go p e below Post (T'.setTop (mkF m (pc + 2) (Ls) (.ref x :: rest)))) : own_Go p e below Post (T.setTop (mkF m pc Ls S)) := by
  obtain ⟨T', h', cA, q0, q1, q2, q3, st⟩ := newP X hx hZ w eT (g := mkF m pc Ls S) rfl hd hs hn hcap hb hc hl
  exact own_Go.of st (k T' h' cA _ rfl @q0 @q1 @q2 @q3)
theorem own_h_putF (X : Stand p l e R s m args below meth c T locs cells slots) (hx : p.tables.exec = Jvm.exec) (hZ : Z.Warmed39 s.vm) {own R0 O n d host C : String} {index kk : Nat} {ty : FieldType} (hown : s.vm.findClass own = some m.cls) (w : (Cond.fieldLink own index R0 n d).before a0 Z = true ∨ (Cond.fieldLinkNest own index R0 n d host).before a0 Z = true) (via : Via Z R0 O n d) (eT : T.heap = h) {a : Addr} {v old : Value} (F : Fld Z h a O n d old) (E : Exa Z h a C) (L : (Cond.lays C O n d).before a0 Z = true ∨ ((Cond.laysFinal C O n d).before a0 Z = true ∧ own = O ∧ meth.name = "<init>")) (wi : (Cond.instantiable C kk).before a0 Z = true) (hty : parseFieldDescriptor d = some ty) (hn : narrow ty v = v) (hf : fits ty v = true) {rest : List Value} (hs : S = v :: .ref a :: rest) (hd : decode c.code pc = .ok (.putfield index, 3)) (k : ∀ T' h', Stand p l e R s m args below meth c T' (locs ++ [⟨a, Jvm.RoadKit.slotOf Z O n d⟩]) cells slots → T'.heap = h' → Wr h h' a (Jvm.RoadKit.slotOf Z O n d) v → own_Go p e below Post (T'.setTop (mkF m (pc + 3) (Ls) (rest)))) : own_Go p e below Post (T.setTop (mkF m pc Ls S)) := by
  obtain ⟨T', h', q0, q1, q2, st⟩ := putF X hx hZ hown w via eT F E L wi hty hn hf (g := mkF m pc Ls S) rfl hs hd
  exact own_Go.of st (k T' h' @q0 @q1 @q2)
theorem own_h_putFN (X : Stand p l e R s m args below meth c T locs cells slots) (hx : p.tables.exec = Jvm.exec) (hZ : Z.Warmed39 s.vm) {own R0 O n d C : String} {index kk : Nat} {ty : FieldType} (hown : s.vm.findClass own = some m.cls) (w : (Cond.fieldLink own index R0 n d).before a0 Z = true) (via : Via Z R0 O n d) (eT : T.heap = h) {a : Addr} {v v' old : Value} (F : Fld Z h a O n d old) (E : Exa Z h a C) (L : (Cond.lays C O n d).before a0 Z = true ∨ ((Cond.laysFinal C O n d).before a0 Z = true ∧ own = O ∧ meth.name = "<init>")) (wi : (Cond.instantiable C kk).before a0 Z = true) (hty : parseFieldDescriptor d = some ty) (hn : narrow ty v = v') (hf : fits ty v' = true) {rest : List Value} (hs : S = v :: .ref a :: rest) (hd : decode c.code pc = .ok (.putfield index, 3)) (k : ∀ T' h', Stand p l e R s m args below meth c T' (locs ++ [⟨a, Jvm.RoadKit.slotOf Z O n d⟩]) cells slots → T'.heap = h' → Wr h h' a (Jvm.RoadKit.slotOf Z O n d) v' → own_Go p e below Post (T'.setTop (mkF m (pc + 3) (Ls) (rest)))) : own_Go p e below Post (T.setTop (mkF m pc Ls S)) := by
  obtain ⟨T', h', q0, q1, q2, st⟩ := putFN X hx hZ hown w via eT F E L wi hty hn hf (g := mkF m pc Ls S) rfl hs hd
  exact own_Go.of st (k T' h' @q0 @q1 @q2)
theorem own_h_stB (X : Stand p l e R s m args below meth c T locs cells slots) (hx : p.tables.exec = Jvm.exec) (hZ : Z.Warmed39 s.vm) (eT : T.heap = h) {a : Addr} {cl : Cell} (A : Arr Z h a cl .byte) {j x : Int32} (hj : ¬ (j < 0 ∨ cl.slots.size ≤ j.toNatClampNeg)) {rest : List Value} (hs : S = .int x :: .int j :: .ref a :: rest) (hd : decode c.code pc = .ok (.bastore, 1)) (k : ∀ T' h', Stand p l e R s m args below meth c T' (locs ++ [⟨a, j.toNatClampNeg⟩]) cells slots → T'.heap = h' → Wr h h' a j.toNatClampNeg (.int (nar .byte x)) → own_Go p e below Post (T'.setTop (mkF m (pc + 1) (Ls) (rest)))) : own_Go p e below Post (T.setTop (mkF m pc Ls S)) := by
  obtain ⟨T', h', q0, q1, q2, st⟩ := stB X hx hZ eT A hj (g := mkF m pc Ls S) rfl hs hd
  exact own_Go.of st (k T' h' @q0 @q1 @q2)
theorem own_h_stC (X : Stand p l e R s m args below meth c T locs cells slots) (hx : p.tables.exec = Jvm.exec) (hZ : Z.Warmed39 s.vm) (eT : T.heap = h) {a : Addr} {cl : Cell} (A : Arr Z h a cl .char) {j x : Int32} (hj : ¬ (j < 0 ∨ cl.slots.size ≤ j.toNatClampNeg)) {rest : List Value} (hs : S = .int x :: .int j :: .ref a :: rest) (hd : decode c.code pc = .ok (.castore, 1)) (k : ∀ T' h', Stand p l e R s m args below meth c T' (locs ++ [⟨a, j.toNatClampNeg⟩]) cells slots → T'.heap = h' → Wr h h' a j.toNatClampNeg (.int (nar .char x)) → own_Go p e below Post (T'.setTop (mkF m (pc + 1) (Ls) (rest)))) : own_Go p e below Post (T.setTop (mkF m pc Ls S)) := by
  obtain ⟨T', h', q0, q1, q2, st⟩ := stC X hx hZ eT A hj (g := mkF m pc Ls S) rfl hs hd
  exact own_Go.of st (k T' h' @q0 @q1 @q2)
theorem own_h_arB (X : Stand p l e R s m args below meth c T locs cells slots) (hx : p.tables.exec = Jvm.exec) (hZ : Z.Warmed39 s.vm) (eT : T.heap = h) {a : Addr} {k : ClassId} {N : Int32} {vs : List Value} {d : Value} (V : Arv Z h a k .byte N vs d) (j : Int32) (i : Nat) (hj : ¬ j < 0 ∧ j < N) (hi : j.toNatClampNeg = i) (hl : i < vs.length) {x : Int32} {rest : List Value} (hs : S = .int x :: .int j :: .ref a :: rest) (hd : decode c.code pc = .ok (.bastore, 1)) (kk : ∀ T' h', Stand p l e R s m args below meth c T' (locs ++ [⟨a, j.toNatClampNeg⟩]) cells slots → T'.heap = h' → Wr h h' a j.toNatClampNeg (.int (nar .byte x)) → Arv Z h' a k .byte N (vs.set i (.int (nar .byte x))) d → own_Go p e below Post (T'.setTop (mkF m (pc + 1) Ls rest))) : own_Go p e below Post (T.setTop (mkF m pc Ls S)) := by
  obtain ⟨cl, Ar, q, S', P, H, G⟩ := V
  exact own_h_stB X hx hZ eT Ar (inb_of S' hj) hs hd fun T' h' X' e' W => kk T' h' X' e' W (Arv.set Ar q S' P H G (fits_nar_byte _) W i hi hl)
theorem own_h_arC (X : Stand p l e R s m args below meth c T locs cells slots) (hx : p.tables.exec = Jvm.exec) (hZ : Z.Warmed39 s.vm) (eT : T.heap = h) {a : Addr} {k : ClassId} {N : Int32} {vs : List Value} {d : Value} (V : Arv Z h a k .char N vs d) (j : Int32) (i : Nat) (hj : ¬ j < 0 ∧ j < N) (hi : j.toNatClampNeg = i) (hl : i < vs.length) {x : Int32} {rest : List Value} (hs : S = .int x :: .int j :: .ref a :: rest) (hd : decode c.code pc = .ok (.castore, 1)) (kk : ∀ T' h', Stand p l e R s m args below meth c T' (locs ++ [⟨a, j.toNatClampNeg⟩]) cells slots → T'.heap = h' → Wr h h' a j.toNatClampNeg (.int (nar .char x)) → Arv Z h' a k .char N (vs.set i (.int (nar .char x))) d → own_Go p e below Post (T'.setTop (mkF m (pc + 1) Ls rest))) : own_Go p e below Post (T.setTop (mkF m pc Ls S)) := by
  obtain ⟨cl, Ar, q, S', P, H, G⟩ := V
  exact own_h_stC X hx hZ eT Ar (inb_of S' hj) hs hd fun T' h' X' e' W => kk T' h' X' e' W (Arv.set Ar q S' P H G (fits_nar_char _) W i hi hl)
end OwnH
abbrev own_H (a0 : Array Value) (Z : State) : Prop := ∀ d ∈ tables_1, d.before a0 Z = true
theorem own_mem (i : Nat) {d : Jvm.Cond} (h : tables_1[i]? = some d) : d ∈ tables_1 := List.mem_of_getElem? h
theorem own_g {a0 : Array Value} {Z : State} (hw : own_H a0 Z) (i : Nat) {d : Jvm.Cond} (h : tables_1[i]? = some d) : d.before a0 Z = true := hw _ (List.mem_of_getElem? h)
section OwnW
variable {a0 : Array Value} {Z : State}
theorem own_w0 (hw : own_H a0 Z) : (Jvm.Cond.constant "com/example/shredloom/shredloom/db/ReadOfPinLaw" (7 : Nat) (2147483647 : Int32)).before a0 Z = true := hw _ (own_mem 0 rfl)
theorem own_w1 (hw : own_H a0 Z) : (Jvm.Cond.methodLink "com/example/shredloom/shredloom/db/ReadOfPinLaw" (8 : Nat) ({ cls := "com/example/shredloom/shredloom/db/ReadOfPinLaw", name := "make", desc := "(IIII)Ljava/lang/String;" } : Jvm.MethodName)).before a0 Z = true := hw _ (own_mem 1 rfl)
theorem own_w2 (hw : own_H a0 Z) : (Jvm.Cond.static ({ cls := "com/example/shredloom/shredloom/db/ReadOfPinLaw", name := "make", desc := "(IIII)Ljava/lang/String;" } : Jvm.MethodName)).before a0 Z = true := hw _ (own_mem 2 rfl)
theorem own_w3 (hw : own_H a0 Z) : (Jvm.Cond.initialized "com/example/shredloom/shredloom/db/ReadOfPinLaw").before a0 Z = true := hw _ (own_mem 3 rfl)
theorem own_w4 (hw : own_H a0 Z) : (Jvm.Cond.code ({ cls := "com/example/shredloom/shredloom/db/ReadOfPinLaw", name := "make", desc := "(IIII)Ljava/lang/String;" } : Jvm.MethodName) method_3_code (7 : Nat) (Option.some (Jvm.ClassFile.FieldType.object "java/lang/String"))).before a0 Z = true := hw _ (own_mem 4 rfl)
theorem own_w5 (hw : own_H a0 Z) : (Jvm.Cond.constant "com/example/shredloom/shredloom/db/ReadOfPinLaw" (33 : Nat) (65535 : Int32)).before a0 Z = true := hw _ (own_mem 5 rfl)
theorem own_w6 (hw : own_H a0 Z) : (Jvm.Cond.classLink "com/example/shredloom/shredloom/db/ReadOfPinLaw" (28 : Nat) "java/lang/String").before a0 Z = true := hw _ (own_mem 6 rfl)
theorem own_w7 (hw : own_H a0 Z) : (Jvm.Cond.instantiable "java/lang/String" (4 : Nat)).before a0 Z = true := hw _ (own_mem 7 rfl)
theorem own_w8 (hw : own_H a0 Z) : (Jvm.Cond.initialized "java/lang/String").before a0 Z = true := hw _ (own_mem 8 rfl)
theorem own_w9 (hw : own_H a0 Z) : (Jvm.Cond.arrayClass Jvm.ClassFile.FieldType.char).before a0 Z = true := hw _ (own_mem 9 rfl)
theorem own_w10 (hw : own_H a0 Z) : (Jvm.Cond.methodLink "com/example/shredloom/shredloom/db/ReadOfPinLaw" (34 : Nat) ({ cls := "java/lang/String", name := "<init>", desc := "([C)V" } : Jvm.MethodName)).before a0 Z = true := hw _ (own_mem 10 rfl)
theorem own_w11 (hw : own_H a0 Z) : (Jvm.Cond.instanceMethod ({ cls := "java/lang/String", name := "<init>", desc := "([C)V" } : Jvm.MethodName)).before a0 Z = true := hw _ (own_mem 11 rfl)
theorem own_w12 (hw : own_H a0 Z) : (Jvm.Cond.code ({ cls := "java/lang/String", name := "<init>", desc := "([C)V" } : Jvm.MethodName) jdk_42_method_3_code (2 : Nat) (Option.none : Option Jvm.ClassFile.FieldType)).before a0 Z = true := hw _ (own_mem 12 rfl)
theorem own_w13 (hw : own_H a0 Z) : (Jvm.Cond.methodLink "java/lang/String" (27 : Nat) ({ cls := "java/lang/String", name := "<init>", desc := "([CIILjava/lang/Void;)V" } : Jvm.MethodName)).before a0 Z = true := hw _ (own_mem 13 rfl)
theorem own_w14 (hw : own_H a0 Z) : (Jvm.Cond.instanceMethod ({ cls := "java/lang/String", name := "<init>", desc := "([CIILjava/lang/Void;)V" } : Jvm.MethodName)).before a0 Z = true := hw _ (own_mem 14 rfl)
theorem own_w16 (hw : own_H a0 Z) : (Jvm.Cond.code ({ cls := "java/lang/String", name := "<init>", desc := "([CIILjava/lang/Void;)V" } : Jvm.MethodName) jdk_42_method_149_code (6 : Nat) (Option.none : Option Jvm.ClassFile.FieldType)).before a0 Z = true := hw _ (own_mem 16 rfl)
theorem own_w17 (hw : own_H a0 Z) : (Jvm.Cond.methodLink "java/lang/String" (1 : Nat) ({ cls := "java/lang/Object", name := "<init>", desc := "()V" } : Jvm.MethodName)).before a0 Z = true := hw _ (own_mem 17 rfl)
theorem own_w18 (hw : own_H a0 Z) : (Jvm.Cond.instanceMethod ({ cls := "java/lang/Object", name := "<init>", desc := "()V" } : Jvm.MethodName)).before a0 Z = true := hw _ (own_mem 18 rfl)
theorem own_w19 (hw : own_H a0 Z) : (Jvm.Cond.code ({ cls := "java/lang/Object", name := "<init>", desc := "()V" } : Jvm.MethodName) object_method_1_code (1 : Nat) (Option.none : Option Jvm.ClassFile.FieldType)).before a0 Z = true := hw _ (own_mem 19 rfl)
theorem own_w20 (hw : own_H a0 Z) : (Jvm.Cond.stringLink "java/lang/String" (7 : Nat) "").before a0 Z = true := hw _ (own_mem 20 rfl)
theorem own_w21 (hw : own_H a0 Z) : (Jvm.Cond.arrayClass Jvm.ClassFile.FieldType.byte).before a0 Z = true := hw _ (own_mem 21 rfl)
theorem own_w22 (hw : own_H a0 Z) : (Jvm.Cond.laysFinal "java/lang/String" "java/lang/String" "value" "[B").before a0 Z = true := hw _ (own_mem 22 rfl)
theorem own_w23 (hw : own_H a0 Z) : (Jvm.Cond.laysFinal "java/lang/String" "java/lang/String" "coder" "B").before a0 Z = true := hw _ (own_mem 23 rfl)
theorem own_w26 (hw : own_H a0 Z) : (Jvm.Cond.fieldLink "java/lang/String" (9 : Nat) "java/lang/String" "value" "[B").before a0 Z = true := hw _ (own_mem 26 rfl)
theorem own_w27 (hw : own_H a0 Z) : (Jvm.Cond.fieldLink "java/lang/String" (15 : Nat) "java/lang/String" "coder" "B").before a0 Z = true := hw _ (own_mem 27 rfl)
theorem own_w28 (hw : own_H a0 Z) : (Jvm.Cond.methodLink "com/example/shredloom/shredloom/db/ReadOfPinLaw" (14 : Nat) ({ cls := "com/example/shredloom/shredloom/db/SqlXmlValues$Read", name := "of", desc := "(Ljava/lang/String;)Lcom/example/shredloom/shredloom/db/SqlXmlValues$Read;" } : Jvm.MethodName)).before a0 Z = true := hw _ (own_mem 28 rfl)
theorem own_w29 (hw : own_H a0 Z) : (Jvm.Cond.static ({ cls := "com/example/shredloom/shredloom/db/SqlXmlValues$Read", name := "of", desc := "(Ljava/lang/String;)Lcom/example/shredloom/shredloom/db/SqlXmlValues$Read;" } : Jvm.MethodName)).before a0 Z = true := hw _ (own_mem 29 rfl)
theorem own_w30 (hw : own_H a0 Z) : (Jvm.Cond.initialized "com/example/shredloom/shredloom/db/SqlXmlValues$Read").before a0 Z = true := hw _ (own_mem 30 rfl)
theorem own_w31 (hw : own_H a0 Z) : (Jvm.Cond.code ({ cls := "com/example/shredloom/shredloom/db/SqlXmlValues$Read", name := "of", desc := "(Ljava/lang/String;)Lcom/example/shredloom/shredloom/db/SqlXmlValues$Read;" } : Jvm.MethodName) prog_17_method_2_code (1 : Nat) (Option.some (Jvm.ClassFile.FieldType.object "com/example/shredloom/shredloom/db/SqlXmlValues$Read"))).before a0 Z = true := hw _ (own_mem 31 rfl)
theorem own_w32 (hw : own_H a0 Z) : (Jvm.Cond.classLink "com/example/shredloom/shredloom/db/SqlXmlValues$Read" (8 : Nat) "com/example/shredloom/shredloom/db/SqlXmlValues$Read").before a0 Z = true := hw _ (own_mem 32 rfl)
theorem own_w33 (hw : own_H a0 Z) : (Jvm.Cond.instantiable "com/example/shredloom/shredloom/db/SqlXmlValues$Read" (2 : Nat)).before a0 Z = true := hw _ (own_mem 33 rfl)
theorem own_w34 (hw : own_H a0 Z) : (Jvm.Cond.methodLink "com/example/shredloom/shredloom/db/SqlXmlValues$Read" (20 : Nat) ({ cls := "com/example/shredloom/shredloom/db/SqlXmlValues$Read", name := "<init>", desc := "(Ljava/lang/String;Ljava/lang/String;)V" } : Jvm.MethodName)).before a0 Z = true := hw _ (own_mem 34 rfl)
theorem own_w35 (hw : own_H a0 Z) : (Jvm.Cond.instanceMethod ({ cls := "com/example/shredloom/shredloom/db/SqlXmlValues$Read", name := "<init>", desc := "(Ljava/lang/String;Ljava/lang/String;)V" } : Jvm.MethodName)).before a0 Z = true := hw _ (own_mem 35 rfl)
theorem own_w36 (hw : own_H a0 Z) : (Jvm.Cond.code ({ cls := "com/example/shredloom/shredloom/db/SqlXmlValues$Read", name := "<init>", desc := "(Ljava/lang/String;Ljava/lang/String;)V" } : Jvm.MethodName) prog_17_method_1_code (3 : Nat) (Option.none : Option Jvm.ClassFile.FieldType)).before a0 Z = true := hw _ (own_mem 36 rfl)
theorem own_w37 (hw : own_H a0 Z) : (Jvm.Cond.methodLink "com/example/shredloom/shredloom/db/SqlXmlValues$Read" (1 : Nat) ({ cls := "java/lang/Record", name := "<init>", desc := "()V" } : Jvm.MethodName)).before a0 Z = true := hw _ (own_mem 37 rfl)
theorem own_w38 (hw : own_H a0 Z) : (Jvm.Cond.instanceMethod ({ cls := "java/lang/Record", name := "<init>", desc := "()V" } : Jvm.MethodName)).before a0 Z = true := hw _ (own_mem 38 rfl)
theorem own_w40 (hw : own_H a0 Z) : (Jvm.Cond.initialized "java/lang/Record").before a0 Z = true := hw _ (own_mem 40 rfl)
theorem own_w41 (hw : own_H a0 Z) : (Jvm.Cond.code ({ cls := "java/lang/Record", name := "<init>", desc := "()V" } : Jvm.MethodName) jdk_30_method_1_code (1 : Nat) (Option.none : Option Jvm.ClassFile.FieldType)).before a0 Z = true := hw _ (own_mem 41 rfl)
theorem own_w42 (hw : own_H a0 Z) : (Jvm.Cond.methodLink "java/lang/Record" (1 : Nat) ({ cls := "java/lang/Object", name := "<init>", desc := "()V" } : Jvm.MethodName)).before a0 Z = true := hw _ (own_mem 42 rfl)
theorem own_w43 (hw : own_H a0 Z) : (Jvm.Cond.fieldLink "com/example/shredloom/shredloom/db/SqlXmlValues$Read" (7 : Nat) "com/example/shredloom/shredloom/db/SqlXmlValues$Read" "text" "Ljava/lang/String;").before a0 Z = true := hw _ (own_mem 43 rfl)
theorem own_w44 (hw : own_H a0 Z) : (Jvm.Cond.laysFinal "com/example/shredloom/shredloom/db/SqlXmlValues$Read" "com/example/shredloom/shredloom/db/SqlXmlValues$Read" "text" "Ljava/lang/String;").before a0 Z = true := hw _ (own_mem 44 rfl)
theorem own_w45 (hw : own_H a0 Z) : (Jvm.Cond.fieldLink "com/example/shredloom/shredloom/db/SqlXmlValues$Read" (13 : Nat) "com/example/shredloom/shredloom/db/SqlXmlValues$Read" "withoutForm" "Ljava/lang/String;").before a0 Z = true := hw _ (own_mem 45 rfl)
theorem own_w46 (hw : own_H a0 Z) : (Jvm.Cond.laysFinal "com/example/shredloom/shredloom/db/SqlXmlValues$Read" "com/example/shredloom/shredloom/db/SqlXmlValues$Read" "withoutForm" "Ljava/lang/String;").before a0 Z = true := hw _ (own_mem 46 rfl)
theorem own_w47 (hw : own_H a0 Z) : (Jvm.Cond.methodLink "com/example/shredloom/shredloom/db/ReadOfPinLaw" (20 : Nat) ({ cls := "com/example/shredloom/shredloom/db/SqlXmlValues$Read", name := "withoutForm", desc := "()Ljava/lang/String;" } : Jvm.MethodName)).before a0 Z = true := hw _ (own_mem 47 rfl)
theorem own_w48 (hw : own_H a0 Z) : (Jvm.Cond.declares ({ cls := "com/example/shredloom/shredloom/db/SqlXmlValues$Read", name := "withoutForm", desc := "()Ljava/lang/String;" } : Jvm.MethodName)).before a0 Z = true := hw _ (own_mem 48 rfl)
theorem own_w49 (hw : own_H a0 Z) : (Jvm.Cond.instanceMethod ({ cls := "com/example/shredloom/shredloom/db/SqlXmlValues$Read", name := "withoutForm", desc := "()Ljava/lang/String;" } : Jvm.MethodName)).before a0 Z = true := hw _ (own_mem 49 rfl)
theorem own_w50 (hw : own_H a0 Z) : (Jvm.Cond.selects "com/example/shredloom/shredloom/db/SqlXmlValues$Read" ({ cls := "com/example/shredloom/shredloom/db/SqlXmlValues$Read", name := "withoutForm", desc := "()Ljava/lang/String;" } : Jvm.MethodName) ({ cls := "com/example/shredloom/shredloom/db/SqlXmlValues$Read", name := "withoutForm", desc := "()Ljava/lang/String;" } : Jvm.MethodName)).before a0 Z = true := hw _ (own_mem 50 rfl)
theorem own_w51 (hw : own_H a0 Z) : (Jvm.Cond.code ({ cls := "com/example/shredloom/shredloom/db/SqlXmlValues$Read", name := "withoutForm", desc := "()Ljava/lang/String;" } : Jvm.MethodName) prog_17_method_8_code (1 : Nat) (Option.some (Jvm.ClassFile.FieldType.object "java/lang/String"))).before a0 Z = true := hw _ (own_mem 51 rfl)
theorem own_w52 (hw : own_H a0 Z) : (Jvm.Cond.methodLink "com/example/shredloom/shredloom/db/ReadOfPinLaw" (24 : Nat) ({ cls := "com/example/shredloom/shredloom/db/SqlXmlValues$Read", name := "text", desc := "()Ljava/lang/String;" } : Jvm.MethodName)).before a0 Z = true := hw _ (own_mem 52 rfl)
theorem own_w53 (hw : own_H a0 Z) : (Jvm.Cond.declares ({ cls := "com/example/shredloom/shredloom/db/SqlXmlValues$Read", name := "text", desc := "()Ljava/lang/String;" } : Jvm.MethodName)).before a0 Z = true := hw _ (own_mem 53 rfl)
theorem own_w54 (hw : own_H a0 Z) : (Jvm.Cond.instanceMethod ({ cls := "com/example/shredloom/shredloom/db/SqlXmlValues$Read", name := "text", desc := "()Ljava/lang/String;" } : Jvm.MethodName)).before a0 Z = true := hw _ (own_mem 54 rfl)
theorem own_w55 (hw : own_H a0 Z) : (Jvm.Cond.selects "com/example/shredloom/shredloom/db/SqlXmlValues$Read" ({ cls := "com/example/shredloom/shredloom/db/SqlXmlValues$Read", name := "text", desc := "()Ljava/lang/String;" } : Jvm.MethodName) ({ cls := "com/example/shredloom/shredloom/db/SqlXmlValues$Read", name := "text", desc := "()Ljava/lang/String;" } : Jvm.MethodName)).before a0 Z = true := hw _ (own_mem 55 rfl)
theorem own_w56 (hw : own_H a0 Z) : (Jvm.Cond.code ({ cls := "com/example/shredloom/shredloom/db/SqlXmlValues$Read", name := "text", desc := "()Ljava/lang/String;" } : Jvm.MethodName) prog_17_method_7_code (1 : Nat) (Option.some (Jvm.ClassFile.FieldType.object "java/lang/String"))).before a0 Z = true := hw _ (own_mem 56 rfl)
theorem own_w57 (hw : own_H a0 Z) : (Jvm.Cond.methodLink "com/example/shredloom/shredloom/db/ReadOfPinLaw" (27 : Nat) ({ cls := "java/lang/String", name := "equals", desc := "(Ljava/lang/Object;)Z" } : Jvm.MethodName)).before a0 Z = true := hw _ (own_mem 57 rfl)
theorem own_w58 (hw : own_H a0 Z) : (Jvm.Cond.declares ({ cls := "java/lang/String", name := "equals", desc := "(Ljava/lang/Object;)Z" } : Jvm.MethodName)).before a0 Z = true := hw _ (own_mem 58 rfl)
theorem own_w59 (hw : own_H a0 Z) : (Jvm.Cond.instanceMethod ({ cls := "java/lang/String", name := "equals", desc := "(Ljava/lang/Object;)Z" } : Jvm.MethodName)).before a0 Z = true := hw _ (own_mem 59 rfl)
theorem own_w60 (hw : own_H a0 Z) : (Jvm.Cond.selects "java/lang/String" ({ cls := "java/lang/String", name := "equals", desc := "(Ljava/lang/Object;)Z" } : Jvm.MethodName) ({ cls := "java/lang/String", name := "equals", desc := "(Ljava/lang/Object;)Z" } : Jvm.MethodName)).before a0 Z = true := hw _ (own_mem 60 rfl)
theorem own_w61 (hw : own_H a0 Z) : (Jvm.Cond.code ({ cls := "java/lang/String", name := "equals", desc := "(Ljava/lang/Object;)Z" } : Jvm.MethodName) jdk_42_method_66_code (3 : Nat) (Option.some Jvm.ClassFile.FieldType.boolean)).before a0 Z = true := hw _ (own_mem 61 rfl)
theorem own_w62 (hw : own_H a0 Z) : (Jvm.Cond.fieldLink "java/lang/String" (38 : Nat) "java/lang/String" "COMPACT_STRINGS" "Z").before a0 Z = true := hw _ (own_mem 62 rfl)
theorem own_w63 (hw : own_H a0 Z) : (Jvm.Cond.methodLink "java/lang/String" (177 : Nat) ({ cls := "java/lang/StringUTF16", name := "compress", desc := "([CII)[B" } : Jvm.MethodName)).before a0 Z = true := hw _ (own_mem 63 rfl)
theorem own_w64 (hw : own_H a0 Z) : (Jvm.Cond.static ({ cls := "java/lang/StringUTF16", name := "compress", desc := "([CII)[B" } : Jvm.MethodName)).before a0 Z = true := hw _ (own_mem 64 rfl)
theorem own_w65 (hw : own_H a0 Z) : (Jvm.Cond.initialized "java/lang/StringUTF16").before a0 Z = true := hw _ (own_mem 65 rfl)
theorem own_w66 (hw : own_H a0 Z) : (Jvm.Cond.code ({ cls := "java/lang/StringUTF16", name := "compress", desc := "([CII)[B" } : Jvm.MethodName) jdk_52_method_16_code (6 : Nat) (Option.some (Jvm.ClassFile.FieldType.array Jvm.ClassFile.FieldType.byte))).before a0 Z = true := hw _ (own_mem 66 rfl)
theorem own_w67 (hw : own_H a0 Z) : (Jvm.Cond.methodLink "java/lang/StringUTF16" (115 : Nat) ({ cls := "java/lang/StringUTF16", name := "compress", desc := "([CI[BII)I" } : Jvm.MethodName)).before a0 Z = true := hw _ (own_mem 67 rfl)
theorem own_w68 (hw : own_H a0 Z) : (Jvm.Cond.static ({ cls := "java/lang/StringUTF16", name := "compress", desc := "([CI[BII)I" } : Jvm.MethodName)).before a0 Z = true := hw _ (own_mem 68 rfl)
theorem own_w69 (hw : own_H a0 Z) : (Jvm.Cond.code ({ cls := "java/lang/StringUTF16", name := "compress", desc := "([CI[BII)I" } : Jvm.MethodName) jdk_52_method_21_code (7 : Nat) (Option.some Jvm.ClassFile.FieldType.int)).before a0 Z = true := hw _ (own_mem 69 rfl)
theorem own_w70 (hw : own_H a0 Z) : (Jvm.Cond.methodLink "java/lang/String" (47 : Nat) ({ cls := "java/lang/StringUTF16", name := "coderFromArrayLen", desc := "([BI)B" } : Jvm.MethodName)).before a0 Z = true := hw _ (own_mem 70 rfl)
theorem own_w71 (hw : own_H a0 Z) : (Jvm.Cond.static ({ cls := "java/lang/StringUTF16", name := "coderFromArrayLen", desc := "([BI)B" } : Jvm.MethodName)).before a0 Z = true := hw _ (own_mem 71 rfl)
theorem own_w72 (hw : own_H a0 Z) : (Jvm.Cond.code ({ cls := "java/lang/StringUTF16", name := "coderFromArrayLen", desc := "([BI)B" } : Jvm.MethodName) jdk_52_method_15_code (2 : Nat) (Option.some Jvm.ClassFile.FieldType.byte)).before a0 Z = true := hw _ (own_mem 72 rfl)
theorem own_w73 (hw : own_H a0 Z) : (Jvm.Cond.fieldLink "com/example/shredloom/shredloom/db/SqlXmlValues$Read" (16 : Nat) "com/example/shredloom/shredloom/db/SqlXmlValues$Read" "NULL" "Lcom/example/shredloom/shredloom/db/SqlXmlValues$Read;").before a0 Z = true := hw _ (own_mem 73 rfl)
theorem own_w75 (hw : own_H a0 Z) : (Jvm.Cond.methodLink "java/lang/StringUTF16" (119 : Nat) ({ cls := "java/lang/StringUTF16", name := "toBytes", desc := "([CII)[B" } : Jvm.MethodName)).before a0 Z = true := hw _ (own_mem 75 rfl)
theorem own_w76 (hw : own_H a0 Z) : (Jvm.Cond.static ({ cls := "java/lang/StringUTF16", name := "toBytes", desc := "([CII)[B" } : Jvm.MethodName)).before a0 Z = true := hw _ (own_mem 76 rfl)
theorem own_w77 (hw : own_H a0 Z) : (Jvm.Cond.code ({ cls := "java/lang/StringUTF16", name := "toBytes", desc := "([CII)[B" } : Jvm.MethodName) jdk_52_method_14_code (5 : Nat) (Option.some (Jvm.ClassFile.FieldType.array Jvm.ClassFile.FieldType.byte))).before a0 Z = true := hw _ (own_mem 77 rfl)
theorem own_w78 (hw : own_H a0 Z) : (Jvm.Cond.methodLink "java/lang/StringUTF16" (107 : Nat) ({ cls := "java/lang/StringUTF16", name := "newBytesFor", desc := "(I)[B" } : Jvm.MethodName)).before a0 Z = true := hw _ (own_mem 78 rfl)
theorem own_w79 (hw : own_H a0 Z) : (Jvm.Cond.static ({ cls := "java/lang/StringUTF16", name := "newBytesFor", desc := "(I)[B" } : Jvm.MethodName)).before a0 Z = true := hw _ (own_mem 79 rfl)
theorem own_w80 (hw : own_H a0 Z) : (Jvm.Cond.code ({ cls := "java/lang/StringUTF16", name := "newBytesFor", desc := "(I)[B" } : Jvm.MethodName) jdk_52_method_2_code (1 : Nat) (Option.some (Jvm.ClassFile.FieldType.array Jvm.ClassFile.FieldType.byte))).before a0 Z = true := hw _ (own_mem 80 rfl)
theorem own_w81 (hw : own_H a0 Z) : (Jvm.Cond.methodLink "java/lang/StringUTF16" (11 : Nat) ({ cls := "java/lang/StringUTF16", name := "newBytesLength", desc := "(I)I" } : Jvm.MethodName)).before a0 Z = true := hw _ (own_mem 81 rfl)
theorem own_w82 (hw : own_H a0 Z) : (Jvm.Cond.static ({ cls := "java/lang/StringUTF16", name := "newBytesLength", desc := "(I)I" } : Jvm.MethodName)).before a0 Z = true := hw _ (own_mem 82 rfl)
theorem own_w83 (hw : own_H a0 Z) : (Jvm.Cond.code ({ cls := "java/lang/StringUTF16", name := "newBytesLength", desc := "(I)I" } : Jvm.MethodName) jdk_52_method_3_code (1 : Nat) (Option.some Jvm.ClassFile.FieldType.int)).before a0 Z = true := hw _ (own_mem 83 rfl)
theorem own_w84 (hw : own_H a0 Z) : (Jvm.Cond.constant "java/lang/StringUTF16" (20 : Nat) (1073741823 : Int32)).before a0 Z = true := hw _ (own_mem 84 rfl)
theorem own_w85 (hw : own_H a0 Z) : (Jvm.Cond.methodLink "java/lang/StringUTF16" (111 : Nat) ({ cls := "java/lang/StringUTF16", name := "putChar", desc := "([BII)V" } : Jvm.MethodName)).before a0 Z = true := hw _ (own_mem 85 rfl)
theorem own_w86 (hw : own_H a0 Z) : (Jvm.Cond.static ({ cls := "java/lang/StringUTF16", name := "putChar", desc := "([BII)V" } : Jvm.MethodName)).before a0 Z = true := hw _ (own_mem 86 rfl)
theorem own_w87 (hw : own_H a0 Z) : (Jvm.Cond.code ({ cls := "java/lang/StringUTF16", name := "putChar", desc := "([BII)V" } : Jvm.MethodName) jdk_52_method_4_code (3 : Nat) (Option.none : Option Jvm.ClassFile.FieldType)).before a0 Z = true := hw _ (own_mem 87 rfl)
theorem own_w88 (hw : own_H a0 Z) : (Jvm.Cond.fieldLink "java/lang/StringUTF16" (44 : Nat) "java/lang/StringUTF16" "$assertionsDisabled" "Z").before a0 Z = true := hw _ (own_mem 88 rfl)
theorem own_w89 (hw : own_H a0 Z) : (Jvm.Cond.fieldLink "java/lang/StringUTF16" (59 : Nat) "java/lang/StringUTF16" "HI_BYTE_SHIFT" "I").before a0 Z = true := hw _ (own_mem 89 rfl)
theorem own_w90 (hw : own_H a0 Z) : (Jvm.Cond.fieldLink "java/lang/StringUTF16" (63 : Nat) "java/lang/StringUTF16" "LO_BYTE_SHIFT" "I").before a0 Z = true := hw _ (own_mem 90 rfl)
theorem own_w91 (hw : own_H a0 Z) : (Jvm.Cond.methodLink "java/lang/StringUTF16" (71 : Nat) ({ cls := "java/lang/StringUTF16", name := "getChar", desc := "([BI)C" } : Jvm.MethodName)).before a0 Z = true := hw _ (own_mem 91 rfl)
theorem own_w92 (hw : own_H a0 Z) : (Jvm.Cond.static ({ cls := "java/lang/StringUTF16", name := "getChar", desc := "([BI)C" } : Jvm.MethodName)).before a0 Z = true := hw _ (own_mem 92 rfl)
theorem own_w93 (hw : own_H a0 Z) : (Jvm.Cond.code ({ cls := "java/lang/StringUTF16", name := "getChar", desc := "([BI)C" } : Jvm.MethodName) jdk_52_method_5_code (2 : Nat) (Option.some Jvm.ClassFile.FieldType.char)).before a0 Z = true := hw _ (own_mem 93 rfl)
end OwnW
theorem own_rchar (x : Int32) : ¬ (nar .char x) < 0 ∧ ¬ (65535 : Int32) < (nar .char x) := by
  have h := c_i2c x
  have z0 : (0 : Int32).toInt = 0 := by decide
  have z1 : (65535 : Int32).toInt = 65535 := by decide
  have e : (nar .char x).toInt = x.toUInt32.toUInt16.toUInt32.toInt32.toInt := rfl
  constructor
  · intro q; rw [Int32.lt_iff_toInt_lt] at q; omega
  · intro q; rw [Int32.lt_iff_toInt_lt] at q; omega
theorem own_words (Z : State) (a0 : Array Value) (hw : own_H a0 Z) : ∀ d ∈ StrChars.Road.words, d.before a0 Z = true := fun d hd => hw d ((by decide +kernel : ∀ d ∈ StrChars.Road.words, d ∈ tables_1) d hd)

def own_EL : List (String × Nat) := [("java/lang/String", 7)]
theorem own_tx_0 : ∀ c ∈ "".toList, c.toNat < 256 := by decide +kernel
theorem own_txt_0 : (∀ c ∈ "".toList, c.toNat < 256) ∧ "".toList.map (fun c => Value.int (Jvm.Lit.byteI c.toNat.toUInt16)) = [] := ⟨own_tx_0, by decide +kernel⟩
theorem own_hEL (Z : State) (a0 : Array Value) (hw : own_H a0 Z) : EW Z a0 own_EL := (EW.cons (own_w20 hw) own_tx_0 EW.nil)
theorem own_wS (Z : State) (a0 : Array Value) (hw : own_H a0 Z) : ∀ a ∈ Bundle.stringAtoms, a.before a0 Z = true := fun d hd => hw d ((by decide +kernel : ∀ d ∈ Bundle.stringAtoms, d ∈ tables_1) d hd)
/-- a String whose value is null is no booked literal's cell -/
theorem own_safe_blank {Z : State} {EL : List (String × Nat)} {vm : Vm} {h : Heap} {x : Addr} (hal : Z.vm.Alike vm) (E : Exa Z h x "java/lang/String") (F : Fld Z h x "java/lang/String" "value" "[B" .null) : Safe Z EL vm h x := fun B => by
  obtain ⟨pp, -, u, a, -, q, -, S, hy⟩ := B
  rcases hy with rfl | rfl
  · obtain ⟨cell, cf, k, i, f, h1, h2, h3, h4, h5, h6, h7⟩ := F
    cases (show h[q.sa]? = some q.sC from S.ha).symm.trans h1
    obtain ⟨cS, ⟨⟨-, -, -, ⟨c1, k1, i1, f1, -⟩, -, -, -, v1, -⟩, -⟩, -⟩ := S
    obtain ⟨k3, e3, -⟩ := State.fieldFound?_setVm (s := Z) hal h2
    have e4 := (show (Wst Z vm h).fieldFound? _ _ _ = _ from e3).symm.trans f1
    simp only [Option.some.injEq, Prod.mk.injEq] at e4
    rw [← e4.2.2.2, h7] at v1
    simp at v1
  · obtain ⟨cell, k, e1, e2, e3, -, -⟩ := E
    cases (show h[q.sd]? = some q.SA from S.hd).symm.trans e1
    obtain ⟨cS, -, -, f, -⟩ := S
    have f' : vm.findClass "[B" = some q.SA.cls := f
    rw [hal.findClass] at f'
    obtain ⟨k1, q1, q2⟩ := Vm.findClass_spec f'
    obtain ⟨k2, q3, q4⟩ := Vm.findClass_spec e2
    cases q1.symm.trans q3
    exact absurd (q2.symm.trans q4) (by decide)
theorem own_d3_0 : decode jdk_42_method_149_code 0 = .ok (.aload_n 0, 1) := by decide +kernel
theorem own_d3_1 : decode jdk_42_method_149_code 1 = .ok (.invokespecial 1, 3) := by decide +kernel
theorem own_d3_4 : decode jdk_42_method_149_code 4 = .ok (.iload_n 3, 1) := by decide +kernel
theorem own_d3_5 : decode jdk_42_method_149_code 5 = .ok (.ifCond .ne 22, 3) := by decide +kernel
theorem own_d3_8 : decode jdk_42_method_149_code 8 = .ok (.aload_n 0, 1) := by decide +kernel
theorem own_d3_9 : decode jdk_42_method_149_code 9 = .ok (.ldc 7, 2) := by decide +kernel
theorem own_d3_11 : decode jdk_42_method_149_code 11 = .ok (.getfield 9, 3) := by decide +kernel
theorem own_d3_14 : decode jdk_42_method_149_code 14 = .ok (.putfield 9, 3) := by decide +kernel
theorem own_d3_17 : decode jdk_42_method_149_code 17 = .ok (.aload_n 0, 1) := by decide +kernel
theorem own_d3_18 : decode jdk_42_method_149_code 18 = .ok (.ldc 7, 2) := by decide +kernel
theorem own_d3_20 : decode jdk_42_method_149_code 20 = .ok (.getfield 15, 3) := by decide +kernel
theorem own_d3_23 : decode jdk_42_method_149_code 23 = .ok (.putfield 15, 3) := by decide +kernel
theorem own_d3_26 : decode jdk_42_method_149_code 26 = .ok (.return_, 1) := by decide +kernel
theorem own_pn_java_lang_String : plainName "java/lang/String" = true := by first | (simp [plainName, overriddenIn]; done) | decide +kernel
theorem own_ef_RRIIN_6 (m : MethodId) (x0 : Addr) (x1 : Addr) (x2 : Int32) (x3 : Int32) : entryFrame m #[(.ref x0), (.ref x1), (.int x2), (.int x3), .null] 6 = mkF m 0 #[.val (.ref x0), .val (.ref x1), .val (.int x2), .val (.int x3), .val .null, .unset] [] := by first | (simp [entryFrame, mkF, argsToLocals, Value.category]; done) | rfl
def Q_i4z (Z : State) (a1 : Addr) (a2 : Addr) (h0 : Heap) (n0 : Nat) (v : Option Value) (h : Heap) (L : List Loc) : Prop := v = none ∧ Fr n0 L ∧ Keep h0 h [a1] ∧ Exa Z h a1 "java/lang/String" ∧ Fld Z h a1 "java/lang/String" "coder" "B" (.int 0) ∧ ∃ t kb, Fld Z h a1 "java/lang/String" "value" "[B" (.ref t) ∧ Arv Z h t kb .byte (0 : Int32) [] (.int 0)
theorem rm_i4z (l : Launch) (Z : State) (a0 : Array Value) (hw : own_H a0 Z) (ws : List Jvm.Cond) (a1 : Addr) (a2 : Addr) (h0 : Heap) (n0 : Nat) (Z0 : n0 ≤ h0.size) (E1 : Exa Z h0 a1 "java/lang/String") (F1 : Fld Z h0 a1 "java/lang/String" "value" "[B" .null) (F2 : Fld Z h0 a1 "java/lang/String" "coder" "B" (.int 0)) (g1 : n0 ≤ a1) : own_MS own_EL l (⟨"java/lang/String", "<init>", "([CIILjava/lang/Void;)V"⟩ : MethodName) jdk_42_method_149_code 6 none ws ({ frames := 1, cells := 4, slots := 8, locals := 12 } : Room) Z h0 #[(.ref a1), (.ref a2), (.int (0 : Int32)), (.int (0 : Int32)), .null] (fun _ _ _ _ _ => True) (Q_i4z Z a1 a2 h0 n0) := by
  refine own_startS (plainFor_of_name own_pn_java_lang_String) fun p e s m below meth c s₁ Bd hx hby hml hown0 X0 e0 hh0 hZ hCH0 hS0 hK Pst hPst => ?_
  have hown : s.vm.findClass "java/lang/String" = some m.cls := hown0
  have hnm := (name_of_methodNamed Bd.named Bd.method).1
  have N0 := Fr.nil n0
  have hk0 : 0 ≤ h0.size := Nat.zero_le _
  have hEL := own_hEL Z a0 hw
  rw [own_ef_RRIIN_6 m a1 a2 (0 : Int32) (0 : Int32)]
  have sf1 : Safe Z own_EL s.vm h0 a1 := own_safe_blank hZ.alike E1 F1
  refine own_x_aloadN X0.here hx (hb hby own_d3_0) rfl rfl ?_
  refine own_h_initO X0 hx hZ hown (own_w17 hw) (own_w18 hw) (own_w19 hw) e0 (by rw [hml]; rfl) rfl (hb hby own_d3_1) (by decide) (W := 0) (by show 2 * 0 + _ ≤ _; exact Nat.le_of_eq rfl) (by decide) fun T101 X101 e101 => ?_
  refine own_x_iloadN X101.here hx (hb hby own_d3_4) rfl ?_
  refine own_x_ifNo X101.here hx (hb hby own_d3_5) rfl ((if0 _ _).trans (teq rfl).2) ?_
  refine own_x_aloadN X101.here hx (hb hby own_d3_8) rfl rfl ?_
  obtain ⟨a102, T102, h102, j102, b102, k102, X102, e102, E102, hS102, hk102, hZ102, hown102, A102, C102, V102, K102, la102, lb102, cr102, lit102, sn102, st102⟩ := ldcCH X101 hx hZ hown (own_w20 hw) (own_wS Z a0 hw) e101 hS0 hk0 hEL (List.mem_of_getElem? (i := 0) rfl) hCH0 (vs := []) (z := (0 : Int32)) own_txt_0 (by decide) rfl (g := (mkF m 9 #[.val (.ref a1), .val (.ref a2), .val (.int (0 : Int32)), .val (.int (0 : Int32)), .val .null, .unset] [(.ref a1)])) rfl (hb hby own_d3_9) (n := 0) (by decide) (by decide) (by decide) (by decide)
  refine own_Go.of st102 ?_
  have c103 := cr102.1
  have c104 := (CHr.trans (CHr.refl hCH0) cr102)
  have c105 := (cr102.safe E1.lt sf1)
  have nl_a1_102 := sn102 _ c105
  show own_Go p e below Pst (T102.setTop (mkF m 11 #[.val (.ref a1), .val (.ref a2), .val (.int (0 : Int32)), .val (.int (0 : Int32)), .val .null, .unset] [(.ref a102), (.ref a1)]))
  refine own_h_getF X102 hx hZ102 hown102 (host := "") (Or.inl (own_w26 hw)) Via.refl e102 V102 rfl (hb hby own_d3_11) fun T106 X106 e106 => ?_
  have c107 := (E1.ext E102)
  have c108 := (F1.ext E102)
  refine own_h_putF X106 hx hZ102 hown102 (host := "") (Or.inl (own_w26 hw)) Via.refl e106 c108 c107 (Or.inr ⟨(own_w22 hw), rfl, hnm⟩) (own_w7 hw) (ty := (.array .byte)) (by decide) rfl rfl rfl (hb hby own_d3_14) fun T109 h109 X109 e109 W109 => ?_
  have c110 := (CHv.wr W109 c105 c103)
  have c111 := (CHr.trans c104 (CHr.wr W109 c105 c103))
  have c112 := (Nat.le_trans hk102 (Keep.of_wr W109).1)
  have Fw109 := Fld.same W109 c108
  have N109 := Fr.snoc X109 N0 g1
  refine own_x_aloadN X109.here hx (hb hby own_d3_17) rfl rfl ?_
  have c114 := (c107.wr W109)
  obtain ⟨a113, T113, h113, j113, b113, k113, X113, e113, E113, hS113, hk113, hZ113, hown113, A113, C113, V113, K113, la113, lb113, cr113, lit113, sn113, st113⟩ := ldcCH X109 hx hZ102 hown102 (own_w20 hw) (own_wS Z a0 hw) e109 hS102 c112 hEL (List.mem_of_getElem? (i := 0) rfl) c110 (vs := []) (z := (0 : Int32)) own_txt_0 (by decide) rfl (g := (mkF m 18 #[.val (.ref a1), .val (.ref a2), .val (.int (0 : Int32)), .val (.int (0 : Int32)), .val .null, .unset] [(.ref a1)])) rfl (hb hby own_d3_18) (n := 0) (by decide) (by decide) (by decide) (by decide)
  refine own_Go.of st113 ?_
  have c115 := cr113.1
  have c116 := (CHr.trans c111 cr113)
  have c117 := (cr113.safe c114.lt (Safe.wr W109 c105 c103 c105))
  have nl_a1_113 := sn113 _ c117
  show own_Go p e below Pst (T113.setTop (mkF m 20 #[.val (.ref a1), .val (.ref a2), .val (.int (0 : Int32)), .val (.int (0 : Int32)), .val .null, .unset] [(.ref a113), (.ref a1)]))
  refine own_h_getF X113 hx hZ113 hown113 (host := "") (Or.inl (own_w27 hw)) Via.refl e113 C113 rfl (hb hby own_d3_20) fun T118 X118 e118 => ?_
  have c119 := (c114.ext E113)
  have c120 := (((F2.ext E102).other W109 (Or.inr (slot_ne (Or.inr (own_w23 hw)) (Or.inr (own_w22 hw)) (by decide) (t := .byte) (t' := (.array .byte)) (by decide) (by decide)))).ext E113)
  refine own_h_putFN X118 hx hZ113 hown113 (own_w27 hw) Via.refl e118 c120 c119 (Or.inr ⟨(own_w23 hw), rfl, hnm⟩) (own_w7 hw) (ty := .byte) (v' := (.int (0 : Int32))) (by decide) rfl rfl rfl (hb hby own_d3_23) fun T121 h121 X121 e121 W121 => ?_
  have c122 := (CHv.wr W121 c117 c115)
  have c123 := (CHr.trans c116 (CHr.wr W121 c117 c115))
  have c124 := (Nat.le_trans hk113 (Keep.of_wr W121).1)
  have Fw121 := Fld.same W121 c120
  have N121 := Fr.snoc X121 N109 g1
  have c125 := (((((Keep.refl h0 [a1]).ext E102).wr W109 (Or.inl (List.mem_of_getElem? (i := 0) rfl))).ext E113).wr W121 (Or.inl (List.mem_of_getElem? (i := 0) rfl)))
  have c126 := (c119.wr W121)
  have c127 := ((Fw109.ext E113).other W121 (Or.inr (slot_ne (Or.inr (own_w22 hw)) (Or.inr (own_w23 hw)) (by decide) (t := (.array .byte)) (t' := .byte) (by decide) (by decide))))
  have c128 := (((K102.other W109 (Ne.symm nl_a1_102.2)).ext E113).other W121 (Ne.symm nl_a1_102.2))
  rw [hPst]
  exact own_retW X121 hS113 (by rw [e121]; exact c124) (v := none) (Q := Q_i4z Z a1 a2 h0 n0) (fun _ => rfl) Bd.notSynchronized (fun fs hr => X121.returnOut hx Bd.returns (hb hby own_d3_26) hr) (by decide) (by decide) (by rw [hh0, e121]; exact CHr.trans c123 (CHv.at X121 hZ113 hEL c122)) (by rw [e121]; exact ⟨rfl, N121, c125, c126, Fw121, _, _, c127, c128⟩)
theorem own_d2_0 : decode jdk_42_method_3_code 0 = .ok (.aload_n 0, 1) := by decide +kernel
theorem own_d2_1 : decode jdk_42_method_3_code 1 = .ok (.aload_n 1, 1) := by decide +kernel
theorem own_d2_2 : decode jdk_42_method_3_code 2 = .ok (.iconst 0, 1) := by decide +kernel
theorem own_d2_3 : decode jdk_42_method_3_code 3 = .ok (.aload_n 1, 1) := by decide +kernel
theorem own_d2_4 : decode jdk_42_method_3_code 4 = .ok (.arraylength, 1) := by decide +kernel
theorem own_d2_5 : decode jdk_42_method_3_code 5 = .ok (.aconst_null, 1) := by decide +kernel
theorem own_d2_6 : decode jdk_42_method_3_code 6 = .ok (.invokespecial 27, 3) := by decide +kernel
theorem own_pd0 : parseMethodDescriptor "([CIILjava/lang/Void;)V" = some ⟨[(.array .char), .int, .int, (.object "java/lang/Void")], none⟩ := by decide +kernel
theorem own_d2_9 : decode jdk_42_method_3_code 9 = .ok (.return_, 1) := by decide +kernel
theorem own_ef_RR_2 (m : MethodId) (x0 : Addr) (x1 : Addr) : entryFrame m #[(.ref x0), (.ref x1)] 2 = mkF m 0 #[.val (.ref x0), .val (.ref x1)] [] := by first | (simp [entryFrame, mkF, argsToLocals, Value.category]; done) | rfl
def Q_i1z (Z : State) (a1 : Addr) (a2 : Addr) (kc : ClassId) (vs : List Value) (dv : Value) (h0 : Heap) (n0 : Nat) (v : Option Value) (h : Heap) (L : List Loc) : Prop := v = none ∧ Fr n0 L ∧ Keep h0 h [a1] ∧ Exa Z h a1 "java/lang/String" ∧ Fld Z h a1 "java/lang/String" "coder" "B" (.int 0) ∧ ∃ t kb, Fld Z h a1 "java/lang/String" "value" "[B" (.ref t) ∧ Arv Z h t kb .byte (0 : Int32) [] (.int 0)
theorem rm_i1z (l : Launch) (Z : State) (a0 : Array Value) (hw : own_H a0 Z) (ws : List Jvm.Cond) (a1 : Addr) (a2 : Addr) (kc : ClassId) (vs : List Value) (dv : Value) (h0 : Heap) (n0 : Nat) (Z0 : n0 ≤ h0.size) (E1 : Exa Z h0 a1 "java/lang/String") (F1 : Fld Z h0 a1 "java/lang/String" "value" "[B" .null) (F2 : Fld Z h0 a1 "java/lang/String" "coder" "B" (.int 0)) (g1 : n0 ≤ a1) (A1 : Arv Z h0 a2 kc .char (0 : Int32) vs dv) : own_MS own_EL l (⟨"java/lang/String", "<init>", "([C)V"⟩ : MethodName) jdk_42_method_3_code 2 none ws ({ frames := 2, cells := 4, slots := 8, locals := 29 } : Room) Z h0 #[(.ref a1), (.ref a2)] (fun _ _ _ _ _ => True) (Q_i1z Z a1 a2 kc vs dv h0 n0) := by
  refine own_startS (plainFor_of_name own_pn_java_lang_String) fun p e s m below meth c s₁ Bd hx hby hml hown0 X0 e0 hh0 hZ hCH0 hS0 hK Pst hPst => ?_
  have hown : s.vm.findClass "java/lang/String" = some m.cls := hown0
  have hnm := (name_of_methodNamed Bd.named Bd.method).1
  have N0 := Fr.nil n0
  have hk0 : 0 ≤ h0.size := Nat.zero_le _
  have hEL := own_hEL Z a0 hw
  rw [own_ef_RR_2 m a1 a2]
  have sf1 : Safe Z own_EL s.vm h0 a1 := own_safe_blank hZ.alike E1 F1
  refine own_x_aloadN X0.here hx (hb hby own_d2_0) rfl rfl ?_
  refine own_x_aloadN X0.here hx (hb hby own_d2_1) rfl rfl ?_
  refine own_x_iconst X0.here hx (hb hby own_d2_2) (z := (0 : Int32)) rfl ?_
  refine own_x_aloadN X0.here hx (hb hby own_d2_3) rfl rfl ?_
  obtain ⟨cl101, Ar101, -, S101, P101, -, -⟩ := id A1
  refine own_Go.of (S' := s₁.setTop (mkF m 5 #[.val (.ref a1), .val (.ref a2)] [(.int (0 : Int32)), (.int (0 : Int32)), (.ref a2), (.ref a1)])) (fun tgt kst => X0.arraylength hx (by rw [e0]; exact Ar101.1) (State.isArrayOf_alike hZ.alike Ar101.2.1) (g := (mkF m 4 #[.val (.ref a1), .val (.ref a2)] [(.ref a2), (.int (0 : Int32)), (.ref a2), (.ref a1)])) rfl rfl (hb hby own_d2_4) _ (by rw [len_of S101 P101]; exact kst)) ?_
  refine own_x_aconstNull X0.here hx (hb hby own_d2_5) ?_
  refine own_cS X0 hS0 (by rw [e0]; exact hk0) hZ hown (X0.specialBackS hx (y := (⟨"java/lang/String", "<init>", "([CIILjava/lang/Void;)V"⟩ : MethodName)) rfl hown (mvT hZ (own_w13 hw)) (mvT hZ (own_w14 hw)) (mvT hZ (own_w16 hw)) (by decide) (backOfSH (W := 0) (rm_i4z l Z a0 hw [] a1 a2 h0 n0 Z0 E1 F1 F2 g1) hZ (own_w16 hw) (own_w8 hw) (by decide) (by decide) hEL hCH0) (g := (mkF m 6 #[.val (.ref a1), .val (.ref a2)] [.null, (.int (0 : Int32)), (.int (0 : Int32)), (.ref a2), (.ref a1)])) rfl (by rw [hml]; rfl) (Steps.refl _) (a := a1) (argsL := [(.ref a2), (.int (0 : Int32)), (.int (0 : Int32)), .null]) (rest := []) (lenOf own_pd0 rfl) rfl (by show 2 * 0 + _ ≤ _; exact Nat.le_of_eq rfl) (hb hby own_d2_6) (fun _ _ => ⟨rfl, e0, (by decide : 0 + 4 ≤ _), (by decide : 0 + 8 ≤ _)⟩)) fun v102 T102 L102 X102 hS102 hZ102 hown102 hQ102 cr102 => ?_
  obtain ⟨rfl, Nq102, K102, A102, C102, t102, kb102, V102, B102⟩ := hQ102
  have N102 := Fr.app N0 Nq102
  have c103 := cr102.1
  have c104 := (CHr.trans (CHr.refl hCH0) cr102)
  have c105 := (Nat.le_trans hk0 K102.1)
  show own_Go p e below Pst (T102.setTop (mkF m 9 #[.val (.ref a1), .val (.ref a2)] []))
  have c106 := (Keep.trans (Keep.refl h0 [a1]) K102 (allS (Or.inl (List.mem_of_getElem? (i := 0) rfl)) all0))
  rw [hPst]
  exact own_retW X102 hS102 (Nat.le_refl _) (v := none) (Q := Q_i1z Z a1 a2 kc vs dv h0 n0) (fun _ => rfl) Bd.notSynchronized (fun fs hr => X102.returnOut hx Bd.returns (hb hby own_d2_9) hr) (by decide) (by decide) (by rw [hh0]; exact CHr.trans c104 (CHv.at X102 hZ102 hEL c103)) ⟨rfl, N102, c106, A102, C102, _, _, V102, B102⟩
theorem own_d10_0 : decode jdk_42_method_66_code 0 = .ok (.aload_n 0, 1) := by decide +kernel
theorem own_d10_1 : decode jdk_42_method_66_code 1 = .ok (.aload_n 1, 1) := by decide +kernel
theorem own_d10_2 : decode jdk_42_method_66_code 2 = .ok (.if_acmp .ne 5, 3) := by decide +kernel
theorem own_d10_5 : decode jdk_42_method_66_code 5 = .ok (.iconst 1, 1) := by decide +kernel
theorem own_d10_6 : decode jdk_42_method_66_code 6 = .ok (.ireturn, 1) := by decide +kernel
theorem own_ef_RR_3 (m : MethodId) (x0 : Addr) (x1 : Addr) : entryFrame m #[(.ref x0), (.ref x1)] 3 = mkF m 0 #[.val (.ref x0), .val (.ref x1), .unset] [] := by first | (simp [entryFrame, mkF, argsToLocals, Value.category]; done) | rfl
def Q_eqs (Z : State) (a1 : Addr) (h0 : Heap) (n0 : Nat) (v : Option Value) (h : Heap) (L : List Loc) : Prop := v = some (.int 1) ∧ Fr n0 L ∧ h = h0
theorem rm_eqs (l : Launch) (Z : State) (a0 : Array Value) (hw : own_H a0 Z) (ws : List Jvm.Cond) (a1 : Addr) (h0 : Heap) (n0 : Nat) (Z0 : n0 ≤ h0.size) : own_MP l (⟨"java/lang/String", "equals", "(Ljava/lang/Object;)Z"⟩ : MethodName) jdk_42_method_66_code 3 (some .boolean) ws ({ frames := 0, cells := 0, slots := 0, locals := 0 } : Room) Z h0 #[(.ref a1), (.ref a1)] (fun _ _ _ _ _ => True) (Q_eqs Z a1 h0 n0) := by
  refine own_startP (plainFor_of_name own_pn_java_lang_String) fun p e s m below meth c s₁ Bd hx hby hml hown0 X0 e0 hh0 hZ hK Pst hPst => ?_
  have hown : s.vm.findClass "java/lang/String" = some m.cls := hown0
  have hnm := (name_of_methodNamed Bd.named Bd.method).1
  have N0 := Fr.nil n0
  rw [own_ef_RR_3 m a1 a1]
  refine own_x_aloadN X0.here hx (hb hby own_d10_0) rfl rfl ?_
  refine own_x_aloadN X0.here hx (hb hby own_d10_1) rfl rfl ?_
  refine own_Go.of (S' := s₁.setTop (mkF m 5 #[.val (.ref a1), .val (.ref a1), .unset] [])) (fun tgt kst => Jvm.RoadKit.acmp (g := (mkF m 2 #[.val (.ref a1), .val (.ref a1), .unset] [(.ref a1), (.ref a1)])) X0 hx rfl rfl rfl (pc0 := 2) (pc' := 5) (same := true) rfl (hb hby own_d10_2) rfl (decide_eq_true rfl) (by decide) (by decide) kst) ?_
  refine own_x_iconst X0.here hx (hb hby own_d10_5) (z := (1 : Int32)) rfl ?_
  rw [hPst]
  exact own_retP X0 (v := (some (.int (nar .boolean (1 : Int32))))) (Q := Q_eqs Z a1 h0 n0) (fun h => by rw [Bd.returns] at h; cases h) Bd.notSynchronized (fun fs hr => retN X0 hx (t := .boolean) Bd.returns (by simp) (hb hby own_d10_6) hr) (by decide) (by decide) (by rw [e0]; exact ⟨rfl, N0, rfl⟩)
theorem own_d7_0 : decode jdk_30_method_1_code 0 = .ok (.aload_n 0, 1) := by decide +kernel
theorem own_d7_1 : decode jdk_30_method_1_code 1 = .ok (.invokespecial 1, 3) := by decide +kernel
theorem own_d7_4 : decode jdk_30_method_1_code 4 = .ok (.return_, 1) := by decide +kernel
theorem own_pn_java_lang_Record : plainName "java/lang/Record" = true := by first | (simp [plainName, overriddenIn]; done) | decide +kernel
theorem own_ef_R_1 (m : MethodId) (x0 : Addr) : entryFrame m #[(.ref x0)] 1 = mkF m 0 #[.val (.ref x0)] [] := by first | (simp [entryFrame, mkF, argsToLocals, Value.category]; done) | rfl
def Q_rec (Z : State) (a1 : Addr) (h0 : Heap) (n0 : Nat) (v : Option Value) (h : Heap) (L : List Loc) : Prop := v = none ∧ Fr n0 L ∧ h = h0
theorem rm_rec (l : Launch) (Z : State) (a0 : Array Value) (hw : own_H a0 Z) (ws : List Jvm.Cond) (a1 : Addr) (h0 : Heap) (n0 : Nat) (Z0 : n0 ≤ h0.size) : own_MP l (⟨"java/lang/Record", "<init>", "()V"⟩ : MethodName) jdk_30_method_1_code 1 none ws ({ frames := 1, cells := 0, slots := 0, locals := 12 } : Room) Z h0 #[(.ref a1)] (fun _ _ _ _ _ => True) (Q_rec Z a1 h0 n0) := by
  refine own_startP (plainFor_of_name own_pn_java_lang_Record) fun p e s m below meth c s₁ Bd hx hby hml hown0 X0 e0 hh0 hZ hK Pst hPst => ?_
  have hown : s.vm.findClass "java/lang/Record" = some m.cls := hown0
  have hnm := (name_of_methodNamed Bd.named Bd.method).1
  have N0 := Fr.nil n0
  rw [own_ef_R_1 m a1]
  refine own_x_aloadN X0.here hx (hb hby own_d7_0) rfl rfl ?_
  refine own_h_initO X0 hx hZ hown (own_w42 hw) (own_w18 hw) (own_w19 hw) e0 (by rw [hml]; rfl) rfl (hb hby own_d7_1) (by decide) (W := 0) (by show 2 * 0 + _ ≤ _; exact Nat.le_of_eq rfl) (by decide) fun T101 X101 e101 => ?_
  rw [hPst]
  exact own_retP X101 (v := none) (Q := Q_rec Z a1 h0 n0) (fun _ => rfl) Bd.notSynchronized (fun fs hr => X101.returnOut hx Bd.returns (hb hby own_d7_4) hr) (by decide) (by decide) (by rw [e101]; exact ⟨rfl, N0, rfl⟩)
/-- the two bytes of a char, as putChar lays them -/
def own_lo8 (c : Int32) : Int32 := nar .byte ((c >>> ((0 : Int32) &&& 31)).toInt8.toInt32)
def own_hi8 (c : Int32) : Int32 := nar .byte ((c >>> ((8 : Int32) &&& 31)).toInt8.toInt32)
def own_u16 (cs : List Int32) : List Value := cs.flatMap fun c => [.int (own_lo8 c), .int (own_hi8 c)]
def own_join (x0 x1 : Int32) : Int32 := (((x0 &&& (255 : Int32)) <<< ((0 : Int32) &&& 31)) ||| ((x1 &&& (255 : Int32)) <<< ((8 : Int32) &&& 31))).toUInt32.toUInt16.toUInt32.toInt32
theorem own_ltt {x y z : Int32} (h1 : x < y) (h2 : y < z) : x < z := by rw [Int32.lt_iff_toInt_lt] at *; omega
/-- a char is put together again out of its two bytes -/
theorem own_join_eq {c : Int32} (h0 : ¬ c < 0) (h1 : ¬ (65535 : Int32) < c) : nar .char (own_join (own_lo8 c) (own_hi8 c)) = c := by
  rw [Int32.lt_iff_toInt_lt] at h0 h1
  have z0 : (0 : Int32).toInt = 0 := by decide
  have z1 : (65535 : Int32).toInt = 65535 := by decide
  rw [z0] at h0; rw [z1] at h1
  have s0 : (c >>> ((0 : Int32) &&& 31)).toInt = c.toInt / (2 ^ 0 : Nat) := c_ishr c 0 0 (by decide)
  have s8 : (c >>> ((8 : Int32) &&& 31)).toInt = c.toInt / (2 ^ 8 : Nat) := c_ishr c 8 8 (by decide)
  have b0 := c_i2b (c >>> ((0 : Int32) &&& 31))
  have b1 := c_i2b ((c >>> ((0 : Int32) &&& 31)).toInt8.toInt32)
  have d0 := c_i2b (c >>> ((8 : Int32) &&& 31))
  have d1 := c_i2b ((c >>> ((8 : Int32) &&& 31)).toInt8.toInt32)
  have m0 : (own_lo8 c &&& (255 : Int32)).toInt = (own_lo8 c).toInt % (2 ^ 8 : Nat) := c_mask _ _ 8 (by decide) (by decide)
  have m1 : (own_hi8 c &&& (255 : Int32)).toInt = (own_hi8 c).toInt % (2 ^ 8 : Nat) := c_mask _ _ 8 (by decide) (by decide)
  have e0 : own_lo8 c = ((c >>> ((0 : Int32) &&& 31)).toInt8.toInt32).toInt8.toInt32 := rfl
  have e1 : own_hi8 c = ((c >>> ((8 : Int32) &&& 31)).toInt8.toInt32).toInt8.toInt32 := rfl
  rw [← e0] at b1; rw [← e1] at d1
  have t0 := c_ishl (own_lo8 c &&& (255 : Int32)) 0 0 (by decide)
  have t1 := c_ishl (own_hi8 c &&& (255 : Int32)) 8 8 (by decide)
  have r0 := rng32 ((own_lo8 c &&& (255 : Int32)) <<< ((0 : Int32) &&& 31))
  have r1 := rng32 ((own_hi8 c &&& (255 : Int32)) <<< ((8 : Int32) &&& 31))
  have o := c_or' ((own_lo8 c &&& (255 : Int32)) <<< ((0 : Int32) &&& 31)) ((own_hi8 c &&& (255 : Int32)) <<< ((8 : Int32) &&& 31)) 8 (by decide) 256 (by decide)
  generalize hA : (own_lo8 c &&& (255 : Int32)) <<< ((0 : Int32) &&& 31) = A at *
  generalize hB : (own_hi8 c &&& (255 : Int32)) <<< ((8 : Int32) &&& 31) = B at *
  have ro := rng32 (A ||| B)
  have ej : own_join (own_lo8 c) (own_hi8 c) = (A ||| B).toUInt32.toUInt16.toUInt32.toInt32 := by rw [← hA, ← hB]; rfl
  have q1 := c_i2c (A ||| B)
  have q2 := c_i2c ((A ||| B).toUInt32.toUInt16.toUInt32.toInt32)
  have en : nar .char (own_join (own_lo8 c) (own_hi8 c)) = ((A ||| B).toUInt32.toUInt16.toUInt32.toInt32).toUInt32.toUInt16.toUInt32.toInt32 := by rw [ej]; rfl
  rw [en]
  apply Int32.toInt_inj.mp
  have o' := o (by omega) (by omega) (by omega)
  omega

theorem own_d17_0 : decode jdk_52_method_4_code 0 = .ok (.getstatic 44, 3) := by decide +kernel
theorem own_d17_3 : decode jdk_52_method_4_code 3 = .ok (.ifCond .ne 25, 3) := by decide +kernel
theorem own_d17_28 : decode jdk_52_method_4_code 28 = .ok (.iload_n 1, 1) := by decide +kernel
theorem own_d17_29 : decode jdk_52_method_4_code 29 = .ok (.iconst 1, 1) := by decide +kernel
theorem own_d17_30 : decode jdk_52_method_4_code 30 = .ok (.ishl, 1) := by decide +kernel
theorem own_d17_31 : decode jdk_52_method_4_code 31 = .ok (.istore_n 1, 1) := by decide +kernel
theorem own_d17_32 : decode jdk_52_method_4_code 32 = .ok (.aload_n 0, 1) := by decide +kernel
theorem own_d17_33 : decode jdk_52_method_4_code 33 = .ok (.iload_n 1, 1) := by decide +kernel
theorem own_d17_34 : decode jdk_52_method_4_code 34 = .ok (.iinc 1 1, 3) := by decide +kernel
theorem own_d17_37 : decode jdk_52_method_4_code 37 = .ok (.iload_n 2, 1) := by decide +kernel
theorem own_d17_38 : decode jdk_52_method_4_code 38 = .ok (.getstatic 59, 3) := by decide +kernel
theorem own_d17_41 : decode jdk_52_method_4_code 41 = .ok (.ishr, 1) := by decide +kernel
theorem own_d17_42 : decode jdk_52_method_4_code 42 = .ok (.i2b, 1) := by decide +kernel
theorem own_d17_43 : decode jdk_52_method_4_code 43 = .ok (.bastore, 1) := by decide +kernel
theorem own_d17_44 : decode jdk_52_method_4_code 44 = .ok (.aload_n 0, 1) := by decide +kernel
theorem own_d17_45 : decode jdk_52_method_4_code 45 = .ok (.iload_n 1, 1) := by decide +kernel
theorem own_d17_46 : decode jdk_52_method_4_code 46 = .ok (.iload_n 2, 1) := by decide +kernel
theorem own_d17_47 : decode jdk_52_method_4_code 47 = .ok (.getstatic 63, 3) := by decide +kernel
theorem own_d17_50 : decode jdk_52_method_4_code 50 = .ok (.ishr, 1) := by decide +kernel
theorem own_d17_51 : decode jdk_52_method_4_code 51 = .ok (.i2b, 1) := by decide +kernel
theorem own_d17_52 : decode jdk_52_method_4_code 52 = .ok (.bastore, 1) := by decide +kernel
theorem own_d17_53 : decode jdk_52_method_4_code 53 = .ok (.return_, 1) := by decide +kernel
theorem own_pn_java_lang_StringUTF16 : plainName "java/lang/StringUTF16" = true := by first | (simp [plainName, overriddenIn]; done) | decide +kernel
theorem own_ef_RII_3 (m : MethodId) (x0 : Addr) (x1 : Int32) (x2 : Int32) : entryFrame m #[(.ref x0), (.int x1), (.int x2)] 3 = mkF m 0 #[.val (.ref x0), .val (.int x1), .val (.int x2)] [] := by first | (simp [entryFrame, mkF, argsToLocals, Value.category]; done) | rfl
def Q_put0 (Z : State) (a1 : Addr) (kb : ClassId) (N c : Int32) (vs : List Value) (h0 : Heap) (n0 : Nat) (v : Option Value) (h : Heap) (L : List Loc) : Prop := v = none ∧ Fr n0 L ∧ Keep h0 h [a1] ∧ Arv Z h a1 kb .byte N ((vs.set 0 (.int (own_lo8 c))).set 1 (.int (own_hi8 c))) (.int 0)
theorem rm_put0 (l : Launch) (Z : State) (a0 : Array Value) (hw : own_H a0 Z) (ws : List Jvm.Cond) (a1 : Addr) (kb : ClassId) (N c : Int32) (vs : List Value) (h0 : Heap) (n0 : Nat) (Z0 : n0 ≤ h0.size) (O : Old Z n0 h0) (SU0 : Sta Z Z.heap "java/lang/StringUTF16" "$assertionsDisabled" "Z" (.int (1 : Int32))) (SU1 : Sta Z Z.heap "java/lang/StringUTF16" "HI_BYTE_SHIFT" "I" (.int (0 : Int32))) (SU2 : Sta Z Z.heap "java/lang/StringUTF16" "LO_BYTE_SHIFT" "I" (.int (8 : Int32))) (g1 : n0 ≤ a1) (A1 : Arv Z h0 a1 kb .byte N vs (.int 0)) (hN : (1 : Int32) < N) (hl : 1 < vs.length) : own_MP l (⟨"java/lang/StringUTF16", "putChar", "([BII)V"⟩ : MethodName) jdk_52_method_4_code 3 none ws ({ frames := 0, cells := 0, slots := 0, locals := 0 } : Room) Z h0 #[(.ref a1), (.int (0 : Int32)), (.int c)] (fun _ _ _ _ _ => True) (Q_put0 Z a1 kb N c vs h0 n0) := by
  refine own_startP (plainFor_of_name own_pn_java_lang_StringUTF16) fun p e s m below meth c' s₁ Bd hx hby hml hown0 X0 e0 hh0 hZ hK Pst hPst => ?_
  have hown : s.vm.findClass "java/lang/StringUTF16" = some m.cls := hown0
  have hnm := (name_of_methodNamed Bd.named Bd.method).1
  have N0 := Fr.nil n0
  rw [own_ef_RII_3 m a1 (0 : Int32) c]
  refine own_h_getS2 X0 hx hZ hown (host := "") (Or.inl (own_w88 hw)) Via.refl e0 (SU0.ext O.2) (hb hby own_d17_0) fun T101 X101 e101 => ?_
  refine own_x_ifYes X101.here hx (pc0 := 3) (pc' := 28) rfl (hb hby own_d17_3) rfl ((if0 _ _).trans (feq (by decide)).2) (by decide) (by decide) ?_
  refine own_x_iloadN X101.here hx (hb hby own_d17_28) rfl ?_
  refine own_x_iconst X101.here hx (hb hby own_d17_29) (z := (1 : Int32)) rfl ?_
  refine own_x_ishl X101.here hx (hb hby own_d17_30) rfl ?_
  rw [show ((0 : Int32) <<< ((1 : Int32) &&& 31)) = (0 : Int32) from by decide]
  show own_Go p e below Pst (T101.setTop (mkF m 31 #[.val (.ref a1), .val (.int (0 : Int32)), .val (.int c)] [(.int (0 : Int32))]))
  refine own_x_istoreN X101.here hx (hb hby own_d17_31) rfl (l' := #[.val (.ref a1), .val (.int (0 : Int32)), .val (.int c)]) rfl ?_
  refine own_x_aloadN X101.here hx (hb hby own_d17_32) rfl rfl ?_
  refine own_x_iloadN X101.here hx (hb hby own_d17_33) rfl ?_
  refine own_x_iinc X101.here hx (hb hby own_d17_34) rfl (l' := #[.val (.ref a1), .val (.int ((0 : Int32) + (1 : Int32))), .val (.int c)]) rfl ?_
  rw [show ((0 : Int32) + (1 : Int32)) = (1 : Int32) from by decide]
  show own_Go p e below Pst (T101.setTop (mkF m 37 #[.val (.ref a1), .val (.int (1 : Int32)), .val (.int c)] [(.int (0 : Int32)), (.ref a1)]))
  refine own_x_iloadN X101.here hx (hb hby own_d17_37) rfl ?_
  refine own_h_getS2 X101 hx hZ hown (host := "") (Or.inl (own_w89 hw)) Via.refl e101 (SU1.ext O.2) (hb hby own_d17_38) fun T102 X102 e102 => ?_
  refine own_x_ishr X102.here hx (hb hby own_d17_41) rfl ?_
  refine own_x_i2b X102.here hx (hb hby own_d17_42) rfl ?_
  obtain ⟨cl103, Ar103, q103, S103, P103, H103, G103⟩ := A1
  have hin103 : ¬ ((0 : Int32) < 0 ∨ cl103.slots.size ≤ ((0 : Int32)).toNatClampNeg) := inb_of S103 ⟨by decide, own_ltt (by decide) hN⟩
  refine own_h_stB X102 hx hZ e102 Ar103 (j := (0 : Int32)) hin103 rfl (hb hby own_d17_43) fun T103 h103 X103 e103 W103 => ?_
  have V103 := Arv.set Ar103 q103 S103 P103 H103 G103 (fits_nar_byte _) W103 0 rfl (Nat.lt_of_succ_lt hl)
  have N103 := Fr.snoc X103 N0 g1
  refine own_x_aloadN X103.here hx (hb hby own_d17_44) rfl rfl ?_
  refine own_x_iloadN X103.here hx (hb hby own_d17_45) rfl ?_
  refine own_x_iloadN X103.here hx (hb hby own_d17_46) rfl ?_
  have c104 := (O.wr W103 g1)
  refine own_h_getS2 X103 hx hZ hown (host := "") (Or.inl (own_w90 hw)) Via.refl e103 (SU2.ext c104.2) (hb hby own_d17_47) fun T105 X105 e105 => ?_
  refine own_x_ishr X105.here hx (hb hby own_d17_50) rfl ?_
  refine own_x_i2b X105.here hx (hb hby own_d17_51) rfl ?_
  obtain ⟨cl106, Ar106, q106, S106, P106, H106, G106⟩ := V103
  have hin106 : ¬ ((1 : Int32) < 0 ∨ cl106.slots.size ≤ ((1 : Int32)).toNatClampNeg) := inb_of S106 ⟨by decide, hN⟩
  refine own_h_stB X105 hx hZ e105 Ar106 (j := (1 : Int32)) hin106 rfl (hb hby own_d17_52) fun T106 h106 X106 e106 W106 => ?_
  have V106 := Arv.set Ar106 q106 S106 P106 H106 G106 (fits_nar_byte _) W106 1 rfl (by rw [List.length_set]; exact hl)
  have N106 := Fr.snoc X106 N103 g1
  have c107 := (((Keep.refl h0 [a1]).wr W103 (Or.inl (List.mem_of_getElem? (i := 0) rfl))).wr W106 (Or.inl (List.mem_of_getElem? (i := 0) rfl)))
  rw [hPst]
  exact own_retP X106 (v := none) (Q := Q_put0 Z a1 kb N c vs h0 n0) (fun _ => rfl) Bd.notSynchronized (fun fs hr => X106.returnOut hx Bd.returns (hb hby own_d17_53) hr) (by decide) (by decide) (by rw [e106]; exact ⟨rfl, N106, c107, V106⟩)
theorem own_d18_0 : decode jdk_52_method_5_code 0 = .ok (.getstatic 44, 3) := by decide +kernel
theorem own_d18_3 : decode jdk_52_method_5_code 3 = .ok (.ifCond .ne 25, 3) := by decide +kernel
theorem own_d18_28 : decode jdk_52_method_5_code 28 = .ok (.iload_n 1, 1) := by decide +kernel
theorem own_d18_29 : decode jdk_52_method_5_code 29 = .ok (.iconst 1, 1) := by decide +kernel
theorem own_d18_30 : decode jdk_52_method_5_code 30 = .ok (.ishl, 1) := by decide +kernel
theorem own_d18_31 : decode jdk_52_method_5_code 31 = .ok (.istore_n 1, 1) := by decide +kernel
theorem own_d18_32 : decode jdk_52_method_5_code 32 = .ok (.aload_n 0, 1) := by decide +kernel
theorem own_d18_33 : decode jdk_52_method_5_code 33 = .ok (.iload_n 1, 1) := by decide +kernel
theorem own_d18_34 : decode jdk_52_method_5_code 34 = .ok (.iinc 1 1, 3) := by decide +kernel
theorem own_d18_37 : decode jdk_52_method_5_code 37 = .ok (.baload, 1) := by decide +kernel
theorem own_d18_38 : decode jdk_52_method_5_code 38 = .ok (.sipush 255, 3) := by decide +kernel
theorem own_d18_41 : decode jdk_52_method_5_code 41 = .ok (.iand, 1) := by decide +kernel
theorem own_d18_42 : decode jdk_52_method_5_code 42 = .ok (.getstatic 59, 3) := by decide +kernel
theorem own_d18_45 : decode jdk_52_method_5_code 45 = .ok (.ishl, 1) := by decide +kernel
theorem own_d18_46 : decode jdk_52_method_5_code 46 = .ok (.aload_n 0, 1) := by decide +kernel
theorem own_d18_47 : decode jdk_52_method_5_code 47 = .ok (.iload_n 1, 1) := by decide +kernel
theorem own_d18_48 : decode jdk_52_method_5_code 48 = .ok (.baload, 1) := by decide +kernel
theorem own_d18_49 : decode jdk_52_method_5_code 49 = .ok (.sipush 255, 3) := by decide +kernel
theorem own_d18_52 : decode jdk_52_method_5_code 52 = .ok (.iand, 1) := by decide +kernel
theorem own_d18_53 : decode jdk_52_method_5_code 53 = .ok (.getstatic 63, 3) := by decide +kernel
theorem own_d18_56 : decode jdk_52_method_5_code 56 = .ok (.ishl, 1) := by decide +kernel
theorem own_d18_57 : decode jdk_52_method_5_code 57 = .ok (.ior, 1) := by decide +kernel
theorem own_d18_58 : decode jdk_52_method_5_code 58 = .ok (.i2c, 1) := by decide +kernel
theorem own_d18_59 : decode jdk_52_method_5_code 59 = .ok (.ireturn, 1) := by decide +kernel
theorem own_ef_RI_2 (m : MethodId) (x0 : Addr) (x1 : Int32) : entryFrame m #[(.ref x0), (.int x1)] 2 = mkF m 0 #[.val (.ref x0), .val (.int x1)] [] := by first | (simp [entryFrame, mkF, argsToLocals, Value.category]; done) | rfl
def Q_getc0 (Z : State) (a1 : Addr) (kb : ClassId) (N x0 x1 : Int32) (vs : List Value) (h0 : Heap) (n0 : Nat) (v : Option Value) (h : Heap) (L : List Loc) : Prop := v = some (.int (nar .char (own_join x0 x1))) ∧ Fr n0 L ∧ h = h0
theorem rm_getc0 (l : Launch) (Z : State) (a0 : Array Value) (hw : own_H a0 Z) (ws : List Jvm.Cond) (a1 : Addr) (kb : ClassId) (N x0 x1 : Int32) (vs : List Value) (h0 : Heap) (n0 : Nat) (Z0 : n0 ≤ h0.size) (O : Old Z n0 h0) (SU0 : Sta Z Z.heap "java/lang/StringUTF16" "$assertionsDisabled" "Z" (.int (1 : Int32))) (SU1 : Sta Z Z.heap "java/lang/StringUTF16" "HI_BYTE_SHIFT" "I" (.int (0 : Int32))) (SU2 : Sta Z Z.heap "java/lang/StringUTF16" "LO_BYTE_SHIFT" "I" (.int (8 : Int32))) (A1 : Arv Z h0 a1 kb .byte N vs (.int 0)) (hN : (1 : Int32) < N) (hv0 : vs.getD 0 (.int 0) = .int x0) (hv1 : vs.getD 1 (.int 0) = .int x1) : own_MP l (⟨"java/lang/StringUTF16", "getChar", "([BI)C"⟩ : MethodName) jdk_52_method_5_code 2 (some .char) ws ({ frames := 0, cells := 0, slots := 0, locals := 0 } : Room) Z h0 #[(.ref a1), (.int (0 : Int32))] (fun _ _ _ _ _ => True) (Q_getc0 Z a1 kb N x0 x1 vs h0 n0) := by
  refine own_startP (plainFor_of_name own_pn_java_lang_StringUTF16) fun p e s m below meth c s₁ Bd hx hby hml hown0 X0 e0 hh0 hZ hK Pst hPst => ?_
  have hown : s.vm.findClass "java/lang/StringUTF16" = some m.cls := hown0
  have hnm := (name_of_methodNamed Bd.named Bd.method).1
  have N0 := Fr.nil n0
  rw [own_ef_RI_2 m a1 (0 : Int32)]
  refine own_h_getS2 X0 hx hZ hown (host := "") (Or.inl (own_w88 hw)) Via.refl e0 (SU0.ext O.2) (hb hby own_d18_0) fun T101 X101 e101 => ?_
  refine own_x_ifYes X101.here hx (pc0 := 3) (pc' := 28) rfl (hb hby own_d18_3) rfl ((if0 _ _).trans (feq (by decide)).2) (by decide) (by decide) ?_
  refine own_x_iloadN X101.here hx (hb hby own_d18_28) rfl ?_
  refine own_x_iconst X101.here hx (hb hby own_d18_29) (z := (1 : Int32)) rfl ?_
  refine own_x_ishl X101.here hx (hb hby own_d18_30) rfl ?_
  rw [show ((0 : Int32) <<< ((1 : Int32) &&& 31)) = (0 : Int32) from by decide]
  show own_Go p e below Pst (T101.setTop (mkF m 31 #[.val (.ref a1), .val (.int (0 : Int32))] [(.int (0 : Int32))]))
  refine own_x_istoreN X101.here hx (hb hby own_d18_31) rfl (l' := #[.val (.ref a1), .val (.int (0 : Int32))]) rfl ?_
  refine own_x_aloadN X101.here hx (hb hby own_d18_32) rfl rfl ?_
  refine own_x_iloadN X101.here hx (hb hby own_d18_33) rfl ?_
  refine own_x_iinc X101.here hx (hb hby own_d18_34) rfl (l' := #[.val (.ref a1), .val (.int ((0 : Int32) + (1 : Int32)))]) rfl ?_
  rw [show ((0 : Int32) + (1 : Int32)) = (1 : Int32) from by decide]
  show own_Go p e below Pst (T101.setTop (mkF m 37 #[.val (.ref a1), .val (.int (1 : Int32))] [(.int (0 : Int32)), (.ref a1)]))
  obtain ⟨cl102, Ar102, q102, S102, P102, H102, G102⟩ := id A1
  have hin102 : ¬ ((0 : Int32) < 0 ∨ cl102.slots.size ≤ ((0 : Int32)).toNatClampNeg) := inb_of S102 ⟨by decide, own_ltt (by decide) hN⟩
  have hat102 : cl102.slots[((0 : Int32)).toNatClampNeg]? = some (.int x0) := Has.at H102 hin102 hv0
  refine own_Go.of (S' := T101.setTop (mkF m 38 #[.val (.ref a1), .val (.int (1 : Int32))] [(.int x0)])) (fun tgt kst => X101.baloadBytes hx (j := (0 : Int32)) (v := (.int x0)) (by rw [e101]; exact Ar102.1) (State.isArrayOf_alike hZ.alike Ar102.2.1) Ar102.2.2 hin102 hat102 (g := (mkF m 37 #[.val (.ref a1), .val (.int (1 : Int32))] [(.int (0 : Int32)), (.ref a1)])) rfl rfl (hb hby own_d18_37) _ kst) ?_
  refine own_x_sipush X101.here hx (hb hby own_d18_38) (z := (255 : Int32)) rfl ?_
  refine own_x_iand X101.here hx (hb hby own_d18_41) rfl ?_
  refine own_h_getS2 X101 hx hZ hown (host := "") (Or.inl (own_w89 hw)) Via.refl e101 (SU1.ext O.2) (hb hby own_d18_42) fun T103 X103 e103 => ?_
  refine own_x_ishl X103.here hx (hb hby own_d18_45) rfl ?_
  refine own_x_aloadN X103.here hx (hb hby own_d18_46) rfl rfl ?_
  refine own_x_iloadN X103.here hx (hb hby own_d18_47) rfl ?_
  obtain ⟨cl104, Ar104, q104, S104, P104, H104, G104⟩ := id A1
  have hin104 : ¬ ((1 : Int32) < 0 ∨ cl104.slots.size ≤ ((1 : Int32)).toNatClampNeg) := inb_of S104 ⟨by decide, hN⟩
  have hat104 : cl104.slots[((1 : Int32)).toNatClampNeg]? = some (.int x1) := Has.at H104 hin104 hv1
  refine own_Go.of (S' := T103.setTop (mkF m 49 #[.val (.ref a1), .val (.int (1 : Int32))] [(.int x1), (.int ((x0 &&& (255 : Int32)) <<< ((0 : Int32) &&& 31)))])) (fun tgt kst => X103.baloadBytes hx (j := (1 : Int32)) (v := (.int x1)) (by rw [e103]; exact Ar104.1) (State.isArrayOf_alike hZ.alike Ar104.2.1) Ar104.2.2 hin104 hat104 (g := (mkF m 48 #[.val (.ref a1), .val (.int (1 : Int32))] [(.int (1 : Int32)), (.ref a1), (.int ((x0 &&& (255 : Int32)) <<< ((0 : Int32) &&& 31)))])) rfl rfl (hb hby own_d18_48) _ kst) ?_
  refine own_x_sipush X103.here hx (hb hby own_d18_49) (z := (255 : Int32)) rfl ?_
  refine own_x_iand X103.here hx (hb hby own_d18_52) rfl ?_
  refine own_h_getS2 X103 hx hZ hown (host := "") (Or.inl (own_w90 hw)) Via.refl e103 (SU2.ext O.2) (hb hby own_d18_53) fun T105 X105 e105 => ?_
  refine own_x_ishl X105.here hx (hb hby own_d18_56) rfl ?_
  refine own_x_ior X105.here hx (hb hby own_d18_57) rfl ?_
  refine own_x_i2c X105.here hx (hb hby own_d18_58) rfl ?_
  rw [hPst]
  exact own_retP X105 (v := (some (.int (nar .char (own_join x0 x1))))) (Q := Q_getc0 Z a1 kb N x0 x1 vs h0 n0) (fun h => by rw [Bd.returns] at h; cases h) Bd.notSynchronized (fun fs hr => retN X105 hx (t := .char) Bd.returns (by simp) (hb hby own_d18_59) hr) (by decide) (by decide) (by rw [e105]; exact ⟨rfl, N0, rfl⟩)
def Q_put1 (Z : State) (a1 : Addr) (kb : ClassId) (N c : Int32) (vs : List Value) (h0 : Heap) (n0 : Nat) (v : Option Value) (h : Heap) (L : List Loc) : Prop := v = none ∧ Fr n0 L ∧ Keep h0 h [a1] ∧ Arv Z h a1 kb .byte N ((vs.set 2 (.int (own_lo8 c))).set 3 (.int (own_hi8 c))) (.int 0)
theorem rm_put1 (l : Launch) (Z : State) (a0 : Array Value) (hw : own_H a0 Z) (ws : List Jvm.Cond) (a1 : Addr) (kb : ClassId) (N c : Int32) (vs : List Value) (h0 : Heap) (n0 : Nat) (Z0 : n0 ≤ h0.size) (O : Old Z n0 h0) (SU0 : Sta Z Z.heap "java/lang/StringUTF16" "$assertionsDisabled" "Z" (.int (1 : Int32))) (SU1 : Sta Z Z.heap "java/lang/StringUTF16" "HI_BYTE_SHIFT" "I" (.int (0 : Int32))) (SU2 : Sta Z Z.heap "java/lang/StringUTF16" "LO_BYTE_SHIFT" "I" (.int (8 : Int32))) (g1 : n0 ≤ a1) (A1 : Arv Z h0 a1 kb .byte N vs (.int 0)) (hN : (3 : Int32) < N) (hl : 3 < vs.length) : own_MP l (⟨"java/lang/StringUTF16", "putChar", "([BII)V"⟩ : MethodName) jdk_52_method_4_code 3 none ws ({ frames := 0, cells := 0, slots := 0, locals := 0 } : Room) Z h0 #[(.ref a1), (.int (1 : Int32)), (.int c)] (fun _ _ _ _ _ => True) (Q_put1 Z a1 kb N c vs h0 n0) := by
  refine own_startP (plainFor_of_name own_pn_java_lang_StringUTF16) fun p e s m below meth c' s₁ Bd hx hby hml hown0 X0 e0 hh0 hZ hK Pst hPst => ?_
  have hown : s.vm.findClass "java/lang/StringUTF16" = some m.cls := hown0
  have hnm := (name_of_methodNamed Bd.named Bd.method).1
  have N0 := Fr.nil n0
  rw [own_ef_RII_3 m a1 (1 : Int32) c]
  refine own_h_getS2 X0 hx hZ hown (host := "") (Or.inl (own_w88 hw)) Via.refl e0 (SU0.ext O.2) (hb hby own_d17_0) fun T101 X101 e101 => ?_
  refine own_x_ifYes X101.here hx (pc0 := 3) (pc' := 28) rfl (hb hby own_d17_3) rfl ((if0 _ _).trans (feq (by decide)).2) (by decide) (by decide) ?_
  refine own_x_iloadN X101.here hx (hb hby own_d17_28) rfl ?_
  refine own_x_iconst X101.here hx (hb hby own_d17_29) (z := (1 : Int32)) rfl ?_
  refine own_x_ishl X101.here hx (hb hby own_d17_30) rfl ?_
  rw [show ((1 : Int32) <<< ((1 : Int32) &&& 31)) = (2 : Int32) from by decide]
  show own_Go p e below Pst (T101.setTop (mkF m 31 #[.val (.ref a1), .val (.int (1 : Int32)), .val (.int c)] [(.int (2 : Int32))]))
  refine own_x_istoreN X101.here hx (hb hby own_d17_31) rfl (l' := #[.val (.ref a1), .val (.int (2 : Int32)), .val (.int c)]) rfl ?_
  refine own_x_aloadN X101.here hx (hb hby own_d17_32) rfl rfl ?_
  refine own_x_iloadN X101.here hx (hb hby own_d17_33) rfl ?_
  refine own_x_iinc X101.here hx (hb hby own_d17_34) rfl (l' := #[.val (.ref a1), .val (.int ((2 : Int32) + (1 : Int32))), .val (.int c)]) rfl ?_
  rw [show ((2 : Int32) + (1 : Int32)) = (3 : Int32) from by decide]
  show own_Go p e below Pst (T101.setTop (mkF m 37 #[.val (.ref a1), .val (.int (3 : Int32)), .val (.int c)] [(.int (2 : Int32)), (.ref a1)]))
  refine own_x_iloadN X101.here hx (hb hby own_d17_37) rfl ?_
  refine own_h_getS2 X101 hx hZ hown (host := "") (Or.inl (own_w89 hw)) Via.refl e101 (SU1.ext O.2) (hb hby own_d17_38) fun T102 X102 e102 => ?_
  refine own_x_ishr X102.here hx (hb hby own_d17_41) rfl ?_
  refine own_x_i2b X102.here hx (hb hby own_d17_42) rfl ?_
  obtain ⟨cl103, Ar103, q103, S103, P103, H103, G103⟩ := A1
  have hin103 : ¬ ((2 : Int32) < 0 ∨ cl103.slots.size ≤ ((2 : Int32)).toNatClampNeg) := inb_of S103 ⟨by decide, own_ltt (by decide) hN⟩
  refine own_h_stB X102 hx hZ e102 Ar103 (j := (2 : Int32)) hin103 rfl (hb hby own_d17_43) fun T103 h103 X103 e103 W103 => ?_
  have V103 := Arv.set Ar103 q103 S103 P103 H103 G103 (fits_nar_byte _) W103 2 rfl (Nat.lt_of_succ_lt hl)
  have N103 := Fr.snoc X103 N0 g1
  refine own_x_aloadN X103.here hx (hb hby own_d17_44) rfl rfl ?_
  refine own_x_iloadN X103.here hx (hb hby own_d17_45) rfl ?_
  refine own_x_iloadN X103.here hx (hb hby own_d17_46) rfl ?_
  have c104 := (O.wr W103 g1)
  refine own_h_getS2 X103 hx hZ hown (host := "") (Or.inl (own_w90 hw)) Via.refl e103 (SU2.ext c104.2) (hb hby own_d17_47) fun T105 X105 e105 => ?_
  refine own_x_ishr X105.here hx (hb hby own_d17_50) rfl ?_
  refine own_x_i2b X105.here hx (hb hby own_d17_51) rfl ?_
  obtain ⟨cl106, Ar106, q106, S106, P106, H106, G106⟩ := V103
  have hin106 : ¬ ((3 : Int32) < 0 ∨ cl106.slots.size ≤ ((3 : Int32)).toNatClampNeg) := inb_of S106 ⟨by decide, hN⟩
  refine own_h_stB X105 hx hZ e105 Ar106 (j := (3 : Int32)) hin106 rfl (hb hby own_d17_52) fun T106 h106 X106 e106 W106 => ?_
  have V106 := Arv.set Ar106 q106 S106 P106 H106 G106 (fits_nar_byte _) W106 3 rfl (by rw [List.length_set]; exact hl)
  have N106 := Fr.snoc X106 N103 g1
  have c107 := (((Keep.refl h0 [a1]).wr W103 (Or.inl (List.mem_of_getElem? (i := 0) rfl))).wr W106 (Or.inl (List.mem_of_getElem? (i := 0) rfl)))
  rw [hPst]
  exact own_retP X106 (v := none) (Q := Q_put1 Z a1 kb N c vs h0 n0) (fun _ => rfl) Bd.notSynchronized (fun fs hr => X106.returnOut hx Bd.returns (hb hby own_d17_53) hr) (by decide) (by decide) (by rw [e106]; exact ⟨rfl, N106, c107, V106⟩)
def Q_getc1 (Z : State) (a1 : Addr) (kb : ClassId) (N x0 x1 : Int32) (vs : List Value) (h0 : Heap) (n0 : Nat) (v : Option Value) (h : Heap) (L : List Loc) : Prop := v = some (.int (nar .char (own_join x0 x1))) ∧ Fr n0 L ∧ h = h0
theorem rm_getc1 (l : Launch) (Z : State) (a0 : Array Value) (hw : own_H a0 Z) (ws : List Jvm.Cond) (a1 : Addr) (kb : ClassId) (N x0 x1 : Int32) (vs : List Value) (h0 : Heap) (n0 : Nat) (Z0 : n0 ≤ h0.size) (O : Old Z n0 h0) (SU0 : Sta Z Z.heap "java/lang/StringUTF16" "$assertionsDisabled" "Z" (.int (1 : Int32))) (SU1 : Sta Z Z.heap "java/lang/StringUTF16" "HI_BYTE_SHIFT" "I" (.int (0 : Int32))) (SU2 : Sta Z Z.heap "java/lang/StringUTF16" "LO_BYTE_SHIFT" "I" (.int (8 : Int32))) (A1 : Arv Z h0 a1 kb .byte N vs (.int 0)) (hN : (3 : Int32) < N) (hv0 : vs.getD 2 (.int 0) = .int x0) (hv1 : vs.getD 3 (.int 0) = .int x1) : own_MP l (⟨"java/lang/StringUTF16", "getChar", "([BI)C"⟩ : MethodName) jdk_52_method_5_code 2 (some .char) ws ({ frames := 0, cells := 0, slots := 0, locals := 0 } : Room) Z h0 #[(.ref a1), (.int (1 : Int32))] (fun _ _ _ _ _ => True) (Q_getc1 Z a1 kb N x0 x1 vs h0 n0) := by
  refine own_startP (plainFor_of_name own_pn_java_lang_StringUTF16) fun p e s m below meth c s₁ Bd hx hby hml hown0 X0 e0 hh0 hZ hK Pst hPst => ?_
  have hown : s.vm.findClass "java/lang/StringUTF16" = some m.cls := hown0
  have hnm := (name_of_methodNamed Bd.named Bd.method).1
  have N0 := Fr.nil n0
  rw [own_ef_RI_2 m a1 (1 : Int32)]
  refine own_h_getS2 X0 hx hZ hown (host := "") (Or.inl (own_w88 hw)) Via.refl e0 (SU0.ext O.2) (hb hby own_d18_0) fun T101 X101 e101 => ?_
  refine own_x_ifYes X101.here hx (pc0 := 3) (pc' := 28) rfl (hb hby own_d18_3) rfl ((if0 _ _).trans (feq (by decide)).2) (by decide) (by decide) ?_
  refine own_x_iloadN X101.here hx (hb hby own_d18_28) rfl ?_
  refine own_x_iconst X101.here hx (hb hby own_d18_29) (z := (1 : Int32)) rfl ?_
  refine own_x_ishl X101.here hx (hb hby own_d18_30) rfl ?_
  rw [show ((1 : Int32) <<< ((1 : Int32) &&& 31)) = (2 : Int32) from by decide]
  show own_Go p e below Pst (T101.setTop (mkF m 31 #[.val (.ref a1), .val (.int (1 : Int32))] [(.int (2 : Int32))]))
  refine own_x_istoreN X101.here hx (hb hby own_d18_31) rfl (l' := #[.val (.ref a1), .val (.int (2 : Int32))]) rfl ?_
  refine own_x_aloadN X101.here hx (hb hby own_d18_32) rfl rfl ?_
  refine own_x_iloadN X101.here hx (hb hby own_d18_33) rfl ?_
  refine own_x_iinc X101.here hx (hb hby own_d18_34) rfl (l' := #[.val (.ref a1), .val (.int ((2 : Int32) + (1 : Int32)))]) rfl ?_
  rw [show ((2 : Int32) + (1 : Int32)) = (3 : Int32) from by decide]
  show own_Go p e below Pst (T101.setTop (mkF m 37 #[.val (.ref a1), .val (.int (3 : Int32))] [(.int (2 : Int32)), (.ref a1)]))
  obtain ⟨cl102, Ar102, q102, S102, P102, H102, G102⟩ := id A1
  have hin102 : ¬ ((2 : Int32) < 0 ∨ cl102.slots.size ≤ ((2 : Int32)).toNatClampNeg) := inb_of S102 ⟨by decide, own_ltt (by decide) hN⟩
  have hat102 : cl102.slots[((2 : Int32)).toNatClampNeg]? = some (.int x0) := Has.at H102 hin102 hv0
  refine own_Go.of (S' := T101.setTop (mkF m 38 #[.val (.ref a1), .val (.int (3 : Int32))] [(.int x0)])) (fun tgt kst => X101.baloadBytes hx (j := (2 : Int32)) (v := (.int x0)) (by rw [e101]; exact Ar102.1) (State.isArrayOf_alike hZ.alike Ar102.2.1) Ar102.2.2 hin102 hat102 (g := (mkF m 37 #[.val (.ref a1), .val (.int (3 : Int32))] [(.int (2 : Int32)), (.ref a1)])) rfl rfl (hb hby own_d18_37) _ kst) ?_
  refine own_x_sipush X101.here hx (hb hby own_d18_38) (z := (255 : Int32)) rfl ?_
  refine own_x_iand X101.here hx (hb hby own_d18_41) rfl ?_
  refine own_h_getS2 X101 hx hZ hown (host := "") (Or.inl (own_w89 hw)) Via.refl e101 (SU1.ext O.2) (hb hby own_d18_42) fun T103 X103 e103 => ?_
  refine own_x_ishl X103.here hx (hb hby own_d18_45) rfl ?_
  refine own_x_aloadN X103.here hx (hb hby own_d18_46) rfl rfl ?_
  refine own_x_iloadN X103.here hx (hb hby own_d18_47) rfl ?_
  obtain ⟨cl104, Ar104, q104, S104, P104, H104, G104⟩ := id A1
  have hin104 : ¬ ((3 : Int32) < 0 ∨ cl104.slots.size ≤ ((3 : Int32)).toNatClampNeg) := inb_of S104 ⟨by decide, hN⟩
  have hat104 : cl104.slots[((3 : Int32)).toNatClampNeg]? = some (.int x1) := Has.at H104 hin104 hv1
  refine own_Go.of (S' := T103.setTop (mkF m 49 #[.val (.ref a1), .val (.int (3 : Int32))] [(.int x1), (.int ((x0 &&& (255 : Int32)) <<< ((0 : Int32) &&& 31)))])) (fun tgt kst => X103.baloadBytes hx (j := (3 : Int32)) (v := (.int x1)) (by rw [e103]; exact Ar104.1) (State.isArrayOf_alike hZ.alike Ar104.2.1) Ar104.2.2 hin104 hat104 (g := (mkF m 48 #[.val (.ref a1), .val (.int (3 : Int32))] [(.int (3 : Int32)), (.ref a1), (.int ((x0 &&& (255 : Int32)) <<< ((0 : Int32) &&& 31)))])) rfl rfl (hb hby own_d18_48) _ kst) ?_
  refine own_x_sipush X103.here hx (hb hby own_d18_49) (z := (255 : Int32)) rfl ?_
  refine own_x_iand X103.here hx (hb hby own_d18_52) rfl ?_
  refine own_h_getS2 X103 hx hZ hown (host := "") (Or.inl (own_w90 hw)) Via.refl e103 (SU2.ext O.2) (hb hby own_d18_53) fun T105 X105 e105 => ?_
  refine own_x_ishl X105.here hx (hb hby own_d18_56) rfl ?_
  refine own_x_ior X105.here hx (hb hby own_d18_57) rfl ?_
  refine own_x_i2c X105.here hx (hb hby own_d18_58) rfl ?_
  rw [hPst]
  exact own_retP X105 (v := (some (.int (nar .char (own_join x0 x1))))) (Q := Q_getc1 Z a1 kb N x0 x1 vs h0 n0) (fun h => by rw [Bd.returns] at h; cases h) Bd.notSynchronized (fun fs hr => retN X105 hx (t := .char) Bd.returns (by simp) (hb hby own_d18_59) hr) (by decide) (by decide) (by rw [e105]; exact ⟨rfl, N0, rfl⟩)
def Q_put2 (Z : State) (a1 : Addr) (kb : ClassId) (N c : Int32) (vs : List Value) (h0 : Heap) (n0 : Nat) (v : Option Value) (h : Heap) (L : List Loc) : Prop := v = none ∧ Fr n0 L ∧ Keep h0 h [a1] ∧ Arv Z h a1 kb .byte N ((vs.set 4 (.int (own_lo8 c))).set 5 (.int (own_hi8 c))) (.int 0)
theorem rm_put2 (l : Launch) (Z : State) (a0 : Array Value) (hw : own_H a0 Z) (ws : List Jvm.Cond) (a1 : Addr) (kb : ClassId) (N c : Int32) (vs : List Value) (h0 : Heap) (n0 : Nat) (Z0 : n0 ≤ h0.size) (O : Old Z n0 h0) (SU0 : Sta Z Z.heap "java/lang/StringUTF16" "$assertionsDisabled" "Z" (.int (1 : Int32))) (SU1 : Sta Z Z.heap "java/lang/StringUTF16" "HI_BYTE_SHIFT" "I" (.int (0 : Int32))) (SU2 : Sta Z Z.heap "java/lang/StringUTF16" "LO_BYTE_SHIFT" "I" (.int (8 : Int32))) (g1 : n0 ≤ a1) (A1 : Arv Z h0 a1 kb .byte N vs (.int 0)) (hN : (5 : Int32) < N) (hl : 5 < vs.length) : own_MP l (⟨"java/lang/StringUTF16", "putChar", "([BII)V"⟩ : MethodName) jdk_52_method_4_code 3 none ws ({ frames := 0, cells := 0, slots := 0, locals := 0 } : Room) Z h0 #[(.ref a1), (.int (2 : Int32)), (.int c)] (fun _ _ _ _ _ => True) (Q_put2 Z a1 kb N c vs h0 n0) := by
  refine own_startP (plainFor_of_name own_pn_java_lang_StringUTF16) fun p e s m below meth c' s₁ Bd hx hby hml hown0 X0 e0 hh0 hZ hK Pst hPst => ?_
  have hown : s.vm.findClass "java/lang/StringUTF16" = some m.cls := hown0
  have hnm := (name_of_methodNamed Bd.named Bd.method).1
  have N0 := Fr.nil n0
  rw [own_ef_RII_3 m a1 (2 : Int32) c]
  refine own_h_getS2 X0 hx hZ hown (host := "") (Or.inl (own_w88 hw)) Via.refl e0 (SU0.ext O.2) (hb hby own_d17_0) fun T101 X101 e101 => ?_
  refine own_x_ifYes X101.here hx (pc0 := 3) (pc' := 28) rfl (hb hby own_d17_3) rfl ((if0 _ _).trans (feq (by decide)).2) (by decide) (by decide) ?_
  refine own_x_iloadN X101.here hx (hb hby own_d17_28) rfl ?_
  refine own_x_iconst X101.here hx (hb hby own_d17_29) (z := (1 : Int32)) rfl ?_
  refine own_x_ishl X101.here hx (hb hby own_d17_30) rfl ?_
  rw [show ((2 : Int32) <<< ((1 : Int32) &&& 31)) = (4 : Int32) from by decide]
  show own_Go p e below Pst (T101.setTop (mkF m 31 #[.val (.ref a1), .val (.int (2 : Int32)), .val (.int c)] [(.int (4 : Int32))]))
  refine own_x_istoreN X101.here hx (hb hby own_d17_31) rfl (l' := #[.val (.ref a1), .val (.int (4 : Int32)), .val (.int c)]) rfl ?_
  refine own_x_aloadN X101.here hx (hb hby own_d17_32) rfl rfl ?_
  refine own_x_iloadN X101.here hx (hb hby own_d17_33) rfl ?_
  refine own_x_iinc X101.here hx (hb hby own_d17_34) rfl (l' := #[.val (.ref a1), .val (.int ((4 : Int32) + (1 : Int32))), .val (.int c)]) rfl ?_
  rw [show ((4 : Int32) + (1 : Int32)) = (5 : Int32) from by decide]
  show own_Go p e below Pst (T101.setTop (mkF m 37 #[.val (.ref a1), .val (.int (5 : Int32)), .val (.int c)] [(.int (4 : Int32)), (.ref a1)]))
  refine own_x_iloadN X101.here hx (hb hby own_d17_37) rfl ?_
  refine own_h_getS2 X101 hx hZ hown (host := "") (Or.inl (own_w89 hw)) Via.refl e101 (SU1.ext O.2) (hb hby own_d17_38) fun T102 X102 e102 => ?_
  refine own_x_ishr X102.here hx (hb hby own_d17_41) rfl ?_
  refine own_x_i2b X102.here hx (hb hby own_d17_42) rfl ?_
  obtain ⟨cl103, Ar103, q103, S103, P103, H103, G103⟩ := A1
  have hin103 : ¬ ((4 : Int32) < 0 ∨ cl103.slots.size ≤ ((4 : Int32)).toNatClampNeg) := inb_of S103 ⟨by decide, own_ltt (by decide) hN⟩
  refine own_h_stB X102 hx hZ e102 Ar103 (j := (4 : Int32)) hin103 rfl (hb hby own_d17_43) fun T103 h103 X103 e103 W103 => ?_
  have V103 := Arv.set Ar103 q103 S103 P103 H103 G103 (fits_nar_byte _) W103 4 rfl (Nat.lt_of_succ_lt hl)
  have N103 := Fr.snoc X103 N0 g1
  refine own_x_aloadN X103.here hx (hb hby own_d17_44) rfl rfl ?_
  refine own_x_iloadN X103.here hx (hb hby own_d17_45) rfl ?_
  refine own_x_iloadN X103.here hx (hb hby own_d17_46) rfl ?_
  have c104 := (O.wr W103 g1)
  refine own_h_getS2 X103 hx hZ hown (host := "") (Or.inl (own_w90 hw)) Via.refl e103 (SU2.ext c104.2) (hb hby own_d17_47) fun T105 X105 e105 => ?_
  refine own_x_ishr X105.here hx (hb hby own_d17_50) rfl ?_
  refine own_x_i2b X105.here hx (hb hby own_d17_51) rfl ?_
  obtain ⟨cl106, Ar106, q106, S106, P106, H106, G106⟩ := V103
  have hin106 : ¬ ((5 : Int32) < 0 ∨ cl106.slots.size ≤ ((5 : Int32)).toNatClampNeg) := inb_of S106 ⟨by decide, hN⟩
  refine own_h_stB X105 hx hZ e105 Ar106 (j := (5 : Int32)) hin106 rfl (hb hby own_d17_52) fun T106 h106 X106 e106 W106 => ?_
  have V106 := Arv.set Ar106 q106 S106 P106 H106 G106 (fits_nar_byte _) W106 5 rfl (by rw [List.length_set]; exact hl)
  have N106 := Fr.snoc X106 N103 g1
  have c107 := (((Keep.refl h0 [a1]).wr W103 (Or.inl (List.mem_of_getElem? (i := 0) rfl))).wr W106 (Or.inl (List.mem_of_getElem? (i := 0) rfl)))
  rw [hPst]
  exact own_retP X106 (v := none) (Q := Q_put2 Z a1 kb N c vs h0 n0) (fun _ => rfl) Bd.notSynchronized (fun fs hr => X106.returnOut hx Bd.returns (hb hby own_d17_53) hr) (by decide) (by decide) (by rw [e106]; exact ⟨rfl, N106, c107, V106⟩)
def Q_getc2 (Z : State) (a1 : Addr) (kb : ClassId) (N x0 x1 : Int32) (vs : List Value) (h0 : Heap) (n0 : Nat) (v : Option Value) (h : Heap) (L : List Loc) : Prop := v = some (.int (nar .char (own_join x0 x1))) ∧ Fr n0 L ∧ h = h0
theorem rm_getc2 (l : Launch) (Z : State) (a0 : Array Value) (hw : own_H a0 Z) (ws : List Jvm.Cond) (a1 : Addr) (kb : ClassId) (N x0 x1 : Int32) (vs : List Value) (h0 : Heap) (n0 : Nat) (Z0 : n0 ≤ h0.size) (O : Old Z n0 h0) (SU0 : Sta Z Z.heap "java/lang/StringUTF16" "$assertionsDisabled" "Z" (.int (1 : Int32))) (SU1 : Sta Z Z.heap "java/lang/StringUTF16" "HI_BYTE_SHIFT" "I" (.int (0 : Int32))) (SU2 : Sta Z Z.heap "java/lang/StringUTF16" "LO_BYTE_SHIFT" "I" (.int (8 : Int32))) (A1 : Arv Z h0 a1 kb .byte N vs (.int 0)) (hN : (5 : Int32) < N) (hv0 : vs.getD 4 (.int 0) = .int x0) (hv1 : vs.getD 5 (.int 0) = .int x1) : own_MP l (⟨"java/lang/StringUTF16", "getChar", "([BI)C"⟩ : MethodName) jdk_52_method_5_code 2 (some .char) ws ({ frames := 0, cells := 0, slots := 0, locals := 0 } : Room) Z h0 #[(.ref a1), (.int (2 : Int32))] (fun _ _ _ _ _ => True) (Q_getc2 Z a1 kb N x0 x1 vs h0 n0) := by
  refine own_startP (plainFor_of_name own_pn_java_lang_StringUTF16) fun p e s m below meth c s₁ Bd hx hby hml hown0 X0 e0 hh0 hZ hK Pst hPst => ?_
  have hown : s.vm.findClass "java/lang/StringUTF16" = some m.cls := hown0
  have hnm := (name_of_methodNamed Bd.named Bd.method).1
  have N0 := Fr.nil n0
  rw [own_ef_RI_2 m a1 (2 : Int32)]
  refine own_h_getS2 X0 hx hZ hown (host := "") (Or.inl (own_w88 hw)) Via.refl e0 (SU0.ext O.2) (hb hby own_d18_0) fun T101 X101 e101 => ?_
  refine own_x_ifYes X101.here hx (pc0 := 3) (pc' := 28) rfl (hb hby own_d18_3) rfl ((if0 _ _).trans (feq (by decide)).2) (by decide) (by decide) ?_
  refine own_x_iloadN X101.here hx (hb hby own_d18_28) rfl ?_
  refine own_x_iconst X101.here hx (hb hby own_d18_29) (z := (1 : Int32)) rfl ?_
  refine own_x_ishl X101.here hx (hb hby own_d18_30) rfl ?_
  rw [show ((2 : Int32) <<< ((1 : Int32) &&& 31)) = (4 : Int32) from by decide]
  show own_Go p e below Pst (T101.setTop (mkF m 31 #[.val (.ref a1), .val (.int (2 : Int32))] [(.int (4 : Int32))]))
  refine own_x_istoreN X101.here hx (hb hby own_d18_31) rfl (l' := #[.val (.ref a1), .val (.int (4 : Int32))]) rfl ?_
  refine own_x_aloadN X101.here hx (hb hby own_d18_32) rfl rfl ?_
  refine own_x_iloadN X101.here hx (hb hby own_d18_33) rfl ?_
  refine own_x_iinc X101.here hx (hb hby own_d18_34) rfl (l' := #[.val (.ref a1), .val (.int ((4 : Int32) + (1 : Int32)))]) rfl ?_
  rw [show ((4 : Int32) + (1 : Int32)) = (5 : Int32) from by decide]
  show own_Go p e below Pst (T101.setTop (mkF m 37 #[.val (.ref a1), .val (.int (5 : Int32))] [(.int (4 : Int32)), (.ref a1)]))
  obtain ⟨cl102, Ar102, q102, S102, P102, H102, G102⟩ := id A1
  have hin102 : ¬ ((4 : Int32) < 0 ∨ cl102.slots.size ≤ ((4 : Int32)).toNatClampNeg) := inb_of S102 ⟨by decide, own_ltt (by decide) hN⟩
  have hat102 : cl102.slots[((4 : Int32)).toNatClampNeg]? = some (.int x0) := Has.at H102 hin102 hv0
  refine own_Go.of (S' := T101.setTop (mkF m 38 #[.val (.ref a1), .val (.int (5 : Int32))] [(.int x0)])) (fun tgt kst => X101.baloadBytes hx (j := (4 : Int32)) (v := (.int x0)) (by rw [e101]; exact Ar102.1) (State.isArrayOf_alike hZ.alike Ar102.2.1) Ar102.2.2 hin102 hat102 (g := (mkF m 37 #[.val (.ref a1), .val (.int (5 : Int32))] [(.int (4 : Int32)), (.ref a1)])) rfl rfl (hb hby own_d18_37) _ kst) ?_
  refine own_x_sipush X101.here hx (hb hby own_d18_38) (z := (255 : Int32)) rfl ?_
  refine own_x_iand X101.here hx (hb hby own_d18_41) rfl ?_
  refine own_h_getS2 X101 hx hZ hown (host := "") (Or.inl (own_w89 hw)) Via.refl e101 (SU1.ext O.2) (hb hby own_d18_42) fun T103 X103 e103 => ?_
  refine own_x_ishl X103.here hx (hb hby own_d18_45) rfl ?_
  refine own_x_aloadN X103.here hx (hb hby own_d18_46) rfl rfl ?_
  refine own_x_iloadN X103.here hx (hb hby own_d18_47) rfl ?_
  obtain ⟨cl104, Ar104, q104, S104, P104, H104, G104⟩ := id A1
  have hin104 : ¬ ((5 : Int32) < 0 ∨ cl104.slots.size ≤ ((5 : Int32)).toNatClampNeg) := inb_of S104 ⟨by decide, hN⟩
  have hat104 : cl104.slots[((5 : Int32)).toNatClampNeg]? = some (.int x1) := Has.at H104 hin104 hv1
  refine own_Go.of (S' := T103.setTop (mkF m 49 #[.val (.ref a1), .val (.int (5 : Int32))] [(.int x1), (.int ((x0 &&& (255 : Int32)) <<< ((0 : Int32) &&& 31)))])) (fun tgt kst => X103.baloadBytes hx (j := (5 : Int32)) (v := (.int x1)) (by rw [e103]; exact Ar104.1) (State.isArrayOf_alike hZ.alike Ar104.2.1) Ar104.2.2 hin104 hat104 (g := (mkF m 48 #[.val (.ref a1), .val (.int (5 : Int32))] [(.int (5 : Int32)), (.ref a1), (.int ((x0 &&& (255 : Int32)) <<< ((0 : Int32) &&& 31)))])) rfl rfl (hb hby own_d18_48) _ kst) ?_
  refine own_x_sipush X103.here hx (hb hby own_d18_49) (z := (255 : Int32)) rfl ?_
  refine own_x_iand X103.here hx (hb hby own_d18_52) rfl ?_
  refine own_h_getS2 X103 hx hZ hown (host := "") (Or.inl (own_w90 hw)) Via.refl e103 (SU2.ext O.2) (hb hby own_d18_53) fun T105 X105 e105 => ?_
  refine own_x_ishl X105.here hx (hb hby own_d18_56) rfl ?_
  refine own_x_ior X105.here hx (hb hby own_d18_57) rfl ?_
  refine own_x_i2c X105.here hx (hb hby own_d18_58) rfl ?_
  rw [hPst]
  exact own_retP X105 (v := (some (.int (nar .char (own_join x0 x1))))) (Q := Q_getc2 Z a1 kb N x0 x1 vs h0 n0) (fun h => by rw [Bd.returns] at h; cases h) Bd.notSynchronized (fun fs hr => retN X105 hx (t := .char) Bd.returns (by simp) (hb hby own_d18_59) hr) (by decide) (by decide) (by rw [e105]; exact ⟨rfl, N0, rfl⟩)
theorem own_d16_0 : decode jdk_52_method_3_code 0 = .ok (.iload_n 0, 1) := by decide +kernel
theorem own_d16_1 : decode jdk_52_method_3_code 1 = .ok (.ifCond .ge 11, 3) := by decide +kernel
theorem own_d16_12 : decode jdk_52_method_3_code 12 = .ok (.iload_n 0, 1) := by decide +kernel
theorem own_d16_13 : decode jdk_52_method_3_code 13 = .ok (.ldc 20, 2) := by decide +kernel
theorem own_d16_15 : decode jdk_52_method_3_code 15 = .ok (.if_icmp .lt 40, 3) := by decide +kernel
theorem own_d16_55 : decode jdk_52_method_3_code 55 = .ok (.iload_n 0, 1) := by decide +kernel
theorem own_d16_56 : decode jdk_52_method_3_code 56 = .ok (.iconst 1, 1) := by decide +kernel
theorem own_d16_57 : decode jdk_52_method_3_code 57 = .ok (.ishl, 1) := by decide +kernel
theorem own_d16_58 : decode jdk_52_method_3_code 58 = .ok (.ireturn, 1) := by decide +kernel
theorem own_ef_I_1 (m : MethodId) (x0 : Int32) : entryFrame m #[(.int x0)] 1 = mkF m 0 #[.val (.int x0)] [] := by first | (simp [entryFrame, mkF, argsToLocals, Value.category]; done) | rfl
def Q_nbl1 (Z : State)  (h0 : Heap) (n0 : Nat) (v : Option Value) (h : Heap) (L : List Loc) : Prop := v = some (.int (2 : Int32)) ∧ Fr n0 L ∧ h = h0
theorem rm_nbl1 (l : Launch) (Z : State) (a0 : Array Value) (hw : own_H a0 Z) (ws : List Jvm.Cond)  (h0 : Heap) (n0 : Nat) (Z0 : n0 ≤ h0.size) : own_MP l (⟨"java/lang/StringUTF16", "newBytesLength", "(I)I"⟩ : MethodName) jdk_52_method_3_code 1 (some .int) ws ({ frames := 0, cells := 0, slots := 0, locals := 0 } : Room) Z h0 #[(.int (1 : Int32))] (fun _ _ _ _ _ => True) (Q_nbl1 Z  h0 n0) := by
  refine own_startP (plainFor_of_name own_pn_java_lang_StringUTF16) fun p e s m below meth c s₁ Bd hx hby hml hown0 X0 e0 hh0 hZ hK Pst hPst => ?_
  have hown : s.vm.findClass "java/lang/StringUTF16" = some m.cls := hown0
  have hnm := (name_of_methodNamed Bd.named Bd.method).1
  have N0 := Fr.nil n0
  rw [own_ef_I_1 m (1 : Int32)]
  refine own_x_iloadN X0.here hx (hb hby own_d16_0) rfl ?_
  refine own_x_ifYes X0.here hx (pc0 := 1) (pc' := 12) rfl (hb hby own_d16_1) rfl ((if0 _ _).trans (flt (by decide)).2.1) (by decide) (by decide) ?_
  refine own_x_iloadN X0.here hx (hb hby own_d16_12) rfl ?_
  refine own_Go.of (S' := s₁.setTop (mkF m 15 #[.val (.int (1 : Int32))] [(.int (1073741823 : Int32)), (.int (1 : Int32))])) (fun tgt kst => X0.ldcInt hx hown (mvT hZ (own_w84 hw)) (g := (mkF m 13 #[.val (.int (1 : Int32))] [(.int (1 : Int32))])) rfl (hb hby own_d16_13) _ kst) ?_
  refine own_x_icmpYes X0.here hx (pc0 := 15) (pc' := 55) rfl (hb hby own_d16_15) rfl (tlt (by decide)).1 (by decide) (by decide) ?_
  refine own_x_iloadN X0.here hx (hb hby own_d16_55) rfl ?_
  refine own_x_iconst X0.here hx (hb hby own_d16_56) (z := (1 : Int32)) rfl ?_
  refine own_x_ishl X0.here hx (hb hby own_d16_57) rfl ?_
  rw [show ((1 : Int32) <<< ((1 : Int32) &&& 31)) = (2 : Int32) from by decide]
  show own_Go p e below Pst (s₁.setTop (mkF m 58 #[.val (.int (1 : Int32))] [(.int (2 : Int32))]))
  rw [hPst]
  exact own_retP X0 (v := (some (.int (2 : Int32)))) (Q := Q_nbl1 Z  h0 n0) (fun h => by rw [Bd.returns] at h; cases h) Bd.notSynchronized (fun fs hr => own_retI X0 hx Bd.returns (hb hby own_d16_58) hr) (by decide) (by decide) (by rw [e0]; exact ⟨rfl, N0, rfl⟩)
theorem own_d15_0 : decode jdk_52_method_2_code 0 = .ok (.iload_n 0, 1) := by decide +kernel
theorem own_d15_1 : decode jdk_52_method_2_code 1 = .ok (.invokestatic 11, 3) := by decide +kernel
theorem own_pd1 : parseMethodDescriptor "(I)I" = some ⟨[.int], some .int⟩ := by decide +kernel
theorem own_d15_4 : decode jdk_52_method_2_code 4 = .ok (.newarray .byte, 2) := by decide +kernel
theorem own_d15_6 : decode jdk_52_method_2_code 6 = .ok (.areturn, 1) := by decide +kernel
def Q_nbf1 (Z : State)  (h0 : Heap) (n0 : Nat) (v : Option Value) (h : Heap) (L : List Loc) : Prop := ∃ (b : Addr), v = some (.ref b) ∧ Fr n0 L ∧ Keep h0 h [] ∧ h0.size ≤ b ∧ ∃ kb : ClassId, Arv Z h b kb .byte (2 : Int32) [(.int (0 : Int32)), (.int (0 : Int32))] (.int 0)
theorem rm_nbf1 (l : Launch) (Z : State) (a0 : Array Value) (hw : own_H a0 Z) (ws : List Jvm.Cond)  (h0 : Heap) (n0 : Nat) (Z0 : n0 ≤ h0.size) : own_MP l (⟨"java/lang/StringUTF16", "newBytesFor", "(I)[B"⟩ : MethodName) jdk_52_method_2_code 1 (some (.array .byte)) ws ({ frames := 1, cells := 1, slots := 2, locals := 12 } : Room) Z h0 #[(.int (1 : Int32))] (fun _ _ _ _ _ => True) (Q_nbf1 Z  h0 n0) := by
  refine own_startP (plainFor_of_name own_pn_java_lang_StringUTF16) fun p e s m below meth c s₁ Bd hx hby hml hown0 X0 e0 hh0 hZ hK Pst hPst => ?_
  have hown : s.vm.findClass "java/lang/StringUTF16" = some m.cls := hown0
  have hnm := (name_of_methodNamed Bd.named Bd.method).1
  have N0 := Fr.nil n0
  rw [own_ef_I_1 m (1 : Int32)]
  refine own_x_iloadN X0.here hx (hb hby own_d15_0) rfl ?_
  refine own_cF X0 (Jvm.LawKit.callS X0 hx (y := (⟨"java/lang/StringUTF16", "newBytesLength", "(I)I"⟩ : MethodName)) hown (mvT hZ (own_w81 hw)) (mvT hZ (own_w82 hw)) (mvT hZ (own_w65 hw)) (mvT hZ (own_w83 hw)) (by decide) (backOf (W := 0) (rm_nbl1 l Z a0 hw []  h0 n0 Z0 ) hZ (own_w83 hw) (own_w65 hw) (by decide) (by decide)) (g := (mkF m 1 #[.val (.int (1 : Int32))] [(.int (1 : Int32))])) rfl (by rw [hml]; rfl) (argsL := [(.int (1 : Int32))]) (rest := []) (lenOf own_pd1 rfl) rfl (by show 2 * 0 + _ ≤ _; exact Nat.le_of_eq rfl) (hb hby own_d15_1) (fun _ _ => ⟨rfl, e0, (by decide : 0 + 0 ≤ _), (by decide : 0 + 0 ≤ _)⟩)) fun v101 T101 L101 X101 hQ101 => ?_
  obtain ⟨rfl, Nq101, e101⟩ := hQ101
  have N101 := Fr.app N0 Nq101
  show own_Go p e below Pst (T101.setTop (mkF m 4 #[.val (.int (1 : Int32))] [(.int (2 : Int32))]))
  refine own_h_newP (aty := .byte) X101 hx hZ (own_w21 hw) e101 (hb hby own_d15_4) rfl (by decide) (cap := 2) (by decide) (by decide) (by decide) (by decide) fun T102 h102 k102 b102 g102 X102 e102 E102 A102 => ?_
  have gn_b102 : n0 ≤ b102 := Nat.le_trans Z0 (Nat.le_of_eq g102.symm)
  have sz_b102 : h0.size ≤ b102 := Nat.le_trans (Keep.refl h0 []).1 (Nat.le_of_eq g102.symm)
  have V102 : Arv Z h102 b102 k102 .byte (2 : Int32) [(.int (0 : Int32)), (.int (0 : Int32))] (.int (0 : Int32)) := (Arv.new A102 (by decide)).pad (pad_rep [] (.int (0 : Int32)) 2)
  have c103 := ((Keep.refl h0 []).ext E102)
  rw [hPst]
  exact own_retP X102 (v := (some (.ref b102))) (Q := Q_nbf1 Z  h0 n0) (fun h => by rw [Bd.returns] at h; cases h) Bd.notSynchronized (fun fs hr => retOut X102 hx Bd.returns rfl (Or.inr (Or.inr (Or.inr (Or.inr ⟨rfl, rfl, rfl⟩)))) (hb hby own_d15_6) hr) (by decide) (by decide) (by rw [e102]; exact ⟨_, rfl, N101, c103, sz_b102, _, V102⟩)
theorem own_d14_0 : decode jdk_52_method_14_code 0 = .ok (.iload_n 2, 1) := by decide +kernel
theorem own_d14_1 : decode jdk_52_method_14_code 1 = .ok (.invokestatic 107, 3) := by decide +kernel
theorem own_pd2 : parseMethodDescriptor "(I)[B" = some ⟨[.int], some (.array .byte)⟩ := by decide +kernel
theorem own_d14_4 : decode jdk_52_method_14_code 4 = .ok (.astore_n 3, 1) := by decide +kernel
theorem own_d14_5 : decode jdk_52_method_14_code 5 = .ok (.iconst 0, 1) := by decide +kernel
theorem own_d14_6 : decode jdk_52_method_14_code 6 = .ok (.istore 4, 2) := by decide +kernel
theorem own_d14_8 : decode jdk_52_method_14_code 8 = .ok (.iload 4, 2) := by decide +kernel
theorem own_d14_10 : decode jdk_52_method_14_code 10 = .ok (.iload_n 2, 1) := by decide +kernel
theorem own_d14_11 : decode jdk_52_method_14_code 11 = .ok (.if_icmp .ge 21, 3) := by decide +kernel
theorem own_d14_14 : decode jdk_52_method_14_code 14 = .ok (.aload_n 3, 1) := by decide +kernel
theorem own_d14_15 : decode jdk_52_method_14_code 15 = .ok (.iload 4, 2) := by decide +kernel
theorem own_d14_17 : decode jdk_52_method_14_code 17 = .ok (.aload_n 0, 1) := by decide +kernel
theorem own_d14_18 : decode jdk_52_method_14_code 18 = .ok (.iload_n 1, 1) := by decide +kernel
theorem own_d14_19 : decode jdk_52_method_14_code 19 = .ok (.caload, 1) := by decide +kernel
theorem own_d14_20 : decode jdk_52_method_14_code 20 = .ok (.invokestatic 111, 3) := by decide +kernel
theorem own_pd3 : parseMethodDescriptor "([BII)V" = some ⟨[(.array .byte), .int, .int], none⟩ := by decide +kernel
theorem own_d14_23 : decode jdk_52_method_14_code 23 = .ok (.iinc 1 1, 3) := by decide +kernel
theorem own_d14_26 : decode jdk_52_method_14_code 26 = .ok (.iinc 4 1, 3) := by decide +kernel
theorem own_d14_29 : decode jdk_52_method_14_code 29 = .ok (.goto (-21), 3) := by decide +kernel
theorem own_d14_32 : decode jdk_52_method_14_code 32 = .ok (.aload_n 3, 1) := by decide +kernel
theorem own_d14_33 : decode jdk_52_method_14_code 33 = .ok (.areturn, 1) := by decide +kernel
theorem own_ef_RII_5 (m : MethodId) (x0 : Addr) (x1 : Int32) (x2 : Int32) : entryFrame m #[(.ref x0), (.int x1), (.int x2)] 5 = mkF m 0 #[.val (.ref x0), .val (.int x1), .val (.int x2), .unset, .unset] [] := by first | (simp [entryFrame, mkF, argsToLocals, Value.category]; done) | rfl
def Q_tob1 (Z : State) (a2 : Addr) (kc : ClassId) (dv : Value) (c0 : Int32) (h0 : Heap) (n0 : Nat) (v : Option Value) (h : Heap) (L : List Loc) : Prop := ∃ (b : Addr), v = some (.ref b) ∧ Fr n0 L ∧ Keep h0 h [] ∧ h0.size ≤ b ∧ ∃ kb : ClassId, Arv Z h b kb .byte (2 : Int32) (own_u16 [c0]) (.int 0)
theorem rm_tob1 (l : Launch) (Z : State) (a0 : Array Value) (hw : own_H a0 Z) (ws : List Jvm.Cond) (a2 : Addr) (kc : ClassId) (dv : Value) (c0 : Int32) (h0 : Heap) (n0 : Nat) (Z0 : n0 ≤ h0.size) (O : Old Z n0 h0) (SU0 : Sta Z Z.heap "java/lang/StringUTF16" "$assertionsDisabled" "Z" (.int (1 : Int32))) (SU1 : Sta Z Z.heap "java/lang/StringUTF16" "HI_BYTE_SHIFT" "I" (.int (0 : Int32))) (SU2 : Sta Z Z.heap "java/lang/StringUTF16" "LO_BYTE_SHIFT" "I" (.int (8 : Int32))) (A1 : Arv Z h0 a2 kc .char (1 : Int32) [(.int c0)] dv) : own_MP l (⟨"java/lang/StringUTF16", "toBytes", "([CII)[B"⟩ : MethodName) jdk_52_method_14_code 5 (some (.array .byte)) ws ({ frames := 2, cells := 1, slots := 2, locals := 24 } : Room) Z h0 #[(.ref a2), (.int (0 : Int32)), (.int (1 : Int32))] (fun _ _ _ _ _ => True) (Q_tob1 Z a2 kc dv c0 h0 n0) := by
  refine own_startP (plainFor_of_name own_pn_java_lang_StringUTF16) fun p e s m below meth c s₁ Bd hx hby hml hown0 X0 e0 hh0 hZ hK Pst hPst => ?_
  have hown : s.vm.findClass "java/lang/StringUTF16" = some m.cls := hown0
  have hnm := (name_of_methodNamed Bd.named Bd.method).1
  have N0 := Fr.nil n0
  rw [own_ef_RII_5 m a2 (0 : Int32) (1 : Int32)]
  refine own_x_iloadN X0.here hx (hb hby own_d14_0) rfl ?_
  refine own_cF X0 (Jvm.LawKit.callS X0 hx (y := (⟨"java/lang/StringUTF16", "newBytesFor", "(I)[B"⟩ : MethodName)) hown (mvT hZ (own_w78 hw)) (mvT hZ (own_w79 hw)) (mvT hZ (own_w65 hw)) (mvT hZ (own_w80 hw)) (by decide) (backOf (W := 0) (rm_nbf1 l Z a0 hw []  h0 n0 Z0 ) hZ (own_w80 hw) (own_w65 hw) (by decide) (by decide)) (g := (mkF m 1 #[.val (.ref a2), .val (.int (0 : Int32)), .val (.int (1 : Int32)), .unset, .unset] [(.int (1 : Int32))])) rfl (by rw [hml]; rfl) (argsL := [(.int (1 : Int32))]) (rest := []) (lenOf own_pd2 rfl) rfl (by show 2 * 0 + _ ≤ _; exact Nat.le_of_eq rfl) (hb hby own_d14_1) (fun _ _ => ⟨rfl, e0, (by decide : 0 + 1 ≤ _), (by decide : 0 + 2 ≤ _)⟩)) fun v101 T101 L101 X101 hQ101 => ?_
  obtain ⟨b101, rfl, Nq101, K101, sb101, kb101, V101⟩ := hQ101
  have N101 := Fr.app N0 Nq101
  have ne_a2_b101 : a2 ≠ b101 := Nat.ne_of_lt (Nat.lt_of_lt_of_le A1.lt sb101)
  have gn_b101 : n0 ≤ b101 := Nat.le_trans Z0 sb101
  have sz_b101 : h0.size ≤ b101 := Nat.le_trans (Keep.refl h0 []).1 sb101
  show own_Go p e below Pst (T101.setTop (mkF m 4 #[.val (.ref a2), .val (.int (0 : Int32)), .val (.int (1 : Int32)), .unset, .unset] [(.ref b101)]))
  refine own_x_astoreN X101.here hx (hb hby own_d14_4) rfl rfl (l' := #[.val (.ref a2), .val (.int (0 : Int32)), .val (.int (1 : Int32)), .val (.ref b101), .unset]) rfl ?_
  refine own_x_iconst X101.here hx (hb hby own_d14_5) (z := (0 : Int32)) rfl ?_
  refine own_x_istore X101.here hx (hb hby own_d14_6) rfl (l' := #[.val (.ref a2), .val (.int (0 : Int32)), .val (.int (1 : Int32)), .val (.ref b101), .val (.int (0 : Int32))]) rfl ?_
  refine own_x_iload X101.here hx (hb hby own_d14_8) rfl ?_
  refine own_x_iloadN X101.here hx (hb hby own_d14_10) rfl ?_
  refine own_x_icmpNo X101.here hx (hb hby own_d14_11) rfl (tlt (by decide)).2.1 ?_
  refine own_x_aloadN X101.here hx (hb hby own_d14_14) rfl rfl ?_
  refine own_x_iload X101.here hx (hb hby own_d14_15) rfl ?_
  refine own_x_aloadN X101.here hx (hb hby own_d14_17) rfl rfl ?_
  refine own_x_iloadN X101.here hx (hb hby own_d14_18) rfl ?_
  have c102 := (A1.keep K101 nin0)
  obtain ⟨cl103, Ar103, q103, S103, P103, H103, G103⟩ := id c102
  have hin103 : ¬ ((0 : Int32) < 0 ∨ cl103.slots.size ≤ ((0 : Int32)).toNatClampNeg) := inb_of S103 ⟨by decide, by decide⟩
  have hat103 : cl103.slots[((0 : Int32)).toNatClampNeg]? = some (.int c0) := Has.at H103 hin103 rfl
  refine own_Go.of (S' := T101.setTop (mkF m 20 #[.val (.ref a2), .val (.int (0 : Int32)), .val (.int (1 : Int32)), .val (.ref b101), .val (.int (0 : Int32))] [(.int c0), (.int (0 : Int32)), (.ref b101)])) (fun tgt kst => X101.caload hx (j := (0 : Int32)) (v := (.int c0)) (by exact Ar103.1) (State.isArrayOf_alike hZ.alike Ar103.2.1) Ar103.2.2 hin103 hat103 (g := (mkF m 19 #[.val (.ref a2), .val (.int (0 : Int32)), .val (.int (1 : Int32)), .val (.ref b101), .val (.int (0 : Int32))] [(.int (0 : Int32)), (.ref a2), (.int (0 : Int32)), (.ref b101)])) rfl rfl (hb hby own_d14_19) _ kst) ?_
  have c104 := (O.keep K101 all0)
  have c106 := (Nat.le_trans Z0 K101.1)
  refine own_cF X101 (Jvm.LawKit.callS X101 hx (y := (⟨"java/lang/StringUTF16", "putChar", "([BII)V"⟩ : MethodName)) hown (mvT hZ (own_w85 hw)) (mvT hZ (own_w86 hw)) (mvT hZ (own_w65 hw)) (mvT hZ (own_w87 hw)) (by decide) (backOf (W := 0) (rm_put0 l Z a0 hw [] b101 kb101 (2 : Int32) c0 [(.int (0 : Int32)), (.int (0 : Int32))] T101.heap n0 c106 c104 SU0 SU1 SU2 gn_b101 V101 (by decide) (Nat.le_of_ble_eq_true rfl)) hZ (own_w87 hw) (own_w65 hw) (by decide) (by decide)) (g := (mkF m 20 #[.val (.ref a2), .val (.int (0 : Int32)), .val (.int (1 : Int32)), .val (.ref b101), .val (.int (0 : Int32))] [(.int c0), (.int (0 : Int32)), (.ref b101)])) rfl (by rw [hml]; rfl) (argsL := [(.ref b101), (.int (0 : Int32)), (.int c0)]) (rest := []) (lenOf own_pd3 rfl) rfl (by show 2 * 0 + _ ≤ _; exact Nat.le_of_eq rfl) (hb hby own_d14_20) (fun _ _ => ⟨rfl, rfl, (by decide : 1 + 0 ≤ _), (by decide : 2 + 0 ≤ _)⟩)) fun v105 T105 L105 X105 hQ105 => ?_
  obtain ⟨rfl, Nq105, K105, V105⟩ := hQ105
  have N105 := Fr.app N101 Nq105
  show own_Go p e below Pst (T105.setTop (mkF m 23 #[.val (.ref a2), .val (.int (0 : Int32)), .val (.int (1 : Int32)), .val (.ref b101), .val (.int (0 : Int32))] []))
  refine own_x_iinc X105.here hx (hb hby own_d14_23) rfl (l' := #[.val (.ref a2), .val (.int ((0 : Int32) + (1 : Int32))), .val (.int (1 : Int32)), .val (.ref b101), .val (.int (0 : Int32))]) rfl ?_
  refine own_x_iinc X105.here hx (hb hby own_d14_26) rfl (l' := #[.val (.ref a2), .val (.int ((0 : Int32) + (1 : Int32))), .val (.int (1 : Int32)), .val (.ref b101), .val (.int ((0 : Int32) + (1 : Int32)))]) rfl ?_
  rw [show ((0 : Int32) + (1 : Int32)) = (1 : Int32) from by decide]
  show own_Go p e below Pst (T105.setTop (mkF m 29 #[.val (.ref a2), .val (.int (1 : Int32)), .val (.int (1 : Int32)), .val (.ref b101), .val (.int ((0 : Int32) + (1 : Int32)))] []))
  rw [show ((0 : Int32) + (1 : Int32)) = (1 : Int32) from by decide]
  show own_Go p e below Pst (T105.setTop (mkF m 29 #[.val (.ref a2), .val (.int (1 : Int32)), .val (.int (1 : Int32)), .val (.ref b101), .val (.int (1 : Int32))] []))
  refine own_x_goto X105.here hx (pc0 := 29) (pc' := 8) rfl (hb hby own_d14_29) (by decide) (by decide) ?_
  refine own_x_iload X105.here hx (hb hby own_d14_8) rfl ?_
  refine own_x_iloadN X105.here hx (hb hby own_d14_10) rfl ?_
  refine own_x_icmpYes X105.here hx (pc0 := 11) (pc' := 32) rfl (hb hby own_d14_11) rfl (flt (by decide)).2.1 (by decide) (by decide) ?_
  refine own_x_aloadN X105.here hx (hb hby own_d14_32) rfl rfl ?_
  have c107 := (Keep.trans (Keep.trans (Keep.refl h0 []) K101 all0) K105 (allS (Or.inr sz_b101) all0))
  rw [hPst]
  exact own_retP X105 (v := (some (.ref b101))) (Q := Q_tob1 Z a2 kc dv c0 h0 n0) (fun h => by rw [Bd.returns] at h; cases h) Bd.notSynchronized (fun fs hr => retOut X105 hx Bd.returns rfl (Or.inr (Or.inr (Or.inr (Or.inr ⟨rfl, rfl, rfl⟩)))) (hb hby own_d14_33) hr) (by decide) (by decide) ⟨_, rfl, N105, c107, sz_b101, _, V105⟩
theorem own_d12_0 : decode jdk_52_method_21_code 0 = .ok (.iconst 0, 1) := by decide +kernel
theorem own_d12_1 : decode jdk_52_method_21_code 1 = .ok (.istore 5, 2) := by decide +kernel
theorem own_d12_3 : decode jdk_52_method_21_code 3 = .ok (.iload 5, 2) := by decide +kernel
theorem own_d12_5 : decode jdk_52_method_21_code 5 = .ok (.iload 4, 2) := by decide +kernel
theorem own_d12_7 : decode jdk_52_method_21_code 7 = .ok (.if_icmp .ge 37, 3) := by decide +kernel
theorem own_d12_10 : decode jdk_52_method_21_code 10 = .ok (.aload_n 0, 1) := by decide +kernel
theorem own_d12_11 : decode jdk_52_method_21_code 11 = .ok (.iload_n 1, 1) := by decide +kernel
theorem own_d12_12 : decode jdk_52_method_21_code 12 = .ok (.caload, 1) := by decide +kernel
theorem own_d12_13 : decode jdk_52_method_21_code 13 = .ok (.istore 6, 2) := by decide +kernel
theorem own_d12_15 : decode jdk_52_method_21_code 15 = .ok (.iload 6, 2) := by decide +kernel
theorem own_d12_17 : decode jdk_52_method_21_code 17 = .ok (.sipush 255, 3) := by decide +kernel
theorem own_d12_20 : decode jdk_52_method_21_code 20 = .ok (.if_icmp .le 6, 3) := by decide +kernel
theorem own_d12_23 : decode jdk_52_method_21_code 23 = .ok (.iload 5, 2) := by decide +kernel
theorem own_d12_25 : decode jdk_52_method_21_code 25 = .ok (.ireturn, 1) := by decide +kernel
theorem own_ef_RIRII_7 (m : MethodId) (x0 : Addr) (x1 : Int32) (x2 : Addr) (x3 : Int32) (x4 : Int32) : entryFrame m #[(.ref x0), (.int x1), (.ref x2), (.int x3), (.int x4)] 7 = mkF m 0 #[.val (.ref x0), .val (.int x1), .val (.ref x2), .val (.int x3), .val (.int x4), .unset, .unset] [] := by first | (simp [entryFrame, mkF, argsToLocals, Value.category]; done) | rfl
def Q_cmp1_0 (Z : State) (a2 : Addr) (kc : ClassId) (dv : Value) (c0 : Int32) (d : Addr) (kd : ClassId) (h0 : Heap) (n0 : Nat) (v : Option Value) (h : Heap) (L : List Loc) : Prop := v = some (.int (0 : Int32)) ∧ Fr n0 L ∧ Keep h0 h [d]
theorem rm_cmp1_0 (l : Launch) (Z : State) (a0 : Array Value) (hw : own_H a0 Z) (ws : List Jvm.Cond) (a2 : Addr) (kc : ClassId) (dv : Value) (c0 : Int32) (d : Addr) (kd : ClassId) (h0 : Heap) (n0 : Nat) (Z0 : n0 ≤ h0.size) (A1 : Arv Z h0 a2 kc .char (1 : Int32) [(.int c0)] dv) (A2 : Arv Z h0 d kd .byte (1 : Int32) [(.int (0 : Int32))] (.int (0 : Int32))) (gd : n0 ≤ d) (ne : a2 ≠ d) (u : (255 : Int32) < c0) : own_MP l (⟨"java/lang/StringUTF16", "compress", "([CI[BII)I"⟩ : MethodName) jdk_52_method_21_code 7 (some .int) ws ({ frames := 0, cells := 0, slots := 0, locals := 0 } : Room) Z h0 #[(.ref a2), (.int (0 : Int32)), (.ref d), (.int (0 : Int32)), (.int (1 : Int32))] (fun _ _ _ _ _ => True) (Q_cmp1_0 Z a2 kc dv c0 d kd h0 n0) := by
  refine own_startP (plainFor_of_name own_pn_java_lang_StringUTF16) fun p e s m below meth c s₁ Bd hx hby hml hown0 X0 e0 hh0 hZ hK Pst hPst => ?_
  have hown : s.vm.findClass "java/lang/StringUTF16" = some m.cls := hown0
  have hnm := (name_of_methodNamed Bd.named Bd.method).1
  have N0 := Fr.nil n0
  rw [own_ef_RIRII_7 m a2 (0 : Int32) d (0 : Int32) (1 : Int32)]
  refine own_x_iconst X0.here hx (hb hby own_d12_0) (z := (0 : Int32)) rfl ?_
  refine own_x_istore X0.here hx (hb hby own_d12_1) rfl (l' := #[.val (.ref a2), .val (.int (0 : Int32)), .val (.ref d), .val (.int (0 : Int32)), .val (.int (1 : Int32)), .val (.int (0 : Int32)), .unset]) rfl ?_
  refine own_x_iload X0.here hx (hb hby own_d12_3) rfl ?_
  refine own_x_iload X0.here hx (hb hby own_d12_5) rfl ?_
  refine own_x_icmpNo X0.here hx (hb hby own_d12_7) rfl (tlt (by decide)).2.1 ?_
  refine own_x_aloadN X0.here hx (hb hby own_d12_10) rfl rfl ?_
  refine own_x_iloadN X0.here hx (hb hby own_d12_11) rfl ?_
  obtain ⟨cl101, Ar101, q101, S101, P101, H101, G101⟩ := id A1
  have hin101 : ¬ ((0 : Int32) < 0 ∨ cl101.slots.size ≤ ((0 : Int32)).toNatClampNeg) := inb_of S101 ⟨by decide, by decide⟩
  have hat101 : cl101.slots[((0 : Int32)).toNatClampNeg]? = some (.int c0) := Has.at H101 hin101 rfl
  refine own_Go.of (S' := s₁.setTop (mkF m 13 #[.val (.ref a2), .val (.int (0 : Int32)), .val (.ref d), .val (.int (0 : Int32)), .val (.int (1 : Int32)), .val (.int (0 : Int32)), .unset] [(.int c0)])) (fun tgt kst => X0.caload hx (j := (0 : Int32)) (v := (.int c0)) (by rw [e0]; exact Ar101.1) (State.isArrayOf_alike hZ.alike Ar101.2.1) Ar101.2.2 hin101 hat101 (g := (mkF m 12 #[.val (.ref a2), .val (.int (0 : Int32)), .val (.ref d), .val (.int (0 : Int32)), .val (.int (1 : Int32)), .val (.int (0 : Int32)), .unset] [(.int (0 : Int32)), (.ref a2)])) rfl rfl (hb hby own_d12_12) _ kst) ?_
  refine own_x_istore X0.here hx (hb hby own_d12_13) rfl (l' := #[.val (.ref a2), .val (.int (0 : Int32)), .val (.ref d), .val (.int (0 : Int32)), .val (.int (1 : Int32)), .val (.int (0 : Int32)), .val (.int c0)]) rfl ?_
  refine own_x_iload X0.here hx (hb hby own_d12_15) rfl ?_
  refine own_x_sipush X0.here hx (hb hby own_d12_17) (z := (255 : Int32)) rfl ?_
  refine own_x_icmpNo X0.here hx (hb hby own_d12_20) rfl (tlt u).2.2.2 ?_
  refine own_x_iload X0.here hx (hb hby own_d12_23) rfl ?_
  rw [hPst]
  exact own_retP X0 (v := (some (.int (0 : Int32)))) (Q := Q_cmp1_0 Z a2 kc dv c0 d kd h0 n0) (fun h => by rw [Bd.returns] at h; cases h) Bd.notSynchronized (fun fs hr => own_retI X0 hx Bd.returns (hb hby own_d12_25) hr) (by decide) (by decide) (by rw [e0]; exact ⟨rfl, N0, (Keep.refl h0 [d])⟩)
theorem own_d11_0 : decode jdk_52_method_16_code 0 = .ok (.iload_n 2, 1) := by decide +kernel
theorem own_d11_1 : decode jdk_52_method_16_code 1 = .ok (.newarray .byte, 2) := by decide +kernel
theorem own_d11_3 : decode jdk_52_method_16_code 3 = .ok (.astore_n 3, 1) := by decide +kernel
theorem own_d11_4 : decode jdk_52_method_16_code 4 = .ok (.aload_n 0, 1) := by decide +kernel
theorem own_d11_5 : decode jdk_52_method_16_code 5 = .ok (.iload_n 1, 1) := by decide +kernel
theorem own_d11_6 : decode jdk_52_method_16_code 6 = .ok (.aload_n 3, 1) := by decide +kernel
theorem own_d11_7 : decode jdk_52_method_16_code 7 = .ok (.iconst 0, 1) := by decide +kernel
theorem own_d11_8 : decode jdk_52_method_16_code 8 = .ok (.iload_n 2, 1) := by decide +kernel
theorem own_d11_9 : decode jdk_52_method_16_code 9 = .ok (.invokestatic 115, 3) := by decide +kernel
theorem own_pd4 : parseMethodDescriptor "([CI[BII)I" = some ⟨[(.array .char), .int, (.array .byte), .int, .int], some .int⟩ := by decide +kernel
theorem own_d11_12 : decode jdk_52_method_16_code 12 = .ok (.istore 4, 2) := by decide +kernel
theorem own_d11_14 : decode jdk_52_method_16_code 14 = .ok (.iload 4, 2) := by decide +kernel
theorem own_d11_16 : decode jdk_52_method_16_code 16 = .ok (.iload_n 2, 1) := by decide +kernel
theorem own_d11_17 : decode jdk_52_method_16_code 17 = .ok (.if_icmp .eq 40, 3) := by decide +kernel
theorem own_d11_20 : decode jdk_52_method_16_code 20 = .ok (.aload_n 0, 1) := by decide +kernel
theorem own_d11_21 : decode jdk_52_method_16_code 21 = .ok (.iload_n 1, 1) := by decide +kernel
theorem own_d11_22 : decode jdk_52_method_16_code 22 = .ok (.iload_n 2, 1) := by decide +kernel
theorem own_d11_23 : decode jdk_52_method_16_code 23 = .ok (.invokestatic 119, 3) := by decide +kernel
theorem own_pd5 : parseMethodDescriptor "([CII)[B" = some ⟨[(.array .char), .int, .int], some (.array .byte)⟩ := by decide +kernel
theorem own_d11_26 : decode jdk_52_method_16_code 26 = .ok (.astore 5, 2) := by decide +kernel
theorem own_d11_28 : decode jdk_52_method_16_code 28 = .ok (.aload 5, 2) := by decide +kernel
theorem own_d11_30 : decode jdk_52_method_16_code 30 = .ok (.iload 4, 2) := by decide +kernel
theorem own_d11_32 : decode jdk_52_method_16_code 32 = .ok (.invokestatic 71, 3) := by decide +kernel
theorem own_pd6 : parseMethodDescriptor "([BI)C" = some ⟨[(.array .byte), .int], some .char⟩ := by decide +kernel
theorem own_d11_35 : decode jdk_52_method_16_code 35 = .ok (.sipush 255, 3) := by decide +kernel
theorem own_d11_38 : decode jdk_52_method_16_code 38 = .ok (.if_icmp .gt 16, 3) := by decide +kernel
theorem own_d11_54 : decode jdk_52_method_16_code 54 = .ok (.aload 5, 2) := by decide +kernel
theorem own_d11_56 : decode jdk_52_method_16_code 56 = .ok (.areturn, 1) := by decide +kernel
theorem own_ef_RII_6 (m : MethodId) (x0 : Addr) (x1 : Int32) (x2 : Int32) : entryFrame m #[(.ref x0), (.int x1), (.int x2)] 6 = mkF m 0 #[.val (.ref x0), .val (.int x1), .val (.int x2), .unset, .unset, .unset] [] := by first | (simp [entryFrame, mkF, argsToLocals, Value.category]; done) | rfl
def Q_cu1 (Z : State) (a2 : Addr) (kc : ClassId) (dv : Value) (c0 : Int32) (h0 : Heap) (n0 : Nat) (v : Option Value) (h : Heap) (L : List Loc) : Prop := ∃ (b : Addr), v = some (.ref b) ∧ Fr n0 L ∧ Keep h0 h [] ∧ h0.size ≤ b ∧ ∃ kb : ClassId, Arv Z h b kb .byte (2 : Int32) (own_u16 [c0]) (.int 0)
theorem rm_cu1 (l : Launch) (Z : State) (a0 : Array Value) (hw : own_H a0 Z) (ws : List Jvm.Cond) (a2 : Addr) (kc : ClassId) (dv : Value) (c0 : Int32) (h0 : Heap) (n0 : Nat) (Z0 : n0 ≤ h0.size) (O : Old Z n0 h0) (SU0 : Sta Z Z.heap "java/lang/StringUTF16" "$assertionsDisabled" "Z" (.int (1 : Int32))) (SU1 : Sta Z Z.heap "java/lang/StringUTF16" "HI_BYTE_SHIFT" "I" (.int (0 : Int32))) (SU2 : Sta Z Z.heap "java/lang/StringUTF16" "LO_BYTE_SHIFT" "I" (.int (8 : Int32))) (A1 : Arv Z h0 a2 kc .char (1 : Int32) [(.int c0)] dv) (hr : ¬ c0 < 0 ∧ ¬ (65535 : Int32) < c0) (hbad : ¬ (¬ (255 : Int32) < c0)) : own_MP l (⟨"java/lang/StringUTF16", "compress", "([CII)[B"⟩ : MethodName) jdk_52_method_16_code 6 (some (.array .byte)) ws ({ frames := 3, cells := 2, slots := 3, locals := 40 } : Room) Z h0 #[(.ref a2), (.int (0 : Int32)), (.int (1 : Int32))] (fun _ _ _ _ _ => True) (Q_cu1 Z a2 kc dv c0 h0 n0) := by
  refine own_startP (plainFor_of_name own_pn_java_lang_StringUTF16) fun p e s m below meth c s₁ Bd hx hby hml hown0 X0 e0 hh0 hZ hK Pst hPst => ?_
  have hown : s.vm.findClass "java/lang/StringUTF16" = some m.cls := hown0
  have hnm := (name_of_methodNamed Bd.named Bd.method).1
  have N0 := Fr.nil n0
  rw [own_ef_RII_6 m a2 (0 : Int32) (1 : Int32)]
  refine own_x_iloadN X0.here hx (hb hby own_d11_0) rfl ?_
  refine own_h_newP (aty := .byte) X0 hx hZ (own_w21 hw) e0 (hb hby own_d11_1) rfl (by decide) (cap := 1) (by decide) (by decide) (by decide) (by decide) fun T101 h101 k101 b101 g101 X101 e101 E101 A101 => ?_
  have ne_a2_b101 : a2 ≠ b101 := Nat.ne_of_lt (Nat.lt_of_lt_of_le A1.lt (Nat.le_of_eq g101.symm))
  have gn_b101 : n0 ≤ b101 := Nat.le_trans Z0 (Nat.le_of_eq g101.symm)
  have sz_b101 : h0.size ≤ b101 := Nat.le_trans (Keep.refl h0 []).1 (Nat.le_of_eq g101.symm)
  have V101 : Arv Z h101 b101 k101 .byte (1 : Int32) [(.int (0 : Int32))] (.int (0 : Int32)) := (Arv.new A101 (by decide)).pad (pad_rep [] (.int (0 : Int32)) 1)
  refine own_x_astoreN X101.here hx (hb hby own_d11_3) rfl rfl (l' := #[.val (.ref a2), .val (.int (0 : Int32)), .val (.int (1 : Int32)), .val (.ref b101), .unset, .unset]) rfl ?_
  refine own_x_aloadN X101.here hx (hb hby own_d11_4) rfl rfl ?_
  refine own_x_iloadN X101.here hx (hb hby own_d11_5) rfl ?_
  refine own_x_aloadN X101.here hx (hb hby own_d11_6) rfl rfl ?_
  refine own_x_iconst X101.here hx (hb hby own_d11_7) (z := (0 : Int32)) rfl ?_
  refine own_x_iloadN X101.here hx (hb hby own_d11_8) rfl ?_
  have u0 : (255 : Int32) < c0 := Classical.byContradiction hbad
  have c102 := (A1.ext E101)
  have c104 := (Nat.le_trans Z0 E101.1)
  refine own_cF X101 (Jvm.LawKit.callS X101 hx (y := (⟨"java/lang/StringUTF16", "compress", "([CI[BII)I"⟩ : MethodName)) hown (mvT hZ (own_w67 hw)) (mvT hZ (own_w68 hw)) (mvT hZ (own_w65 hw)) (mvT hZ (own_w69 hw)) (by decide) (backOf (W := 0) (rm_cmp1_0 l Z a0 hw [] a2 kc dv c0 b101 k101 h101 n0 c104 c102 V101 gn_b101 ne_a2_b101  u0) hZ (own_w69 hw) (own_w65 hw) (by decide) (by decide)) (g := (mkF m 9 #[.val (.ref a2), .val (.int (0 : Int32)), .val (.int (1 : Int32)), .val (.ref b101), .unset, .unset] [(.int (1 : Int32)), (.int (0 : Int32)), (.ref b101), (.int (0 : Int32)), (.ref a2)])) rfl (by rw [hml]; rfl) (argsL := [(.ref a2), (.int (0 : Int32)), (.ref b101), (.int (0 : Int32)), (.int (1 : Int32))]) (rest := []) (lenOf own_pd4 rfl) rfl (by show 2 * 0 + _ ≤ _; exact Nat.le_of_eq rfl) (hb hby own_d11_9) (fun _ _ => ⟨rfl, e101, (by decide : 1 + 0 ≤ _), (by decide : 1 + 0 ≤ _)⟩)) fun v103 T103 L103 X103 hQ103 => ?_
  obtain ⟨rfl, Nq103, K103⟩ := hQ103
  have N103 := Fr.app N0 Nq103
  show own_Go p e below Pst (T103.setTop (mkF m 12 #[.val (.ref a2), .val (.int (0 : Int32)), .val (.int (1 : Int32)), .val (.ref b101), .unset, .unset] [(.int (0 : Int32))]))
  refine own_x_istore X103.here hx (hb hby own_d11_12) rfl (l' := #[.val (.ref a2), .val (.int (0 : Int32)), .val (.int (1 : Int32)), .val (.ref b101), .val (.int (0 : Int32)), .unset]) rfl ?_
  refine own_x_iload X103.here hx (hb hby own_d11_14) rfl ?_
  refine own_x_iloadN X103.here hx (hb hby own_d11_16) rfl ?_
  refine own_x_icmpNo X103.here hx (hb hby own_d11_17) rfl (feq (by decide)).1 ?_
  refine own_x_aloadN X103.here hx (hb hby own_d11_20) rfl rfl ?_
  refine own_x_iloadN X103.here hx (hb hby own_d11_21) rfl ?_
  refine own_x_iloadN X103.here hx (hb hby own_d11_22) rfl ?_
  have c105 := ((O.ext E101).keep K103 (allS gn_b101 all0))
  have c106 := (c102.keep K103 (ninS ne_a2_b101 nin0))
  have c108 := (Nat.le_trans c104 K103.1)
  refine own_cF X103 (Jvm.LawKit.callS X103 hx (y := (⟨"java/lang/StringUTF16", "toBytes", "([CII)[B"⟩ : MethodName)) hown (mvT hZ (own_w75 hw)) (mvT hZ (own_w76 hw)) (mvT hZ (own_w65 hw)) (mvT hZ (own_w77 hw)) (by decide) (backOf (W := 0) (rm_tob1 l Z a0 hw [] a2 kc dv c0 T103.heap n0 c108 c105 SU0 SU1 SU2 c106) hZ (own_w77 hw) (own_w65 hw) (by decide) (by decide)) (g := (mkF m 23 #[.val (.ref a2), .val (.int (0 : Int32)), .val (.int (1 : Int32)), .val (.ref b101), .val (.int (0 : Int32)), .unset] [(.int (1 : Int32)), (.int (0 : Int32)), (.ref a2)])) rfl (by rw [hml]; rfl) (argsL := [(.ref a2), (.int (0 : Int32)), (.int (1 : Int32))]) (rest := []) (lenOf own_pd5 rfl) rfl (by show 2 * 0 + _ ≤ _; exact Nat.le_of_eq rfl) (hb hby own_d11_23) (fun _ _ => ⟨rfl, rfl, (by decide : 1 + 1 ≤ _), (by decide : 1 + 2 ≤ _)⟩)) fun v107 T107 L107 X107 hQ107 => ?_
  obtain ⟨b107, rfl, Nq107, K107, sb107, kb107, V107⟩ := hQ107
  have N107 := Fr.app N103 Nq107
  have ne_a2_b107 : a2 ≠ b107 := Nat.ne_of_lt (Nat.lt_of_lt_of_le c106.lt sb107)
  have gn_b107 : n0 ≤ b107 := Nat.le_trans c108 sb107
  have c109 := (Keep.trans ((Keep.refl h0 []).ext E101) K103 (allS (Or.inr sz_b101) all0))
  have sz_b107 : h0.size ≤ b107 := Nat.le_trans c109.1 sb107
  show own_Go p e below Pst (T107.setTop (mkF m 26 #[.val (.ref a2), .val (.int (0 : Int32)), .val (.int (1 : Int32)), .val (.ref b101), .val (.int (0 : Int32)), .unset] [(.ref b107)]))
  refine own_x_astore X107.here hx (hb hby own_d11_26) rfl rfl (l' := #[.val (.ref a2), .val (.int (0 : Int32)), .val (.int (1 : Int32)), .val (.ref b101), .val (.int (0 : Int32)), .val (.ref b107)]) rfl ?_
  refine own_x_aload X107.here hx (hb hby own_d11_28) rfl rfl ?_
  refine own_x_iload X107.here hx (hb hby own_d11_30) rfl ?_
  have c110 := (c105.keep K107 all0)
  have c112 := (Nat.le_trans c108 K107.1)
  refine own_cF X107 (Jvm.LawKit.callS X107 hx (y := (⟨"java/lang/StringUTF16", "getChar", "([BI)C"⟩ : MethodName)) hown (mvT hZ (own_w91 hw)) (mvT hZ (own_w92 hw)) (mvT hZ (own_w65 hw)) (mvT hZ (own_w93 hw)) (by decide) (backOf (W := 0) (rm_getc0 l Z a0 hw [] b107 kb107 (2 : Int32) (own_lo8 c0) (own_hi8 c0) (own_u16 [c0]) T107.heap n0 c112 c110 SU0 SU1 SU2 V107 (by decide) rfl rfl) hZ (own_w93 hw) (own_w65 hw) (by decide) (by decide)) (g := (mkF m 32 #[.val (.ref a2), .val (.int (0 : Int32)), .val (.int (1 : Int32)), .val (.ref b101), .val (.int (0 : Int32)), .val (.ref b107)] [(.int (0 : Int32)), (.ref b107)])) rfl (by rw [hml]; rfl) (argsL := [(.ref b107), (.int (0 : Int32))]) (rest := []) (lenOf own_pd6 rfl) rfl (by show 2 * 0 + _ ≤ _; exact Nat.le_of_eq rfl) (hb hby own_d11_32) (fun _ _ => ⟨rfl, rfl, (by decide : 2 + 0 ≤ _), (by decide : 3 + 0 ≤ _)⟩)) fun v111 T111 L111 X111 hQ111 => ?_
  obtain ⟨rfl, Nq111, e111⟩ := hQ111
  have N111 := Fr.app N107 Nq111
  show own_Go p e below Pst (T111.setTop (mkF m 35 #[.val (.ref a2), .val (.int (0 : Int32)), .val (.int (1 : Int32)), .val (.ref b101), .val (.int (0 : Int32)), .val (.ref b107)] [(.int (nar .char (own_join (own_lo8 c0) (own_hi8 c0))))]))
  rw [own_join_eq hr.1 hr.2]
  show own_Go p e below Pst (T111.setTop (mkF m 35 #[.val (.ref a2), .val (.int (0 : Int32)), .val (.int (1 : Int32)), .val (.ref b101), .val (.int (0 : Int32)), .val (.ref b107)] [(.int c0)]))
  refine own_x_sipush X111.here hx (hb hby own_d11_35) (z := (255 : Int32)) rfl ?_
  refine own_x_icmpYes X111.here hx (pc0 := 38) (pc' := 54) rfl (hb hby own_d11_38) rfl (tlt u0).2.2.1 (by decide) (by decide) ?_
  refine own_x_aload X111.here hx (hb hby own_d11_54) rfl rfl ?_
  have c113 := (Keep.trans c109 K107 all0)
  rw [hPst]
  exact own_retP X111 (v := (some (.ref b107))) (Q := Q_cu1 Z a2 kc dv c0 h0 n0) (fun h => by rw [Bd.returns] at h; cases h) Bd.notSynchronized (fun fs hr => retOut X111 hx Bd.returns rfl (Or.inr (Or.inr (Or.inr (Or.inr ⟨rfl, rfl, rfl⟩)))) (hb hby own_d11_56) hr) (by decide) (by decide) (by rw [e111]; exact ⟨_, rfl, N111, c113, sz_b107, _, V107⟩)
theorem own_d13_0 : decode jdk_52_method_15_code 0 = .ok (.iload_n 1, 1) := by decide +kernel
theorem own_d13_1 : decode jdk_52_method_15_code 1 = .ok (.aload_n 0, 1) := by decide +kernel
theorem own_d13_2 : decode jdk_52_method_15_code 2 = .ok (.arraylength, 1) := by decide +kernel
theorem own_d13_3 : decode jdk_52_method_15_code 3 = .ok (.isub, 1) := by decide +kernel
theorem own_d13_4 : decode jdk_52_method_15_code 4 = .ok (.bipush 31, 2) := by decide +kernel
theorem own_d13_6 : decode jdk_52_method_15_code 6 = .ok (.iushr, 1) := by decide +kernel
theorem own_d13_7 : decode jdk_52_method_15_code 7 = .ok (.i2b, 1) := by decide +kernel
theorem own_d13_8 : decode jdk_52_method_15_code 8 = .ok (.ireturn, 1) := by decide +kernel
def Q_codl1 (Z : State) (b : Addr) (kb : ClassId) (vs : List Value) (h0 : Heap) (n0 : Nat) (v : Option Value) (h : Heap) (L : List Loc) : Prop := v = some (.int (1 : Int32)) ∧ Fr n0 L ∧ h = h0
theorem rm_codl1 (l : Launch) (Z : State) (a0 : Array Value) (hw : own_H a0 Z) (ws : List Jvm.Cond) (b : Addr) (kb : ClassId) (vs : List Value) (h0 : Heap) (n0 : Nat) (Z0 : n0 ≤ h0.size) (A1 : Arv Z h0 b kb .byte (2 : Int32) vs (.int 0)) : own_MP l (⟨"java/lang/StringUTF16", "coderFromArrayLen", "([BI)B"⟩ : MethodName) jdk_52_method_15_code 2 (some .byte) ws ({ frames := 0, cells := 0, slots := 0, locals := 0 } : Room) Z h0 #[(.ref b), (.int (1 : Int32))] (fun _ _ _ _ _ => True) (Q_codl1 Z b kb vs h0 n0) := by
  refine own_startP (plainFor_of_name own_pn_java_lang_StringUTF16) fun p e s m below meth c s₁ Bd hx hby hml hown0 X0 e0 hh0 hZ hK Pst hPst => ?_
  have hown : s.vm.findClass "java/lang/StringUTF16" = some m.cls := hown0
  have hnm := (name_of_methodNamed Bd.named Bd.method).1
  have N0 := Fr.nil n0
  rw [own_ef_RI_2 m b (1 : Int32)]
  refine own_x_iloadN X0.here hx (hb hby own_d13_0) rfl ?_
  refine own_x_aloadN X0.here hx (hb hby own_d13_1) rfl rfl ?_
  obtain ⟨cl101, Ar101, -, S101, P101, -, -⟩ := id A1
  refine own_Go.of (S' := s₁.setTop (mkF m 3 #[.val (.ref b), .val (.int (1 : Int32))] [(.int (2 : Int32)), (.int (1 : Int32))])) (fun tgt kst => X0.arraylength hx (by rw [e0]; exact Ar101.1) (State.isArrayOf_alike hZ.alike Ar101.2.1) (g := (mkF m 2 #[.val (.ref b), .val (.int (1 : Int32))] [(.ref b), (.int (1 : Int32))])) rfl rfl (hb hby own_d13_2) _ (by rw [len_of S101 P101]; exact kst)) ?_
  refine own_x_isub X0.here hx (hb hby own_d13_3) rfl ?_
  refine own_x_bipush X0.here hx (hb hby own_d13_4) (z := (31 : Int32)) rfl ?_
  refine own_x_iushr X0.here hx (hb hby own_d13_6) rfl ?_
  refine own_x_i2b X0.here hx (hb hby own_d13_7) rfl ?_
  rw [show (((((1 : Int32) - (2 : Int32)).toUInt32 >>> ((31 : Int32) &&& 31).toUInt32).toInt32).toInt8.toInt32) = (1 : Int32) from by decide]
  show own_Go p e below Pst (s₁.setTop (mkF m 8 #[.val (.ref b), .val (.int (1 : Int32))] [(.int (1 : Int32))]))
  rw [hPst]
  exact own_retP X0 (v := (some (.int (nar .byte (1 : Int32))))) (Q := Q_codl1 Z b kb vs h0 n0) (fun h => by rw [Bd.returns] at h; cases h) Bd.notSynchronized (fun fs hr => retN X0 hx (t := .byte) Bd.returns (by simp) (hb hby own_d13_8) hr) (by decide) (by decide) (by rw [e0]; exact ⟨rfl, N0, rfl⟩)
theorem own_d3_27 : decode jdk_42_method_149_code 27 = .ok (.getstatic 38, 3) := by decide +kernel
theorem own_d3_30 : decode jdk_42_method_149_code 30 = .ok (.ifCond .eq 28, 3) := by decide +kernel
theorem own_d3_33 : decode jdk_42_method_149_code 33 = .ok (.aload_n 1, 1) := by decide +kernel
theorem own_d3_34 : decode jdk_42_method_149_code 34 = .ok (.iload_n 2, 1) := by decide +kernel
theorem own_d3_35 : decode jdk_42_method_149_code 35 = .ok (.iload_n 3, 1) := by decide +kernel
theorem own_d3_36 : decode jdk_42_method_149_code 36 = .ok (.invokestatic 177, 3) := by decide +kernel
theorem own_d3_39 : decode jdk_42_method_149_code 39 = .ok (.astore 5, 2) := by decide +kernel
theorem own_d3_41 : decode jdk_42_method_149_code 41 = .ok (.aload_n 0, 1) := by decide +kernel
theorem own_d3_42 : decode jdk_42_method_149_code 42 = .ok (.aload 5, 2) := by decide +kernel
theorem own_d3_44 : decode jdk_42_method_149_code 44 = .ok (.iload_n 3, 1) := by decide +kernel
theorem own_d3_45 : decode jdk_42_method_149_code 45 = .ok (.invokestatic 47, 3) := by decide +kernel
theorem own_pd7 : parseMethodDescriptor "([BI)B" = some ⟨[(.array .byte), .int], some .byte⟩ := by decide +kernel
theorem own_d3_48 : decode jdk_42_method_149_code 48 = .ok (.putfield 15, 3) := by decide +kernel
theorem own_d3_51 : decode jdk_42_method_149_code 51 = .ok (.aload_n 0, 1) := by decide +kernel
theorem own_d3_52 : decode jdk_42_method_149_code 52 = .ok (.aload 5, 2) := by decide +kernel
theorem own_d3_54 : decode jdk_42_method_149_code 54 = .ok (.putfield 9, 3) := by decide +kernel
theorem own_d3_57 : decode jdk_42_method_149_code 57 = .ok (.return_, 1) := by decide +kernel
def Q_i4u1 (Z : State) (z : Int32) (a1 a2 : Addr) (kc : ClassId) (dv : Value) (c0 : Int32) (u1 u2 : Value) (h0 : Heap) (n0 : Nat) (v : Option Value) (h : Heap) (L : List Loc) : Prop := v = none ∧ Fr n0 L ∧ Keep h0 h [a1] ∧ Exa Z h a1 "java/lang/String" ∧ Fld Z h a1 "java/lang/String" "coder" "B" (.int (1 : Int32)) ∧ ∃ (t : Addr) (kb : ClassId), h0.size ≤ t ∧ Fld Z h a1 "java/lang/String" "value" "[B" (.ref t) ∧ Arv Z h t kb .byte (2 : Int32) (own_u16 [c0]) (.int 0)
theorem rm_i4u1 (l : Launch) (Z : State) (a0 : Array Value) (hw : own_H a0 Z) (ws : List Jvm.Cond) (z : Int32) (a1 a2 : Addr) (kc : ClassId) (dv : Value) (c0 : Int32) (u1 u2 : Value) (h0 : Heap) (n0 : Nat) (Z0 : n0 ≤ h0.size) (O : Old Z n0 h0) (SC : Sta Z Z.heap "java/lang/String" "COMPACT_STRINGS" "Z" (.int z)) (hz : ¬ z = 0) (SU0 : Sta Z Z.heap "java/lang/StringUTF16" "$assertionsDisabled" "Z" (.int (1 : Int32))) (SU1 : Sta Z Z.heap "java/lang/StringUTF16" "HI_BYTE_SHIFT" "I" (.int (0 : Int32))) (SU2 : Sta Z Z.heap "java/lang/StringUTF16" "LO_BYTE_SHIFT" "I" (.int (8 : Int32))) (E1 : Exa Z h0 a1 "java/lang/String") (F1 : Fld Z h0 a1 "java/lang/String" "value" "[B" u1) (F2 : Fld Z h0 a1 "java/lang/String" "coder" "B" u2) (g1 : n0 ≤ a1) (A1 : Arv Z h0 a2 kc .char (1 : Int32) [(.int c0)] dv) (hr : ¬ c0 < 0 ∧ ¬ (65535 : Int32) < c0) (hbad : ¬ (¬ (255 : Int32) < c0)) : own_MP l (⟨"java/lang/String", "<init>", "([CIILjava/lang/Void;)V"⟩ : MethodName) jdk_42_method_149_code 6 none ws ({ frames := 4, cells := 2, slots := 3, locals := 60 } : Room) Z h0 #[(.ref a1), (.ref a2), (.int (0 : Int32)), (.int (1 : Int32)), .null] (fun _ _ _ _ _ => True) (Q_i4u1 Z z a1 a2 kc dv c0 u1 u2 h0 n0) := by
  refine own_startP (plainFor_of_name own_pn_java_lang_String) fun p e s m below meth c s₁ Bd hx hby hml hown0 X0 e0 hh0 hZ hK Pst hPst => ?_
  have hown : s.vm.findClass "java/lang/String" = some m.cls := hown0
  have hnm := (name_of_methodNamed Bd.named Bd.method).1
  have N0 := Fr.nil n0
  rw [own_ef_RRIIN_6 m a1 a2 (0 : Int32) (1 : Int32)]
  refine own_x_aloadN X0.here hx (hb hby own_d3_0) rfl rfl ?_
  refine own_h_initO X0 hx hZ hown (own_w17 hw) (own_w18 hw) (own_w19 hw) e0 (by rw [hml]; rfl) rfl (hb hby own_d3_1) (by decide) (W := 0) (by show 2 * 0 + _ ≤ _; exact Nat.le_of_eq rfl) (by decide) fun T101 X101 e101 => ?_
  refine own_x_iloadN X101.here hx (hb hby own_d3_4) rfl ?_
  refine own_x_ifYes X101.here hx (pc0 := 5) (pc' := 27) rfl (hb hby own_d3_5) rfl ((if0 _ _).trans (feq (by decide)).2) (by decide) (by decide) ?_
  refine own_h_getS2 X101 hx hZ hown (host := "") (Or.inl (own_w62 hw)) Via.refl e101 (SC.ext O.2) (hb hby own_d3_27) fun T102 X102 e102 => ?_
  refine own_x_ifNo X102.here hx (hb hby own_d3_30) rfl ((if0 _ _).trans (feq hz).1) ?_
  refine own_x_aloadN X102.here hx (hb hby own_d3_33) rfl rfl ?_
  refine own_x_iloadN X102.here hx (hb hby own_d3_34) rfl ?_
  refine own_x_iloadN X102.here hx (hb hby own_d3_35) rfl ?_
  refine own_cF X102 (Jvm.LawKit.callS X102 hx (y := (⟨"java/lang/StringUTF16", "compress", "([CII)[B"⟩ : MethodName)) hown (mvT hZ (own_w63 hw)) (mvT hZ (own_w64 hw)) (mvT hZ (own_w65 hw)) (mvT hZ (own_w66 hw)) (by decide) (backOf (W := 0) (rm_cu1 l Z a0 hw [] a2 kc dv c0 h0 n0 Z0 O SU0 SU1 SU2 A1 hr hbad) hZ (own_w66 hw) (own_w65 hw) (by decide) (by decide)) (g := (mkF m 36 #[.val (.ref a1), .val (.ref a2), .val (.int (0 : Int32)), .val (.int (1 : Int32)), .val .null, .unset] [(.int (1 : Int32)), (.int (0 : Int32)), (.ref a2)])) rfl (by rw [hml]; rfl) (argsL := [(.ref a2), (.int (0 : Int32)), (.int (1 : Int32))]) (rest := []) (lenOf own_pd5 rfl) rfl (by show 2 * 0 + _ ≤ _; exact Nat.le_of_eq rfl) (hb hby own_d3_36) (fun _ _ => ⟨rfl, e102, (by decide : 0 + 2 ≤ _), (by decide : 0 + 3 ≤ _)⟩)) fun v103 T103 L103 X103 hQ103 => ?_
  obtain ⟨b103, rfl, Nq103, K103, sb103, kb103, V103⟩ := hQ103
  have N103 := Fr.app N0 Nq103
  have ne_a1_b103 : a1 ≠ b103 := Nat.ne_of_lt (Nat.lt_of_lt_of_le E1.lt sb103)
  have gn_b103 : n0 ≤ b103 := Nat.le_trans Z0 sb103
  have sz_b103 : h0.size ≤ b103 := Nat.le_trans (Keep.refl h0 [a1]).1 sb103
  show own_Go p e below Pst (T103.setTop (mkF m 39 #[.val (.ref a1), .val (.ref a2), .val (.int (0 : Int32)), .val (.int (1 : Int32)), .val .null, .unset] [(.ref b103)]))
  refine own_x_astore X103.here hx (hb hby own_d3_39) rfl rfl (l' := #[.val (.ref a1), .val (.ref a2), .val (.int (0 : Int32)), .val (.int (1 : Int32)), .val .null, .val (.ref b103)]) rfl ?_
  refine own_x_aloadN X103.here hx (hb hby own_d3_41) rfl rfl ?_
  refine own_x_aload X103.here hx (hb hby own_d3_42) rfl rfl ?_
  refine own_x_iloadN X103.here hx (hb hby own_d3_44) rfl ?_
  have c105 := (Nat.le_trans Z0 K103.1)
  refine own_cF X103 (Jvm.LawKit.callS X103 hx (y := (⟨"java/lang/StringUTF16", "coderFromArrayLen", "([BI)B"⟩ : MethodName)) hown (mvT hZ (own_w70 hw)) (mvT hZ (own_w71 hw)) (mvT hZ (own_w65 hw)) (mvT hZ (own_w72 hw)) (by decide) (backOf (W := 1) (rm_codl1 l Z a0 hw [] b103 kb103 (own_u16 [c0]) T103.heap n0 c105 V103) hZ (own_w72 hw) (own_w65 hw) (by decide) (by decide)) (g := (mkF m 45 #[.val (.ref a1), .val (.ref a2), .val (.int (0 : Int32)), .val (.int (1 : Int32)), .val .null, .val (.ref b103)] [(.int (1 : Int32)), (.ref b103), (.ref a1)])) rfl (by rw [hml]; rfl) (argsL := [(.ref b103), (.int (1 : Int32))]) (rest := [(.ref a1)]) (lenOf own_pd7 rfl) rfl (by show 2 * 0 + _ ≤ _; exact Nat.le_of_eq rfl) (hb hby own_d3_45) (fun _ _ => ⟨rfl, rfl, (by decide : 2 + 0 ≤ _), (by decide : 3 + 0 ≤ _)⟩)) fun v104 T104 L104 X104 hQ104 => ?_
  obtain ⟨rfl, Nq104, e104⟩ := hQ104
  have N104 := Fr.app N103 Nq104
  show own_Go p e below Pst (T104.setTop (mkF m 48 #[.val (.ref a1), .val (.ref a2), .val (.int (0 : Int32)), .val (.int (1 : Int32)), .val .null, .val (.ref b103)] [(.int (1 : Int32)), (.ref a1)]))
  have c106 := (E1.keep K103)
  have c107 := (F2.keep K103 nin0)
  refine own_h_putFN X104 hx hZ hown (own_w27 hw) Via.refl e104 c107 c106 (Or.inr ⟨(own_w23 hw), rfl, hnm⟩) (own_w7 hw) (ty := .byte) (v' := (.int (1 : Int32))) (by decide) rfl rfl rfl (hb hby own_d3_48) fun T108 h108 X108 e108 W108 => ?_
  have Fw108 := Fld.same W108 c107
  have N108 := Fr.snoc X108 N104 g1
  refine own_x_aloadN X108.here hx (hb hby own_d3_51) rfl rfl ?_
  refine own_x_aload X108.here hx (hb hby own_d3_52) rfl rfl ?_
  have c109 := (c106.wr W108)
  have c110 := ((F1.keep K103 nin0).other W108 (Or.inr (slot_ne (Or.inr (own_w22 hw)) (Or.inr (own_w23 hw)) (by decide) (t := (.array .byte)) (t' := .byte) (by decide) (by decide))))
  refine own_h_putF X108 hx hZ hown (host := "") (Or.inl (own_w26 hw)) Via.refl e108 c110 c109 (Or.inr ⟨(own_w22 hw), rfl, hnm⟩) (own_w7 hw) (ty := (.array .byte)) (by decide) rfl rfl rfl (hb hby own_d3_54) fun T111 h111 X111 e111 W111 => ?_
  have Fw111 := Fld.same W111 c110
  have N111 := Fr.snoc X111 N108 g1
  have c112 := (((Keep.trans (Keep.refl h0 [a1]) K103 all0).wr W108 (Or.inl (List.mem_of_getElem? (i := 0) rfl))).wr W111 (Or.inl (List.mem_of_getElem? (i := 0) rfl)))
  have c113 := (c109.wr W111)
  have c114 := (Fw108.other W111 (Or.inr (slot_ne (Or.inr (own_w23 hw)) (Or.inr (own_w22 hw)) (by decide) (t := .byte) (t' := (.array .byte)) (by decide) (by decide))))
  have c115 := ((V103.other W108 (Ne.symm ne_a1_b103)).other W111 (Ne.symm ne_a1_b103))
  rw [hPst]
  exact own_retP X111 (v := none) (Q := Q_i4u1 Z z a1 a2 kc dv c0 u1 u2 h0 n0) (fun _ => rfl) Bd.notSynchronized (fun fs hr => X111.returnOut hx Bd.returns (hb hby own_d3_57) hr) (by decide) (by decide) (by rw [e111]; exact ⟨rfl, N111, c112, c113, c114, _, _, sz_b103, Fw111, c115⟩)
def Q_i1u1 (Z : State) (z : Int32) (a1 a2 : Addr) (kc : ClassId) (dv : Value) (c0 : Int32) (u1 u2 : Value) (h0 : Heap) (n0 : Nat) (v : Option Value) (h : Heap) (L : List Loc) : Prop := v = none ∧ Fr n0 L ∧ Keep h0 h [a1] ∧ Exa Z h a1 "java/lang/String" ∧ Fld Z h a1 "java/lang/String" "coder" "B" (.int (1 : Int32)) ∧ ∃ (t : Addr) (kb : ClassId), h0.size ≤ t ∧ Fld Z h a1 "java/lang/String" "value" "[B" (.ref t) ∧ Arv Z h t kb .byte (2 : Int32) (own_u16 [c0]) (.int 0)
theorem rm_i1u1 (l : Launch) (Z : State) (a0 : Array Value) (hw : own_H a0 Z) (ws : List Jvm.Cond) (z : Int32) (a1 a2 : Addr) (kc : ClassId) (dv : Value) (c0 : Int32) (u1 u2 : Value) (h0 : Heap) (n0 : Nat) (Z0 : n0 ≤ h0.size) (O : Old Z n0 h0) (SC : Sta Z Z.heap "java/lang/String" "COMPACT_STRINGS" "Z" (.int z)) (hz : ¬ z = 0) (SU0 : Sta Z Z.heap "java/lang/StringUTF16" "$assertionsDisabled" "Z" (.int (1 : Int32))) (SU1 : Sta Z Z.heap "java/lang/StringUTF16" "HI_BYTE_SHIFT" "I" (.int (0 : Int32))) (SU2 : Sta Z Z.heap "java/lang/StringUTF16" "LO_BYTE_SHIFT" "I" (.int (8 : Int32))) (E1 : Exa Z h0 a1 "java/lang/String") (F1 : Fld Z h0 a1 "java/lang/String" "value" "[B" u1) (F2 : Fld Z h0 a1 "java/lang/String" "coder" "B" u2) (g1 : n0 ≤ a1) (A1 : Arv Z h0 a2 kc .char (1 : Int32) [(.int c0)] dv) (hr : ¬ c0 < 0 ∧ ¬ (65535 : Int32) < c0) (hbad : ¬ (¬ (255 : Int32) < c0)) : own_MP l (⟨"java/lang/String", "<init>", "([C)V"⟩ : MethodName) jdk_42_method_3_code 2 none ws ({ frames := 5, cells := 2, slots := 3, locals := 77 } : Room) Z h0 #[(.ref a1), (.ref a2)] (fun _ _ _ _ _ => True) (Q_i1u1 Z z a1 a2 kc dv c0 u1 u2 h0 n0) := by
  refine own_startP (plainFor_of_name own_pn_java_lang_String) fun p e s m below meth c s₁ Bd hx hby hml hown0 X0 e0 hh0 hZ hK Pst hPst => ?_
  have hown : s.vm.findClass "java/lang/String" = some m.cls := hown0
  have hnm := (name_of_methodNamed Bd.named Bd.method).1
  have N0 := Fr.nil n0
  rw [own_ef_RR_2 m a1 a2]
  refine own_x_aloadN X0.here hx (hb hby own_d2_0) rfl rfl ?_
  refine own_x_aloadN X0.here hx (hb hby own_d2_1) rfl rfl ?_
  refine own_x_iconst X0.here hx (hb hby own_d2_2) (z := (0 : Int32)) rfl ?_
  refine own_x_aloadN X0.here hx (hb hby own_d2_3) rfl rfl ?_
  obtain ⟨cl101, Ar101, -, S101, P101, -, -⟩ := id A1
  refine own_Go.of (S' := s₁.setTop (mkF m 5 #[.val (.ref a1), .val (.ref a2)] [(.int (1 : Int32)), (.int (0 : Int32)), (.ref a2), (.ref a1)])) (fun tgt kst => X0.arraylength hx (by rw [e0]; exact Ar101.1) (State.isArrayOf_alike hZ.alike Ar101.2.1) (g := (mkF m 4 #[.val (.ref a1), .val (.ref a2)] [(.ref a2), (.int (0 : Int32)), (.ref a2), (.ref a1)])) rfl rfl (hb hby own_d2_4) _ (by rw [len_of S101 P101]; exact kst)) ?_
  refine own_x_aconstNull X0.here hx (hb hby own_d2_5) ?_
  refine own_cP X0 (X0.specialBack hx (y := (⟨"java/lang/String", "<init>", "([CIILjava/lang/Void;)V"⟩ : MethodName)) rfl hown (mvT hZ (own_w13 hw)) (mvT hZ (own_w14 hw)) (mvT hZ (own_w16 hw)) (by decide) (backOf (W := 0) (rm_i4u1 l Z a0 hw [] z a1 a2 kc dv c0 u1 u2 h0 n0 Z0 O SC hz SU0 SU1 SU2 E1 F1 F2 g1 A1 hr hbad) hZ (own_w16 hw) (own_w8 hw) (by decide) (by decide)) (g := (mkF m 6 #[.val (.ref a1), .val (.ref a2)] [.null, (.int (1 : Int32)), (.int (0 : Int32)), (.ref a2), (.ref a1)])) rfl (by rw [hml]; rfl) (Steps.refl _) (a := a1) (argsL := [(.ref a2), (.int (0 : Int32)), (.int (1 : Int32)), .null]) (rest := []) (lenOf own_pd0 rfl) rfl (by show 2 * 0 + _ ≤ _; exact Nat.le_of_eq rfl) (hb hby own_d2_6) (fun _ _ => ⟨rfl, e0, (by decide : 0 + 2 ≤ _), (by decide : 0 + 3 ≤ _)⟩)) fun v102 T102 L102 X102 hQ102 => ?_
  obtain ⟨rfl, Nq102, K102, A102, C102, t102, kb102, st_102, V102, B102⟩ := hQ102
  have N102 := Fr.app N0 Nq102
  show own_Go p e below Pst (T102.setTop (mkF m 9 #[.val (.ref a1), .val (.ref a2)] []))
  have c103 := (Keep.trans (Keep.refl h0 [a1]) K102 (allS (Or.inl (List.mem_of_getElem? (i := 0) rfl)) all0))
  rw [hPst]
  exact own_retP X102 (v := none) (Q := Q_i1u1 Z z a1 a2 kc dv c0 u1 u2 h0 n0) (fun _ => rfl) Bd.notSynchronized (fun fs hr => X102.returnOut hx Bd.returns (hb hby own_d2_9) hr) (by decide) (by decide) ⟨rfl, N102, c103, A102, C102, _, _, st_102, V102, B102⟩
def Q_nbl2 (Z : State)  (h0 : Heap) (n0 : Nat) (v : Option Value) (h : Heap) (L : List Loc) : Prop := v = some (.int (4 : Int32)) ∧ Fr n0 L ∧ h = h0
theorem rm_nbl2 (l : Launch) (Z : State) (a0 : Array Value) (hw : own_H a0 Z) (ws : List Jvm.Cond)  (h0 : Heap) (n0 : Nat) (Z0 : n0 ≤ h0.size) : own_MP l (⟨"java/lang/StringUTF16", "newBytesLength", "(I)I"⟩ : MethodName) jdk_52_method_3_code 1 (some .int) ws ({ frames := 0, cells := 0, slots := 0, locals := 0 } : Room) Z h0 #[(.int (2 : Int32))] (fun _ _ _ _ _ => True) (Q_nbl2 Z  h0 n0) := by
  refine own_startP (plainFor_of_name own_pn_java_lang_StringUTF16) fun p e s m below meth c s₁ Bd hx hby hml hown0 X0 e0 hh0 hZ hK Pst hPst => ?_
  have hown : s.vm.findClass "java/lang/StringUTF16" = some m.cls := hown0
  have hnm := (name_of_methodNamed Bd.named Bd.method).1
  have N0 := Fr.nil n0
  rw [own_ef_I_1 m (2 : Int32)]
  refine own_x_iloadN X0.here hx (hb hby own_d16_0) rfl ?_
  refine own_x_ifYes X0.here hx (pc0 := 1) (pc' := 12) rfl (hb hby own_d16_1) rfl ((if0 _ _).trans (flt (by decide)).2.1) (by decide) (by decide) ?_
  refine own_x_iloadN X0.here hx (hb hby own_d16_12) rfl ?_
  refine own_Go.of (S' := s₁.setTop (mkF m 15 #[.val (.int (2 : Int32))] [(.int (1073741823 : Int32)), (.int (2 : Int32))])) (fun tgt kst => X0.ldcInt hx hown (mvT hZ (own_w84 hw)) (g := (mkF m 13 #[.val (.int (2 : Int32))] [(.int (2 : Int32))])) rfl (hb hby own_d16_13) _ kst) ?_
  refine own_x_icmpYes X0.here hx (pc0 := 15) (pc' := 55) rfl (hb hby own_d16_15) rfl (tlt (by decide)).1 (by decide) (by decide) ?_
  refine own_x_iloadN X0.here hx (hb hby own_d16_55) rfl ?_
  refine own_x_iconst X0.here hx (hb hby own_d16_56) (z := (1 : Int32)) rfl ?_
  refine own_x_ishl X0.here hx (hb hby own_d16_57) rfl ?_
  rw [show ((2 : Int32) <<< ((1 : Int32) &&& 31)) = (4 : Int32) from by decide]
  show own_Go p e below Pst (s₁.setTop (mkF m 58 #[.val (.int (2 : Int32))] [(.int (4 : Int32))]))
  rw [hPst]
  exact own_retP X0 (v := (some (.int (4 : Int32)))) (Q := Q_nbl2 Z  h0 n0) (fun h => by rw [Bd.returns] at h; cases h) Bd.notSynchronized (fun fs hr => own_retI X0 hx Bd.returns (hb hby own_d16_58) hr) (by decide) (by decide) (by rw [e0]; exact ⟨rfl, N0, rfl⟩)
def Q_nbf2 (Z : State)  (h0 : Heap) (n0 : Nat) (v : Option Value) (h : Heap) (L : List Loc) : Prop := ∃ (b : Addr), v = some (.ref b) ∧ Fr n0 L ∧ Keep h0 h [] ∧ h0.size ≤ b ∧ ∃ kb : ClassId, Arv Z h b kb .byte (4 : Int32) [(.int (0 : Int32)), (.int (0 : Int32)), (.int (0 : Int32)), (.int (0 : Int32))] (.int 0)
theorem rm_nbf2 (l : Launch) (Z : State) (a0 : Array Value) (hw : own_H a0 Z) (ws : List Jvm.Cond)  (h0 : Heap) (n0 : Nat) (Z0 : n0 ≤ h0.size) : own_MP l (⟨"java/lang/StringUTF16", "newBytesFor", "(I)[B"⟩ : MethodName) jdk_52_method_2_code 1 (some (.array .byte)) ws ({ frames := 1, cells := 1, slots := 4, locals := 12 } : Room) Z h0 #[(.int (2 : Int32))] (fun _ _ _ _ _ => True) (Q_nbf2 Z  h0 n0) := by
  refine own_startP (plainFor_of_name own_pn_java_lang_StringUTF16) fun p e s m below meth c s₁ Bd hx hby hml hown0 X0 e0 hh0 hZ hK Pst hPst => ?_
  have hown : s.vm.findClass "java/lang/StringUTF16" = some m.cls := hown0
  have hnm := (name_of_methodNamed Bd.named Bd.method).1
  have N0 := Fr.nil n0
  rw [own_ef_I_1 m (2 : Int32)]
  refine own_x_iloadN X0.here hx (hb hby own_d15_0) rfl ?_
  refine own_cF X0 (Jvm.LawKit.callS X0 hx (y := (⟨"java/lang/StringUTF16", "newBytesLength", "(I)I"⟩ : MethodName)) hown (mvT hZ (own_w81 hw)) (mvT hZ (own_w82 hw)) (mvT hZ (own_w65 hw)) (mvT hZ (own_w83 hw)) (by decide) (backOf (W := 0) (rm_nbl2 l Z a0 hw []  h0 n0 Z0 ) hZ (own_w83 hw) (own_w65 hw) (by decide) (by decide)) (g := (mkF m 1 #[.val (.int (2 : Int32))] [(.int (2 : Int32))])) rfl (by rw [hml]; rfl) (argsL := [(.int (2 : Int32))]) (rest := []) (lenOf own_pd1 rfl) rfl (by show 2 * 0 + _ ≤ _; exact Nat.le_of_eq rfl) (hb hby own_d15_1) (fun _ _ => ⟨rfl, e0, (by decide : 0 + 0 ≤ _), (by decide : 0 + 0 ≤ _)⟩)) fun v101 T101 L101 X101 hQ101 => ?_
  obtain ⟨rfl, Nq101, e101⟩ := hQ101
  have N101 := Fr.app N0 Nq101
  show own_Go p e below Pst (T101.setTop (mkF m 4 #[.val (.int (2 : Int32))] [(.int (4 : Int32))]))
  refine own_h_newP (aty := .byte) X101 hx hZ (own_w21 hw) e101 (hb hby own_d15_4) rfl (by decide) (cap := 4) (by decide) (by decide) (by decide) (by decide) fun T102 h102 k102 b102 g102 X102 e102 E102 A102 => ?_
  have gn_b102 : n0 ≤ b102 := Nat.le_trans Z0 (Nat.le_of_eq g102.symm)
  have sz_b102 : h0.size ≤ b102 := Nat.le_trans (Keep.refl h0 []).1 (Nat.le_of_eq g102.symm)
  have V102 : Arv Z h102 b102 k102 .byte (4 : Int32) [(.int (0 : Int32)), (.int (0 : Int32)), (.int (0 : Int32)), (.int (0 : Int32))] (.int (0 : Int32)) := (Arv.new A102 (by decide)).pad (pad_rep [] (.int (0 : Int32)) 4)
  have c103 := ((Keep.refl h0 []).ext E102)
  rw [hPst]
  exact own_retP X102 (v := (some (.ref b102))) (Q := Q_nbf2 Z  h0 n0) (fun h => by rw [Bd.returns] at h; cases h) Bd.notSynchronized (fun fs hr => retOut X102 hx Bd.returns rfl (Or.inr (Or.inr (Or.inr (Or.inr ⟨rfl, rfl, rfl⟩)))) (hb hby own_d15_6) hr) (by decide) (by decide) (by rw [e102]; exact ⟨_, rfl, N101, c103, sz_b102, _, V102⟩)
def Q_tob2 (Z : State) (a2 : Addr) (kc : ClassId) (dv : Value) (c0 c1 : Int32) (h0 : Heap) (n0 : Nat) (v : Option Value) (h : Heap) (L : List Loc) : Prop := ∃ (b : Addr), v = some (.ref b) ∧ Fr n0 L ∧ Keep h0 h [] ∧ h0.size ≤ b ∧ ∃ kb : ClassId, Arv Z h b kb .byte (4 : Int32) (own_u16 [c0, c1]) (.int 0)
theorem rm_tob2 (l : Launch) (Z : State) (a0 : Array Value) (hw : own_H a0 Z) (ws : List Jvm.Cond) (a2 : Addr) (kc : ClassId) (dv : Value) (c0 c1 : Int32) (h0 : Heap) (n0 : Nat) (Z0 : n0 ≤ h0.size) (O : Old Z n0 h0) (SU0 : Sta Z Z.heap "java/lang/StringUTF16" "$assertionsDisabled" "Z" (.int (1 : Int32))) (SU1 : Sta Z Z.heap "java/lang/StringUTF16" "HI_BYTE_SHIFT" "I" (.int (0 : Int32))) (SU2 : Sta Z Z.heap "java/lang/StringUTF16" "LO_BYTE_SHIFT" "I" (.int (8 : Int32))) (A1 : Arv Z h0 a2 kc .char (2 : Int32) [(.int c0), (.int c1)] dv) : own_MP l (⟨"java/lang/StringUTF16", "toBytes", "([CII)[B"⟩ : MethodName) jdk_52_method_14_code 5 (some (.array .byte)) ws ({ frames := 2, cells := 1, slots := 4, locals := 24 } : Room) Z h0 #[(.ref a2), (.int (0 : Int32)), (.int (2 : Int32))] (fun _ _ _ _ _ => True) (Q_tob2 Z a2 kc dv c0 c1 h0 n0) := by
  refine own_startP (plainFor_of_name own_pn_java_lang_StringUTF16) fun p e s m below meth c s₁ Bd hx hby hml hown0 X0 e0 hh0 hZ hK Pst hPst => ?_
  have hown : s.vm.findClass "java/lang/StringUTF16" = some m.cls := hown0
  have hnm := (name_of_methodNamed Bd.named Bd.method).1
  have N0 := Fr.nil n0
  rw [own_ef_RII_5 m a2 (0 : Int32) (2 : Int32)]
  refine own_x_iloadN X0.here hx (hb hby own_d14_0) rfl ?_
  refine own_cF X0 (Jvm.LawKit.callS X0 hx (y := (⟨"java/lang/StringUTF16", "newBytesFor", "(I)[B"⟩ : MethodName)) hown (mvT hZ (own_w78 hw)) (mvT hZ (own_w79 hw)) (mvT hZ (own_w65 hw)) (mvT hZ (own_w80 hw)) (by decide) (backOf (W := 0) (rm_nbf2 l Z a0 hw []  h0 n0 Z0 ) hZ (own_w80 hw) (own_w65 hw) (by decide) (by decide)) (g := (mkF m 1 #[.val (.ref a2), .val (.int (0 : Int32)), .val (.int (2 : Int32)), .unset, .unset] [(.int (2 : Int32))])) rfl (by rw [hml]; rfl) (argsL := [(.int (2 : Int32))]) (rest := []) (lenOf own_pd2 rfl) rfl (by show 2 * 0 + _ ≤ _; exact Nat.le_of_eq rfl) (hb hby own_d14_1) (fun _ _ => ⟨rfl, e0, (by decide : 0 + 1 ≤ _), (by decide : 0 + 4 ≤ _)⟩)) fun v101 T101 L101 X101 hQ101 => ?_
  obtain ⟨b101, rfl, Nq101, K101, sb101, kb101, V101⟩ := hQ101
  have N101 := Fr.app N0 Nq101
  have ne_a2_b101 : a2 ≠ b101 := Nat.ne_of_lt (Nat.lt_of_lt_of_le A1.lt sb101)
  have gn_b101 : n0 ≤ b101 := Nat.le_trans Z0 sb101
  have sz_b101 : h0.size ≤ b101 := Nat.le_trans (Keep.refl h0 []).1 sb101
  show own_Go p e below Pst (T101.setTop (mkF m 4 #[.val (.ref a2), .val (.int (0 : Int32)), .val (.int (2 : Int32)), .unset, .unset] [(.ref b101)]))
  refine own_x_astoreN X101.here hx (hb hby own_d14_4) rfl rfl (l' := #[.val (.ref a2), .val (.int (0 : Int32)), .val (.int (2 : Int32)), .val (.ref b101), .unset]) rfl ?_
  refine own_x_iconst X101.here hx (hb hby own_d14_5) (z := (0 : Int32)) rfl ?_
  refine own_x_istore X101.here hx (hb hby own_d14_6) rfl (l' := #[.val (.ref a2), .val (.int (0 : Int32)), .val (.int (2 : Int32)), .val (.ref b101), .val (.int (0 : Int32))]) rfl ?_
  refine own_x_iload X101.here hx (hb hby own_d14_8) rfl ?_
  refine own_x_iloadN X101.here hx (hb hby own_d14_10) rfl ?_
  refine own_x_icmpNo X101.here hx (hb hby own_d14_11) rfl (tlt (by decide)).2.1 ?_
  refine own_x_aloadN X101.here hx (hb hby own_d14_14) rfl rfl ?_
  refine own_x_iload X101.here hx (hb hby own_d14_15) rfl ?_
  refine own_x_aloadN X101.here hx (hb hby own_d14_17) rfl rfl ?_
  refine own_x_iloadN X101.here hx (hb hby own_d14_18) rfl ?_
  have c102 := (A1.keep K101 nin0)
  obtain ⟨cl103, Ar103, q103, S103, P103, H103, G103⟩ := id c102
  have hin103 : ¬ ((0 : Int32) < 0 ∨ cl103.slots.size ≤ ((0 : Int32)).toNatClampNeg) := inb_of S103 ⟨by decide, by decide⟩
  have hat103 : cl103.slots[((0 : Int32)).toNatClampNeg]? = some (.int c0) := Has.at H103 hin103 rfl
  refine own_Go.of (S' := T101.setTop (mkF m 20 #[.val (.ref a2), .val (.int (0 : Int32)), .val (.int (2 : Int32)), .val (.ref b101), .val (.int (0 : Int32))] [(.int c0), (.int (0 : Int32)), (.ref b101)])) (fun tgt kst => X101.caload hx (j := (0 : Int32)) (v := (.int c0)) (by exact Ar103.1) (State.isArrayOf_alike hZ.alike Ar103.2.1) Ar103.2.2 hin103 hat103 (g := (mkF m 19 #[.val (.ref a2), .val (.int (0 : Int32)), .val (.int (2 : Int32)), .val (.ref b101), .val (.int (0 : Int32))] [(.int (0 : Int32)), (.ref a2), (.int (0 : Int32)), (.ref b101)])) rfl rfl (hb hby own_d14_19) _ kst) ?_
  have c104 := (O.keep K101 all0)
  have c106 := (Nat.le_trans Z0 K101.1)
  refine own_cF X101 (Jvm.LawKit.callS X101 hx (y := (⟨"java/lang/StringUTF16", "putChar", "([BII)V"⟩ : MethodName)) hown (mvT hZ (own_w85 hw)) (mvT hZ (own_w86 hw)) (mvT hZ (own_w65 hw)) (mvT hZ (own_w87 hw)) (by decide) (backOf (W := 0) (rm_put0 l Z a0 hw [] b101 kb101 (4 : Int32) c0 [(.int (0 : Int32)), (.int (0 : Int32)), (.int (0 : Int32)), (.int (0 : Int32))] T101.heap n0 c106 c104 SU0 SU1 SU2 gn_b101 V101 (by decide) (Nat.le_of_ble_eq_true rfl)) hZ (own_w87 hw) (own_w65 hw) (by decide) (by decide)) (g := (mkF m 20 #[.val (.ref a2), .val (.int (0 : Int32)), .val (.int (2 : Int32)), .val (.ref b101), .val (.int (0 : Int32))] [(.int c0), (.int (0 : Int32)), (.ref b101)])) rfl (by rw [hml]; rfl) (argsL := [(.ref b101), (.int (0 : Int32)), (.int c0)]) (rest := []) (lenOf own_pd3 rfl) rfl (by show 2 * 0 + _ ≤ _; exact Nat.le_of_eq rfl) (hb hby own_d14_20) (fun _ _ => ⟨rfl, rfl, (by decide : 1 + 0 ≤ _), (by decide : 4 + 0 ≤ _)⟩)) fun v105 T105 L105 X105 hQ105 => ?_
  obtain ⟨rfl, Nq105, K105, V105⟩ := hQ105
  have N105 := Fr.app N101 Nq105
  show own_Go p e below Pst (T105.setTop (mkF m 23 #[.val (.ref a2), .val (.int (0 : Int32)), .val (.int (2 : Int32)), .val (.ref b101), .val (.int (0 : Int32))] []))
  refine own_x_iinc X105.here hx (hb hby own_d14_23) rfl (l' := #[.val (.ref a2), .val (.int ((0 : Int32) + (1 : Int32))), .val (.int (2 : Int32)), .val (.ref b101), .val (.int (0 : Int32))]) rfl ?_
  refine own_x_iinc X105.here hx (hb hby own_d14_26) rfl (l' := #[.val (.ref a2), .val (.int ((0 : Int32) + (1 : Int32))), .val (.int (2 : Int32)), .val (.ref b101), .val (.int ((0 : Int32) + (1 : Int32)))]) rfl ?_
  rw [show ((0 : Int32) + (1 : Int32)) = (1 : Int32) from by decide]
  show own_Go p e below Pst (T105.setTop (mkF m 29 #[.val (.ref a2), .val (.int (1 : Int32)), .val (.int (2 : Int32)), .val (.ref b101), .val (.int ((0 : Int32) + (1 : Int32)))] []))
  rw [show ((0 : Int32) + (1 : Int32)) = (1 : Int32) from by decide]
  show own_Go p e below Pst (T105.setTop (mkF m 29 #[.val (.ref a2), .val (.int (1 : Int32)), .val (.int (2 : Int32)), .val (.ref b101), .val (.int (1 : Int32))] []))
  refine own_x_goto X105.here hx (pc0 := 29) (pc' := 8) rfl (hb hby own_d14_29) (by decide) (by decide) ?_
  refine own_x_iload X105.here hx (hb hby own_d14_8) rfl ?_
  refine own_x_iloadN X105.here hx (hb hby own_d14_10) rfl ?_
  refine own_x_icmpNo X105.here hx (hb hby own_d14_11) rfl (tlt (by decide)).2.1 ?_
  refine own_x_aloadN X105.here hx (hb hby own_d14_14) rfl rfl ?_
  refine own_x_iload X105.here hx (hb hby own_d14_15) rfl ?_
  refine own_x_aloadN X105.here hx (hb hby own_d14_17) rfl rfl ?_
  refine own_x_iloadN X105.here hx (hb hby own_d14_18) rfl ?_
  have c107 := (c102.keep K105 (ninS ne_a2_b101 nin0))
  obtain ⟨cl108, Ar108, q108, S108, P108, H108, G108⟩ := id c107
  have hin108 : ¬ ((1 : Int32) < 0 ∨ cl108.slots.size ≤ ((1 : Int32)).toNatClampNeg) := inb_of S108 ⟨by decide, by decide⟩
  have hat108 : cl108.slots[((1 : Int32)).toNatClampNeg]? = some (.int c1) := Has.at H108 hin108 rfl
  refine own_Go.of (S' := T105.setTop (mkF m 20 #[.val (.ref a2), .val (.int (1 : Int32)), .val (.int (2 : Int32)), .val (.ref b101), .val (.int (1 : Int32))] [(.int c1), (.int (1 : Int32)), (.ref b101)])) (fun tgt kst => X105.caload hx (j := (1 : Int32)) (v := (.int c1)) (by exact Ar108.1) (State.isArrayOf_alike hZ.alike Ar108.2.1) Ar108.2.2 hin108 hat108 (g := (mkF m 19 #[.val (.ref a2), .val (.int (1 : Int32)), .val (.int (2 : Int32)), .val (.ref b101), .val (.int (1 : Int32))] [(.int (1 : Int32)), (.ref a2), (.int (1 : Int32)), (.ref b101)])) rfl rfl (hb hby own_d14_19) _ kst) ?_
  have c109 := (c104.keep K105 (allS gn_b101 all0))
  have c111 := (Nat.le_trans c106 K105.1)
  refine own_cF X105 (Jvm.LawKit.callS X105 hx (y := (⟨"java/lang/StringUTF16", "putChar", "([BII)V"⟩ : MethodName)) hown (mvT hZ (own_w85 hw)) (mvT hZ (own_w86 hw)) (mvT hZ (own_w65 hw)) (mvT hZ (own_w87 hw)) (by decide) (backOf (W := 0) (rm_put1 l Z a0 hw [] b101 kb101 (4 : Int32) c1 (([(.int (0 : Int32)), (.int (0 : Int32)), (.int (0 : Int32)), (.int (0 : Int32))].set 0 (.int (own_lo8 c0))).set 1 (.int (own_hi8 c0))) T105.heap n0 c111 c109 SU0 SU1 SU2 gn_b101 V105 (by decide) (Nat.le_of_ble_eq_true rfl)) hZ (own_w87 hw) (own_w65 hw) (by decide) (by decide)) (g := (mkF m 20 #[.val (.ref a2), .val (.int (1 : Int32)), .val (.int (2 : Int32)), .val (.ref b101), .val (.int (1 : Int32))] [(.int c1), (.int (1 : Int32)), (.ref b101)])) rfl (by rw [hml]; rfl) (argsL := [(.ref b101), (.int (1 : Int32)), (.int c1)]) (rest := []) (lenOf own_pd3 rfl) rfl (by show 2 * 0 + _ ≤ _; exact Nat.le_of_eq rfl) (hb hby own_d14_20) (fun _ _ => ⟨rfl, rfl, (by decide : 1 + 0 ≤ _), (by decide : 4 + 0 ≤ _)⟩)) fun v110 T110 L110 X110 hQ110 => ?_
  obtain ⟨rfl, Nq110, K110, V110⟩ := hQ110
  have N110 := Fr.app N105 Nq110
  show own_Go p e below Pst (T110.setTop (mkF m 23 #[.val (.ref a2), .val (.int (1 : Int32)), .val (.int (2 : Int32)), .val (.ref b101), .val (.int (1 : Int32))] []))
  refine own_x_iinc X110.here hx (hb hby own_d14_23) rfl (l' := #[.val (.ref a2), .val (.int ((1 : Int32) + (1 : Int32))), .val (.int (2 : Int32)), .val (.ref b101), .val (.int (1 : Int32))]) rfl ?_
  refine own_x_iinc X110.here hx (hb hby own_d14_26) rfl (l' := #[.val (.ref a2), .val (.int ((1 : Int32) + (1 : Int32))), .val (.int (2 : Int32)), .val (.ref b101), .val (.int ((1 : Int32) + (1 : Int32)))]) rfl ?_
  rw [show ((1 : Int32) + (1 : Int32)) = (2 : Int32) from by decide]
  show own_Go p e below Pst (T110.setTop (mkF m 29 #[.val (.ref a2), .val (.int (2 : Int32)), .val (.int (2 : Int32)), .val (.ref b101), .val (.int ((1 : Int32) + (1 : Int32)))] []))
  rw [show ((1 : Int32) + (1 : Int32)) = (2 : Int32) from by decide]
  show own_Go p e below Pst (T110.setTop (mkF m 29 #[.val (.ref a2), .val (.int (2 : Int32)), .val (.int (2 : Int32)), .val (.ref b101), .val (.int (2 : Int32))] []))
  refine own_x_goto X110.here hx (pc0 := 29) (pc' := 8) rfl (hb hby own_d14_29) (by decide) (by decide) ?_
  refine own_x_iload X110.here hx (hb hby own_d14_8) rfl ?_
  refine own_x_iloadN X110.here hx (hb hby own_d14_10) rfl ?_
  refine own_x_icmpYes X110.here hx (pc0 := 11) (pc' := 32) rfl (hb hby own_d14_11) rfl (flt (by decide)).2.1 (by decide) (by decide) ?_
  refine own_x_aloadN X110.here hx (hb hby own_d14_32) rfl rfl ?_
  have c112 := (Keep.trans (Keep.trans (Keep.trans (Keep.refl h0 []) K101 all0) K105 (allS (Or.inr sz_b101) all0)) K110 (allS (Or.inr sz_b101) all0))
  rw [hPst]
  exact own_retP X110 (v := (some (.ref b101))) (Q := Q_tob2 Z a2 kc dv c0 c1 h0 n0) (fun h => by rw [Bd.returns] at h; cases h) Bd.notSynchronized (fun fs hr => retOut X110 hx Bd.returns rfl (Or.inr (Or.inr (Or.inr (Or.inr ⟨rfl, rfl, rfl⟩)))) (hb hby own_d14_33) hr) (by decide) (by decide) ⟨_, rfl, N110, c112, sz_b101, _, V110⟩
def Q_cmp2_0 (Z : State) (a2 : Addr) (kc : ClassId) (dv : Value) (c0 c1 : Int32) (d : Addr) (kd : ClassId) (h0 : Heap) (n0 : Nat) (v : Option Value) (h : Heap) (L : List Loc) : Prop := v = some (.int (0 : Int32)) ∧ Fr n0 L ∧ Keep h0 h [d]
theorem rm_cmp2_0 (l : Launch) (Z : State) (a0 : Array Value) (hw : own_H a0 Z) (ws : List Jvm.Cond) (a2 : Addr) (kc : ClassId) (dv : Value) (c0 c1 : Int32) (d : Addr) (kd : ClassId) (h0 : Heap) (n0 : Nat) (Z0 : n0 ≤ h0.size) (A1 : Arv Z h0 a2 kc .char (2 : Int32) [(.int c0), (.int c1)] dv) (A2 : Arv Z h0 d kd .byte (2 : Int32) [(.int (0 : Int32)), (.int (0 : Int32))] (.int (0 : Int32))) (gd : n0 ≤ d) (ne : a2 ≠ d) (u : (255 : Int32) < c0) : own_MP l (⟨"java/lang/StringUTF16", "compress", "([CI[BII)I"⟩ : MethodName) jdk_52_method_21_code 7 (some .int) ws ({ frames := 0, cells := 0, slots := 0, locals := 0 } : Room) Z h0 #[(.ref a2), (.int (0 : Int32)), (.ref d), (.int (0 : Int32)), (.int (2 : Int32))] (fun _ _ _ _ _ => True) (Q_cmp2_0 Z a2 kc dv c0 c1 d kd h0 n0) := by
  refine own_startP (plainFor_of_name own_pn_java_lang_StringUTF16) fun p e s m below meth c s₁ Bd hx hby hml hown0 X0 e0 hh0 hZ hK Pst hPst => ?_
  have hown : s.vm.findClass "java/lang/StringUTF16" = some m.cls := hown0
  have hnm := (name_of_methodNamed Bd.named Bd.method).1
  have N0 := Fr.nil n0
  rw [own_ef_RIRII_7 m a2 (0 : Int32) d (0 : Int32) (2 : Int32)]
  refine own_x_iconst X0.here hx (hb hby own_d12_0) (z := (0 : Int32)) rfl ?_
  refine own_x_istore X0.here hx (hb hby own_d12_1) rfl (l' := #[.val (.ref a2), .val (.int (0 : Int32)), .val (.ref d), .val (.int (0 : Int32)), .val (.int (2 : Int32)), .val (.int (0 : Int32)), .unset]) rfl ?_
  refine own_x_iload X0.here hx (hb hby own_d12_3) rfl ?_
  refine own_x_iload X0.here hx (hb hby own_d12_5) rfl ?_
  refine own_x_icmpNo X0.here hx (hb hby own_d12_7) rfl (tlt (by decide)).2.1 ?_
  refine own_x_aloadN X0.here hx (hb hby own_d12_10) rfl rfl ?_
  refine own_x_iloadN X0.here hx (hb hby own_d12_11) rfl ?_
  obtain ⟨cl101, Ar101, q101, S101, P101, H101, G101⟩ := id A1
  have hin101 : ¬ ((0 : Int32) < 0 ∨ cl101.slots.size ≤ ((0 : Int32)).toNatClampNeg) := inb_of S101 ⟨by decide, by decide⟩
  have hat101 : cl101.slots[((0 : Int32)).toNatClampNeg]? = some (.int c0) := Has.at H101 hin101 rfl
  refine own_Go.of (S' := s₁.setTop (mkF m 13 #[.val (.ref a2), .val (.int (0 : Int32)), .val (.ref d), .val (.int (0 : Int32)), .val (.int (2 : Int32)), .val (.int (0 : Int32)), .unset] [(.int c0)])) (fun tgt kst => X0.caload hx (j := (0 : Int32)) (v := (.int c0)) (by rw [e0]; exact Ar101.1) (State.isArrayOf_alike hZ.alike Ar101.2.1) Ar101.2.2 hin101 hat101 (g := (mkF m 12 #[.val (.ref a2), .val (.int (0 : Int32)), .val (.ref d), .val (.int (0 : Int32)), .val (.int (2 : Int32)), .val (.int (0 : Int32)), .unset] [(.int (0 : Int32)), (.ref a2)])) rfl rfl (hb hby own_d12_12) _ kst) ?_
  refine own_x_istore X0.here hx (hb hby own_d12_13) rfl (l' := #[.val (.ref a2), .val (.int (0 : Int32)), .val (.ref d), .val (.int (0 : Int32)), .val (.int (2 : Int32)), .val (.int (0 : Int32)), .val (.int c0)]) rfl ?_
  refine own_x_iload X0.here hx (hb hby own_d12_15) rfl ?_
  refine own_x_sipush X0.here hx (hb hby own_d12_17) (z := (255 : Int32)) rfl ?_
  refine own_x_icmpNo X0.here hx (hb hby own_d12_20) rfl (tlt u).2.2.2 ?_
  refine own_x_iload X0.here hx (hb hby own_d12_23) rfl ?_
  rw [hPst]
  exact own_retP X0 (v := (some (.int (0 : Int32)))) (Q := Q_cmp2_0 Z a2 kc dv c0 c1 d kd h0 n0) (fun h => by rw [Bd.returns] at h; cases h) Bd.notSynchronized (fun fs hr => own_retI X0 hx Bd.returns (hb hby own_d12_25) hr) (by decide) (by decide) (by rw [e0]; exact ⟨rfl, N0, (Keep.refl h0 [d])⟩)
theorem own_d12_26 : decode jdk_52_method_21_code 26 = .ok (.aload_n 2, 1) := by decide +kernel
theorem own_d12_27 : decode jdk_52_method_21_code 27 = .ok (.iload_n 3, 1) := by decide +kernel
theorem own_d12_28 : decode jdk_52_method_21_code 28 = .ok (.iload 6, 2) := by decide +kernel
theorem own_d12_30 : decode jdk_52_method_21_code 30 = .ok (.i2b, 1) := by decide +kernel
theorem own_d12_31 : decode jdk_52_method_21_code 31 = .ok (.bastore, 1) := by decide +kernel
theorem own_d12_32 : decode jdk_52_method_21_code 32 = .ok (.iinc 1 1, 3) := by decide +kernel
theorem own_d12_35 : decode jdk_52_method_21_code 35 = .ok (.iinc 3 1, 3) := by decide +kernel
theorem own_d12_38 : decode jdk_52_method_21_code 38 = .ok (.iinc 5 1, 3) := by decide +kernel
theorem own_d12_41 : decode jdk_52_method_21_code 41 = .ok (.goto (-38), 3) := by decide +kernel
def Q_cmp2_1 (Z : State) (a2 : Addr) (kc : ClassId) (dv : Value) (c0 c1 : Int32) (d : Addr) (kd : ClassId) (h0 : Heap) (n0 : Nat) (v : Option Value) (h : Heap) (L : List Loc) : Prop := v = some (.int (1 : Int32)) ∧ Fr n0 L ∧ Keep h0 h [d]
theorem rm_cmp2_1 (l : Launch) (Z : State) (a0 : Array Value) (hw : own_H a0 Z) (ws : List Jvm.Cond) (a2 : Addr) (kc : ClassId) (dv : Value) (c0 c1 : Int32) (d : Addr) (kd : ClassId) (h0 : Heap) (n0 : Nat) (Z0 : n0 ≤ h0.size) (A1 : Arv Z h0 a2 kc .char (2 : Int32) [(.int c0), (.int c1)] dv) (A2 : Arv Z h0 d kd .byte (2 : Int32) [(.int (0 : Int32)), (.int (0 : Int32))] (.int (0 : Int32))) (gd : n0 ≤ d) (ne : a2 ≠ d) (l0 : ¬ (255 : Int32) < c0) (u : (255 : Int32) < c1) : own_MP l (⟨"java/lang/StringUTF16", "compress", "([CI[BII)I"⟩ : MethodName) jdk_52_method_21_code 7 (some .int) ws ({ frames := 0, cells := 0, slots := 0, locals := 0 } : Room) Z h0 #[(.ref a2), (.int (0 : Int32)), (.ref d), (.int (0 : Int32)), (.int (2 : Int32))] (fun _ _ _ _ _ => True) (Q_cmp2_1 Z a2 kc dv c0 c1 d kd h0 n0) := by
  refine own_startP (plainFor_of_name own_pn_java_lang_StringUTF16) fun p e s m below meth c s₁ Bd hx hby hml hown0 X0 e0 hh0 hZ hK Pst hPst => ?_
  have hown : s.vm.findClass "java/lang/StringUTF16" = some m.cls := hown0
  have hnm := (name_of_methodNamed Bd.named Bd.method).1
  have N0 := Fr.nil n0
  rw [own_ef_RIRII_7 m a2 (0 : Int32) d (0 : Int32) (2 : Int32)]
  refine own_x_iconst X0.here hx (hb hby own_d12_0) (z := (0 : Int32)) rfl ?_
  refine own_x_istore X0.here hx (hb hby own_d12_1) rfl (l' := #[.val (.ref a2), .val (.int (0 : Int32)), .val (.ref d), .val (.int (0 : Int32)), .val (.int (2 : Int32)), .val (.int (0 : Int32)), .unset]) rfl ?_
  refine own_x_iload X0.here hx (hb hby own_d12_3) rfl ?_
  refine own_x_iload X0.here hx (hb hby own_d12_5) rfl ?_
  refine own_x_icmpNo X0.here hx (hb hby own_d12_7) rfl (tlt (by decide)).2.1 ?_
  refine own_x_aloadN X0.here hx (hb hby own_d12_10) rfl rfl ?_
  refine own_x_iloadN X0.here hx (hb hby own_d12_11) rfl ?_
  obtain ⟨cl101, Ar101, q101, S101, P101, H101, G101⟩ := id A1
  have hin101 : ¬ ((0 : Int32) < 0 ∨ cl101.slots.size ≤ ((0 : Int32)).toNatClampNeg) := inb_of S101 ⟨by decide, by decide⟩
  have hat101 : cl101.slots[((0 : Int32)).toNatClampNeg]? = some (.int c0) := Has.at H101 hin101 rfl
  refine own_Go.of (S' := s₁.setTop (mkF m 13 #[.val (.ref a2), .val (.int (0 : Int32)), .val (.ref d), .val (.int (0 : Int32)), .val (.int (2 : Int32)), .val (.int (0 : Int32)), .unset] [(.int c0)])) (fun tgt kst => X0.caload hx (j := (0 : Int32)) (v := (.int c0)) (by rw [e0]; exact Ar101.1) (State.isArrayOf_alike hZ.alike Ar101.2.1) Ar101.2.2 hin101 hat101 (g := (mkF m 12 #[.val (.ref a2), .val (.int (0 : Int32)), .val (.ref d), .val (.int (0 : Int32)), .val (.int (2 : Int32)), .val (.int (0 : Int32)), .unset] [(.int (0 : Int32)), (.ref a2)])) rfl rfl (hb hby own_d12_12) _ kst) ?_
  refine own_x_istore X0.here hx (hb hby own_d12_13) rfl (l' := #[.val (.ref a2), .val (.int (0 : Int32)), .val (.ref d), .val (.int (0 : Int32)), .val (.int (2 : Int32)), .val (.int (0 : Int32)), .val (.int c0)]) rfl ?_
  refine own_x_iload X0.here hx (hb hby own_d12_15) rfl ?_
  refine own_x_sipush X0.here hx (hb hby own_d12_17) (z := (255 : Int32)) rfl ?_
  refine own_x_icmpYes X0.here hx (pc0 := 20) (pc' := 26) rfl (hb hby own_d12_20) rfl (flt l0).2.2.2 (by decide) (by decide) ?_
  refine own_x_aloadN X0.here hx (hb hby own_d12_26) rfl rfl ?_
  refine own_x_iloadN X0.here hx (hb hby own_d12_27) rfl ?_
  refine own_x_iload X0.here hx (hb hby own_d12_28) rfl ?_
  refine own_x_i2b X0.here hx (hb hby own_d12_30) rfl ?_
  refine own_h_arB X0 hx hZ e0 A2 (0 : Int32) 0 ⟨by decide, by decide⟩ rfl (Nat.le_of_ble_eq_true rfl) rfl (hb hby own_d12_31) fun T102 h102 X102 e102 W102 V102 => ?_
  have N102 := Fr.snoc X102 N0 gd
  refine own_x_iinc X102.here hx (hb hby own_d12_32) rfl (l' := #[.val (.ref a2), .val (.int ((0 : Int32) + (1 : Int32))), .val (.ref d), .val (.int (0 : Int32)), .val (.int (2 : Int32)), .val (.int (0 : Int32)), .val (.int c0)]) rfl ?_
  refine own_x_iinc X102.here hx (hb hby own_d12_35) rfl (l' := #[.val (.ref a2), .val (.int ((0 : Int32) + (1 : Int32))), .val (.ref d), .val (.int ((0 : Int32) + (1 : Int32))), .val (.int (2 : Int32)), .val (.int (0 : Int32)), .val (.int c0)]) rfl ?_
  refine own_x_iinc X102.here hx (hb hby own_d12_38) rfl (l' := #[.val (.ref a2), .val (.int ((0 : Int32) + (1 : Int32))), .val (.ref d), .val (.int ((0 : Int32) + (1 : Int32))), .val (.int (2 : Int32)), .val (.int ((0 : Int32) + (1 : Int32))), .val (.int c0)]) rfl ?_
  rw [show ((0 : Int32) + (1 : Int32)) = (1 : Int32) from by decide]
  show own_Go p e below Pst (T102.setTop (mkF m 41 #[.val (.ref a2), .val (.int (1 : Int32)), .val (.ref d), .val (.int ((0 : Int32) + (1 : Int32))), .val (.int (2 : Int32)), .val (.int ((0 : Int32) + (1 : Int32))), .val (.int c0)] []))
  rw [show ((0 : Int32) + (1 : Int32)) = (1 : Int32) from by decide]
  show own_Go p e below Pst (T102.setTop (mkF m 41 #[.val (.ref a2), .val (.int (1 : Int32)), .val (.ref d), .val (.int (1 : Int32)), .val (.int (2 : Int32)), .val (.int ((0 : Int32) + (1 : Int32))), .val (.int c0)] []))
  rw [show ((0 : Int32) + (1 : Int32)) = (1 : Int32) from by decide]
  show own_Go p e below Pst (T102.setTop (mkF m 41 #[.val (.ref a2), .val (.int (1 : Int32)), .val (.ref d), .val (.int (1 : Int32)), .val (.int (2 : Int32)), .val (.int (1 : Int32)), .val (.int c0)] []))
  refine own_x_goto X102.here hx (pc0 := 41) (pc' := 3) rfl (hb hby own_d12_41) (by decide) (by decide) ?_
  refine own_x_iload X102.here hx (hb hby own_d12_3) rfl ?_
  refine own_x_iload X102.here hx (hb hby own_d12_5) rfl ?_
  refine own_x_icmpNo X102.here hx (hb hby own_d12_7) rfl (tlt (by decide)).2.1 ?_
  refine own_x_aloadN X102.here hx (hb hby own_d12_10) rfl rfl ?_
  refine own_x_iloadN X102.here hx (hb hby own_d12_11) rfl ?_
  have c103 := (A1.other W102 ne)
  obtain ⟨cl104, Ar104, q104, S104, P104, H104, G104⟩ := id c103
  have hin104 : ¬ ((1 : Int32) < 0 ∨ cl104.slots.size ≤ ((1 : Int32)).toNatClampNeg) := inb_of S104 ⟨by decide, by decide⟩
  have hat104 : cl104.slots[((1 : Int32)).toNatClampNeg]? = some (.int c1) := Has.at H104 hin104 rfl
  refine own_Go.of (S' := T102.setTop (mkF m 13 #[.val (.ref a2), .val (.int (1 : Int32)), .val (.ref d), .val (.int (1 : Int32)), .val (.int (2 : Int32)), .val (.int (1 : Int32)), .val (.int c0)] [(.int c1)])) (fun tgt kst => X102.caload hx (j := (1 : Int32)) (v := (.int c1)) (by rw [e102]; exact Ar104.1) (State.isArrayOf_alike hZ.alike Ar104.2.1) Ar104.2.2 hin104 hat104 (g := (mkF m 12 #[.val (.ref a2), .val (.int (1 : Int32)), .val (.ref d), .val (.int (1 : Int32)), .val (.int (2 : Int32)), .val (.int (1 : Int32)), .val (.int c0)] [(.int (1 : Int32)), (.ref a2)])) rfl rfl (hb hby own_d12_12) _ kst) ?_
  refine own_x_istore X102.here hx (hb hby own_d12_13) rfl (l' := #[.val (.ref a2), .val (.int (1 : Int32)), .val (.ref d), .val (.int (1 : Int32)), .val (.int (2 : Int32)), .val (.int (1 : Int32)), .val (.int c1)]) rfl ?_
  refine own_x_iload X102.here hx (hb hby own_d12_15) rfl ?_
  refine own_x_sipush X102.here hx (hb hby own_d12_17) (z := (255 : Int32)) rfl ?_
  refine own_x_icmpNo X102.here hx (hb hby own_d12_20) rfl (tlt u).2.2.2 ?_
  refine own_x_iload X102.here hx (hb hby own_d12_23) rfl ?_
  have c105 := ((Keep.refl h0 [d]).wr W102 (Or.inl (List.mem_of_getElem? (i := 0) rfl)))
  rw [hPst]
  exact own_retP X102 (v := (some (.int (1 : Int32)))) (Q := Q_cmp2_1 Z a2 kc dv c0 c1 d kd h0 n0) (fun h => by rw [Bd.returns] at h; cases h) Bd.notSynchronized (fun fs hr => own_retI X102 hx Bd.returns (hb hby own_d12_25) hr) (by decide) (by decide) (by rw [e102]; exact ⟨rfl, N102, c105⟩)
def Q_cu2 (Z : State) (a2 : Addr) (kc : ClassId) (dv : Value) (c0 c1 : Int32) (h0 : Heap) (n0 : Nat) (v : Option Value) (h : Heap) (L : List Loc) : Prop := ∃ (b : Addr), v = some (.ref b) ∧ Fr n0 L ∧ Keep h0 h [] ∧ h0.size ≤ b ∧ ∃ kb : ClassId, Arv Z h b kb .byte (4 : Int32) (own_u16 [c0, c1]) (.int 0)
theorem rm_cu2 (l : Launch) (Z : State) (a0 : Array Value) (hw : own_H a0 Z) (ws : List Jvm.Cond) (a2 : Addr) (kc : ClassId) (dv : Value) (c0 c1 : Int32) (h0 : Heap) (n0 : Nat) (Z0 : n0 ≤ h0.size) (O : Old Z n0 h0) (SU0 : Sta Z Z.heap "java/lang/StringUTF16" "$assertionsDisabled" "Z" (.int (1 : Int32))) (SU1 : Sta Z Z.heap "java/lang/StringUTF16" "HI_BYTE_SHIFT" "I" (.int (0 : Int32))) (SU2 : Sta Z Z.heap "java/lang/StringUTF16" "LO_BYTE_SHIFT" "I" (.int (8 : Int32))) (A1 : Arv Z h0 a2 kc .char (2 : Int32) [(.int c0), (.int c1)] dv) (hr : ¬ c0 < 0 ∧ ¬ (65535 : Int32) < c0 ∧ ¬ c1 < 0 ∧ ¬ (65535 : Int32) < c1) (hbad : ¬ (¬ (255 : Int32) < c0 ∧ ¬ (255 : Int32) < c1)) : own_MP l (⟨"java/lang/StringUTF16", "compress", "([CII)[B"⟩ : MethodName) jdk_52_method_16_code 6 (some (.array .byte)) ws ({ frames := 3, cells := 2, slots := 6, locals := 40 } : Room) Z h0 #[(.ref a2), (.int (0 : Int32)), (.int (2 : Int32))] (fun _ _ _ _ _ => True) (Q_cu2 Z a2 kc dv c0 c1 h0 n0) := by
  refine own_startP (plainFor_of_name own_pn_java_lang_StringUTF16) fun p e s m below meth c s₁ Bd hx hby hml hown0 X0 e0 hh0 hZ hK Pst hPst => ?_
  have hown : s.vm.findClass "java/lang/StringUTF16" = some m.cls := hown0
  have hnm := (name_of_methodNamed Bd.named Bd.method).1
  have N0 := Fr.nil n0
  rw [own_ef_RII_6 m a2 (0 : Int32) (2 : Int32)]
  refine own_x_iloadN X0.here hx (hb hby own_d11_0) rfl ?_
  refine own_h_newP (aty := .byte) X0 hx hZ (own_w21 hw) e0 (hb hby own_d11_1) rfl (by decide) (cap := 2) (by decide) (by decide) (by decide) (by decide) fun T101 h101 k101 b101 g101 X101 e101 E101 A101 => ?_
  have ne_a2_b101 : a2 ≠ b101 := Nat.ne_of_lt (Nat.lt_of_lt_of_le A1.lt (Nat.le_of_eq g101.symm))
  have gn_b101 : n0 ≤ b101 := Nat.le_trans Z0 (Nat.le_of_eq g101.symm)
  have sz_b101 : h0.size ≤ b101 := Nat.le_trans (Keep.refl h0 []).1 (Nat.le_of_eq g101.symm)
  have V101 : Arv Z h101 b101 k101 .byte (2 : Int32) [(.int (0 : Int32)), (.int (0 : Int32))] (.int (0 : Int32)) := (Arv.new A101 (by decide)).pad (pad_rep [] (.int (0 : Int32)) 2)
  refine own_x_astoreN X101.here hx (hb hby own_d11_3) rfl rfl (l' := #[.val (.ref a2), .val (.int (0 : Int32)), .val (.int (2 : Int32)), .val (.ref b101), .unset, .unset]) rfl ?_
  refine own_x_aloadN X101.here hx (hb hby own_d11_4) rfl rfl ?_
  refine own_x_iloadN X101.here hx (hb hby own_d11_5) rfl ?_
  refine own_x_aloadN X101.here hx (hb hby own_d11_6) rfl rfl ?_
  refine own_x_iconst X101.here hx (hb hby own_d11_7) (z := (0 : Int32)) rfl ?_
  refine own_x_iloadN X101.here hx (hb hby own_d11_8) rfl ?_
  by_cases u0 : (255 : Int32) < c0
  · have c102 := (A1.ext E101)
    have c104 := (Nat.le_trans Z0 E101.1)
    refine own_cF X101 (Jvm.LawKit.callS X101 hx (y := (⟨"java/lang/StringUTF16", "compress", "([CI[BII)I"⟩ : MethodName)) hown (mvT hZ (own_w67 hw)) (mvT hZ (own_w68 hw)) (mvT hZ (own_w65 hw)) (mvT hZ (own_w69 hw)) (by decide) (backOf (W := 0) (rm_cmp2_0 l Z a0 hw [] a2 kc dv c0 c1 b101 k101 h101 n0 c104 c102 V101 gn_b101 ne_a2_b101  u0) hZ (own_w69 hw) (own_w65 hw) (by decide) (by decide)) (g := (mkF m 9 #[.val (.ref a2), .val (.int (0 : Int32)), .val (.int (2 : Int32)), .val (.ref b101), .unset, .unset] [(.int (2 : Int32)), (.int (0 : Int32)), (.ref b101), (.int (0 : Int32)), (.ref a2)])) rfl (by rw [hml]; rfl) (argsL := [(.ref a2), (.int (0 : Int32)), (.ref b101), (.int (0 : Int32)), (.int (2 : Int32))]) (rest := []) (lenOf own_pd4 rfl) rfl (by show 2 * 0 + _ ≤ _; exact Nat.le_of_eq rfl) (hb hby own_d11_9) (fun _ _ => ⟨rfl, e101, (by decide : 1 + 0 ≤ _), (by decide : 2 + 0 ≤ _)⟩)) fun v103 T103 L103 X103 hQ103 => ?_
    obtain ⟨rfl, Nq103, K103⟩ := hQ103
    have N103 := Fr.app N0 Nq103
    show own_Go p e below Pst (T103.setTop (mkF m 12 #[.val (.ref a2), .val (.int (0 : Int32)), .val (.int (2 : Int32)), .val (.ref b101), .unset, .unset] [(.int (0 : Int32))]))
    refine own_x_istore X103.here hx (hb hby own_d11_12) rfl (l' := #[.val (.ref a2), .val (.int (0 : Int32)), .val (.int (2 : Int32)), .val (.ref b101), .val (.int (0 : Int32)), .unset]) rfl ?_
    refine own_x_iload X103.here hx (hb hby own_d11_14) rfl ?_
    refine own_x_iloadN X103.here hx (hb hby own_d11_16) rfl ?_
    refine own_x_icmpNo X103.here hx (hb hby own_d11_17) rfl (feq (by decide)).1 ?_
    refine own_x_aloadN X103.here hx (hb hby own_d11_20) rfl rfl ?_
    refine own_x_iloadN X103.here hx (hb hby own_d11_21) rfl ?_
    refine own_x_iloadN X103.here hx (hb hby own_d11_22) rfl ?_
    have c105 := ((O.ext E101).keep K103 (allS gn_b101 all0))
    have c106 := (c102.keep K103 (ninS ne_a2_b101 nin0))
    have c108 := (Nat.le_trans c104 K103.1)
    refine own_cF X103 (Jvm.LawKit.callS X103 hx (y := (⟨"java/lang/StringUTF16", "toBytes", "([CII)[B"⟩ : MethodName)) hown (mvT hZ (own_w75 hw)) (mvT hZ (own_w76 hw)) (mvT hZ (own_w65 hw)) (mvT hZ (own_w77 hw)) (by decide) (backOf (W := 0) (rm_tob2 l Z a0 hw [] a2 kc dv c0 c1 T103.heap n0 c108 c105 SU0 SU1 SU2 c106) hZ (own_w77 hw) (own_w65 hw) (by decide) (by decide)) (g := (mkF m 23 #[.val (.ref a2), .val (.int (0 : Int32)), .val (.int (2 : Int32)), .val (.ref b101), .val (.int (0 : Int32)), .unset] [(.int (2 : Int32)), (.int (0 : Int32)), (.ref a2)])) rfl (by rw [hml]; rfl) (argsL := [(.ref a2), (.int (0 : Int32)), (.int (2 : Int32))]) (rest := []) (lenOf own_pd5 rfl) rfl (by show 2 * 0 + _ ≤ _; exact Nat.le_of_eq rfl) (hb hby own_d11_23) (fun _ _ => ⟨rfl, rfl, (by decide : 1 + 1 ≤ _), (by decide : 2 + 4 ≤ _)⟩)) fun v107 T107 L107 X107 hQ107 => ?_
    obtain ⟨b107, rfl, Nq107, K107, sb107, kb107, V107⟩ := hQ107
    have N107 := Fr.app N103 Nq107
    have ne_a2_b107 : a2 ≠ b107 := Nat.ne_of_lt (Nat.lt_of_lt_of_le c106.lt sb107)
    have gn_b107 : n0 ≤ b107 := Nat.le_trans c108 sb107
    have c109 := (Keep.trans ((Keep.refl h0 []).ext E101) K103 (allS (Or.inr sz_b101) all0))
    have sz_b107 : h0.size ≤ b107 := Nat.le_trans c109.1 sb107
    show own_Go p e below Pst (T107.setTop (mkF m 26 #[.val (.ref a2), .val (.int (0 : Int32)), .val (.int (2 : Int32)), .val (.ref b101), .val (.int (0 : Int32)), .unset] [(.ref b107)]))
    refine own_x_astore X107.here hx (hb hby own_d11_26) rfl rfl (l' := #[.val (.ref a2), .val (.int (0 : Int32)), .val (.int (2 : Int32)), .val (.ref b101), .val (.int (0 : Int32)), .val (.ref b107)]) rfl ?_
    refine own_x_aload X107.here hx (hb hby own_d11_28) rfl rfl ?_
    refine own_x_iload X107.here hx (hb hby own_d11_30) rfl ?_
    have c110 := (c105.keep K107 all0)
    have c112 := (Nat.le_trans c108 K107.1)
    refine own_cF X107 (Jvm.LawKit.callS X107 hx (y := (⟨"java/lang/StringUTF16", "getChar", "([BI)C"⟩ : MethodName)) hown (mvT hZ (own_w91 hw)) (mvT hZ (own_w92 hw)) (mvT hZ (own_w65 hw)) (mvT hZ (own_w93 hw)) (by decide) (backOf (W := 0) (rm_getc0 l Z a0 hw [] b107 kb107 (4 : Int32) (own_lo8 c0) (own_hi8 c0) (own_u16 [c0, c1]) T107.heap n0 c112 c110 SU0 SU1 SU2 V107 (by decide) rfl rfl) hZ (own_w93 hw) (own_w65 hw) (by decide) (by decide)) (g := (mkF m 32 #[.val (.ref a2), .val (.int (0 : Int32)), .val (.int (2 : Int32)), .val (.ref b101), .val (.int (0 : Int32)), .val (.ref b107)] [(.int (0 : Int32)), (.ref b107)])) rfl (by rw [hml]; rfl) (argsL := [(.ref b107), (.int (0 : Int32))]) (rest := []) (lenOf own_pd6 rfl) rfl (by show 2 * 0 + _ ≤ _; exact Nat.le_of_eq rfl) (hb hby own_d11_32) (fun _ _ => ⟨rfl, rfl, (by decide : 2 + 0 ≤ _), (by decide : 6 + 0 ≤ _)⟩)) fun v111 T111 L111 X111 hQ111 => ?_
    obtain ⟨rfl, Nq111, e111⟩ := hQ111
    have N111 := Fr.app N107 Nq111
    show own_Go p e below Pst (T111.setTop (mkF m 35 #[.val (.ref a2), .val (.int (0 : Int32)), .val (.int (2 : Int32)), .val (.ref b101), .val (.int (0 : Int32)), .val (.ref b107)] [(.int (nar .char (own_join (own_lo8 c0) (own_hi8 c0))))]))
    rw [own_join_eq hr.1 hr.2.1]
    show own_Go p e below Pst (T111.setTop (mkF m 35 #[.val (.ref a2), .val (.int (0 : Int32)), .val (.int (2 : Int32)), .val (.ref b101), .val (.int (0 : Int32)), .val (.ref b107)] [(.int c0)]))
    refine own_x_sipush X111.here hx (hb hby own_d11_35) (z := (255 : Int32)) rfl ?_
    refine own_x_icmpYes X111.here hx (pc0 := 38) (pc' := 54) rfl (hb hby own_d11_38) rfl (tlt u0).2.2.1 (by decide) (by decide) ?_
    refine own_x_aload X111.here hx (hb hby own_d11_54) rfl rfl ?_
    have c113 := (Keep.trans c109 K107 all0)
    rw [hPst]
    exact own_retP X111 (v := (some (.ref b107))) (Q := Q_cu2 Z a2 kc dv c0 c1 h0 n0) (fun h => by rw [Bd.returns] at h; cases h) Bd.notSynchronized (fun fs hr => retOut X111 hx Bd.returns rfl (Or.inr (Or.inr (Or.inr (Or.inr ⟨rfl, rfl, rfl⟩)))) (hb hby own_d11_56) hr) (by decide) (by decide) (by rw [e111]; exact ⟨_, rfl, N111, c113, sz_b107, _, V107⟩)
  · have l0 := u0
    clear u0
    have u1 : (255 : Int32) < c1 := by
      by_cases q : (255 : Int32) < c1
      · exact q
      · exact absurd ⟨l0, q⟩ hbad
    have c114 := (A1.ext E101)
    have c116 := (Nat.le_trans Z0 E101.1)
    refine own_cF X101 (Jvm.LawKit.callS X101 hx (y := (⟨"java/lang/StringUTF16", "compress", "([CI[BII)I"⟩ : MethodName)) hown (mvT hZ (own_w67 hw)) (mvT hZ (own_w68 hw)) (mvT hZ (own_w65 hw)) (mvT hZ (own_w69 hw)) (by decide) (backOf (W := 0) (rm_cmp2_1 l Z a0 hw [] a2 kc dv c0 c1 b101 k101 h101 n0 c116 c114 V101 gn_b101 ne_a2_b101 l0 u1) hZ (own_w69 hw) (own_w65 hw) (by decide) (by decide)) (g := (mkF m 9 #[.val (.ref a2), .val (.int (0 : Int32)), .val (.int (2 : Int32)), .val (.ref b101), .unset, .unset] [(.int (2 : Int32)), (.int (0 : Int32)), (.ref b101), (.int (0 : Int32)), (.ref a2)])) rfl (by rw [hml]; rfl) (argsL := [(.ref a2), (.int (0 : Int32)), (.ref b101), (.int (0 : Int32)), (.int (2 : Int32))]) (rest := []) (lenOf own_pd4 rfl) rfl (by show 2 * 0 + _ ≤ _; exact Nat.le_of_eq rfl) (hb hby own_d11_9) (fun _ _ => ⟨rfl, e101, (by decide : 1 + 0 ≤ _), (by decide : 2 + 0 ≤ _)⟩)) fun v115 T115 L115 X115 hQ115 => ?_
    obtain ⟨rfl, Nq115, K115⟩ := hQ115
    have N115 := Fr.app N0 Nq115
    show own_Go p e below Pst (T115.setTop (mkF m 12 #[.val (.ref a2), .val (.int (0 : Int32)), .val (.int (2 : Int32)), .val (.ref b101), .unset, .unset] [(.int (1 : Int32))]))
    refine own_x_istore X115.here hx (hb hby own_d11_12) rfl (l' := #[.val (.ref a2), .val (.int (0 : Int32)), .val (.int (2 : Int32)), .val (.ref b101), .val (.int (1 : Int32)), .unset]) rfl ?_
    refine own_x_iload X115.here hx (hb hby own_d11_14) rfl ?_
    refine own_x_iloadN X115.here hx (hb hby own_d11_16) rfl ?_
    refine own_x_icmpNo X115.here hx (hb hby own_d11_17) rfl (feq (by decide)).1 ?_
    refine own_x_aloadN X115.here hx (hb hby own_d11_20) rfl rfl ?_
    refine own_x_iloadN X115.here hx (hb hby own_d11_21) rfl ?_
    refine own_x_iloadN X115.here hx (hb hby own_d11_22) rfl ?_
    have c117 := ((O.ext E101).keep K115 (allS gn_b101 all0))
    have c118 := (c114.keep K115 (ninS ne_a2_b101 nin0))
    have c120 := (Nat.le_trans c116 K115.1)
    refine own_cF X115 (Jvm.LawKit.callS X115 hx (y := (⟨"java/lang/StringUTF16", "toBytes", "([CII)[B"⟩ : MethodName)) hown (mvT hZ (own_w75 hw)) (mvT hZ (own_w76 hw)) (mvT hZ (own_w65 hw)) (mvT hZ (own_w77 hw)) (by decide) (backOf (W := 0) (rm_tob2 l Z a0 hw [] a2 kc dv c0 c1 T115.heap n0 c120 c117 SU0 SU1 SU2 c118) hZ (own_w77 hw) (own_w65 hw) (by decide) (by decide)) (g := (mkF m 23 #[.val (.ref a2), .val (.int (0 : Int32)), .val (.int (2 : Int32)), .val (.ref b101), .val (.int (1 : Int32)), .unset] [(.int (2 : Int32)), (.int (0 : Int32)), (.ref a2)])) rfl (by rw [hml]; rfl) (argsL := [(.ref a2), (.int (0 : Int32)), (.int (2 : Int32))]) (rest := []) (lenOf own_pd5 rfl) rfl (by show 2 * 0 + _ ≤ _; exact Nat.le_of_eq rfl) (hb hby own_d11_23) (fun _ _ => ⟨rfl, rfl, (by decide : 1 + 1 ≤ _), (by decide : 2 + 4 ≤ _)⟩)) fun v119 T119 L119 X119 hQ119 => ?_
    obtain ⟨b119, rfl, Nq119, K119, sb119, kb119, V119⟩ := hQ119
    have N119 := Fr.app N115 Nq119
    have ne_a2_b119 : a2 ≠ b119 := Nat.ne_of_lt (Nat.lt_of_lt_of_le c118.lt sb119)
    have gn_b119 : n0 ≤ b119 := Nat.le_trans c120 sb119
    have c121 := (Keep.trans ((Keep.refl h0 []).ext E101) K115 (allS (Or.inr sz_b101) all0))
    have sz_b119 : h0.size ≤ b119 := Nat.le_trans c121.1 sb119
    show own_Go p e below Pst (T119.setTop (mkF m 26 #[.val (.ref a2), .val (.int (0 : Int32)), .val (.int (2 : Int32)), .val (.ref b101), .val (.int (1 : Int32)), .unset] [(.ref b119)]))
    refine own_x_astore X119.here hx (hb hby own_d11_26) rfl rfl (l' := #[.val (.ref a2), .val (.int (0 : Int32)), .val (.int (2 : Int32)), .val (.ref b101), .val (.int (1 : Int32)), .val (.ref b119)]) rfl ?_
    refine own_x_aload X119.here hx (hb hby own_d11_28) rfl rfl ?_
    refine own_x_iload X119.here hx (hb hby own_d11_30) rfl ?_
    have c122 := (c117.keep K119 all0)
    have c124 := (Nat.le_trans c120 K119.1)
    refine own_cF X119 (Jvm.LawKit.callS X119 hx (y := (⟨"java/lang/StringUTF16", "getChar", "([BI)C"⟩ : MethodName)) hown (mvT hZ (own_w91 hw)) (mvT hZ (own_w92 hw)) (mvT hZ (own_w65 hw)) (mvT hZ (own_w93 hw)) (by decide) (backOf (W := 0) (rm_getc1 l Z a0 hw [] b119 kb119 (4 : Int32) (own_lo8 c1) (own_hi8 c1) (own_u16 [c0, c1]) T119.heap n0 c124 c122 SU0 SU1 SU2 V119 (by decide) rfl rfl) hZ (own_w93 hw) (own_w65 hw) (by decide) (by decide)) (g := (mkF m 32 #[.val (.ref a2), .val (.int (0 : Int32)), .val (.int (2 : Int32)), .val (.ref b101), .val (.int (1 : Int32)), .val (.ref b119)] [(.int (1 : Int32)), (.ref b119)])) rfl (by rw [hml]; rfl) (argsL := [(.ref b119), (.int (1 : Int32))]) (rest := []) (lenOf own_pd6 rfl) rfl (by show 2 * 0 + _ ≤ _; exact Nat.le_of_eq rfl) (hb hby own_d11_32) (fun _ _ => ⟨rfl, rfl, (by decide : 2 + 0 ≤ _), (by decide : 6 + 0 ≤ _)⟩)) fun v123 T123 L123 X123 hQ123 => ?_
    obtain ⟨rfl, Nq123, e123⟩ := hQ123
    have N123 := Fr.app N119 Nq123
    show own_Go p e below Pst (T123.setTop (mkF m 35 #[.val (.ref a2), .val (.int (0 : Int32)), .val (.int (2 : Int32)), .val (.ref b101), .val (.int (1 : Int32)), .val (.ref b119)] [(.int (nar .char (own_join (own_lo8 c1) (own_hi8 c1))))]))
    rw [own_join_eq hr.2.2.1 hr.2.2.2]
    show own_Go p e below Pst (T123.setTop (mkF m 35 #[.val (.ref a2), .val (.int (0 : Int32)), .val (.int (2 : Int32)), .val (.ref b101), .val (.int (1 : Int32)), .val (.ref b119)] [(.int c1)]))
    refine own_x_sipush X123.here hx (hb hby own_d11_35) (z := (255 : Int32)) rfl ?_
    refine own_x_icmpYes X123.here hx (pc0 := 38) (pc' := 54) rfl (hb hby own_d11_38) rfl (tlt u1).2.2.1 (by decide) (by decide) ?_
    refine own_x_aload X123.here hx (hb hby own_d11_54) rfl rfl ?_
    have c125 := (Keep.trans c121 K119 all0)
    rw [hPst]
    exact own_retP X123 (v := (some (.ref b119))) (Q := Q_cu2 Z a2 kc dv c0 c1 h0 n0) (fun h => by rw [Bd.returns] at h; cases h) Bd.notSynchronized (fun fs hr => retOut X123 hx Bd.returns rfl (Or.inr (Or.inr (Or.inr (Or.inr ⟨rfl, rfl, rfl⟩)))) (hb hby own_d11_56) hr) (by decide) (by decide) (by rw [e123]; exact ⟨_, rfl, N123, c125, sz_b119, _, V119⟩)
def Q_codl2 (Z : State) (b : Addr) (kb : ClassId) (vs : List Value) (h0 : Heap) (n0 : Nat) (v : Option Value) (h : Heap) (L : List Loc) : Prop := v = some (.int (1 : Int32)) ∧ Fr n0 L ∧ h = h0
theorem rm_codl2 (l : Launch) (Z : State) (a0 : Array Value) (hw : own_H a0 Z) (ws : List Jvm.Cond) (b : Addr) (kb : ClassId) (vs : List Value) (h0 : Heap) (n0 : Nat) (Z0 : n0 ≤ h0.size) (A1 : Arv Z h0 b kb .byte (4 : Int32) vs (.int 0)) : own_MP l (⟨"java/lang/StringUTF16", "coderFromArrayLen", "([BI)B"⟩ : MethodName) jdk_52_method_15_code 2 (some .byte) ws ({ frames := 0, cells := 0, slots := 0, locals := 0 } : Room) Z h0 #[(.ref b), (.int (2 : Int32))] (fun _ _ _ _ _ => True) (Q_codl2 Z b kb vs h0 n0) := by
  refine own_startP (plainFor_of_name own_pn_java_lang_StringUTF16) fun p e s m below meth c s₁ Bd hx hby hml hown0 X0 e0 hh0 hZ hK Pst hPst => ?_
  have hown : s.vm.findClass "java/lang/StringUTF16" = some m.cls := hown0
  have hnm := (name_of_methodNamed Bd.named Bd.method).1
  have N0 := Fr.nil n0
  rw [own_ef_RI_2 m b (2 : Int32)]
  refine own_x_iloadN X0.here hx (hb hby own_d13_0) rfl ?_
  refine own_x_aloadN X0.here hx (hb hby own_d13_1) rfl rfl ?_
  obtain ⟨cl101, Ar101, -, S101, P101, -, -⟩ := id A1
  refine own_Go.of (S' := s₁.setTop (mkF m 3 #[.val (.ref b), .val (.int (2 : Int32))] [(.int (4 : Int32)), (.int (2 : Int32))])) (fun tgt kst => X0.arraylength hx (by rw [e0]; exact Ar101.1) (State.isArrayOf_alike hZ.alike Ar101.2.1) (g := (mkF m 2 #[.val (.ref b), .val (.int (2 : Int32))] [(.ref b), (.int (2 : Int32))])) rfl rfl (hb hby own_d13_2) _ (by rw [len_of S101 P101]; exact kst)) ?_
  refine own_x_isub X0.here hx (hb hby own_d13_3) rfl ?_
  refine own_x_bipush X0.here hx (hb hby own_d13_4) (z := (31 : Int32)) rfl ?_
  refine own_x_iushr X0.here hx (hb hby own_d13_6) rfl ?_
  refine own_x_i2b X0.here hx (hb hby own_d13_7) rfl ?_
  rw [show (((((2 : Int32) - (4 : Int32)).toUInt32 >>> ((31 : Int32) &&& 31).toUInt32).toInt32).toInt8.toInt32) = (1 : Int32) from by decide]
  show own_Go p e below Pst (s₁.setTop (mkF m 8 #[.val (.ref b), .val (.int (2 : Int32))] [(.int (1 : Int32))]))
  rw [hPst]
  exact own_retP X0 (v := (some (.int (nar .byte (1 : Int32))))) (Q := Q_codl2 Z b kb vs h0 n0) (fun h => by rw [Bd.returns] at h; cases h) Bd.notSynchronized (fun fs hr => retN X0 hx (t := .byte) Bd.returns (by simp) (hb hby own_d13_8) hr) (by decide) (by decide) (by rw [e0]; exact ⟨rfl, N0, rfl⟩)
def Q_i4u2 (Z : State) (z : Int32) (a1 a2 : Addr) (kc : ClassId) (dv : Value) (c0 c1 : Int32) (u1 u2 : Value) (h0 : Heap) (n0 : Nat) (v : Option Value) (h : Heap) (L : List Loc) : Prop := v = none ∧ Fr n0 L ∧ Keep h0 h [a1] ∧ Exa Z h a1 "java/lang/String" ∧ Fld Z h a1 "java/lang/String" "coder" "B" (.int (1 : Int32)) ∧ ∃ (t : Addr) (kb : ClassId), h0.size ≤ t ∧ Fld Z h a1 "java/lang/String" "value" "[B" (.ref t) ∧ Arv Z h t kb .byte (4 : Int32) (own_u16 [c0, c1]) (.int 0)
theorem rm_i4u2 (l : Launch) (Z : State) (a0 : Array Value) (hw : own_H a0 Z) (ws : List Jvm.Cond) (z : Int32) (a1 a2 : Addr) (kc : ClassId) (dv : Value) (c0 c1 : Int32) (u1 u2 : Value) (h0 : Heap) (n0 : Nat) (Z0 : n0 ≤ h0.size) (O : Old Z n0 h0) (SC : Sta Z Z.heap "java/lang/String" "COMPACT_STRINGS" "Z" (.int z)) (hz : ¬ z = 0) (SU0 : Sta Z Z.heap "java/lang/StringUTF16" "$assertionsDisabled" "Z" (.int (1 : Int32))) (SU1 : Sta Z Z.heap "java/lang/StringUTF16" "HI_BYTE_SHIFT" "I" (.int (0 : Int32))) (SU2 : Sta Z Z.heap "java/lang/StringUTF16" "LO_BYTE_SHIFT" "I" (.int (8 : Int32))) (E1 : Exa Z h0 a1 "java/lang/String") (F1 : Fld Z h0 a1 "java/lang/String" "value" "[B" u1) (F2 : Fld Z h0 a1 "java/lang/String" "coder" "B" u2) (g1 : n0 ≤ a1) (A1 : Arv Z h0 a2 kc .char (2 : Int32) [(.int c0), (.int c1)] dv) (hr : ¬ c0 < 0 ∧ ¬ (65535 : Int32) < c0 ∧ ¬ c1 < 0 ∧ ¬ (65535 : Int32) < c1) (hbad : ¬ (¬ (255 : Int32) < c0 ∧ ¬ (255 : Int32) < c1)) : own_MP l (⟨"java/lang/String", "<init>", "([CIILjava/lang/Void;)V"⟩ : MethodName) jdk_42_method_149_code 6 none ws ({ frames := 4, cells := 2, slots := 6, locals := 60 } : Room) Z h0 #[(.ref a1), (.ref a2), (.int (0 : Int32)), (.int (2 : Int32)), .null] (fun _ _ _ _ _ => True) (Q_i4u2 Z z a1 a2 kc dv c0 c1 u1 u2 h0 n0) := by
  refine own_startP (plainFor_of_name own_pn_java_lang_String) fun p e s m below meth c s₁ Bd hx hby hml hown0 X0 e0 hh0 hZ hK Pst hPst => ?_
  have hown : s.vm.findClass "java/lang/String" = some m.cls := hown0
  have hnm := (name_of_methodNamed Bd.named Bd.method).1
  have N0 := Fr.nil n0
  rw [own_ef_RRIIN_6 m a1 a2 (0 : Int32) (2 : Int32)]
  refine own_x_aloadN X0.here hx (hb hby own_d3_0) rfl rfl ?_
  refine own_h_initO X0 hx hZ hown (own_w17 hw) (own_w18 hw) (own_w19 hw) e0 (by rw [hml]; rfl) rfl (hb hby own_d3_1) (by decide) (W := 0) (by show 2 * 0 + _ ≤ _; exact Nat.le_of_eq rfl) (by decide) fun T101 X101 e101 => ?_
  refine own_x_iloadN X101.here hx (hb hby own_d3_4) rfl ?_
  refine own_x_ifYes X101.here hx (pc0 := 5) (pc' := 27) rfl (hb hby own_d3_5) rfl ((if0 _ _).trans (feq (by decide)).2) (by decide) (by decide) ?_
  refine own_h_getS2 X101 hx hZ hown (host := "") (Or.inl (own_w62 hw)) Via.refl e101 (SC.ext O.2) (hb hby own_d3_27) fun T102 X102 e102 => ?_
  refine own_x_ifNo X102.here hx (hb hby own_d3_30) rfl ((if0 _ _).trans (feq hz).1) ?_
  refine own_x_aloadN X102.here hx (hb hby own_d3_33) rfl rfl ?_
  refine own_x_iloadN X102.here hx (hb hby own_d3_34) rfl ?_
  refine own_x_iloadN X102.here hx (hb hby own_d3_35) rfl ?_
  refine own_cF X102 (Jvm.LawKit.callS X102 hx (y := (⟨"java/lang/StringUTF16", "compress", "([CII)[B"⟩ : MethodName)) hown (mvT hZ (own_w63 hw)) (mvT hZ (own_w64 hw)) (mvT hZ (own_w65 hw)) (mvT hZ (own_w66 hw)) (by decide) (backOf (W := 0) (rm_cu2 l Z a0 hw [] a2 kc dv c0 c1 h0 n0 Z0 O SU0 SU1 SU2 A1 hr hbad) hZ (own_w66 hw) (own_w65 hw) (by decide) (by decide)) (g := (mkF m 36 #[.val (.ref a1), .val (.ref a2), .val (.int (0 : Int32)), .val (.int (2 : Int32)), .val .null, .unset] [(.int (2 : Int32)), (.int (0 : Int32)), (.ref a2)])) rfl (by rw [hml]; rfl) (argsL := [(.ref a2), (.int (0 : Int32)), (.int (2 : Int32))]) (rest := []) (lenOf own_pd5 rfl) rfl (by show 2 * 0 + _ ≤ _; exact Nat.le_of_eq rfl) (hb hby own_d3_36) (fun _ _ => ⟨rfl, e102, (by decide : 0 + 2 ≤ _), (by decide : 0 + 6 ≤ _)⟩)) fun v103 T103 L103 X103 hQ103 => ?_
  obtain ⟨b103, rfl, Nq103, K103, sb103, kb103, V103⟩ := hQ103
  have N103 := Fr.app N0 Nq103
  have ne_a1_b103 : a1 ≠ b103 := Nat.ne_of_lt (Nat.lt_of_lt_of_le E1.lt sb103)
  have gn_b103 : n0 ≤ b103 := Nat.le_trans Z0 sb103
  have sz_b103 : h0.size ≤ b103 := Nat.le_trans (Keep.refl h0 [a1]).1 sb103
  show own_Go p e below Pst (T103.setTop (mkF m 39 #[.val (.ref a1), .val (.ref a2), .val (.int (0 : Int32)), .val (.int (2 : Int32)), .val .null, .unset] [(.ref b103)]))
  refine own_x_astore X103.here hx (hb hby own_d3_39) rfl rfl (l' := #[.val (.ref a1), .val (.ref a2), .val (.int (0 : Int32)), .val (.int (2 : Int32)), .val .null, .val (.ref b103)]) rfl ?_
  refine own_x_aloadN X103.here hx (hb hby own_d3_41) rfl rfl ?_
  refine own_x_aload X103.here hx (hb hby own_d3_42) rfl rfl ?_
  refine own_x_iloadN X103.here hx (hb hby own_d3_44) rfl ?_
  have c105 := (Nat.le_trans Z0 K103.1)
  refine own_cF X103 (Jvm.LawKit.callS X103 hx (y := (⟨"java/lang/StringUTF16", "coderFromArrayLen", "([BI)B"⟩ : MethodName)) hown (mvT hZ (own_w70 hw)) (mvT hZ (own_w71 hw)) (mvT hZ (own_w65 hw)) (mvT hZ (own_w72 hw)) (by decide) (backOf (W := 1) (rm_codl2 l Z a0 hw [] b103 kb103 (own_u16 [c0, c1]) T103.heap n0 c105 V103) hZ (own_w72 hw) (own_w65 hw) (by decide) (by decide)) (g := (mkF m 45 #[.val (.ref a1), .val (.ref a2), .val (.int (0 : Int32)), .val (.int (2 : Int32)), .val .null, .val (.ref b103)] [(.int (2 : Int32)), (.ref b103), (.ref a1)])) rfl (by rw [hml]; rfl) (argsL := [(.ref b103), (.int (2 : Int32))]) (rest := [(.ref a1)]) (lenOf own_pd7 rfl) rfl (by show 2 * 0 + _ ≤ _; exact Nat.le_of_eq rfl) (hb hby own_d3_45) (fun _ _ => ⟨rfl, rfl, (by decide : 2 + 0 ≤ _), (by decide : 6 + 0 ≤ _)⟩)) fun v104 T104 L104 X104 hQ104 => ?_
  obtain ⟨rfl, Nq104, e104⟩ := hQ104
  have N104 := Fr.app N103 Nq104
  show own_Go p e below Pst (T104.setTop (mkF m 48 #[.val (.ref a1), .val (.ref a2), .val (.int (0 : Int32)), .val (.int (2 : Int32)), .val .null, .val (.ref b103)] [(.int (1 : Int32)), (.ref a1)]))
  have c106 := (E1.keep K103)
  have c107 := (F2.keep K103 nin0)
  refine own_h_putFN X104 hx hZ hown (own_w27 hw) Via.refl e104 c107 c106 (Or.inr ⟨(own_w23 hw), rfl, hnm⟩) (own_w7 hw) (ty := .byte) (v' := (.int (1 : Int32))) (by decide) rfl rfl rfl (hb hby own_d3_48) fun T108 h108 X108 e108 W108 => ?_
  have Fw108 := Fld.same W108 c107
  have N108 := Fr.snoc X108 N104 g1
  refine own_x_aloadN X108.here hx (hb hby own_d3_51) rfl rfl ?_
  refine own_x_aload X108.here hx (hb hby own_d3_52) rfl rfl ?_
  have c109 := (c106.wr W108)
  have c110 := ((F1.keep K103 nin0).other W108 (Or.inr (slot_ne (Or.inr (own_w22 hw)) (Or.inr (own_w23 hw)) (by decide) (t := (.array .byte)) (t' := .byte) (by decide) (by decide))))
  refine own_h_putF X108 hx hZ hown (host := "") (Or.inl (own_w26 hw)) Via.refl e108 c110 c109 (Or.inr ⟨(own_w22 hw), rfl, hnm⟩) (own_w7 hw) (ty := (.array .byte)) (by decide) rfl rfl rfl (hb hby own_d3_54) fun T111 h111 X111 e111 W111 => ?_
  have Fw111 := Fld.same W111 c110
  have N111 := Fr.snoc X111 N108 g1
  have c112 := (((Keep.trans (Keep.refl h0 [a1]) K103 all0).wr W108 (Or.inl (List.mem_of_getElem? (i := 0) rfl))).wr W111 (Or.inl (List.mem_of_getElem? (i := 0) rfl)))
  have c113 := (c109.wr W111)
  have c114 := (Fw108.other W111 (Or.inr (slot_ne (Or.inr (own_w23 hw)) (Or.inr (own_w22 hw)) (by decide) (t := .byte) (t' := (.array .byte)) (by decide) (by decide))))
  have c115 := ((V103.other W108 (Ne.symm ne_a1_b103)).other W111 (Ne.symm ne_a1_b103))
  rw [hPst]
  exact own_retP X111 (v := none) (Q := Q_i4u2 Z z a1 a2 kc dv c0 c1 u1 u2 h0 n0) (fun _ => rfl) Bd.notSynchronized (fun fs hr => X111.returnOut hx Bd.returns (hb hby own_d3_57) hr) (by decide) (by decide) (by rw [e111]; exact ⟨rfl, N111, c112, c113, c114, _, _, sz_b103, Fw111, c115⟩)
def Q_i1u2 (Z : State) (z : Int32) (a1 a2 : Addr) (kc : ClassId) (dv : Value) (c0 c1 : Int32) (u1 u2 : Value) (h0 : Heap) (n0 : Nat) (v : Option Value) (h : Heap) (L : List Loc) : Prop := v = none ∧ Fr n0 L ∧ Keep h0 h [a1] ∧ Exa Z h a1 "java/lang/String" ∧ Fld Z h a1 "java/lang/String" "coder" "B" (.int (1 : Int32)) ∧ ∃ (t : Addr) (kb : ClassId), h0.size ≤ t ∧ Fld Z h a1 "java/lang/String" "value" "[B" (.ref t) ∧ Arv Z h t kb .byte (4 : Int32) (own_u16 [c0, c1]) (.int 0)
theorem rm_i1u2 (l : Launch) (Z : State) (a0 : Array Value) (hw : own_H a0 Z) (ws : List Jvm.Cond) (z : Int32) (a1 a2 : Addr) (kc : ClassId) (dv : Value) (c0 c1 : Int32) (u1 u2 : Value) (h0 : Heap) (n0 : Nat) (Z0 : n0 ≤ h0.size) (O : Old Z n0 h0) (SC : Sta Z Z.heap "java/lang/String" "COMPACT_STRINGS" "Z" (.int z)) (hz : ¬ z = 0) (SU0 : Sta Z Z.heap "java/lang/StringUTF16" "$assertionsDisabled" "Z" (.int (1 : Int32))) (SU1 : Sta Z Z.heap "java/lang/StringUTF16" "HI_BYTE_SHIFT" "I" (.int (0 : Int32))) (SU2 : Sta Z Z.heap "java/lang/StringUTF16" "LO_BYTE_SHIFT" "I" (.int (8 : Int32))) (E1 : Exa Z h0 a1 "java/lang/String") (F1 : Fld Z h0 a1 "java/lang/String" "value" "[B" u1) (F2 : Fld Z h0 a1 "java/lang/String" "coder" "B" u2) (g1 : n0 ≤ a1) (A1 : Arv Z h0 a2 kc .char (2 : Int32) [(.int c0), (.int c1)] dv) (hr : ¬ c0 < 0 ∧ ¬ (65535 : Int32) < c0 ∧ ¬ c1 < 0 ∧ ¬ (65535 : Int32) < c1) (hbad : ¬ (¬ (255 : Int32) < c0 ∧ ¬ (255 : Int32) < c1)) : own_MP l (⟨"java/lang/String", "<init>", "([C)V"⟩ : MethodName) jdk_42_method_3_code 2 none ws ({ frames := 5, cells := 2, slots := 6, locals := 77 } : Room) Z h0 #[(.ref a1), (.ref a2)] (fun _ _ _ _ _ => True) (Q_i1u2 Z z a1 a2 kc dv c0 c1 u1 u2 h0 n0) := by
  refine own_startP (plainFor_of_name own_pn_java_lang_String) fun p e s m below meth c s₁ Bd hx hby hml hown0 X0 e0 hh0 hZ hK Pst hPst => ?_
  have hown : s.vm.findClass "java/lang/String" = some m.cls := hown0
  have hnm := (name_of_methodNamed Bd.named Bd.method).1
  have N0 := Fr.nil n0
  rw [own_ef_RR_2 m a1 a2]
  refine own_x_aloadN X0.here hx (hb hby own_d2_0) rfl rfl ?_
  refine own_x_aloadN X0.here hx (hb hby own_d2_1) rfl rfl ?_
  refine own_x_iconst X0.here hx (hb hby own_d2_2) (z := (0 : Int32)) rfl ?_
  refine own_x_aloadN X0.here hx (hb hby own_d2_3) rfl rfl ?_
  obtain ⟨cl101, Ar101, -, S101, P101, -, -⟩ := id A1
  refine own_Go.of (S' := s₁.setTop (mkF m 5 #[.val (.ref a1), .val (.ref a2)] [(.int (2 : Int32)), (.int (0 : Int32)), (.ref a2), (.ref a1)])) (fun tgt kst => X0.arraylength hx (by rw [e0]; exact Ar101.1) (State.isArrayOf_alike hZ.alike Ar101.2.1) (g := (mkF m 4 #[.val (.ref a1), .val (.ref a2)] [(.ref a2), (.int (0 : Int32)), (.ref a2), (.ref a1)])) rfl rfl (hb hby own_d2_4) _ (by rw [len_of S101 P101]; exact kst)) ?_
  refine own_x_aconstNull X0.here hx (hb hby own_d2_5) ?_
  refine own_cP X0 (X0.specialBack hx (y := (⟨"java/lang/String", "<init>", "([CIILjava/lang/Void;)V"⟩ : MethodName)) rfl hown (mvT hZ (own_w13 hw)) (mvT hZ (own_w14 hw)) (mvT hZ (own_w16 hw)) (by decide) (backOf (W := 0) (rm_i4u2 l Z a0 hw [] z a1 a2 kc dv c0 c1 u1 u2 h0 n0 Z0 O SC hz SU0 SU1 SU2 E1 F1 F2 g1 A1 hr hbad) hZ (own_w16 hw) (own_w8 hw) (by decide) (by decide)) (g := (mkF m 6 #[.val (.ref a1), .val (.ref a2)] [.null, (.int (2 : Int32)), (.int (0 : Int32)), (.ref a2), (.ref a1)])) rfl (by rw [hml]; rfl) (Steps.refl _) (a := a1) (argsL := [(.ref a2), (.int (0 : Int32)), (.int (2 : Int32)), .null]) (rest := []) (lenOf own_pd0 rfl) rfl (by show 2 * 0 + _ ≤ _; exact Nat.le_of_eq rfl) (hb hby own_d2_6) (fun _ _ => ⟨rfl, e0, (by decide : 0 + 2 ≤ _), (by decide : 0 + 6 ≤ _)⟩)) fun v102 T102 L102 X102 hQ102 => ?_
  obtain ⟨rfl, Nq102, K102, A102, C102, t102, kb102, st_102, V102, B102⟩ := hQ102
  have N102 := Fr.app N0 Nq102
  show own_Go p e below Pst (T102.setTop (mkF m 9 #[.val (.ref a1), .val (.ref a2)] []))
  have c103 := (Keep.trans (Keep.refl h0 [a1]) K102 (allS (Or.inl (List.mem_of_getElem? (i := 0) rfl)) all0))
  rw [hPst]
  exact own_retP X102 (v := none) (Q := Q_i1u2 Z z a1 a2 kc dv c0 c1 u1 u2 h0 n0) (fun _ => rfl) Bd.notSynchronized (fun fs hr => X102.returnOut hx Bd.returns (hb hby own_d2_9) hr) (by decide) (by decide) ⟨rfl, N102, c103, A102, C102, _, _, st_102, V102, B102⟩
def Q_nbl3 (Z : State)  (h0 : Heap) (n0 : Nat) (v : Option Value) (h : Heap) (L : List Loc) : Prop := v = some (.int (6 : Int32)) ∧ Fr n0 L ∧ h = h0
theorem rm_nbl3 (l : Launch) (Z : State) (a0 : Array Value) (hw : own_H a0 Z) (ws : List Jvm.Cond)  (h0 : Heap) (n0 : Nat) (Z0 : n0 ≤ h0.size) : own_MP l (⟨"java/lang/StringUTF16", "newBytesLength", "(I)I"⟩ : MethodName) jdk_52_method_3_code 1 (some .int) ws ({ frames := 0, cells := 0, slots := 0, locals := 0 } : Room) Z h0 #[(.int (3 : Int32))] (fun _ _ _ _ _ => True) (Q_nbl3 Z  h0 n0) := by
  refine own_startP (plainFor_of_name own_pn_java_lang_StringUTF16) fun p e s m below meth c s₁ Bd hx hby hml hown0 X0 e0 hh0 hZ hK Pst hPst => ?_
  have hown : s.vm.findClass "java/lang/StringUTF16" = some m.cls := hown0
  have hnm := (name_of_methodNamed Bd.named Bd.method).1
  have N0 := Fr.nil n0
  rw [own_ef_I_1 m (3 : Int32)]
  refine own_x_iloadN X0.here hx (hb hby own_d16_0) rfl ?_
  refine own_x_ifYes X0.here hx (pc0 := 1) (pc' := 12) rfl (hb hby own_d16_1) rfl ((if0 _ _).trans (flt (by decide)).2.1) (by decide) (by decide) ?_
  refine own_x_iloadN X0.here hx (hb hby own_d16_12) rfl ?_
  refine own_Go.of (S' := s₁.setTop (mkF m 15 #[.val (.int (3 : Int32))] [(.int (1073741823 : Int32)), (.int (3 : Int32))])) (fun tgt kst => X0.ldcInt hx hown (mvT hZ (own_w84 hw)) (g := (mkF m 13 #[.val (.int (3 : Int32))] [(.int (3 : Int32))])) rfl (hb hby own_d16_13) _ kst) ?_
  refine own_x_icmpYes X0.here hx (pc0 := 15) (pc' := 55) rfl (hb hby own_d16_15) rfl (tlt (by decide)).1 (by decide) (by decide) ?_
  refine own_x_iloadN X0.here hx (hb hby own_d16_55) rfl ?_
  refine own_x_iconst X0.here hx (hb hby own_d16_56) (z := (1 : Int32)) rfl ?_
  refine own_x_ishl X0.here hx (hb hby own_d16_57) rfl ?_
  rw [show ((3 : Int32) <<< ((1 : Int32) &&& 31)) = (6 : Int32) from by decide]
  show own_Go p e below Pst (s₁.setTop (mkF m 58 #[.val (.int (3 : Int32))] [(.int (6 : Int32))]))
  rw [hPst]
  exact own_retP X0 (v := (some (.int (6 : Int32)))) (Q := Q_nbl3 Z  h0 n0) (fun h => by rw [Bd.returns] at h; cases h) Bd.notSynchronized (fun fs hr => own_retI X0 hx Bd.returns (hb hby own_d16_58) hr) (by decide) (by decide) (by rw [e0]; exact ⟨rfl, N0, rfl⟩)
def Q_nbf3 (Z : State)  (h0 : Heap) (n0 : Nat) (v : Option Value) (h : Heap) (L : List Loc) : Prop := ∃ (b : Addr), v = some (.ref b) ∧ Fr n0 L ∧ Keep h0 h [] ∧ h0.size ≤ b ∧ ∃ kb : ClassId, Arv Z h b kb .byte (6 : Int32) [(.int (0 : Int32)), (.int (0 : Int32)), (.int (0 : Int32)), (.int (0 : Int32)), (.int (0 : Int32)), (.int (0 : Int32))] (.int 0)
theorem rm_nbf3 (l : Launch) (Z : State) (a0 : Array Value) (hw : own_H a0 Z) (ws : List Jvm.Cond)  (h0 : Heap) (n0 : Nat) (Z0 : n0 ≤ h0.size) : own_MP l (⟨"java/lang/StringUTF16", "newBytesFor", "(I)[B"⟩ : MethodName) jdk_52_method_2_code 1 (some (.array .byte)) ws ({ frames := 1, cells := 1, slots := 6, locals := 12 } : Room) Z h0 #[(.int (3 : Int32))] (fun _ _ _ _ _ => True) (Q_nbf3 Z  h0 n0) := by
  refine own_startP (plainFor_of_name own_pn_java_lang_StringUTF16) fun p e s m below meth c s₁ Bd hx hby hml hown0 X0 e0 hh0 hZ hK Pst hPst => ?_
  have hown : s.vm.findClass "java/lang/StringUTF16" = some m.cls := hown0
  have hnm := (name_of_methodNamed Bd.named Bd.method).1
  have N0 := Fr.nil n0
  rw [own_ef_I_1 m (3 : Int32)]
  refine own_x_iloadN X0.here hx (hb hby own_d15_0) rfl ?_
  refine own_cF X0 (Jvm.LawKit.callS X0 hx (y := (⟨"java/lang/StringUTF16", "newBytesLength", "(I)I"⟩ : MethodName)) hown (mvT hZ (own_w81 hw)) (mvT hZ (own_w82 hw)) (mvT hZ (own_w65 hw)) (mvT hZ (own_w83 hw)) (by decide) (backOf (W := 0) (rm_nbl3 l Z a0 hw []  h0 n0 Z0 ) hZ (own_w83 hw) (own_w65 hw) (by decide) (by decide)) (g := (mkF m 1 #[.val (.int (3 : Int32))] [(.int (3 : Int32))])) rfl (by rw [hml]; rfl) (argsL := [(.int (3 : Int32))]) (rest := []) (lenOf own_pd1 rfl) rfl (by show 2 * 0 + _ ≤ _; exact Nat.le_of_eq rfl) (hb hby own_d15_1) (fun _ _ => ⟨rfl, e0, (by decide : 0 + 0 ≤ _), (by decide : 0 + 0 ≤ _)⟩)) fun v101 T101 L101 X101 hQ101 => ?_
  obtain ⟨rfl, Nq101, e101⟩ := hQ101
  have N101 := Fr.app N0 Nq101
  show own_Go p e below Pst (T101.setTop (mkF m 4 #[.val (.int (3 : Int32))] [(.int (6 : Int32))]))
  refine own_h_newP (aty := .byte) X101 hx hZ (own_w21 hw) e101 (hb hby own_d15_4) rfl (by decide) (cap := 6) (by decide) (by decide) (by decide) (by decide) fun T102 h102 k102 b102 g102 X102 e102 E102 A102 => ?_
  have gn_b102 : n0 ≤ b102 := Nat.le_trans Z0 (Nat.le_of_eq g102.symm)
  have sz_b102 : h0.size ≤ b102 := Nat.le_trans (Keep.refl h0 []).1 (Nat.le_of_eq g102.symm)
  have V102 : Arv Z h102 b102 k102 .byte (6 : Int32) [(.int (0 : Int32)), (.int (0 : Int32)), (.int (0 : Int32)), (.int (0 : Int32)), (.int (0 : Int32)), (.int (0 : Int32))] (.int (0 : Int32)) := (Arv.new A102 (by decide)).pad (pad_rep [] (.int (0 : Int32)) 6)
  have c103 := ((Keep.refl h0 []).ext E102)
  rw [hPst]
  exact own_retP X102 (v := (some (.ref b102))) (Q := Q_nbf3 Z  h0 n0) (fun h => by rw [Bd.returns] at h; cases h) Bd.notSynchronized (fun fs hr => retOut X102 hx Bd.returns rfl (Or.inr (Or.inr (Or.inr (Or.inr ⟨rfl, rfl, rfl⟩)))) (hb hby own_d15_6) hr) (by decide) (by decide) (by rw [e102]; exact ⟨_, rfl, N101, c103, sz_b102, _, V102⟩)
def Q_tob3 (Z : State) (a2 : Addr) (kc : ClassId) (dv : Value) (c0 c1 c2 : Int32) (h0 : Heap) (n0 : Nat) (v : Option Value) (h : Heap) (L : List Loc) : Prop := ∃ (b : Addr), v = some (.ref b) ∧ Fr n0 L ∧ Keep h0 h [] ∧ h0.size ≤ b ∧ ∃ kb : ClassId, Arv Z h b kb .byte (6 : Int32) (own_u16 [c0, c1, c2]) (.int 0)
theorem rm_tob3 (l : Launch) (Z : State) (a0 : Array Value) (hw : own_H a0 Z) (ws : List Jvm.Cond) (a2 : Addr) (kc : ClassId) (dv : Value) (c0 c1 c2 : Int32) (h0 : Heap) (n0 : Nat) (Z0 : n0 ≤ h0.size) (O : Old Z n0 h0) (SU0 : Sta Z Z.heap "java/lang/StringUTF16" "$assertionsDisabled" "Z" (.int (1 : Int32))) (SU1 : Sta Z Z.heap "java/lang/StringUTF16" "HI_BYTE_SHIFT" "I" (.int (0 : Int32))) (SU2 : Sta Z Z.heap "java/lang/StringUTF16" "LO_BYTE_SHIFT" "I" (.int (8 : Int32))) (A1 : Arv Z h0 a2 kc .char (3 : Int32) [(.int c0), (.int c1), (.int c2)] dv) : own_MP l (⟨"java/lang/StringUTF16", "toBytes", "([CII)[B"⟩ : MethodName) jdk_52_method_14_code 5 (some (.array .byte)) ws ({ frames := 2, cells := 1, slots := 6, locals := 24 } : Room) Z h0 #[(.ref a2), (.int (0 : Int32)), (.int (3 : Int32))] (fun _ _ _ _ _ => True) (Q_tob3 Z a2 kc dv c0 c1 c2 h0 n0) := by
  refine own_startP (plainFor_of_name own_pn_java_lang_StringUTF16) fun p e s m below meth c s₁ Bd hx hby hml hown0 X0 e0 hh0 hZ hK Pst hPst => ?_
  have hown : s.vm.findClass "java/lang/StringUTF16" = some m.cls := hown0
  have hnm := (name_of_methodNamed Bd.named Bd.method).1
  have N0 := Fr.nil n0
  rw [own_ef_RII_5 m a2 (0 : Int32) (3 : Int32)]
  refine own_x_iloadN X0.here hx (hb hby own_d14_0) rfl ?_
  refine own_cF X0 (Jvm.LawKit.callS X0 hx (y := (⟨"java/lang/StringUTF16", "newBytesFor", "(I)[B"⟩ : MethodName)) hown (mvT hZ (own_w78 hw)) (mvT hZ (own_w79 hw)) (mvT hZ (own_w65 hw)) (mvT hZ (own_w80 hw)) (by decide) (backOf (W := 0) (rm_nbf3 l Z a0 hw []  h0 n0 Z0 ) hZ (own_w80 hw) (own_w65 hw) (by decide) (by decide)) (g := (mkF m 1 #[.val (.ref a2), .val (.int (0 : Int32)), .val (.int (3 : Int32)), .unset, .unset] [(.int (3 : Int32))])) rfl (by rw [hml]; rfl) (argsL := [(.int (3 : Int32))]) (rest := []) (lenOf own_pd2 rfl) rfl (by show 2 * 0 + _ ≤ _; exact Nat.le_of_eq rfl) (hb hby own_d14_1) (fun _ _ => ⟨rfl, e0, (by decide : 0 + 1 ≤ _), (by decide : 0 + 6 ≤ _)⟩)) fun v101 T101 L101 X101 hQ101 => ?_
  obtain ⟨b101, rfl, Nq101, K101, sb101, kb101, V101⟩ := hQ101
  have N101 := Fr.app N0 Nq101
  have ne_a2_b101 : a2 ≠ b101 := Nat.ne_of_lt (Nat.lt_of_lt_of_le A1.lt sb101)
  have gn_b101 : n0 ≤ b101 := Nat.le_trans Z0 sb101
  have sz_b101 : h0.size ≤ b101 := Nat.le_trans (Keep.refl h0 []).1 sb101
  show own_Go p e below Pst (T101.setTop (mkF m 4 #[.val (.ref a2), .val (.int (0 : Int32)), .val (.int (3 : Int32)), .unset, .unset] [(.ref b101)]))
  refine own_x_astoreN X101.here hx (hb hby own_d14_4) rfl rfl (l' := #[.val (.ref a2), .val (.int (0 : Int32)), .val (.int (3 : Int32)), .val (.ref b101), .unset]) rfl ?_
  refine own_x_iconst X101.here hx (hb hby own_d14_5) (z := (0 : Int32)) rfl ?_
  refine own_x_istore X101.here hx (hb hby own_d14_6) rfl (l' := #[.val (.ref a2), .val (.int (0 : Int32)), .val (.int (3 : Int32)), .val (.ref b101), .val (.int (0 : Int32))]) rfl ?_
  refine own_x_iload X101.here hx (hb hby own_d14_8) rfl ?_
  refine own_x_iloadN X101.here hx (hb hby own_d14_10) rfl ?_
  refine own_x_icmpNo X101.here hx (hb hby own_d14_11) rfl (tlt (by decide)).2.1 ?_
  refine own_x_aloadN X101.here hx (hb hby own_d14_14) rfl rfl ?_
  refine own_x_iload X101.here hx (hb hby own_d14_15) rfl ?_
  refine own_x_aloadN X101.here hx (hb hby own_d14_17) rfl rfl ?_
  refine own_x_iloadN X101.here hx (hb hby own_d14_18) rfl ?_
  have c102 := (A1.keep K101 nin0)
  obtain ⟨cl103, Ar103, q103, S103, P103, H103, G103⟩ := id c102
  have hin103 : ¬ ((0 : Int32) < 0 ∨ cl103.slots.size ≤ ((0 : Int32)).toNatClampNeg) := inb_of S103 ⟨by decide, by decide⟩
  have hat103 : cl103.slots[((0 : Int32)).toNatClampNeg]? = some (.int c0) := Has.at H103 hin103 rfl
  refine own_Go.of (S' := T101.setTop (mkF m 20 #[.val (.ref a2), .val (.int (0 : Int32)), .val (.int (3 : Int32)), .val (.ref b101), .val (.int (0 : Int32))] [(.int c0), (.int (0 : Int32)), (.ref b101)])) (fun tgt kst => X101.caload hx (j := (0 : Int32)) (v := (.int c0)) (by exact Ar103.1) (State.isArrayOf_alike hZ.alike Ar103.2.1) Ar103.2.2 hin103 hat103 (g := (mkF m 19 #[.val (.ref a2), .val (.int (0 : Int32)), .val (.int (3 : Int32)), .val (.ref b101), .val (.int (0 : Int32))] [(.int (0 : Int32)), (.ref a2), (.int (0 : Int32)), (.ref b101)])) rfl rfl (hb hby own_d14_19) _ kst) ?_
  have c104 := (O.keep K101 all0)
  have c106 := (Nat.le_trans Z0 K101.1)
  refine own_cF X101 (Jvm.LawKit.callS X101 hx (y := (⟨"java/lang/StringUTF16", "putChar", "([BII)V"⟩ : MethodName)) hown (mvT hZ (own_w85 hw)) (mvT hZ (own_w86 hw)) (mvT hZ (own_w65 hw)) (mvT hZ (own_w87 hw)) (by decide) (backOf (W := 0) (rm_put0 l Z a0 hw [] b101 kb101 (6 : Int32) c0 [(.int (0 : Int32)), (.int (0 : Int32)), (.int (0 : Int32)), (.int (0 : Int32)), (.int (0 : Int32)), (.int (0 : Int32))] T101.heap n0 c106 c104 SU0 SU1 SU2 gn_b101 V101 (by decide) (Nat.le_of_ble_eq_true rfl)) hZ (own_w87 hw) (own_w65 hw) (by decide) (by decide)) (g := (mkF m 20 #[.val (.ref a2), .val (.int (0 : Int32)), .val (.int (3 : Int32)), .val (.ref b101), .val (.int (0 : Int32))] [(.int c0), (.int (0 : Int32)), (.ref b101)])) rfl (by rw [hml]; rfl) (argsL := [(.ref b101), (.int (0 : Int32)), (.int c0)]) (rest := []) (lenOf own_pd3 rfl) rfl (by show 2 * 0 + _ ≤ _; exact Nat.le_of_eq rfl) (hb hby own_d14_20) (fun _ _ => ⟨rfl, rfl, (by decide : 1 + 0 ≤ _), (by decide : 6 + 0 ≤ _)⟩)) fun v105 T105 L105 X105 hQ105 => ?_
  obtain ⟨rfl, Nq105, K105, V105⟩ := hQ105
  have N105 := Fr.app N101 Nq105
  show own_Go p e below Pst (T105.setTop (mkF m 23 #[.val (.ref a2), .val (.int (0 : Int32)), .val (.int (3 : Int32)), .val (.ref b101), .val (.int (0 : Int32))] []))
  refine own_x_iinc X105.here hx (hb hby own_d14_23) rfl (l' := #[.val (.ref a2), .val (.int ((0 : Int32) + (1 : Int32))), .val (.int (3 : Int32)), .val (.ref b101), .val (.int (0 : Int32))]) rfl ?_
  refine own_x_iinc X105.here hx (hb hby own_d14_26) rfl (l' := #[.val (.ref a2), .val (.int ((0 : Int32) + (1 : Int32))), .val (.int (3 : Int32)), .val (.ref b101), .val (.int ((0 : Int32) + (1 : Int32)))]) rfl ?_
  rw [show ((0 : Int32) + (1 : Int32)) = (1 : Int32) from by decide]
  show own_Go p e below Pst (T105.setTop (mkF m 29 #[.val (.ref a2), .val (.int (1 : Int32)), .val (.int (3 : Int32)), .val (.ref b101), .val (.int ((0 : Int32) + (1 : Int32)))] []))
  rw [show ((0 : Int32) + (1 : Int32)) = (1 : Int32) from by decide]
  show own_Go p e below Pst (T105.setTop (mkF m 29 #[.val (.ref a2), .val (.int (1 : Int32)), .val (.int (3 : Int32)), .val (.ref b101), .val (.int (1 : Int32))] []))
  refine own_x_goto X105.here hx (pc0 := 29) (pc' := 8) rfl (hb hby own_d14_29) (by decide) (by decide) ?_
  refine own_x_iload X105.here hx (hb hby own_d14_8) rfl ?_
  refine own_x_iloadN X105.here hx (hb hby own_d14_10) rfl ?_
  refine own_x_icmpNo X105.here hx (hb hby own_d14_11) rfl (tlt (by decide)).2.1 ?_
  refine own_x_aloadN X105.here hx (hb hby own_d14_14) rfl rfl ?_
  refine own_x_iload X105.here hx (hb hby own_d14_15) rfl ?_
  refine own_x_aloadN X105.here hx (hb hby own_d14_17) rfl rfl ?_
  refine own_x_iloadN X105.here hx (hb hby own_d14_18) rfl ?_
  have c107 := (c102.keep K105 (ninS ne_a2_b101 nin0))
  obtain ⟨cl108, Ar108, q108, S108, P108, H108, G108⟩ := id c107
  have hin108 : ¬ ((1 : Int32) < 0 ∨ cl108.slots.size ≤ ((1 : Int32)).toNatClampNeg) := inb_of S108 ⟨by decide, by decide⟩
  have hat108 : cl108.slots[((1 : Int32)).toNatClampNeg]? = some (.int c1) := Has.at H108 hin108 rfl
  refine own_Go.of (S' := T105.setTop (mkF m 20 #[.val (.ref a2), .val (.int (1 : Int32)), .val (.int (3 : Int32)), .val (.ref b101), .val (.int (1 : Int32))] [(.int c1), (.int (1 : Int32)), (.ref b101)])) (fun tgt kst => X105.caload hx (j := (1 : Int32)) (v := (.int c1)) (by exact Ar108.1) (State.isArrayOf_alike hZ.alike Ar108.2.1) Ar108.2.2 hin108 hat108 (g := (mkF m 19 #[.val (.ref a2), .val (.int (1 : Int32)), .val (.int (3 : Int32)), .val (.ref b101), .val (.int (1 : Int32))] [(.int (1 : Int32)), (.ref a2), (.int (1 : Int32)), (.ref b101)])) rfl rfl (hb hby own_d14_19) _ kst) ?_
  have c109 := (c104.keep K105 (allS gn_b101 all0))
  have c111 := (Nat.le_trans c106 K105.1)
  refine own_cF X105 (Jvm.LawKit.callS X105 hx (y := (⟨"java/lang/StringUTF16", "putChar", "([BII)V"⟩ : MethodName)) hown (mvT hZ (own_w85 hw)) (mvT hZ (own_w86 hw)) (mvT hZ (own_w65 hw)) (mvT hZ (own_w87 hw)) (by decide) (backOf (W := 0) (rm_put1 l Z a0 hw [] b101 kb101 (6 : Int32) c1 (([(.int (0 : Int32)), (.int (0 : Int32)), (.int (0 : Int32)), (.int (0 : Int32)), (.int (0 : Int32)), (.int (0 : Int32))].set 0 (.int (own_lo8 c0))).set 1 (.int (own_hi8 c0))) T105.heap n0 c111 c109 SU0 SU1 SU2 gn_b101 V105 (by decide) (Nat.le_of_ble_eq_true rfl)) hZ (own_w87 hw) (own_w65 hw) (by decide) (by decide)) (g := (mkF m 20 #[.val (.ref a2), .val (.int (1 : Int32)), .val (.int (3 : Int32)), .val (.ref b101), .val (.int (1 : Int32))] [(.int c1), (.int (1 : Int32)), (.ref b101)])) rfl (by rw [hml]; rfl) (argsL := [(.ref b101), (.int (1 : Int32)), (.int c1)]) (rest := []) (lenOf own_pd3 rfl) rfl (by show 2 * 0 + _ ≤ _; exact Nat.le_of_eq rfl) (hb hby own_d14_20) (fun _ _ => ⟨rfl, rfl, (by decide : 1 + 0 ≤ _), (by decide : 6 + 0 ≤ _)⟩)) fun v110 T110 L110 X110 hQ110 => ?_
  obtain ⟨rfl, Nq110, K110, V110⟩ := hQ110
  have N110 := Fr.app N105 Nq110
  show own_Go p e below Pst (T110.setTop (mkF m 23 #[.val (.ref a2), .val (.int (1 : Int32)), .val (.int (3 : Int32)), .val (.ref b101), .val (.int (1 : Int32))] []))
  refine own_x_iinc X110.here hx (hb hby own_d14_23) rfl (l' := #[.val (.ref a2), .val (.int ((1 : Int32) + (1 : Int32))), .val (.int (3 : Int32)), .val (.ref b101), .val (.int (1 : Int32))]) rfl ?_
  refine own_x_iinc X110.here hx (hb hby own_d14_26) rfl (l' := #[.val (.ref a2), .val (.int ((1 : Int32) + (1 : Int32))), .val (.int (3 : Int32)), .val (.ref b101), .val (.int ((1 : Int32) + (1 : Int32)))]) rfl ?_
  rw [show ((1 : Int32) + (1 : Int32)) = (2 : Int32) from by decide]
  show own_Go p e below Pst (T110.setTop (mkF m 29 #[.val (.ref a2), .val (.int (2 : Int32)), .val (.int (3 : Int32)), .val (.ref b101), .val (.int ((1 : Int32) + (1 : Int32)))] []))
  rw [show ((1 : Int32) + (1 : Int32)) = (2 : Int32) from by decide]
  show own_Go p e below Pst (T110.setTop (mkF m 29 #[.val (.ref a2), .val (.int (2 : Int32)), .val (.int (3 : Int32)), .val (.ref b101), .val (.int (2 : Int32))] []))
  refine own_x_goto X110.here hx (pc0 := 29) (pc' := 8) rfl (hb hby own_d14_29) (by decide) (by decide) ?_
  refine own_x_iload X110.here hx (hb hby own_d14_8) rfl ?_
  refine own_x_iloadN X110.here hx (hb hby own_d14_10) rfl ?_
  refine own_x_icmpNo X110.here hx (hb hby own_d14_11) rfl (tlt (by decide)).2.1 ?_
  refine own_x_aloadN X110.here hx (hb hby own_d14_14) rfl rfl ?_
  refine own_x_iload X110.here hx (hb hby own_d14_15) rfl ?_
  refine own_x_aloadN X110.here hx (hb hby own_d14_17) rfl rfl ?_
  refine own_x_iloadN X110.here hx (hb hby own_d14_18) rfl ?_
  have c112 := (c107.keep K110 (ninS ne_a2_b101 nin0))
  obtain ⟨cl113, Ar113, q113, S113, P113, H113, G113⟩ := id c112
  have hin113 : ¬ ((2 : Int32) < 0 ∨ cl113.slots.size ≤ ((2 : Int32)).toNatClampNeg) := inb_of S113 ⟨by decide, by decide⟩
  have hat113 : cl113.slots[((2 : Int32)).toNatClampNeg]? = some (.int c2) := Has.at H113 hin113 rfl
  refine own_Go.of (S' := T110.setTop (mkF m 20 #[.val (.ref a2), .val (.int (2 : Int32)), .val (.int (3 : Int32)), .val (.ref b101), .val (.int (2 : Int32))] [(.int c2), (.int (2 : Int32)), (.ref b101)])) (fun tgt kst => X110.caload hx (j := (2 : Int32)) (v := (.int c2)) (by exact Ar113.1) (State.isArrayOf_alike hZ.alike Ar113.2.1) Ar113.2.2 hin113 hat113 (g := (mkF m 19 #[.val (.ref a2), .val (.int (2 : Int32)), .val (.int (3 : Int32)), .val (.ref b101), .val (.int (2 : Int32))] [(.int (2 : Int32)), (.ref a2), (.int (2 : Int32)), (.ref b101)])) rfl rfl (hb hby own_d14_19) _ kst) ?_
  have c114 := (c109.keep K110 (allS gn_b101 all0))
  have c116 := (Nat.le_trans c111 K110.1)
  refine own_cF X110 (Jvm.LawKit.callS X110 hx (y := (⟨"java/lang/StringUTF16", "putChar", "([BII)V"⟩ : MethodName)) hown (mvT hZ (own_w85 hw)) (mvT hZ (own_w86 hw)) (mvT hZ (own_w65 hw)) (mvT hZ (own_w87 hw)) (by decide) (backOf (W := 0) (rm_put2 l Z a0 hw [] b101 kb101 (6 : Int32) c2 (((([(.int (0 : Int32)), (.int (0 : Int32)), (.int (0 : Int32)), (.int (0 : Int32)), (.int (0 : Int32)), (.int (0 : Int32))].set 0 (.int (own_lo8 c0))).set 1 (.int (own_hi8 c0))).set 2 (.int (own_lo8 c1))).set 3 (.int (own_hi8 c1))) T110.heap n0 c116 c114 SU0 SU1 SU2 gn_b101 V110 (by decide) (Nat.le_of_ble_eq_true rfl)) hZ (own_w87 hw) (own_w65 hw) (by decide) (by decide)) (g := (mkF m 20 #[.val (.ref a2), .val (.int (2 : Int32)), .val (.int (3 : Int32)), .val (.ref b101), .val (.int (2 : Int32))] [(.int c2), (.int (2 : Int32)), (.ref b101)])) rfl (by rw [hml]; rfl) (argsL := [(.ref b101), (.int (2 : Int32)), (.int c2)]) (rest := []) (lenOf own_pd3 rfl) rfl (by show 2 * 0 + _ ≤ _; exact Nat.le_of_eq rfl) (hb hby own_d14_20) (fun _ _ => ⟨rfl, rfl, (by decide : 1 + 0 ≤ _), (by decide : 6 + 0 ≤ _)⟩)) fun v115 T115 L115 X115 hQ115 => ?_
  obtain ⟨rfl, Nq115, K115, V115⟩ := hQ115
  have N115 := Fr.app N110 Nq115
  show own_Go p e below Pst (T115.setTop (mkF m 23 #[.val (.ref a2), .val (.int (2 : Int32)), .val (.int (3 : Int32)), .val (.ref b101), .val (.int (2 : Int32))] []))
  refine own_x_iinc X115.here hx (hb hby own_d14_23) rfl (l' := #[.val (.ref a2), .val (.int ((2 : Int32) + (1 : Int32))), .val (.int (3 : Int32)), .val (.ref b101), .val (.int (2 : Int32))]) rfl ?_
  refine own_x_iinc X115.here hx (hb hby own_d14_26) rfl (l' := #[.val (.ref a2), .val (.int ((2 : Int32) + (1 : Int32))), .val (.int (3 : Int32)), .val (.ref b101), .val (.int ((2 : Int32) + (1 : Int32)))]) rfl ?_
  rw [show ((2 : Int32) + (1 : Int32)) = (3 : Int32) from by decide]
  show own_Go p e below Pst (T115.setTop (mkF m 29 #[.val (.ref a2), .val (.int (3 : Int32)), .val (.int (3 : Int32)), .val (.ref b101), .val (.int ((2 : Int32) + (1 : Int32)))] []))
  rw [show ((2 : Int32) + (1 : Int32)) = (3 : Int32) from by decide]
  show own_Go p e below Pst (T115.setTop (mkF m 29 #[.val (.ref a2), .val (.int (3 : Int32)), .val (.int (3 : Int32)), .val (.ref b101), .val (.int (3 : Int32))] []))
  refine own_x_goto X115.here hx (pc0 := 29) (pc' := 8) rfl (hb hby own_d14_29) (by decide) (by decide) ?_
  refine own_x_iload X115.here hx (hb hby own_d14_8) rfl ?_
  refine own_x_iloadN X115.here hx (hb hby own_d14_10) rfl ?_
  refine own_x_icmpYes X115.here hx (pc0 := 11) (pc' := 32) rfl (hb hby own_d14_11) rfl (flt (by decide)).2.1 (by decide) (by decide) ?_
  refine own_x_aloadN X115.here hx (hb hby own_d14_32) rfl rfl ?_
  have c117 := (Keep.trans (Keep.trans (Keep.trans (Keep.trans (Keep.refl h0 []) K101 all0) K105 (allS (Or.inr sz_b101) all0)) K110 (allS (Or.inr sz_b101) all0)) K115 (allS (Or.inr sz_b101) all0))
  rw [hPst]
  exact own_retP X115 (v := (some (.ref b101))) (Q := Q_tob3 Z a2 kc dv c0 c1 c2 h0 n0) (fun h => by rw [Bd.returns] at h; cases h) Bd.notSynchronized (fun fs hr => retOut X115 hx Bd.returns rfl (Or.inr (Or.inr (Or.inr (Or.inr ⟨rfl, rfl, rfl⟩)))) (hb hby own_d14_33) hr) (by decide) (by decide) ⟨_, rfl, N115, c117, sz_b101, _, V115⟩
def Q_cmp3_0 (Z : State) (a2 : Addr) (kc : ClassId) (dv : Value) (c0 c1 c2 : Int32) (d : Addr) (kd : ClassId) (h0 : Heap) (n0 : Nat) (v : Option Value) (h : Heap) (L : List Loc) : Prop := v = some (.int (0 : Int32)) ∧ Fr n0 L ∧ Keep h0 h [d]
theorem rm_cmp3_0 (l : Launch) (Z : State) (a0 : Array Value) (hw : own_H a0 Z) (ws : List Jvm.Cond) (a2 : Addr) (kc : ClassId) (dv : Value) (c0 c1 c2 : Int32) (d : Addr) (kd : ClassId) (h0 : Heap) (n0 : Nat) (Z0 : n0 ≤ h0.size) (A1 : Arv Z h0 a2 kc .char (3 : Int32) [(.int c0), (.int c1), (.int c2)] dv) (A2 : Arv Z h0 d kd .byte (3 : Int32) [(.int (0 : Int32)), (.int (0 : Int32)), (.int (0 : Int32))] (.int (0 : Int32))) (gd : n0 ≤ d) (ne : a2 ≠ d) (u : (255 : Int32) < c0) : own_MP l (⟨"java/lang/StringUTF16", "compress", "([CI[BII)I"⟩ : MethodName) jdk_52_method_21_code 7 (some .int) ws ({ frames := 0, cells := 0, slots := 0, locals := 0 } : Room) Z h0 #[(.ref a2), (.int (0 : Int32)), (.ref d), (.int (0 : Int32)), (.int (3 : Int32))] (fun _ _ _ _ _ => True) (Q_cmp3_0 Z a2 kc dv c0 c1 c2 d kd h0 n0) := by
  refine own_startP (plainFor_of_name own_pn_java_lang_StringUTF16) fun p e s m below meth c s₁ Bd hx hby hml hown0 X0 e0 hh0 hZ hK Pst hPst => ?_
  have hown : s.vm.findClass "java/lang/StringUTF16" = some m.cls := hown0
  have hnm := (name_of_methodNamed Bd.named Bd.method).1
  have N0 := Fr.nil n0
  rw [own_ef_RIRII_7 m a2 (0 : Int32) d (0 : Int32) (3 : Int32)]
  refine own_x_iconst X0.here hx (hb hby own_d12_0) (z := (0 : Int32)) rfl ?_
  refine own_x_istore X0.here hx (hb hby own_d12_1) rfl (l' := #[.val (.ref a2), .val (.int (0 : Int32)), .val (.ref d), .val (.int (0 : Int32)), .val (.int (3 : Int32)), .val (.int (0 : Int32)), .unset]) rfl ?_
  refine own_x_iload X0.here hx (hb hby own_d12_3) rfl ?_
  refine own_x_iload X0.here hx (hb hby own_d12_5) rfl ?_
  refine own_x_icmpNo X0.here hx (hb hby own_d12_7) rfl (tlt (by decide)).2.1 ?_
  refine own_x_aloadN X0.here hx (hb hby own_d12_10) rfl rfl ?_
  refine own_x_iloadN X0.here hx (hb hby own_d12_11) rfl ?_
  obtain ⟨cl101, Ar101, q101, S101, P101, H101, G101⟩ := id A1
  have hin101 : ¬ ((0 : Int32) < 0 ∨ cl101.slots.size ≤ ((0 : Int32)).toNatClampNeg) := inb_of S101 ⟨by decide, by decide⟩
  have hat101 : cl101.slots[((0 : Int32)).toNatClampNeg]? = some (.int c0) := Has.at H101 hin101 rfl
  refine own_Go.of (S' := s₁.setTop (mkF m 13 #[.val (.ref a2), .val (.int (0 : Int32)), .val (.ref d), .val (.int (0 : Int32)), .val (.int (3 : Int32)), .val (.int (0 : Int32)), .unset] [(.int c0)])) (fun tgt kst => X0.caload hx (j := (0 : Int32)) (v := (.int c0)) (by rw [e0]; exact Ar101.1) (State.isArrayOf_alike hZ.alike Ar101.2.1) Ar101.2.2 hin101 hat101 (g := (mkF m 12 #[.val (.ref a2), .val (.int (0 : Int32)), .val (.ref d), .val (.int (0 : Int32)), .val (.int (3 : Int32)), .val (.int (0 : Int32)), .unset] [(.int (0 : Int32)), (.ref a2)])) rfl rfl (hb hby own_d12_12) _ kst) ?_
  refine own_x_istore X0.here hx (hb hby own_d12_13) rfl (l' := #[.val (.ref a2), .val (.int (0 : Int32)), .val (.ref d), .val (.int (0 : Int32)), .val (.int (3 : Int32)), .val (.int (0 : Int32)), .val (.int c0)]) rfl ?_
  refine own_x_iload X0.here hx (hb hby own_d12_15) rfl ?_
  refine own_x_sipush X0.here hx (hb hby own_d12_17) (z := (255 : Int32)) rfl ?_
  refine own_x_icmpNo X0.here hx (hb hby own_d12_20) rfl (tlt u).2.2.2 ?_
  refine own_x_iload X0.here hx (hb hby own_d12_23) rfl ?_
  rw [hPst]
  exact own_retP X0 (v := (some (.int (0 : Int32)))) (Q := Q_cmp3_0 Z a2 kc dv c0 c1 c2 d kd h0 n0) (fun h => by rw [Bd.returns] at h; cases h) Bd.notSynchronized (fun fs hr => own_retI X0 hx Bd.returns (hb hby own_d12_25) hr) (by decide) (by decide) (by rw [e0]; exact ⟨rfl, N0, (Keep.refl h0 [d])⟩)
def Q_cmp3_1 (Z : State) (a2 : Addr) (kc : ClassId) (dv : Value) (c0 c1 c2 : Int32) (d : Addr) (kd : ClassId) (h0 : Heap) (n0 : Nat) (v : Option Value) (h : Heap) (L : List Loc) : Prop := v = some (.int (1 : Int32)) ∧ Fr n0 L ∧ Keep h0 h [d]
theorem rm_cmp3_1 (l : Launch) (Z : State) (a0 : Array Value) (hw : own_H a0 Z) (ws : List Jvm.Cond) (a2 : Addr) (kc : ClassId) (dv : Value) (c0 c1 c2 : Int32) (d : Addr) (kd : ClassId) (h0 : Heap) (n0 : Nat) (Z0 : n0 ≤ h0.size) (A1 : Arv Z h0 a2 kc .char (3 : Int32) [(.int c0), (.int c1), (.int c2)] dv) (A2 : Arv Z h0 d kd .byte (3 : Int32) [(.int (0 : Int32)), (.int (0 : Int32)), (.int (0 : Int32))] (.int (0 : Int32))) (gd : n0 ≤ d) (ne : a2 ≠ d) (l0 : ¬ (255 : Int32) < c0) (u : (255 : Int32) < c1) : own_MP l (⟨"java/lang/StringUTF16", "compress", "([CI[BII)I"⟩ : MethodName) jdk_52_method_21_code 7 (some .int) ws ({ frames := 0, cells := 0, slots := 0, locals := 0 } : Room) Z h0 #[(.ref a2), (.int (0 : Int32)), (.ref d), (.int (0 : Int32)), (.int (3 : Int32))] (fun _ _ _ _ _ => True) (Q_cmp3_1 Z a2 kc dv c0 c1 c2 d kd h0 n0) := by
  refine own_startP (plainFor_of_name own_pn_java_lang_StringUTF16) fun p e s m below meth c s₁ Bd hx hby hml hown0 X0 e0 hh0 hZ hK Pst hPst => ?_
  have hown : s.vm.findClass "java/lang/StringUTF16" = some m.cls := hown0
  have hnm := (name_of_methodNamed Bd.named Bd.method).1
  have N0 := Fr.nil n0
  rw [own_ef_RIRII_7 m a2 (0 : Int32) d (0 : Int32) (3 : Int32)]
  refine own_x_iconst X0.here hx (hb hby own_d12_0) (z := (0 : Int32)) rfl ?_
  refine own_x_istore X0.here hx (hb hby own_d12_1) rfl (l' := #[.val (.ref a2), .val (.int (0 : Int32)), .val (.ref d), .val (.int (0 : Int32)), .val (.int (3 : Int32)), .val (.int (0 : Int32)), .unset]) rfl ?_
  refine own_x_iload X0.here hx (hb hby own_d12_3) rfl ?_
  refine own_x_iload X0.here hx (hb hby own_d12_5) rfl ?_
  refine own_x_icmpNo X0.here hx (hb hby own_d12_7) rfl (tlt (by decide)).2.1 ?_
  refine own_x_aloadN X0.here hx (hb hby own_d12_10) rfl rfl ?_
  refine own_x_iloadN X0.here hx (hb hby own_d12_11) rfl ?_
  obtain ⟨cl101, Ar101, q101, S101, P101, H101, G101⟩ := id A1
  have hin101 : ¬ ((0 : Int32) < 0 ∨ cl101.slots.size ≤ ((0 : Int32)).toNatClampNeg) := inb_of S101 ⟨by decide, by decide⟩
  have hat101 : cl101.slots[((0 : Int32)).toNatClampNeg]? = some (.int c0) := Has.at H101 hin101 rfl
  refine own_Go.of (S' := s₁.setTop (mkF m 13 #[.val (.ref a2), .val (.int (0 : Int32)), .val (.ref d), .val (.int (0 : Int32)), .val (.int (3 : Int32)), .val (.int (0 : Int32)), .unset] [(.int c0)])) (fun tgt kst => X0.caload hx (j := (0 : Int32)) (v := (.int c0)) (by rw [e0]; exact Ar101.1) (State.isArrayOf_alike hZ.alike Ar101.2.1) Ar101.2.2 hin101 hat101 (g := (mkF m 12 #[.val (.ref a2), .val (.int (0 : Int32)), .val (.ref d), .val (.int (0 : Int32)), .val (.int (3 : Int32)), .val (.int (0 : Int32)), .unset] [(.int (0 : Int32)), (.ref a2)])) rfl rfl (hb hby own_d12_12) _ kst) ?_
  refine own_x_istore X0.here hx (hb hby own_d12_13) rfl (l' := #[.val (.ref a2), .val (.int (0 : Int32)), .val (.ref d), .val (.int (0 : Int32)), .val (.int (3 : Int32)), .val (.int (0 : Int32)), .val (.int c0)]) rfl ?_
  refine own_x_iload X0.here hx (hb hby own_d12_15) rfl ?_
  refine own_x_sipush X0.here hx (hb hby own_d12_17) (z := (255 : Int32)) rfl ?_
  refine own_x_icmpYes X0.here hx (pc0 := 20) (pc' := 26) rfl (hb hby own_d12_20) rfl (flt l0).2.2.2 (by decide) (by decide) ?_
  refine own_x_aloadN X0.here hx (hb hby own_d12_26) rfl rfl ?_
  refine own_x_iloadN X0.here hx (hb hby own_d12_27) rfl ?_
  refine own_x_iload X0.here hx (hb hby own_d12_28) rfl ?_
  refine own_x_i2b X0.here hx (hb hby own_d12_30) rfl ?_
  refine own_h_arB X0 hx hZ e0 A2 (0 : Int32) 0 ⟨by decide, by decide⟩ rfl (Nat.le_of_ble_eq_true rfl) rfl (hb hby own_d12_31) fun T102 h102 X102 e102 W102 V102 => ?_
  have N102 := Fr.snoc X102 N0 gd
  refine own_x_iinc X102.here hx (hb hby own_d12_32) rfl (l' := #[.val (.ref a2), .val (.int ((0 : Int32) + (1 : Int32))), .val (.ref d), .val (.int (0 : Int32)), .val (.int (3 : Int32)), .val (.int (0 : Int32)), .val (.int c0)]) rfl ?_
  refine own_x_iinc X102.here hx (hb hby own_d12_35) rfl (l' := #[.val (.ref a2), .val (.int ((0 : Int32) + (1 : Int32))), .val (.ref d), .val (.int ((0 : Int32) + (1 : Int32))), .val (.int (3 : Int32)), .val (.int (0 : Int32)), .val (.int c0)]) rfl ?_
  refine own_x_iinc X102.here hx (hb hby own_d12_38) rfl (l' := #[.val (.ref a2), .val (.int ((0 : Int32) + (1 : Int32))), .val (.ref d), .val (.int ((0 : Int32) + (1 : Int32))), .val (.int (3 : Int32)), .val (.int ((0 : Int32) + (1 : Int32))), .val (.int c0)]) rfl ?_
  rw [show ((0 : Int32) + (1 : Int32)) = (1 : Int32) from by decide]
  show own_Go p e below Pst (T102.setTop (mkF m 41 #[.val (.ref a2), .val (.int (1 : Int32)), .val (.ref d), .val (.int ((0 : Int32) + (1 : Int32))), .val (.int (3 : Int32)), .val (.int ((0 : Int32) + (1 : Int32))), .val (.int c0)] []))
  rw [show ((0 : Int32) + (1 : Int32)) = (1 : Int32) from by decide]
  show own_Go p e below Pst (T102.setTop (mkF m 41 #[.val (.ref a2), .val (.int (1 : Int32)), .val (.ref d), .val (.int (1 : Int32)), .val (.int (3 : Int32)), .val (.int ((0 : Int32) + (1 : Int32))), .val (.int c0)] []))
  rw [show ((0 : Int32) + (1 : Int32)) = (1 : Int32) from by decide]
  show own_Go p e below Pst (T102.setTop (mkF m 41 #[.val (.ref a2), .val (.int (1 : Int32)), .val (.ref d), .val (.int (1 : Int32)), .val (.int (3 : Int32)), .val (.int (1 : Int32)), .val (.int c0)] []))
  refine own_x_goto X102.here hx (pc0 := 41) (pc' := 3) rfl (hb hby own_d12_41) (by decide) (by decide) ?_
  refine own_x_iload X102.here hx (hb hby own_d12_3) rfl ?_
  refine own_x_iload X102.here hx (hb hby own_d12_5) rfl ?_
  refine own_x_icmpNo X102.here hx (hb hby own_d12_7) rfl (tlt (by decide)).2.1 ?_
  refine own_x_aloadN X102.here hx (hb hby own_d12_10) rfl rfl ?_
  refine own_x_iloadN X102.here hx (hb hby own_d12_11) rfl ?_
  have c103 := (A1.other W102 ne)
  obtain ⟨cl104, Ar104, q104, S104, P104, H104, G104⟩ := id c103
  have hin104 : ¬ ((1 : Int32) < 0 ∨ cl104.slots.size ≤ ((1 : Int32)).toNatClampNeg) := inb_of S104 ⟨by decide, by decide⟩
  have hat104 : cl104.slots[((1 : Int32)).toNatClampNeg]? = some (.int c1) := Has.at H104 hin104 rfl
  refine own_Go.of (S' := T102.setTop (mkF m 13 #[.val (.ref a2), .val (.int (1 : Int32)), .val (.ref d), .val (.int (1 : Int32)), .val (.int (3 : Int32)), .val (.int (1 : Int32)), .val (.int c0)] [(.int c1)])) (fun tgt kst => X102.caload hx (j := (1 : Int32)) (v := (.int c1)) (by rw [e102]; exact Ar104.1) (State.isArrayOf_alike hZ.alike Ar104.2.1) Ar104.2.2 hin104 hat104 (g := (mkF m 12 #[.val (.ref a2), .val (.int (1 : Int32)), .val (.ref d), .val (.int (1 : Int32)), .val (.int (3 : Int32)), .val (.int (1 : Int32)), .val (.int c0)] [(.int (1 : Int32)), (.ref a2)])) rfl rfl (hb hby own_d12_12) _ kst) ?_
  refine own_x_istore X102.here hx (hb hby own_d12_13) rfl (l' := #[.val (.ref a2), .val (.int (1 : Int32)), .val (.ref d), .val (.int (1 : Int32)), .val (.int (3 : Int32)), .val (.int (1 : Int32)), .val (.int c1)]) rfl ?_
  refine own_x_iload X102.here hx (hb hby own_d12_15) rfl ?_
  refine own_x_sipush X102.here hx (hb hby own_d12_17) (z := (255 : Int32)) rfl ?_
  refine own_x_icmpNo X102.here hx (hb hby own_d12_20) rfl (tlt u).2.2.2 ?_
  refine own_x_iload X102.here hx (hb hby own_d12_23) rfl ?_
  have c105 := ((Keep.refl h0 [d]).wr W102 (Or.inl (List.mem_of_getElem? (i := 0) rfl)))
  rw [hPst]
  exact own_retP X102 (v := (some (.int (1 : Int32)))) (Q := Q_cmp3_1 Z a2 kc dv c0 c1 c2 d kd h0 n0) (fun h => by rw [Bd.returns] at h; cases h) Bd.notSynchronized (fun fs hr => own_retI X102 hx Bd.returns (hb hby own_d12_25) hr) (by decide) (by decide) (by rw [e102]; exact ⟨rfl, N102, c105⟩)
def Q_cmp3_2 (Z : State) (a2 : Addr) (kc : ClassId) (dv : Value) (c0 c1 c2 : Int32) (d : Addr) (kd : ClassId) (h0 : Heap) (n0 : Nat) (v : Option Value) (h : Heap) (L : List Loc) : Prop := v = some (.int (2 : Int32)) ∧ Fr n0 L ∧ Keep h0 h [d]
theorem rm_cmp3_2 (l : Launch) (Z : State) (a0 : Array Value) (hw : own_H a0 Z) (ws : List Jvm.Cond) (a2 : Addr) (kc : ClassId) (dv : Value) (c0 c1 c2 : Int32) (d : Addr) (kd : ClassId) (h0 : Heap) (n0 : Nat) (Z0 : n0 ≤ h0.size) (A1 : Arv Z h0 a2 kc .char (3 : Int32) [(.int c0), (.int c1), (.int c2)] dv) (A2 : Arv Z h0 d kd .byte (3 : Int32) [(.int (0 : Int32)), (.int (0 : Int32)), (.int (0 : Int32))] (.int (0 : Int32))) (gd : n0 ≤ d) (ne : a2 ≠ d) (l0 : ¬ (255 : Int32) < c0) (l1 : ¬ (255 : Int32) < c1) (u : (255 : Int32) < c2) : own_MP l (⟨"java/lang/StringUTF16", "compress", "([CI[BII)I"⟩ : MethodName) jdk_52_method_21_code 7 (some .int) ws ({ frames := 0, cells := 0, slots := 0, locals := 0 } : Room) Z h0 #[(.ref a2), (.int (0 : Int32)), (.ref d), (.int (0 : Int32)), (.int (3 : Int32))] (fun _ _ _ _ _ => True) (Q_cmp3_2 Z a2 kc dv c0 c1 c2 d kd h0 n0) := by
  refine own_startP (plainFor_of_name own_pn_java_lang_StringUTF16) fun p e s m below meth c s₁ Bd hx hby hml hown0 X0 e0 hh0 hZ hK Pst hPst => ?_
  have hown : s.vm.findClass "java/lang/StringUTF16" = some m.cls := hown0
  have hnm := (name_of_methodNamed Bd.named Bd.method).1
  have N0 := Fr.nil n0
  rw [own_ef_RIRII_7 m a2 (0 : Int32) d (0 : Int32) (3 : Int32)]
  refine own_x_iconst X0.here hx (hb hby own_d12_0) (z := (0 : Int32)) rfl ?_
  refine own_x_istore X0.here hx (hb hby own_d12_1) rfl (l' := #[.val (.ref a2), .val (.int (0 : Int32)), .val (.ref d), .val (.int (0 : Int32)), .val (.int (3 : Int32)), .val (.int (0 : Int32)), .unset]) rfl ?_
  refine own_x_iload X0.here hx (hb hby own_d12_3) rfl ?_
  refine own_x_iload X0.here hx (hb hby own_d12_5) rfl ?_
  refine own_x_icmpNo X0.here hx (hb hby own_d12_7) rfl (tlt (by decide)).2.1 ?_
  refine own_x_aloadN X0.here hx (hb hby own_d12_10) rfl rfl ?_
  refine own_x_iloadN X0.here hx (hb hby own_d12_11) rfl ?_
  obtain ⟨cl101, Ar101, q101, S101, P101, H101, G101⟩ := id A1
  have hin101 : ¬ ((0 : Int32) < 0 ∨ cl101.slots.size ≤ ((0 : Int32)).toNatClampNeg) := inb_of S101 ⟨by decide, by decide⟩
  have hat101 : cl101.slots[((0 : Int32)).toNatClampNeg]? = some (.int c0) := Has.at H101 hin101 rfl
  refine own_Go.of (S' := s₁.setTop (mkF m 13 #[.val (.ref a2), .val (.int (0 : Int32)), .val (.ref d), .val (.int (0 : Int32)), .val (.int (3 : Int32)), .val (.int (0 : Int32)), .unset] [(.int c0)])) (fun tgt kst => X0.caload hx (j := (0 : Int32)) (v := (.int c0)) (by rw [e0]; exact Ar101.1) (State.isArrayOf_alike hZ.alike Ar101.2.1) Ar101.2.2 hin101 hat101 (g := (mkF m 12 #[.val (.ref a2), .val (.int (0 : Int32)), .val (.ref d), .val (.int (0 : Int32)), .val (.int (3 : Int32)), .val (.int (0 : Int32)), .unset] [(.int (0 : Int32)), (.ref a2)])) rfl rfl (hb hby own_d12_12) _ kst) ?_
  refine own_x_istore X0.here hx (hb hby own_d12_13) rfl (l' := #[.val (.ref a2), .val (.int (0 : Int32)), .val (.ref d), .val (.int (0 : Int32)), .val (.int (3 : Int32)), .val (.int (0 : Int32)), .val (.int c0)]) rfl ?_
  refine own_x_iload X0.here hx (hb hby own_d12_15) rfl ?_
  refine own_x_sipush X0.here hx (hb hby own_d12_17) (z := (255 : Int32)) rfl ?_
  refine own_x_icmpYes X0.here hx (pc0 := 20) (pc' := 26) rfl (hb hby own_d12_20) rfl (flt l0).2.2.2 (by decide) (by decide) ?_
  refine own_x_aloadN X0.here hx (hb hby own_d12_26) rfl rfl ?_
  refine own_x_iloadN X0.here hx (hb hby own_d12_27) rfl ?_
  refine own_x_iload X0.here hx (hb hby own_d12_28) rfl ?_
  refine own_x_i2b X0.here hx (hb hby own_d12_30) rfl ?_
  refine own_h_arB X0 hx hZ e0 A2 (0 : Int32) 0 ⟨by decide, by decide⟩ rfl (Nat.le_of_ble_eq_true rfl) rfl (hb hby own_d12_31) fun T102 h102 X102 e102 W102 V102 => ?_
  have N102 := Fr.snoc X102 N0 gd
  refine own_x_iinc X102.here hx (hb hby own_d12_32) rfl (l' := #[.val (.ref a2), .val (.int ((0 : Int32) + (1 : Int32))), .val (.ref d), .val (.int (0 : Int32)), .val (.int (3 : Int32)), .val (.int (0 : Int32)), .val (.int c0)]) rfl ?_
  refine own_x_iinc X102.here hx (hb hby own_d12_35) rfl (l' := #[.val (.ref a2), .val (.int ((0 : Int32) + (1 : Int32))), .val (.ref d), .val (.int ((0 : Int32) + (1 : Int32))), .val (.int (3 : Int32)), .val (.int (0 : Int32)), .val (.int c0)]) rfl ?_
  refine own_x_iinc X102.here hx (hb hby own_d12_38) rfl (l' := #[.val (.ref a2), .val (.int ((0 : Int32) + (1 : Int32))), .val (.ref d), .val (.int ((0 : Int32) + (1 : Int32))), .val (.int (3 : Int32)), .val (.int ((0 : Int32) + (1 : Int32))), .val (.int c0)]) rfl ?_
  rw [show ((0 : Int32) + (1 : Int32)) = (1 : Int32) from by decide]
  show own_Go p e below Pst (T102.setTop (mkF m 41 #[.val (.ref a2), .val (.int (1 : Int32)), .val (.ref d), .val (.int ((0 : Int32) + (1 : Int32))), .val (.int (3 : Int32)), .val (.int ((0 : Int32) + (1 : Int32))), .val (.int c0)] []))
  rw [show ((0 : Int32) + (1 : Int32)) = (1 : Int32) from by decide]
  show own_Go p e below Pst (T102.setTop (mkF m 41 #[.val (.ref a2), .val (.int (1 : Int32)), .val (.ref d), .val (.int (1 : Int32)), .val (.int (3 : Int32)), .val (.int ((0 : Int32) + (1 : Int32))), .val (.int c0)] []))
  rw [show ((0 : Int32) + (1 : Int32)) = (1 : Int32) from by decide]
  show own_Go p e below Pst (T102.setTop (mkF m 41 #[.val (.ref a2), .val (.int (1 : Int32)), .val (.ref d), .val (.int (1 : Int32)), .val (.int (3 : Int32)), .val (.int (1 : Int32)), .val (.int c0)] []))
  refine own_x_goto X102.here hx (pc0 := 41) (pc' := 3) rfl (hb hby own_d12_41) (by decide) (by decide) ?_
  refine own_x_iload X102.here hx (hb hby own_d12_3) rfl ?_
  refine own_x_iload X102.here hx (hb hby own_d12_5) rfl ?_
  refine own_x_icmpNo X102.here hx (hb hby own_d12_7) rfl (tlt (by decide)).2.1 ?_
  refine own_x_aloadN X102.here hx (hb hby own_d12_10) rfl rfl ?_
  refine own_x_iloadN X102.here hx (hb hby own_d12_11) rfl ?_
  have c103 := (A1.other W102 ne)
  obtain ⟨cl104, Ar104, q104, S104, P104, H104, G104⟩ := id c103
  have hin104 : ¬ ((1 : Int32) < 0 ∨ cl104.slots.size ≤ ((1 : Int32)).toNatClampNeg) := inb_of S104 ⟨by decide, by decide⟩
  have hat104 : cl104.slots[((1 : Int32)).toNatClampNeg]? = some (.int c1) := Has.at H104 hin104 rfl
  refine own_Go.of (S' := T102.setTop (mkF m 13 #[.val (.ref a2), .val (.int (1 : Int32)), .val (.ref d), .val (.int (1 : Int32)), .val (.int (3 : Int32)), .val (.int (1 : Int32)), .val (.int c0)] [(.int c1)])) (fun tgt kst => X102.caload hx (j := (1 : Int32)) (v := (.int c1)) (by rw [e102]; exact Ar104.1) (State.isArrayOf_alike hZ.alike Ar104.2.1) Ar104.2.2 hin104 hat104 (g := (mkF m 12 #[.val (.ref a2), .val (.int (1 : Int32)), .val (.ref d), .val (.int (1 : Int32)), .val (.int (3 : Int32)), .val (.int (1 : Int32)), .val (.int c0)] [(.int (1 : Int32)), (.ref a2)])) rfl rfl (hb hby own_d12_12) _ kst) ?_
  refine own_x_istore X102.here hx (hb hby own_d12_13) rfl (l' := #[.val (.ref a2), .val (.int (1 : Int32)), .val (.ref d), .val (.int (1 : Int32)), .val (.int (3 : Int32)), .val (.int (1 : Int32)), .val (.int c1)]) rfl ?_
  refine own_x_iload X102.here hx (hb hby own_d12_15) rfl ?_
  refine own_x_sipush X102.here hx (hb hby own_d12_17) (z := (255 : Int32)) rfl ?_
  refine own_x_icmpYes X102.here hx (pc0 := 20) (pc' := 26) rfl (hb hby own_d12_20) rfl (flt l1).2.2.2 (by decide) (by decide) ?_
  refine own_x_aloadN X102.here hx (hb hby own_d12_26) rfl rfl ?_
  refine own_x_iloadN X102.here hx (hb hby own_d12_27) rfl ?_
  refine own_x_iload X102.here hx (hb hby own_d12_28) rfl ?_
  refine own_x_i2b X102.here hx (hb hby own_d12_30) rfl ?_
  refine own_h_arB X102 hx hZ e102 V102 (1 : Int32) 1 ⟨by decide, by decide⟩ rfl (Nat.le_of_ble_eq_true rfl) rfl (hb hby own_d12_31) fun T105 h105 X105 e105 W105 V105 => ?_
  have N105 := Fr.snoc X105 N102 gd
  refine own_x_iinc X105.here hx (hb hby own_d12_32) rfl (l' := #[.val (.ref a2), .val (.int ((1 : Int32) + (1 : Int32))), .val (.ref d), .val (.int (1 : Int32)), .val (.int (3 : Int32)), .val (.int (1 : Int32)), .val (.int c1)]) rfl ?_
  refine own_x_iinc X105.here hx (hb hby own_d12_35) rfl (l' := #[.val (.ref a2), .val (.int ((1 : Int32) + (1 : Int32))), .val (.ref d), .val (.int ((1 : Int32) + (1 : Int32))), .val (.int (3 : Int32)), .val (.int (1 : Int32)), .val (.int c1)]) rfl ?_
  refine own_x_iinc X105.here hx (hb hby own_d12_38) rfl (l' := #[.val (.ref a2), .val (.int ((1 : Int32) + (1 : Int32))), .val (.ref d), .val (.int ((1 : Int32) + (1 : Int32))), .val (.int (3 : Int32)), .val (.int ((1 : Int32) + (1 : Int32))), .val (.int c1)]) rfl ?_
  rw [show ((1 : Int32) + (1 : Int32)) = (2 : Int32) from by decide]
  show own_Go p e below Pst (T105.setTop (mkF m 41 #[.val (.ref a2), .val (.int (2 : Int32)), .val (.ref d), .val (.int ((1 : Int32) + (1 : Int32))), .val (.int (3 : Int32)), .val (.int ((1 : Int32) + (1 : Int32))), .val (.int c1)] []))
  rw [show ((1 : Int32) + (1 : Int32)) = (2 : Int32) from by decide]
  show own_Go p e below Pst (T105.setTop (mkF m 41 #[.val (.ref a2), .val (.int (2 : Int32)), .val (.ref d), .val (.int (2 : Int32)), .val (.int (3 : Int32)), .val (.int ((1 : Int32) + (1 : Int32))), .val (.int c1)] []))
  rw [show ((1 : Int32) + (1 : Int32)) = (2 : Int32) from by decide]
  show own_Go p e below Pst (T105.setTop (mkF m 41 #[.val (.ref a2), .val (.int (2 : Int32)), .val (.ref d), .val (.int (2 : Int32)), .val (.int (3 : Int32)), .val (.int (2 : Int32)), .val (.int c1)] []))
  refine own_x_goto X105.here hx (pc0 := 41) (pc' := 3) rfl (hb hby own_d12_41) (by decide) (by decide) ?_
  refine own_x_iload X105.here hx (hb hby own_d12_3) rfl ?_
  refine own_x_iload X105.here hx (hb hby own_d12_5) rfl ?_
  refine own_x_icmpNo X105.here hx (hb hby own_d12_7) rfl (tlt (by decide)).2.1 ?_
  refine own_x_aloadN X105.here hx (hb hby own_d12_10) rfl rfl ?_
  refine own_x_iloadN X105.here hx (hb hby own_d12_11) rfl ?_
  have c106 := (c103.other W105 ne)
  obtain ⟨cl107, Ar107, q107, S107, P107, H107, G107⟩ := id c106
  have hin107 : ¬ ((2 : Int32) < 0 ∨ cl107.slots.size ≤ ((2 : Int32)).toNatClampNeg) := inb_of S107 ⟨by decide, by decide⟩
  have hat107 : cl107.slots[((2 : Int32)).toNatClampNeg]? = some (.int c2) := Has.at H107 hin107 rfl
  refine own_Go.of (S' := T105.setTop (mkF m 13 #[.val (.ref a2), .val (.int (2 : Int32)), .val (.ref d), .val (.int (2 : Int32)), .val (.int (3 : Int32)), .val (.int (2 : Int32)), .val (.int c1)] [(.int c2)])) (fun tgt kst => X105.caload hx (j := (2 : Int32)) (v := (.int c2)) (by rw [e105]; exact Ar107.1) (State.isArrayOf_alike hZ.alike Ar107.2.1) Ar107.2.2 hin107 hat107 (g := (mkF m 12 #[.val (.ref a2), .val (.int (2 : Int32)), .val (.ref d), .val (.int (2 : Int32)), .val (.int (3 : Int32)), .val (.int (2 : Int32)), .val (.int c1)] [(.int (2 : Int32)), (.ref a2)])) rfl rfl (hb hby own_d12_12) _ kst) ?_
  refine own_x_istore X105.here hx (hb hby own_d12_13) rfl (l' := #[.val (.ref a2), .val (.int (2 : Int32)), .val (.ref d), .val (.int (2 : Int32)), .val (.int (3 : Int32)), .val (.int (2 : Int32)), .val (.int c2)]) rfl ?_
  refine own_x_iload X105.here hx (hb hby own_d12_15) rfl ?_
  refine own_x_sipush X105.here hx (hb hby own_d12_17) (z := (255 : Int32)) rfl ?_
  refine own_x_icmpNo X105.here hx (hb hby own_d12_20) rfl (tlt u).2.2.2 ?_
  refine own_x_iload X105.here hx (hb hby own_d12_23) rfl ?_
  have c108 := (((Keep.refl h0 [d]).wr W102 (Or.inl (List.mem_of_getElem? (i := 0) rfl))).wr W105 (Or.inl (List.mem_of_getElem? (i := 0) rfl)))
  rw [hPst]
  exact own_retP X105 (v := (some (.int (2 : Int32)))) (Q := Q_cmp3_2 Z a2 kc dv c0 c1 c2 d kd h0 n0) (fun h => by rw [Bd.returns] at h; cases h) Bd.notSynchronized (fun fs hr => own_retI X105 hx Bd.returns (hb hby own_d12_25) hr) (by decide) (by decide) (by rw [e105]; exact ⟨rfl, N105, c108⟩)
def Q_cu3 (Z : State) (a2 : Addr) (kc : ClassId) (dv : Value) (c0 c1 c2 : Int32) (h0 : Heap) (n0 : Nat) (v : Option Value) (h : Heap) (L : List Loc) : Prop := ∃ (b : Addr), v = some (.ref b) ∧ Fr n0 L ∧ Keep h0 h [] ∧ h0.size ≤ b ∧ ∃ kb : ClassId, Arv Z h b kb .byte (6 : Int32) (own_u16 [c0, c1, c2]) (.int 0)
theorem rm_cu3 (l : Launch) (Z : State) (a0 : Array Value) (hw : own_H a0 Z) (ws : List Jvm.Cond) (a2 : Addr) (kc : ClassId) (dv : Value) (c0 c1 c2 : Int32) (h0 : Heap) (n0 : Nat) (Z0 : n0 ≤ h0.size) (O : Old Z n0 h0) (SU0 : Sta Z Z.heap "java/lang/StringUTF16" "$assertionsDisabled" "Z" (.int (1 : Int32))) (SU1 : Sta Z Z.heap "java/lang/StringUTF16" "HI_BYTE_SHIFT" "I" (.int (0 : Int32))) (SU2 : Sta Z Z.heap "java/lang/StringUTF16" "LO_BYTE_SHIFT" "I" (.int (8 : Int32))) (A1 : Arv Z h0 a2 kc .char (3 : Int32) [(.int c0), (.int c1), (.int c2)] dv) (hr : ¬ c0 < 0 ∧ ¬ (65535 : Int32) < c0 ∧ ¬ c1 < 0 ∧ ¬ (65535 : Int32) < c1 ∧ ¬ c2 < 0 ∧ ¬ (65535 : Int32) < c2) (hbad : ¬ (¬ (255 : Int32) < c0 ∧ ¬ (255 : Int32) < c1 ∧ ¬ (255 : Int32) < c2)) : own_MP l (⟨"java/lang/StringUTF16", "compress", "([CII)[B"⟩ : MethodName) jdk_52_method_16_code 6 (some (.array .byte)) ws ({ frames := 3, cells := 2, slots := 9, locals := 40 } : Room) Z h0 #[(.ref a2), (.int (0 : Int32)), (.int (3 : Int32))] (fun _ _ _ _ _ => True) (Q_cu3 Z a2 kc dv c0 c1 c2 h0 n0) := by
  refine own_startP (plainFor_of_name own_pn_java_lang_StringUTF16) fun p e s m below meth c s₁ Bd hx hby hml hown0 X0 e0 hh0 hZ hK Pst hPst => ?_
  have hown : s.vm.findClass "java/lang/StringUTF16" = some m.cls := hown0
  have hnm := (name_of_methodNamed Bd.named Bd.method).1
  have N0 := Fr.nil n0
  rw [own_ef_RII_6 m a2 (0 : Int32) (3 : Int32)]
  refine own_x_iloadN X0.here hx (hb hby own_d11_0) rfl ?_
  refine own_h_newP (aty := .byte) X0 hx hZ (own_w21 hw) e0 (hb hby own_d11_1) rfl (by decide) (cap := 3) (by decide) (by decide) (by decide) (by decide) fun T101 h101 k101 b101 g101 X101 e101 E101 A101 => ?_
  have ne_a2_b101 : a2 ≠ b101 := Nat.ne_of_lt (Nat.lt_of_lt_of_le A1.lt (Nat.le_of_eq g101.symm))
  have gn_b101 : n0 ≤ b101 := Nat.le_trans Z0 (Nat.le_of_eq g101.symm)
  have sz_b101 : h0.size ≤ b101 := Nat.le_trans (Keep.refl h0 []).1 (Nat.le_of_eq g101.symm)
  have V101 : Arv Z h101 b101 k101 .byte (3 : Int32) [(.int (0 : Int32)), (.int (0 : Int32)), (.int (0 : Int32))] (.int (0 : Int32)) := (Arv.new A101 (by decide)).pad (pad_rep [] (.int (0 : Int32)) 3)
  refine own_x_astoreN X101.here hx (hb hby own_d11_3) rfl rfl (l' := #[.val (.ref a2), .val (.int (0 : Int32)), .val (.int (3 : Int32)), .val (.ref b101), .unset, .unset]) rfl ?_
  refine own_x_aloadN X101.here hx (hb hby own_d11_4) rfl rfl ?_
  refine own_x_iloadN X101.here hx (hb hby own_d11_5) rfl ?_
  refine own_x_aloadN X101.here hx (hb hby own_d11_6) rfl rfl ?_
  refine own_x_iconst X101.here hx (hb hby own_d11_7) (z := (0 : Int32)) rfl ?_
  refine own_x_iloadN X101.here hx (hb hby own_d11_8) rfl ?_
  by_cases u0 : (255 : Int32) < c0
  · have c102 := (A1.ext E101)
    have c104 := (Nat.le_trans Z0 E101.1)
    refine own_cF X101 (Jvm.LawKit.callS X101 hx (y := (⟨"java/lang/StringUTF16", "compress", "([CI[BII)I"⟩ : MethodName)) hown (mvT hZ (own_w67 hw)) (mvT hZ (own_w68 hw)) (mvT hZ (own_w65 hw)) (mvT hZ (own_w69 hw)) (by decide) (backOf (W := 0) (rm_cmp3_0 l Z a0 hw [] a2 kc dv c0 c1 c2 b101 k101 h101 n0 c104 c102 V101 gn_b101 ne_a2_b101  u0) hZ (own_w69 hw) (own_w65 hw) (by decide) (by decide)) (g := (mkF m 9 #[.val (.ref a2), .val (.int (0 : Int32)), .val (.int (3 : Int32)), .val (.ref b101), .unset, .unset] [(.int (3 : Int32)), (.int (0 : Int32)), (.ref b101), (.int (0 : Int32)), (.ref a2)])) rfl (by rw [hml]; rfl) (argsL := [(.ref a2), (.int (0 : Int32)), (.ref b101), (.int (0 : Int32)), (.int (3 : Int32))]) (rest := []) (lenOf own_pd4 rfl) rfl (by show 2 * 0 + _ ≤ _; exact Nat.le_of_eq rfl) (hb hby own_d11_9) (fun _ _ => ⟨rfl, e101, (by decide : 1 + 0 ≤ _), (by decide : 3 + 0 ≤ _)⟩)) fun v103 T103 L103 X103 hQ103 => ?_
    obtain ⟨rfl, Nq103, K103⟩ := hQ103
    have N103 := Fr.app N0 Nq103
    show own_Go p e below Pst (T103.setTop (mkF m 12 #[.val (.ref a2), .val (.int (0 : Int32)), .val (.int (3 : Int32)), .val (.ref b101), .unset, .unset] [(.int (0 : Int32))]))
    refine own_x_istore X103.here hx (hb hby own_d11_12) rfl (l' := #[.val (.ref a2), .val (.int (0 : Int32)), .val (.int (3 : Int32)), .val (.ref b101), .val (.int (0 : Int32)), .unset]) rfl ?_
    refine own_x_iload X103.here hx (hb hby own_d11_14) rfl ?_
    refine own_x_iloadN X103.here hx (hb hby own_d11_16) rfl ?_
    refine own_x_icmpNo X103.here hx (hb hby own_d11_17) rfl (feq (by decide)).1 ?_
    refine own_x_aloadN X103.here hx (hb hby own_d11_20) rfl rfl ?_
    refine own_x_iloadN X103.here hx (hb hby own_d11_21) rfl ?_
    refine own_x_iloadN X103.here hx (hb hby own_d11_22) rfl ?_
    have c105 := ((O.ext E101).keep K103 (allS gn_b101 all0))
    have c106 := (c102.keep K103 (ninS ne_a2_b101 nin0))
    have c108 := (Nat.le_trans c104 K103.1)
    refine own_cF X103 (Jvm.LawKit.callS X103 hx (y := (⟨"java/lang/StringUTF16", "toBytes", "([CII)[B"⟩ : MethodName)) hown (mvT hZ (own_w75 hw)) (mvT hZ (own_w76 hw)) (mvT hZ (own_w65 hw)) (mvT hZ (own_w77 hw)) (by decide) (backOf (W := 0) (rm_tob3 l Z a0 hw [] a2 kc dv c0 c1 c2 T103.heap n0 c108 c105 SU0 SU1 SU2 c106) hZ (own_w77 hw) (own_w65 hw) (by decide) (by decide)) (g := (mkF m 23 #[.val (.ref a2), .val (.int (0 : Int32)), .val (.int (3 : Int32)), .val (.ref b101), .val (.int (0 : Int32)), .unset] [(.int (3 : Int32)), (.int (0 : Int32)), (.ref a2)])) rfl (by rw [hml]; rfl) (argsL := [(.ref a2), (.int (0 : Int32)), (.int (3 : Int32))]) (rest := []) (lenOf own_pd5 rfl) rfl (by show 2 * 0 + _ ≤ _; exact Nat.le_of_eq rfl) (hb hby own_d11_23) (fun _ _ => ⟨rfl, rfl, (by decide : 1 + 1 ≤ _), (by decide : 3 + 6 ≤ _)⟩)) fun v107 T107 L107 X107 hQ107 => ?_
    obtain ⟨b107, rfl, Nq107, K107, sb107, kb107, V107⟩ := hQ107
    have N107 := Fr.app N103 Nq107
    have ne_a2_b107 : a2 ≠ b107 := Nat.ne_of_lt (Nat.lt_of_lt_of_le c106.lt sb107)
    have gn_b107 : n0 ≤ b107 := Nat.le_trans c108 sb107
    have c109 := (Keep.trans ((Keep.refl h0 []).ext E101) K103 (allS (Or.inr sz_b101) all0))
    have sz_b107 : h0.size ≤ b107 := Nat.le_trans c109.1 sb107
    show own_Go p e below Pst (T107.setTop (mkF m 26 #[.val (.ref a2), .val (.int (0 : Int32)), .val (.int (3 : Int32)), .val (.ref b101), .val (.int (0 : Int32)), .unset] [(.ref b107)]))
    refine own_x_astore X107.here hx (hb hby own_d11_26) rfl rfl (l' := #[.val (.ref a2), .val (.int (0 : Int32)), .val (.int (3 : Int32)), .val (.ref b101), .val (.int (0 : Int32)), .val (.ref b107)]) rfl ?_
    refine own_x_aload X107.here hx (hb hby own_d11_28) rfl rfl ?_
    refine own_x_iload X107.here hx (hb hby own_d11_30) rfl ?_
    have c110 := (c105.keep K107 all0)
    have c112 := (Nat.le_trans c108 K107.1)
    refine own_cF X107 (Jvm.LawKit.callS X107 hx (y := (⟨"java/lang/StringUTF16", "getChar", "([BI)C"⟩ : MethodName)) hown (mvT hZ (own_w91 hw)) (mvT hZ (own_w92 hw)) (mvT hZ (own_w65 hw)) (mvT hZ (own_w93 hw)) (by decide) (backOf (W := 0) (rm_getc0 l Z a0 hw [] b107 kb107 (6 : Int32) (own_lo8 c0) (own_hi8 c0) (own_u16 [c0, c1, c2]) T107.heap n0 c112 c110 SU0 SU1 SU2 V107 (by decide) rfl rfl) hZ (own_w93 hw) (own_w65 hw) (by decide) (by decide)) (g := (mkF m 32 #[.val (.ref a2), .val (.int (0 : Int32)), .val (.int (3 : Int32)), .val (.ref b101), .val (.int (0 : Int32)), .val (.ref b107)] [(.int (0 : Int32)), (.ref b107)])) rfl (by rw [hml]; rfl) (argsL := [(.ref b107), (.int (0 : Int32))]) (rest := []) (lenOf own_pd6 rfl) rfl (by show 2 * 0 + _ ≤ _; exact Nat.le_of_eq rfl) (hb hby own_d11_32) (fun _ _ => ⟨rfl, rfl, (by decide : 2 + 0 ≤ _), (by decide : 9 + 0 ≤ _)⟩)) fun v111 T111 L111 X111 hQ111 => ?_
    obtain ⟨rfl, Nq111, e111⟩ := hQ111
    have N111 := Fr.app N107 Nq111
    show own_Go p e below Pst (T111.setTop (mkF m 35 #[.val (.ref a2), .val (.int (0 : Int32)), .val (.int (3 : Int32)), .val (.ref b101), .val (.int (0 : Int32)), .val (.ref b107)] [(.int (nar .char (own_join (own_lo8 c0) (own_hi8 c0))))]))
    rw [own_join_eq hr.1 hr.2.1]
    show own_Go p e below Pst (T111.setTop (mkF m 35 #[.val (.ref a2), .val (.int (0 : Int32)), .val (.int (3 : Int32)), .val (.ref b101), .val (.int (0 : Int32)), .val (.ref b107)] [(.int c0)]))
    refine own_x_sipush X111.here hx (hb hby own_d11_35) (z := (255 : Int32)) rfl ?_
    refine own_x_icmpYes X111.here hx (pc0 := 38) (pc' := 54) rfl (hb hby own_d11_38) rfl (tlt u0).2.2.1 (by decide) (by decide) ?_
    refine own_x_aload X111.here hx (hb hby own_d11_54) rfl rfl ?_
    have c113 := (Keep.trans c109 K107 all0)
    rw [hPst]
    exact own_retP X111 (v := (some (.ref b107))) (Q := Q_cu3 Z a2 kc dv c0 c1 c2 h0 n0) (fun h => by rw [Bd.returns] at h; cases h) Bd.notSynchronized (fun fs hr => retOut X111 hx Bd.returns rfl (Or.inr (Or.inr (Or.inr (Or.inr ⟨rfl, rfl, rfl⟩)))) (hb hby own_d11_56) hr) (by decide) (by decide) (by rw [e111]; exact ⟨_, rfl, N111, c113, sz_b107, _, V107⟩)
  · have l0 := u0
    clear u0
    by_cases u1 : (255 : Int32) < c1
    · have c114 := (A1.ext E101)
      have c116 := (Nat.le_trans Z0 E101.1)
      refine own_cF X101 (Jvm.LawKit.callS X101 hx (y := (⟨"java/lang/StringUTF16", "compress", "([CI[BII)I"⟩ : MethodName)) hown (mvT hZ (own_w67 hw)) (mvT hZ (own_w68 hw)) (mvT hZ (own_w65 hw)) (mvT hZ (own_w69 hw)) (by decide) (backOf (W := 0) (rm_cmp3_1 l Z a0 hw [] a2 kc dv c0 c1 c2 b101 k101 h101 n0 c116 c114 V101 gn_b101 ne_a2_b101 l0 u1) hZ (own_w69 hw) (own_w65 hw) (by decide) (by decide)) (g := (mkF m 9 #[.val (.ref a2), .val (.int (0 : Int32)), .val (.int (3 : Int32)), .val (.ref b101), .unset, .unset] [(.int (3 : Int32)), (.int (0 : Int32)), (.ref b101), (.int (0 : Int32)), (.ref a2)])) rfl (by rw [hml]; rfl) (argsL := [(.ref a2), (.int (0 : Int32)), (.ref b101), (.int (0 : Int32)), (.int (3 : Int32))]) (rest := []) (lenOf own_pd4 rfl) rfl (by show 2 * 0 + _ ≤ _; exact Nat.le_of_eq rfl) (hb hby own_d11_9) (fun _ _ => ⟨rfl, e101, (by decide : 1 + 0 ≤ _), (by decide : 3 + 0 ≤ _)⟩)) fun v115 T115 L115 X115 hQ115 => ?_
      obtain ⟨rfl, Nq115, K115⟩ := hQ115
      have N115 := Fr.app N0 Nq115
      show own_Go p e below Pst (T115.setTop (mkF m 12 #[.val (.ref a2), .val (.int (0 : Int32)), .val (.int (3 : Int32)), .val (.ref b101), .unset, .unset] [(.int (1 : Int32))]))
      refine own_x_istore X115.here hx (hb hby own_d11_12) rfl (l' := #[.val (.ref a2), .val (.int (0 : Int32)), .val (.int (3 : Int32)), .val (.ref b101), .val (.int (1 : Int32)), .unset]) rfl ?_
      refine own_x_iload X115.here hx (hb hby own_d11_14) rfl ?_
      refine own_x_iloadN X115.here hx (hb hby own_d11_16) rfl ?_
      refine own_x_icmpNo X115.here hx (hb hby own_d11_17) rfl (feq (by decide)).1 ?_
      refine own_x_aloadN X115.here hx (hb hby own_d11_20) rfl rfl ?_
      refine own_x_iloadN X115.here hx (hb hby own_d11_21) rfl ?_
      refine own_x_iloadN X115.here hx (hb hby own_d11_22) rfl ?_
      have c117 := ((O.ext E101).keep K115 (allS gn_b101 all0))
      have c118 := (c114.keep K115 (ninS ne_a2_b101 nin0))
      have c120 := (Nat.le_trans c116 K115.1)
      refine own_cF X115 (Jvm.LawKit.callS X115 hx (y := (⟨"java/lang/StringUTF16", "toBytes", "([CII)[B"⟩ : MethodName)) hown (mvT hZ (own_w75 hw)) (mvT hZ (own_w76 hw)) (mvT hZ (own_w65 hw)) (mvT hZ (own_w77 hw)) (by decide) (backOf (W := 0) (rm_tob3 l Z a0 hw [] a2 kc dv c0 c1 c2 T115.heap n0 c120 c117 SU0 SU1 SU2 c118) hZ (own_w77 hw) (own_w65 hw) (by decide) (by decide)) (g := (mkF m 23 #[.val (.ref a2), .val (.int (0 : Int32)), .val (.int (3 : Int32)), .val (.ref b101), .val (.int (1 : Int32)), .unset] [(.int (3 : Int32)), (.int (0 : Int32)), (.ref a2)])) rfl (by rw [hml]; rfl) (argsL := [(.ref a2), (.int (0 : Int32)), (.int (3 : Int32))]) (rest := []) (lenOf own_pd5 rfl) rfl (by show 2 * 0 + _ ≤ _; exact Nat.le_of_eq rfl) (hb hby own_d11_23) (fun _ _ => ⟨rfl, rfl, (by decide : 1 + 1 ≤ _), (by decide : 3 + 6 ≤ _)⟩)) fun v119 T119 L119 X119 hQ119 => ?_
      obtain ⟨b119, rfl, Nq119, K119, sb119, kb119, V119⟩ := hQ119
      have N119 := Fr.app N115 Nq119
      have ne_a2_b119 : a2 ≠ b119 := Nat.ne_of_lt (Nat.lt_of_lt_of_le c118.lt sb119)
      have gn_b119 : n0 ≤ b119 := Nat.le_trans c120 sb119
      have c121 := (Keep.trans ((Keep.refl h0 []).ext E101) K115 (allS (Or.inr sz_b101) all0))
      have sz_b119 : h0.size ≤ b119 := Nat.le_trans c121.1 sb119
      show own_Go p e below Pst (T119.setTop (mkF m 26 #[.val (.ref a2), .val (.int (0 : Int32)), .val (.int (3 : Int32)), .val (.ref b101), .val (.int (1 : Int32)), .unset] [(.ref b119)]))
      refine own_x_astore X119.here hx (hb hby own_d11_26) rfl rfl (l' := #[.val (.ref a2), .val (.int (0 : Int32)), .val (.int (3 : Int32)), .val (.ref b101), .val (.int (1 : Int32)), .val (.ref b119)]) rfl ?_
      refine own_x_aload X119.here hx (hb hby own_d11_28) rfl rfl ?_
      refine own_x_iload X119.here hx (hb hby own_d11_30) rfl ?_
      have c122 := (c117.keep K119 all0)
      have c124 := (Nat.le_trans c120 K119.1)
      refine own_cF X119 (Jvm.LawKit.callS X119 hx (y := (⟨"java/lang/StringUTF16", "getChar", "([BI)C"⟩ : MethodName)) hown (mvT hZ (own_w91 hw)) (mvT hZ (own_w92 hw)) (mvT hZ (own_w65 hw)) (mvT hZ (own_w93 hw)) (by decide) (backOf (W := 0) (rm_getc1 l Z a0 hw [] b119 kb119 (6 : Int32) (own_lo8 c1) (own_hi8 c1) (own_u16 [c0, c1, c2]) T119.heap n0 c124 c122 SU0 SU1 SU2 V119 (by decide) rfl rfl) hZ (own_w93 hw) (own_w65 hw) (by decide) (by decide)) (g := (mkF m 32 #[.val (.ref a2), .val (.int (0 : Int32)), .val (.int (3 : Int32)), .val (.ref b101), .val (.int (1 : Int32)), .val (.ref b119)] [(.int (1 : Int32)), (.ref b119)])) rfl (by rw [hml]; rfl) (argsL := [(.ref b119), (.int (1 : Int32))]) (rest := []) (lenOf own_pd6 rfl) rfl (by show 2 * 0 + _ ≤ _; exact Nat.le_of_eq rfl) (hb hby own_d11_32) (fun _ _ => ⟨rfl, rfl, (by decide : 2 + 0 ≤ _), (by decide : 9 + 0 ≤ _)⟩)) fun v123 T123 L123 X123 hQ123 => ?_
      obtain ⟨rfl, Nq123, e123⟩ := hQ123
      have N123 := Fr.app N119 Nq123
      show own_Go p e below Pst (T123.setTop (mkF m 35 #[.val (.ref a2), .val (.int (0 : Int32)), .val (.int (3 : Int32)), .val (.ref b101), .val (.int (1 : Int32)), .val (.ref b119)] [(.int (nar .char (own_join (own_lo8 c1) (own_hi8 c1))))]))
      rw [own_join_eq hr.2.2.1 hr.2.2.2.1]
      show own_Go p e below Pst (T123.setTop (mkF m 35 #[.val (.ref a2), .val (.int (0 : Int32)), .val (.int (3 : Int32)), .val (.ref b101), .val (.int (1 : Int32)), .val (.ref b119)] [(.int c1)]))
      refine own_x_sipush X123.here hx (hb hby own_d11_35) (z := (255 : Int32)) rfl ?_
      refine own_x_icmpYes X123.here hx (pc0 := 38) (pc' := 54) rfl (hb hby own_d11_38) rfl (tlt u1).2.2.1 (by decide) (by decide) ?_
      refine own_x_aload X123.here hx (hb hby own_d11_54) rfl rfl ?_
      have c125 := (Keep.trans c121 K119 all0)
      rw [hPst]
      exact own_retP X123 (v := (some (.ref b119))) (Q := Q_cu3 Z a2 kc dv c0 c1 c2 h0 n0) (fun h => by rw [Bd.returns] at h; cases h) Bd.notSynchronized (fun fs hr => retOut X123 hx Bd.returns rfl (Or.inr (Or.inr (Or.inr (Or.inr ⟨rfl, rfl, rfl⟩)))) (hb hby own_d11_56) hr) (by decide) (by decide) (by rw [e123]; exact ⟨_, rfl, N123, c125, sz_b119, _, V119⟩)
    · have l1 := u1
      clear u1
      have u2 : (255 : Int32) < c2 := by
        by_cases q : (255 : Int32) < c2
        · exact q
        · exact absurd ⟨l0, l1, q⟩ hbad
      have c126 := (A1.ext E101)
      have c128 := (Nat.le_trans Z0 E101.1)
      refine own_cF X101 (Jvm.LawKit.callS X101 hx (y := (⟨"java/lang/StringUTF16", "compress", "([CI[BII)I"⟩ : MethodName)) hown (mvT hZ (own_w67 hw)) (mvT hZ (own_w68 hw)) (mvT hZ (own_w65 hw)) (mvT hZ (own_w69 hw)) (by decide) (backOf (W := 0) (rm_cmp3_2 l Z a0 hw [] a2 kc dv c0 c1 c2 b101 k101 h101 n0 c128 c126 V101 gn_b101 ne_a2_b101 l0 l1 u2) hZ (own_w69 hw) (own_w65 hw) (by decide) (by decide)) (g := (mkF m 9 #[.val (.ref a2), .val (.int (0 : Int32)), .val (.int (3 : Int32)), .val (.ref b101), .unset, .unset] [(.int (3 : Int32)), (.int (0 : Int32)), (.ref b101), (.int (0 : Int32)), (.ref a2)])) rfl (by rw [hml]; rfl) (argsL := [(.ref a2), (.int (0 : Int32)), (.ref b101), (.int (0 : Int32)), (.int (3 : Int32))]) (rest := []) (lenOf own_pd4 rfl) rfl (by show 2 * 0 + _ ≤ _; exact Nat.le_of_eq rfl) (hb hby own_d11_9) (fun _ _ => ⟨rfl, e101, (by decide : 1 + 0 ≤ _), (by decide : 3 + 0 ≤ _)⟩)) fun v127 T127 L127 X127 hQ127 => ?_
      obtain ⟨rfl, Nq127, K127⟩ := hQ127
      have N127 := Fr.app N0 Nq127
      show own_Go p e below Pst (T127.setTop (mkF m 12 #[.val (.ref a2), .val (.int (0 : Int32)), .val (.int (3 : Int32)), .val (.ref b101), .unset, .unset] [(.int (2 : Int32))]))
      refine own_x_istore X127.here hx (hb hby own_d11_12) rfl (l' := #[.val (.ref a2), .val (.int (0 : Int32)), .val (.int (3 : Int32)), .val (.ref b101), .val (.int (2 : Int32)), .unset]) rfl ?_
      refine own_x_iload X127.here hx (hb hby own_d11_14) rfl ?_
      refine own_x_iloadN X127.here hx (hb hby own_d11_16) rfl ?_
      refine own_x_icmpNo X127.here hx (hb hby own_d11_17) rfl (feq (by decide)).1 ?_
      refine own_x_aloadN X127.here hx (hb hby own_d11_20) rfl rfl ?_
      refine own_x_iloadN X127.here hx (hb hby own_d11_21) rfl ?_
      refine own_x_iloadN X127.here hx (hb hby own_d11_22) rfl ?_
      have c129 := ((O.ext E101).keep K127 (allS gn_b101 all0))
      have c130 := (c126.keep K127 (ninS ne_a2_b101 nin0))
      have c132 := (Nat.le_trans c128 K127.1)
      refine own_cF X127 (Jvm.LawKit.callS X127 hx (y := (⟨"java/lang/StringUTF16", "toBytes", "([CII)[B"⟩ : MethodName)) hown (mvT hZ (own_w75 hw)) (mvT hZ (own_w76 hw)) (mvT hZ (own_w65 hw)) (mvT hZ (own_w77 hw)) (by decide) (backOf (W := 0) (rm_tob3 l Z a0 hw [] a2 kc dv c0 c1 c2 T127.heap n0 c132 c129 SU0 SU1 SU2 c130) hZ (own_w77 hw) (own_w65 hw) (by decide) (by decide)) (g := (mkF m 23 #[.val (.ref a2), .val (.int (0 : Int32)), .val (.int (3 : Int32)), .val (.ref b101), .val (.int (2 : Int32)), .unset] [(.int (3 : Int32)), (.int (0 : Int32)), (.ref a2)])) rfl (by rw [hml]; rfl) (argsL := [(.ref a2), (.int (0 : Int32)), (.int (3 : Int32))]) (rest := []) (lenOf own_pd5 rfl) rfl (by show 2 * 0 + _ ≤ _; exact Nat.le_of_eq rfl) (hb hby own_d11_23) (fun _ _ => ⟨rfl, rfl, (by decide : 1 + 1 ≤ _), (by decide : 3 + 6 ≤ _)⟩)) fun v131 T131 L131 X131 hQ131 => ?_
      obtain ⟨b131, rfl, Nq131, K131, sb131, kb131, V131⟩ := hQ131
      have N131 := Fr.app N127 Nq131
      have ne_a2_b131 : a2 ≠ b131 := Nat.ne_of_lt (Nat.lt_of_lt_of_le c130.lt sb131)
      have gn_b131 : n0 ≤ b131 := Nat.le_trans c132 sb131
      have c133 := (Keep.trans ((Keep.refl h0 []).ext E101) K127 (allS (Or.inr sz_b101) all0))
      have sz_b131 : h0.size ≤ b131 := Nat.le_trans c133.1 sb131
      show own_Go p e below Pst (T131.setTop (mkF m 26 #[.val (.ref a2), .val (.int (0 : Int32)), .val (.int (3 : Int32)), .val (.ref b101), .val (.int (2 : Int32)), .unset] [(.ref b131)]))
      refine own_x_astore X131.here hx (hb hby own_d11_26) rfl rfl (l' := #[.val (.ref a2), .val (.int (0 : Int32)), .val (.int (3 : Int32)), .val (.ref b101), .val (.int (2 : Int32)), .val (.ref b131)]) rfl ?_
      refine own_x_aload X131.here hx (hb hby own_d11_28) rfl rfl ?_
      refine own_x_iload X131.here hx (hb hby own_d11_30) rfl ?_
      have c134 := (c129.keep K131 all0)
      have c136 := (Nat.le_trans c132 K131.1)
      refine own_cF X131 (Jvm.LawKit.callS X131 hx (y := (⟨"java/lang/StringUTF16", "getChar", "([BI)C"⟩ : MethodName)) hown (mvT hZ (own_w91 hw)) (mvT hZ (own_w92 hw)) (mvT hZ (own_w65 hw)) (mvT hZ (own_w93 hw)) (by decide) (backOf (W := 0) (rm_getc2 l Z a0 hw [] b131 kb131 (6 : Int32) (own_lo8 c2) (own_hi8 c2) (own_u16 [c0, c1, c2]) T131.heap n0 c136 c134 SU0 SU1 SU2 V131 (by decide) rfl rfl) hZ (own_w93 hw) (own_w65 hw) (by decide) (by decide)) (g := (mkF m 32 #[.val (.ref a2), .val (.int (0 : Int32)), .val (.int (3 : Int32)), .val (.ref b101), .val (.int (2 : Int32)), .val (.ref b131)] [(.int (2 : Int32)), (.ref b131)])) rfl (by rw [hml]; rfl) (argsL := [(.ref b131), (.int (2 : Int32))]) (rest := []) (lenOf own_pd6 rfl) rfl (by show 2 * 0 + _ ≤ _; exact Nat.le_of_eq rfl) (hb hby own_d11_32) (fun _ _ => ⟨rfl, rfl, (by decide : 2 + 0 ≤ _), (by decide : 9 + 0 ≤ _)⟩)) fun v135 T135 L135 X135 hQ135 => ?_
      obtain ⟨rfl, Nq135, e135⟩ := hQ135
      have N135 := Fr.app N131 Nq135
      show own_Go p e below Pst (T135.setTop (mkF m 35 #[.val (.ref a2), .val (.int (0 : Int32)), .val (.int (3 : Int32)), .val (.ref b101), .val (.int (2 : Int32)), .val (.ref b131)] [(.int (nar .char (own_join (own_lo8 c2) (own_hi8 c2))))]))
      rw [own_join_eq hr.2.2.2.2.1 hr.2.2.2.2.2]
      show own_Go p e below Pst (T135.setTop (mkF m 35 #[.val (.ref a2), .val (.int (0 : Int32)), .val (.int (3 : Int32)), .val (.ref b101), .val (.int (2 : Int32)), .val (.ref b131)] [(.int c2)]))
      refine own_x_sipush X135.here hx (hb hby own_d11_35) (z := (255 : Int32)) rfl ?_
      refine own_x_icmpYes X135.here hx (pc0 := 38) (pc' := 54) rfl (hb hby own_d11_38) rfl (tlt u2).2.2.1 (by decide) (by decide) ?_
      refine own_x_aload X135.here hx (hb hby own_d11_54) rfl rfl ?_
      have c137 := (Keep.trans c133 K131 all0)
      rw [hPst]
      exact own_retP X135 (v := (some (.ref b131))) (Q := Q_cu3 Z a2 kc dv c0 c1 c2 h0 n0) (fun h => by rw [Bd.returns] at h; cases h) Bd.notSynchronized (fun fs hr => retOut X135 hx Bd.returns rfl (Or.inr (Or.inr (Or.inr (Or.inr ⟨rfl, rfl, rfl⟩)))) (hb hby own_d11_56) hr) (by decide) (by decide) (by rw [e135]; exact ⟨_, rfl, N135, c137, sz_b131, _, V131⟩)
def Q_codl3 (Z : State) (b : Addr) (kb : ClassId) (vs : List Value) (h0 : Heap) (n0 : Nat) (v : Option Value) (h : Heap) (L : List Loc) : Prop := v = some (.int (1 : Int32)) ∧ Fr n0 L ∧ h = h0
theorem rm_codl3 (l : Launch) (Z : State) (a0 : Array Value) (hw : own_H a0 Z) (ws : List Jvm.Cond) (b : Addr) (kb : ClassId) (vs : List Value) (h0 : Heap) (n0 : Nat) (Z0 : n0 ≤ h0.size) (A1 : Arv Z h0 b kb .byte (6 : Int32) vs (.int 0)) : own_MP l (⟨"java/lang/StringUTF16", "coderFromArrayLen", "([BI)B"⟩ : MethodName) jdk_52_method_15_code 2 (some .byte) ws ({ frames := 0, cells := 0, slots := 0, locals := 0 } : Room) Z h0 #[(.ref b), (.int (3 : Int32))] (fun _ _ _ _ _ => True) (Q_codl3 Z b kb vs h0 n0) := by
  refine own_startP (plainFor_of_name own_pn_java_lang_StringUTF16) fun p e s m below meth c s₁ Bd hx hby hml hown0 X0 e0 hh0 hZ hK Pst hPst => ?_
  have hown : s.vm.findClass "java/lang/StringUTF16" = some m.cls := hown0
  have hnm := (name_of_methodNamed Bd.named Bd.method).1
  have N0 := Fr.nil n0
  rw [own_ef_RI_2 m b (3 : Int32)]
  refine own_x_iloadN X0.here hx (hb hby own_d13_0) rfl ?_
  refine own_x_aloadN X0.here hx (hb hby own_d13_1) rfl rfl ?_
  obtain ⟨cl101, Ar101, -, S101, P101, -, -⟩ := id A1
  refine own_Go.of (S' := s₁.setTop (mkF m 3 #[.val (.ref b), .val (.int (3 : Int32))] [(.int (6 : Int32)), (.int (3 : Int32))])) (fun tgt kst => X0.arraylength hx (by rw [e0]; exact Ar101.1) (State.isArrayOf_alike hZ.alike Ar101.2.1) (g := (mkF m 2 #[.val (.ref b), .val (.int (3 : Int32))] [(.ref b), (.int (3 : Int32))])) rfl rfl (hb hby own_d13_2) _ (by rw [len_of S101 P101]; exact kst)) ?_
  refine own_x_isub X0.here hx (hb hby own_d13_3) rfl ?_
  refine own_x_bipush X0.here hx (hb hby own_d13_4) (z := (31 : Int32)) rfl ?_
  refine own_x_iushr X0.here hx (hb hby own_d13_6) rfl ?_
  refine own_x_i2b X0.here hx (hb hby own_d13_7) rfl ?_
  rw [show (((((3 : Int32) - (6 : Int32)).toUInt32 >>> ((31 : Int32) &&& 31).toUInt32).toInt32).toInt8.toInt32) = (1 : Int32) from by decide]
  show own_Go p e below Pst (s₁.setTop (mkF m 8 #[.val (.ref b), .val (.int (3 : Int32))] [(.int (1 : Int32))]))
  rw [hPst]
  exact own_retP X0 (v := (some (.int (nar .byte (1 : Int32))))) (Q := Q_codl3 Z b kb vs h0 n0) (fun h => by rw [Bd.returns] at h; cases h) Bd.notSynchronized (fun fs hr => retN X0 hx (t := .byte) Bd.returns (by simp) (hb hby own_d13_8) hr) (by decide) (by decide) (by rw [e0]; exact ⟨rfl, N0, rfl⟩)
def Q_i4u3 (Z : State) (z : Int32) (a1 a2 : Addr) (kc : ClassId) (dv : Value) (c0 c1 c2 : Int32) (u1 u2 : Value) (h0 : Heap) (n0 : Nat) (v : Option Value) (h : Heap) (L : List Loc) : Prop := v = none ∧ Fr n0 L ∧ Keep h0 h [a1] ∧ Exa Z h a1 "java/lang/String" ∧ Fld Z h a1 "java/lang/String" "coder" "B" (.int (1 : Int32)) ∧ ∃ (t : Addr) (kb : ClassId), h0.size ≤ t ∧ Fld Z h a1 "java/lang/String" "value" "[B" (.ref t) ∧ Arv Z h t kb .byte (6 : Int32) (own_u16 [c0, c1, c2]) (.int 0)
theorem rm_i4u3 (l : Launch) (Z : State) (a0 : Array Value) (hw : own_H a0 Z) (ws : List Jvm.Cond) (z : Int32) (a1 a2 : Addr) (kc : ClassId) (dv : Value) (c0 c1 c2 : Int32) (u1 u2 : Value) (h0 : Heap) (n0 : Nat) (Z0 : n0 ≤ h0.size) (O : Old Z n0 h0) (SC : Sta Z Z.heap "java/lang/String" "COMPACT_STRINGS" "Z" (.int z)) (hz : ¬ z = 0) (SU0 : Sta Z Z.heap "java/lang/StringUTF16" "$assertionsDisabled" "Z" (.int (1 : Int32))) (SU1 : Sta Z Z.heap "java/lang/StringUTF16" "HI_BYTE_SHIFT" "I" (.int (0 : Int32))) (SU2 : Sta Z Z.heap "java/lang/StringUTF16" "LO_BYTE_SHIFT" "I" (.int (8 : Int32))) (E1 : Exa Z h0 a1 "java/lang/String") (F1 : Fld Z h0 a1 "java/lang/String" "value" "[B" u1) (F2 : Fld Z h0 a1 "java/lang/String" "coder" "B" u2) (g1 : n0 ≤ a1) (A1 : Arv Z h0 a2 kc .char (3 : Int32) [(.int c0), (.int c1), (.int c2)] dv) (hr : ¬ c0 < 0 ∧ ¬ (65535 : Int32) < c0 ∧ ¬ c1 < 0 ∧ ¬ (65535 : Int32) < c1 ∧ ¬ c2 < 0 ∧ ¬ (65535 : Int32) < c2) (hbad : ¬ (¬ (255 : Int32) < c0 ∧ ¬ (255 : Int32) < c1 ∧ ¬ (255 : Int32) < c2)) : own_MP l (⟨"java/lang/String", "<init>", "([CIILjava/lang/Void;)V"⟩ : MethodName) jdk_42_method_149_code 6 none ws ({ frames := 4, cells := 2, slots := 9, locals := 60 } : Room) Z h0 #[(.ref a1), (.ref a2), (.int (0 : Int32)), (.int (3 : Int32)), .null] (fun _ _ _ _ _ => True) (Q_i4u3 Z z a1 a2 kc dv c0 c1 c2 u1 u2 h0 n0) := by
  refine own_startP (plainFor_of_name own_pn_java_lang_String) fun p e s m below meth c s₁ Bd hx hby hml hown0 X0 e0 hh0 hZ hK Pst hPst => ?_
  have hown : s.vm.findClass "java/lang/String" = some m.cls := hown0
  have hnm := (name_of_methodNamed Bd.named Bd.method).1
  have N0 := Fr.nil n0
  rw [own_ef_RRIIN_6 m a1 a2 (0 : Int32) (3 : Int32)]
  refine own_x_aloadN X0.here hx (hb hby own_d3_0) rfl rfl ?_
  refine own_h_initO X0 hx hZ hown (own_w17 hw) (own_w18 hw) (own_w19 hw) e0 (by rw [hml]; rfl) rfl (hb hby own_d3_1) (by decide) (W := 0) (by show 2 * 0 + _ ≤ _; exact Nat.le_of_eq rfl) (by decide) fun T101 X101 e101 => ?_
  refine own_x_iloadN X101.here hx (hb hby own_d3_4) rfl ?_
  refine own_x_ifYes X101.here hx (pc0 := 5) (pc' := 27) rfl (hb hby own_d3_5) rfl ((if0 _ _).trans (feq (by decide)).2) (by decide) (by decide) ?_
  refine own_h_getS2 X101 hx hZ hown (host := "") (Or.inl (own_w62 hw)) Via.refl e101 (SC.ext O.2) (hb hby own_d3_27) fun T102 X102 e102 => ?_
  refine own_x_ifNo X102.here hx (hb hby own_d3_30) rfl ((if0 _ _).trans (feq hz).1) ?_
  refine own_x_aloadN X102.here hx (hb hby own_d3_33) rfl rfl ?_
  refine own_x_iloadN X102.here hx (hb hby own_d3_34) rfl ?_
  refine own_x_iloadN X102.here hx (hb hby own_d3_35) rfl ?_
  refine own_cF X102 (Jvm.LawKit.callS X102 hx (y := (⟨"java/lang/StringUTF16", "compress", "([CII)[B"⟩ : MethodName)) hown (mvT hZ (own_w63 hw)) (mvT hZ (own_w64 hw)) (mvT hZ (own_w65 hw)) (mvT hZ (own_w66 hw)) (by decide) (backOf (W := 0) (rm_cu3 l Z a0 hw [] a2 kc dv c0 c1 c2 h0 n0 Z0 O SU0 SU1 SU2 A1 hr hbad) hZ (own_w66 hw) (own_w65 hw) (by decide) (by decide)) (g := (mkF m 36 #[.val (.ref a1), .val (.ref a2), .val (.int (0 : Int32)), .val (.int (3 : Int32)), .val .null, .unset] [(.int (3 : Int32)), (.int (0 : Int32)), (.ref a2)])) rfl (by rw [hml]; rfl) (argsL := [(.ref a2), (.int (0 : Int32)), (.int (3 : Int32))]) (rest := []) (lenOf own_pd5 rfl) rfl (by show 2 * 0 + _ ≤ _; exact Nat.le_of_eq rfl) (hb hby own_d3_36) (fun _ _ => ⟨rfl, e102, (by decide : 0 + 2 ≤ _), (by decide : 0 + 9 ≤ _)⟩)) fun v103 T103 L103 X103 hQ103 => ?_
  obtain ⟨b103, rfl, Nq103, K103, sb103, kb103, V103⟩ := hQ103
  have N103 := Fr.app N0 Nq103
  have ne_a1_b103 : a1 ≠ b103 := Nat.ne_of_lt (Nat.lt_of_lt_of_le E1.lt sb103)
  have gn_b103 : n0 ≤ b103 := Nat.le_trans Z0 sb103
  have sz_b103 : h0.size ≤ b103 := Nat.le_trans (Keep.refl h0 [a1]).1 sb103
  show own_Go p e below Pst (T103.setTop (mkF m 39 #[.val (.ref a1), .val (.ref a2), .val (.int (0 : Int32)), .val (.int (3 : Int32)), .val .null, .unset] [(.ref b103)]))
  refine own_x_astore X103.here hx (hb hby own_d3_39) rfl rfl (l' := #[.val (.ref a1), .val (.ref a2), .val (.int (0 : Int32)), .val (.int (3 : Int32)), .val .null, .val (.ref b103)]) rfl ?_
  refine own_x_aloadN X103.here hx (hb hby own_d3_41) rfl rfl ?_
  refine own_x_aload X103.here hx (hb hby own_d3_42) rfl rfl ?_
  refine own_x_iloadN X103.here hx (hb hby own_d3_44) rfl ?_
  have c105 := (Nat.le_trans Z0 K103.1)
  refine own_cF X103 (Jvm.LawKit.callS X103 hx (y := (⟨"java/lang/StringUTF16", "coderFromArrayLen", "([BI)B"⟩ : MethodName)) hown (mvT hZ (own_w70 hw)) (mvT hZ (own_w71 hw)) (mvT hZ (own_w65 hw)) (mvT hZ (own_w72 hw)) (by decide) (backOf (W := 1) (rm_codl3 l Z a0 hw [] b103 kb103 (own_u16 [c0, c1, c2]) T103.heap n0 c105 V103) hZ (own_w72 hw) (own_w65 hw) (by decide) (by decide)) (g := (mkF m 45 #[.val (.ref a1), .val (.ref a2), .val (.int (0 : Int32)), .val (.int (3 : Int32)), .val .null, .val (.ref b103)] [(.int (3 : Int32)), (.ref b103), (.ref a1)])) rfl (by rw [hml]; rfl) (argsL := [(.ref b103), (.int (3 : Int32))]) (rest := [(.ref a1)]) (lenOf own_pd7 rfl) rfl (by show 2 * 0 + _ ≤ _; exact Nat.le_of_eq rfl) (hb hby own_d3_45) (fun _ _ => ⟨rfl, rfl, (by decide : 2 + 0 ≤ _), (by decide : 9 + 0 ≤ _)⟩)) fun v104 T104 L104 X104 hQ104 => ?_
  obtain ⟨rfl, Nq104, e104⟩ := hQ104
  have N104 := Fr.app N103 Nq104
  show own_Go p e below Pst (T104.setTop (mkF m 48 #[.val (.ref a1), .val (.ref a2), .val (.int (0 : Int32)), .val (.int (3 : Int32)), .val .null, .val (.ref b103)] [(.int (1 : Int32)), (.ref a1)]))
  have c106 := (E1.keep K103)
  have c107 := (F2.keep K103 nin0)
  refine own_h_putFN X104 hx hZ hown (own_w27 hw) Via.refl e104 c107 c106 (Or.inr ⟨(own_w23 hw), rfl, hnm⟩) (own_w7 hw) (ty := .byte) (v' := (.int (1 : Int32))) (by decide) rfl rfl rfl (hb hby own_d3_48) fun T108 h108 X108 e108 W108 => ?_
  have Fw108 := Fld.same W108 c107
  have N108 := Fr.snoc X108 N104 g1
  refine own_x_aloadN X108.here hx (hb hby own_d3_51) rfl rfl ?_
  refine own_x_aload X108.here hx (hb hby own_d3_52) rfl rfl ?_
  have c109 := (c106.wr W108)
  have c110 := ((F1.keep K103 nin0).other W108 (Or.inr (slot_ne (Or.inr (own_w22 hw)) (Or.inr (own_w23 hw)) (by decide) (t := (.array .byte)) (t' := .byte) (by decide) (by decide))))
  refine own_h_putF X108 hx hZ hown (host := "") (Or.inl (own_w26 hw)) Via.refl e108 c110 c109 (Or.inr ⟨(own_w22 hw), rfl, hnm⟩) (own_w7 hw) (ty := (.array .byte)) (by decide) rfl rfl rfl (hb hby own_d3_54) fun T111 h111 X111 e111 W111 => ?_
  have Fw111 := Fld.same W111 c110
  have N111 := Fr.snoc X111 N108 g1
  have c112 := (((Keep.trans (Keep.refl h0 [a1]) K103 all0).wr W108 (Or.inl (List.mem_of_getElem? (i := 0) rfl))).wr W111 (Or.inl (List.mem_of_getElem? (i := 0) rfl)))
  have c113 := (c109.wr W111)
  have c114 := (Fw108.other W111 (Or.inr (slot_ne (Or.inr (own_w23 hw)) (Or.inr (own_w22 hw)) (by decide) (t := .byte) (t' := (.array .byte)) (by decide) (by decide))))
  have c115 := ((V103.other W108 (Ne.symm ne_a1_b103)).other W111 (Ne.symm ne_a1_b103))
  rw [hPst]
  exact own_retP X111 (v := none) (Q := Q_i4u3 Z z a1 a2 kc dv c0 c1 c2 u1 u2 h0 n0) (fun _ => rfl) Bd.notSynchronized (fun fs hr => X111.returnOut hx Bd.returns (hb hby own_d3_57) hr) (by decide) (by decide) (by rw [e111]; exact ⟨rfl, N111, c112, c113, c114, _, _, sz_b103, Fw111, c115⟩)
def Q_i1u3 (Z : State) (z : Int32) (a1 a2 : Addr) (kc : ClassId) (dv : Value) (c0 c1 c2 : Int32) (u1 u2 : Value) (h0 : Heap) (n0 : Nat) (v : Option Value) (h : Heap) (L : List Loc) : Prop := v = none ∧ Fr n0 L ∧ Keep h0 h [a1] ∧ Exa Z h a1 "java/lang/String" ∧ Fld Z h a1 "java/lang/String" "coder" "B" (.int (1 : Int32)) ∧ ∃ (t : Addr) (kb : ClassId), h0.size ≤ t ∧ Fld Z h a1 "java/lang/String" "value" "[B" (.ref t) ∧ Arv Z h t kb .byte (6 : Int32) (own_u16 [c0, c1, c2]) (.int 0)
theorem rm_i1u3 (l : Launch) (Z : State) (a0 : Array Value) (hw : own_H a0 Z) (ws : List Jvm.Cond) (z : Int32) (a1 a2 : Addr) (kc : ClassId) (dv : Value) (c0 c1 c2 : Int32) (u1 u2 : Value) (h0 : Heap) (n0 : Nat) (Z0 : n0 ≤ h0.size) (O : Old Z n0 h0) (SC : Sta Z Z.heap "java/lang/String" "COMPACT_STRINGS" "Z" (.int z)) (hz : ¬ z = 0) (SU0 : Sta Z Z.heap "java/lang/StringUTF16" "$assertionsDisabled" "Z" (.int (1 : Int32))) (SU1 : Sta Z Z.heap "java/lang/StringUTF16" "HI_BYTE_SHIFT" "I" (.int (0 : Int32))) (SU2 : Sta Z Z.heap "java/lang/StringUTF16" "LO_BYTE_SHIFT" "I" (.int (8 : Int32))) (E1 : Exa Z h0 a1 "java/lang/String") (F1 : Fld Z h0 a1 "java/lang/String" "value" "[B" u1) (F2 : Fld Z h0 a1 "java/lang/String" "coder" "B" u2) (g1 : n0 ≤ a1) (A1 : Arv Z h0 a2 kc .char (3 : Int32) [(.int c0), (.int c1), (.int c2)] dv) (hr : ¬ c0 < 0 ∧ ¬ (65535 : Int32) < c0 ∧ ¬ c1 < 0 ∧ ¬ (65535 : Int32) < c1 ∧ ¬ c2 < 0 ∧ ¬ (65535 : Int32) < c2) (hbad : ¬ (¬ (255 : Int32) < c0 ∧ ¬ (255 : Int32) < c1 ∧ ¬ (255 : Int32) < c2)) : own_MP l (⟨"java/lang/String", "<init>", "([C)V"⟩ : MethodName) jdk_42_method_3_code 2 none ws ({ frames := 5, cells := 2, slots := 9, locals := 77 } : Room) Z h0 #[(.ref a1), (.ref a2)] (fun _ _ _ _ _ => True) (Q_i1u3 Z z a1 a2 kc dv c0 c1 c2 u1 u2 h0 n0) := by
  refine own_startP (plainFor_of_name own_pn_java_lang_String) fun p e s m below meth c s₁ Bd hx hby hml hown0 X0 e0 hh0 hZ hK Pst hPst => ?_
  have hown : s.vm.findClass "java/lang/String" = some m.cls := hown0
  have hnm := (name_of_methodNamed Bd.named Bd.method).1
  have N0 := Fr.nil n0
  rw [own_ef_RR_2 m a1 a2]
  refine own_x_aloadN X0.here hx (hb hby own_d2_0) rfl rfl ?_
  refine own_x_aloadN X0.here hx (hb hby own_d2_1) rfl rfl ?_
  refine own_x_iconst X0.here hx (hb hby own_d2_2) (z := (0 : Int32)) rfl ?_
  refine own_x_aloadN X0.here hx (hb hby own_d2_3) rfl rfl ?_
  obtain ⟨cl101, Ar101, -, S101, P101, -, -⟩ := id A1
  refine own_Go.of (S' := s₁.setTop (mkF m 5 #[.val (.ref a1), .val (.ref a2)] [(.int (3 : Int32)), (.int (0 : Int32)), (.ref a2), (.ref a1)])) (fun tgt kst => X0.arraylength hx (by rw [e0]; exact Ar101.1) (State.isArrayOf_alike hZ.alike Ar101.2.1) (g := (mkF m 4 #[.val (.ref a1), .val (.ref a2)] [(.ref a2), (.int (0 : Int32)), (.ref a2), (.ref a1)])) rfl rfl (hb hby own_d2_4) _ (by rw [len_of S101 P101]; exact kst)) ?_
  refine own_x_aconstNull X0.here hx (hb hby own_d2_5) ?_
  refine own_cP X0 (X0.specialBack hx (y := (⟨"java/lang/String", "<init>", "([CIILjava/lang/Void;)V"⟩ : MethodName)) rfl hown (mvT hZ (own_w13 hw)) (mvT hZ (own_w14 hw)) (mvT hZ (own_w16 hw)) (by decide) (backOf (W := 0) (rm_i4u3 l Z a0 hw [] z a1 a2 kc dv c0 c1 c2 u1 u2 h0 n0 Z0 O SC hz SU0 SU1 SU2 E1 F1 F2 g1 A1 hr hbad) hZ (own_w16 hw) (own_w8 hw) (by decide) (by decide)) (g := (mkF m 6 #[.val (.ref a1), .val (.ref a2)] [.null, (.int (3 : Int32)), (.int (0 : Int32)), (.ref a2), (.ref a1)])) rfl (by rw [hml]; rfl) (Steps.refl _) (a := a1) (argsL := [(.ref a2), (.int (0 : Int32)), (.int (3 : Int32)), .null]) (rest := []) (lenOf own_pd0 rfl) rfl (by show 2 * 0 + _ ≤ _; exact Nat.le_of_eq rfl) (hb hby own_d2_6) (fun _ _ => ⟨rfl, e0, (by decide : 0 + 2 ≤ _), (by decide : 0 + 9 ≤ _)⟩)) fun v102 T102 L102 X102 hQ102 => ?_
  obtain ⟨rfl, Nq102, K102, A102, C102, t102, kb102, st_102, V102, B102⟩ := hQ102
  have N102 := Fr.app N0 Nq102
  show own_Go p e below Pst (T102.setTop (mkF m 9 #[.val (.ref a1), .val (.ref a2)] []))
  have c103 := (Keep.trans (Keep.refl h0 [a1]) K102 (allS (Or.inl (List.mem_of_getElem? (i := 0) rfl)) all0))
  rw [hPst]
  exact own_retP X102 (v := none) (Q := Q_i1u3 Z z a1 a2 kc dv c0 c1 c2 u1 u2 h0 n0) (fun _ => rfl) Bd.notSynchronized (fun fs hr => X102.returnOut hx Bd.returns (hb hby own_d2_9) hr) (by decide) (by decide) ⟨rfl, N102, c103, A102, C102, _, _, st_102, V102, B102⟩
theorem own_d8_0 : decode prog_17_method_8_code 0 = .ok (.aload_n 0, 1) := by decide +kernel
theorem own_d8_1 : decode prog_17_method_8_code 1 = .ok (.getfield 13, 3) := by decide +kernel
theorem own_d8_4 : decode prog_17_method_8_code 4 = .ok (.areturn, 1) := by decide +kernel
theorem own_pn_com_example_shredloom_shredloom_db_SqlXmlValues_Read : plainName "com/example/shredloom/shredloom/db/SqlXmlValues$Read" = true := by first | (simp [plainName, overriddenIn]; done) | decide +kernel
def Q_wf (Z : State) (a1 : Addr) (u : Value) (h0 : Heap) (n0 : Nat) (v : Option Value) (h : Heap) (L : List Loc) : Prop := v = some u ∧ Fr n0 L ∧ h = h0
theorem rm_wf (l : Launch) (Z : State) (a0 : Array Value) (hw : own_H a0 Z) (ws : List Jvm.Cond) (a1 : Addr) (u : Value) (h0 : Heap) (n0 : Nat) (Z0 : n0 ≤ h0.size) (hu : u.isRef = true) (F1 : Fld Z h0 a1 "com/example/shredloom/shredloom/db/SqlXmlValues$Read" "withoutForm" "Ljava/lang/String;" u) : own_MP l (⟨"com/example/shredloom/shredloom/db/SqlXmlValues$Read", "withoutForm", "()Ljava/lang/String;"⟩ : MethodName) prog_17_method_8_code 1 (some (.object "java/lang/String")) ws ({ frames := 0, cells := 0, slots := 0, locals := 0 } : Room) Z h0 #[(.ref a1)] (fun _ _ _ _ _ => True) (Q_wf Z a1 u h0 n0) := by
  refine own_startP (plainFor_of_name own_pn_com_example_shredloom_shredloom_db_SqlXmlValues_Read) fun p e s m below meth c s₁ Bd hx hby hml hown0 X0 e0 hh0 hZ hK Pst hPst => ?_
  have hown : s.vm.findClass "com/example/shredloom/shredloom/db/SqlXmlValues$Read" = some m.cls := hown0
  have hnm := (name_of_methodNamed Bd.named Bd.method).1
  have N0 := Fr.nil n0
  rw [own_ef_R_1 m a1]
  refine own_x_aloadN X0.here hx (hb hby own_d8_0) rfl rfl ?_
  refine own_h_getF X0 hx hZ hown (host := "") (Or.inl (own_w45 hw)) Via.refl e0 F1 rfl (hb hby own_d8_1) fun T101 X101 e101 => ?_
  rw [hPst]
  exact own_retP X101 (v := (some u)) (Q := Q_wf Z a1 u h0 n0) (fun h => by rw [Bd.returns] at h; cases h) Bd.notSynchronized (fun fs hr => retOut X101 hx Bd.returns (own_nar_ref hu) (Or.inr (Or.inr (Or.inr (Or.inr ⟨rfl, rfl, hu⟩)))) (hb hby own_d8_4) hr) (by decide) (by decide) (by rw [e101]; exact ⟨rfl, N0, rfl⟩)
theorem own_d9_0 : decode prog_17_method_7_code 0 = .ok (.aload_n 0, 1) := by decide +kernel
theorem own_d9_1 : decode prog_17_method_7_code 1 = .ok (.getfield 7, 3) := by decide +kernel
theorem own_d9_4 : decode prog_17_method_7_code 4 = .ok (.areturn, 1) := by decide +kernel
def Q_tx (Z : State) (a1 : Addr) (u : Value) (h0 : Heap) (n0 : Nat) (v : Option Value) (h : Heap) (L : List Loc) : Prop := v = some u ∧ Fr n0 L ∧ h = h0
theorem rm_tx (l : Launch) (Z : State) (a0 : Array Value) (hw : own_H a0 Z) (ws : List Jvm.Cond) (a1 : Addr) (u : Value) (h0 : Heap) (n0 : Nat) (Z0 : n0 ≤ h0.size) (hu : u.isRef = true) (F1 : Fld Z h0 a1 "com/example/shredloom/shredloom/db/SqlXmlValues$Read" "text" "Ljava/lang/String;" u) : own_MP l (⟨"com/example/shredloom/shredloom/db/SqlXmlValues$Read", "text", "()Ljava/lang/String;"⟩ : MethodName) prog_17_method_7_code 1 (some (.object "java/lang/String")) ws ({ frames := 0, cells := 0, slots := 0, locals := 0 } : Room) Z h0 #[(.ref a1)] (fun _ _ _ _ _ => True) (Q_tx Z a1 u h0 n0) := by
  refine own_startP (plainFor_of_name own_pn_com_example_shredloom_shredloom_db_SqlXmlValues_Read) fun p e s m below meth c s₁ Bd hx hby hml hown0 X0 e0 hh0 hZ hK Pst hPst => ?_
  have hown : s.vm.findClass "com/example/shredloom/shredloom/db/SqlXmlValues$Read" = some m.cls := hown0
  have hnm := (name_of_methodNamed Bd.named Bd.method).1
  have N0 := Fr.nil n0
  rw [own_ef_R_1 m a1]
  refine own_x_aloadN X0.here hx (hb hby own_d9_0) rfl rfl ?_
  refine own_h_getF X0 hx hZ hown (host := "") (Or.inl (own_w43 hw)) Via.refl e0 F1 rfl (hb hby own_d9_1) fun T101 X101 e101 => ?_
  rw [hPst]
  exact own_retP X101 (v := (some u)) (Q := Q_tx Z a1 u h0 n0) (fun h => by rw [Bd.returns] at h; cases h) Bd.notSynchronized (fun fs hr => retOut X101 hx Bd.returns (own_nar_ref hu) (Or.inr (Or.inr (Or.inr (Or.inr ⟨rfl, rfl, hu⟩)))) (hb hby own_d9_4) hr) (by decide) (by decide) (by rw [e101]; exact ⟨rfl, N0, rfl⟩)
theorem own_d6_0 : decode prog_17_method_1_code 0 = .ok (.aload_n 0, 1) := by decide +kernel
theorem own_d6_1 : decode prog_17_method_1_code 1 = .ok (.invokespecial 1, 3) := by decide +kernel
theorem own_pd8 : parseMethodDescriptor "()V" = some ⟨[], none⟩ := by decide +kernel
theorem own_d6_4 : decode prog_17_method_1_code 4 = .ok (.aload_n 0, 1) := by decide +kernel
theorem own_d6_5 : decode prog_17_method_1_code 5 = .ok (.aload_n 1, 1) := by decide +kernel
theorem own_d6_6 : decode prog_17_method_1_code 6 = .ok (.putfield 7, 3) := by decide +kernel
theorem own_d6_9 : decode prog_17_method_1_code 9 = .ok (.aload_n 0, 1) := by decide +kernel
theorem own_d6_10 : decode prog_17_method_1_code 10 = .ok (.aload_n 2, 1) := by decide +kernel
theorem own_d6_11 : decode prog_17_method_1_code 11 = .ok (.putfield 13, 3) := by decide +kernel
theorem own_d6_14 : decode prog_17_method_1_code 14 = .ok (.return_, 1) := by decide +kernel
theorem own_ef_RRN_3 (m : MethodId) (x0 : Addr) (x1 : Addr) : entryFrame m #[(.ref x0), (.ref x1), .null] 3 = mkF m 0 #[.val (.ref x0), .val (.ref x1), .val .null] [] := by first | (simp [entryFrame, mkF, argsToLocals, Value.category]; done) | rfl
def Q_ri (Z : State) (a1 a2 : Addr) (u1 u2 : Value) (h0 : Heap) (n0 : Nat) (v : Option Value) (h : Heap) (L : List Loc) : Prop := v = none ∧ Fr n0 L ∧ Keep h0 h [a1] ∧ Fld Z h a1 "com/example/shredloom/shredloom/db/SqlXmlValues$Read" "text" "Ljava/lang/String;" (.ref a2) ∧ Fld Z h a1 "com/example/shredloom/shredloom/db/SqlXmlValues$Read" "withoutForm" "Ljava/lang/String;" .null
theorem rm_ri (l : Launch) (Z : State) (a0 : Array Value) (hw : own_H a0 Z) (ws : List Jvm.Cond) (a1 a2 : Addr) (u1 u2 : Value) (h0 : Heap) (n0 : Nat) (Z0 : n0 ≤ h0.size) (E1 : Exa Z h0 a1 "com/example/shredloom/shredloom/db/SqlXmlValues$Read") (g1 : n0 ≤ a1) (F1 : Fld Z h0 a1 "com/example/shredloom/shredloom/db/SqlXmlValues$Read" "text" "Ljava/lang/String;" u1) (F2 : Fld Z h0 a1 "com/example/shredloom/shredloom/db/SqlXmlValues$Read" "withoutForm" "Ljava/lang/String;" u2) : own_MP l (⟨"com/example/shredloom/shredloom/db/SqlXmlValues$Read", "<init>", "(Ljava/lang/String;Ljava/lang/String;)V"⟩ : MethodName) prog_17_method_1_code 3 none ws ({ frames := 2, cells := 0, slots := 0, locals := 24 } : Room) Z h0 #[(.ref a1), (.ref a2), .null] (fun _ _ _ _ _ => True) (Q_ri Z a1 a2 u1 u2 h0 n0) := by
  refine own_startP (plainFor_of_name own_pn_com_example_shredloom_shredloom_db_SqlXmlValues_Read) fun p e s m below meth c s₁ Bd hx hby hml hown0 X0 e0 hh0 hZ hK Pst hPst => ?_
  have hown : s.vm.findClass "com/example/shredloom/shredloom/db/SqlXmlValues$Read" = some m.cls := hown0
  have hnm := (name_of_methodNamed Bd.named Bd.method).1
  have N0 := Fr.nil n0
  rw [own_ef_RRN_3 m a1 a2]
  refine own_x_aloadN X0.here hx (hb hby own_d6_0) rfl rfl ?_
  refine own_cP X0 (X0.specialBack hx (y := (⟨"java/lang/Record", "<init>", "()V"⟩ : MethodName)) rfl hown (mvT hZ (own_w37 hw)) (mvT hZ (own_w38 hw)) (mvT hZ (own_w41 hw)) (by decide) (backOf (W := 0) (rm_rec l Z a0 hw [] a1 h0 n0 Z0 ) hZ (own_w41 hw) (own_w40 hw) (by decide) (by decide)) (g := (mkF m 1 #[.val (.ref a1), .val (.ref a2), .val .null] [(.ref a1)])) rfl (by rw [hml]; rfl) (Steps.refl _) (a := a1) (argsL := []) (rest := []) (lenOf own_pd8 rfl) rfl (by show 2 * 0 + _ ≤ _; exact Nat.le_of_eq rfl) (hb hby own_d6_1) (fun _ _ => ⟨rfl, e0, (by decide : 0 + 0 ≤ _), (by decide : 0 + 0 ≤ _)⟩)) fun v101 T101 L101 X101 hQ101 => ?_
  obtain ⟨rfl, Nq101, e101⟩ := hQ101
  have N101 := Fr.app N0 Nq101
  show own_Go p e below Pst (T101.setTop (mkF m 4 #[.val (.ref a1), .val (.ref a2), .val .null] []))
  refine own_x_aloadN X101.here hx (hb hby own_d6_4) rfl rfl ?_
  refine own_x_aloadN X101.here hx (hb hby own_d6_5) rfl rfl ?_
  refine own_h_putF X101 hx hZ hown (host := "") (Or.inl (own_w43 hw)) Via.refl e101 F1 E1 (Or.inr ⟨(own_w44 hw), rfl, hnm⟩) (own_w33 hw) (ty := (.object "java/lang/String")) (by decide) rfl rfl rfl (hb hby own_d6_6) fun T102 h102 X102 e102 W102 => ?_
  have Fw102 := Fld.same W102 F1
  have N102 := Fr.snoc X102 N101 g1
  refine own_x_aloadN X102.here hx (hb hby own_d6_9) rfl rfl ?_
  refine own_x_aloadN X102.here hx (hb hby own_d6_10) rfl rfl ?_
  have c103 := (E1.wr W102)
  have c104 := (F2.other W102 (Or.inr (slot_ne (Or.inr (own_w46 hw)) (Or.inr (own_w44 hw)) (by decide) (t := (.object "java/lang/String")) (t' := (.object "java/lang/String")) (by decide) (by decide))))
  refine own_h_putF X102 hx hZ hown (host := "") (Or.inl (own_w45 hw)) Via.refl e102 c104 c103 (Or.inr ⟨(own_w46 hw), rfl, hnm⟩) (own_w33 hw) (ty := (.object "java/lang/String")) (by decide) rfl rfl rfl (hb hby own_d6_11) fun T105 h105 X105 e105 W105 => ?_
  have Fw105 := Fld.same W105 c104
  have N105 := Fr.snoc X105 N102 g1
  have c106 := (((Keep.refl h0 [a1]).wr W102 (Or.inl (List.mem_of_getElem? (i := 0) rfl))).wr W105 (Or.inl (List.mem_of_getElem? (i := 0) rfl)))
  have c107 := (Fw102.other W105 (Or.inr (slot_ne (Or.inr (own_w44 hw)) (Or.inr (own_w46 hw)) (by decide) (t := (.object "java/lang/String")) (t' := (.object "java/lang/String")) (by decide) (by decide))))
  rw [hPst]
  exact own_retP X105 (v := none) (Q := Q_ri Z a1 a2 u1 u2 h0 n0) (fun _ => rfl) Bd.notSynchronized (fun fs hr => X105.returnOut hx Bd.returns (hb hby own_d6_14) hr) (by decide) (by decide) (by rw [e105]; exact ⟨rfl, N105, c106, c107, Fw105⟩)
theorem own_d5_0 : decode prog_17_method_2_code 0 = .ok (.aload_n 0, 1) := by decide +kernel
theorem own_d5_1 : decode prog_17_method_2_code 1 = .ok (.ifnonnull 9, 3) := by decide +kernel
theorem own_d5_10 : decode prog_17_method_2_code 10 = .ok (.new 8, 3) := by decide +kernel
theorem own_d5_13 : decode prog_17_method_2_code 13 = .ok (.dup, 1) := by decide +kernel
theorem own_d5_14 : decode prog_17_method_2_code 14 = .ok (.aload_n 0, 1) := by decide +kernel
theorem own_d5_15 : decode prog_17_method_2_code 15 = .ok (.aconst_null, 1) := by decide +kernel
theorem own_d5_16 : decode prog_17_method_2_code 16 = .ok (.invokespecial 20, 3) := by decide +kernel
theorem own_pd9 : parseMethodDescriptor "(Ljava/lang/String;Ljava/lang/String;)V" = some ⟨[(.object "java/lang/String"), (.object "java/lang/String")], none⟩ := by decide +kernel
theorem own_d5_19 : decode prog_17_method_2_code 19 = .ok (.areturn, 1) := by decide +kernel
def Q_of (Z : State) (a1 : Addr) (h0 : Heap) (n0 : Nat) (v : Option Value) (h : Heap) (L : List Loc) : Prop := ∃ x : Addr, v = some (.ref x) ∧ Fr n0 L ∧ Keep h0 h [] ∧ h0.size ≤ x ∧ Exa Z h x "com/example/shredloom/shredloom/db/SqlXmlValues$Read" ∧ Fld Z h x "com/example/shredloom/shredloom/db/SqlXmlValues$Read" "text" "Ljava/lang/String;" (.ref a1) ∧ Fld Z h x "com/example/shredloom/shredloom/db/SqlXmlValues$Read" "withoutForm" "Ljava/lang/String;" .null
theorem rm_of (l : Launch) (Z : State) (a0 : Array Value) (hw : own_H a0 Z) (ws : List Jvm.Cond) (a1 : Addr) (h0 : Heap) (n0 : Nat) (Z0 : n0 ≤ h0.size) : own_MP l (⟨"com/example/shredloom/shredloom/db/SqlXmlValues$Read", "of", "(Ljava/lang/String;)Lcom/example/shredloom/shredloom/db/SqlXmlValues$Read;"⟩ : MethodName) prog_17_method_2_code 1 (some (.object "com/example/shredloom/shredloom/db/SqlXmlValues$Read")) ws ({ frames := 3, cells := 1, slots := 2, locals := 40 } : Room) Z h0 #[(.ref a1)] (fun _ _ _ _ _ => True) (Q_of Z a1 h0 n0) := by
  refine own_startP (plainFor_of_name own_pn_com_example_shredloom_shredloom_db_SqlXmlValues_Read) fun p e s m below meth c s₁ Bd hx hby hml hown0 X0 e0 hh0 hZ hK Pst hPst => ?_
  have hown : s.vm.findClass "com/example/shredloom/shredloom/db/SqlXmlValues$Read" = some m.cls := hown0
  have hnm := (name_of_methodNamed Bd.named Bd.method).1
  have N0 := Fr.nil n0
  rw [own_ef_R_1 m a1]
  refine own_x_aloadN X0.here hx (hb hby own_d5_0) rfl rfl ?_
  refine own_x_ifnonnullYes X0.here hx (pc0 := 1) (pc' := 10) rfl (hb hby own_d5_1) rfl (by decide) (by decide) ?_
  refine own_h_newO X0 hx hZ hown (own_w32 hw) (own_w33 hw) (own_w30 hw) e0 (hb hby own_d5_10) (by decide) (by decide) fun T101 h101 b101 g101 X101 e101 E101 A101 D101 U101 => ?_
  have gn_b101 : n0 ≤ b101 := Nat.le_trans Z0 (Nat.le_of_eq g101.symm)
  have sz_b101 : h0.size ≤ b101 := Nat.le_trans (Keep.refl h0 []).1 (Nat.le_of_eq g101.symm)
  have f101_text : Fld Z h101 b101 "com/example/shredloom/shredloom/db/SqlXmlValues$Read" "text" "Ljava/lang/String;" .null := D101 (Or.inr (own_w44 hw)) (ty := (.object "java/lang/String")) (by decide)
  have f101_withoutForm : Fld Z h101 b101 "com/example/shredloom/shredloom/db/SqlXmlValues$Read" "withoutForm" "Ljava/lang/String;" .null := D101 (Or.inr (own_w46 hw)) (ty := (.object "java/lang/String")) (by decide)
  refine own_x_dup X101.here hx (hb hby own_d5_13) rfl rfl ?_
  refine own_x_aloadN X101.here hx (hb hby own_d5_14) rfl rfl ?_
  refine own_x_aconstNull X101.here hx (hb hby own_d5_15) ?_
  have c103 := (Nat.le_trans Z0 E101.1)
  refine own_cP X101 (X101.specialBack hx (y := (⟨"com/example/shredloom/shredloom/db/SqlXmlValues$Read", "<init>", "(Ljava/lang/String;Ljava/lang/String;)V"⟩ : MethodName)) rfl hown (mvT hZ (own_w34 hw)) (mvT hZ (own_w35 hw)) (mvT hZ (own_w36 hw)) (by decide) (backOf (W := 1) (rm_ri l Z a0 hw [] b101 a1 .null .null h101 n0 c103 A101 gn_b101 f101_text f101_withoutForm) hZ (own_w36 hw) (own_w30 hw) (by decide) (by decide)) (g := (mkF m 16 #[.val (.ref a1)] [.null, (.ref a1), (.ref b101), (.ref b101)])) rfl (by rw [hml]; rfl) (Steps.refl _) (a := b101) (argsL := [(.ref a1), .null]) (rest := [(.ref b101)]) (lenOf own_pd9 rfl) rfl (by show 2 * 0 + _ ≤ _; exact Nat.le_of_eq rfl) (hb hby own_d5_16) (fun _ _ => ⟨rfl, e101, (by decide : 1 + 0 ≤ _), (by decide : 2 + 0 ≤ _)⟩)) fun v102 T102 L102 X102 hQ102 => ?_
  obtain ⟨rfl, Nq102, K102, G1102, G2102⟩ := hQ102
  have N102 := Fr.app N0 Nq102
  show own_Go p e below Pst (T102.setTop (mkF m 19 #[.val (.ref a1)] [(.ref b101)]))
  have c104 := (Keep.trans ((Keep.refl h0 []).ext E101) K102 (allS (Or.inr sz_b101) all0))
  have c105 := (A101.keep K102)
  rw [hPst]
  exact own_retP X102 (v := (some (.ref b101))) (Q := Q_of Z a1 h0 n0) (fun h => by rw [Bd.returns] at h; cases h) Bd.notSynchronized (fun fs hr => retOut X102 hx Bd.returns rfl (Or.inr (Or.inr (Or.inr (Or.inr ⟨rfl, rfl, rfl⟩)))) (hb hby own_d5_19) hr) (by decide) (by decide) ⟨_, rfl, N102, c104, sz_b101, c105, G1102, G2102⟩
theorem own_d5_4 : decode prog_17_method_2_code 4 = .ok (.getstatic 16, 3) := by decide +kernel
theorem own_d5_7 : decode prog_17_method_2_code 7 = .ok (.goto 12, 3) := by decide +kernel
theorem own_ef_N_1 (m : MethodId)  : entryFrame m #[.null] 1 = mkF m 0 #[.val .null] [] := by first | (simp [entryFrame, mkF, argsToLocals, Value.category]; done) | rfl
def Q_ofn (Z : State) (o : Addr) (h0 : Heap) (n0 : Nat) (v : Option Value) (h : Heap) (L : List Loc) : Prop := v = some (.ref o) ∧ Fr n0 L ∧ h = h0
theorem rm_ofn (l : Launch) (Z : State) (a0 : Array Value) (hw : own_H a0 Z) (ws : List Jvm.Cond) (o : Addr) (h0 : Heap) (n0 : Nat) (Z0 : n0 ≤ h0.size) (O : Old Z n0 h0) (SN : Sta Z Z.heap "com/example/shredloom/shredloom/db/SqlXmlValues$Read" "NULL" "Lcom/example/shredloom/shredloom/db/SqlXmlValues$Read;" (.ref o)) : own_MP l (⟨"com/example/shredloom/shredloom/db/SqlXmlValues$Read", "of", "(Ljava/lang/String;)Lcom/example/shredloom/shredloom/db/SqlXmlValues$Read;"⟩ : MethodName) prog_17_method_2_code 1 (some (.object "com/example/shredloom/shredloom/db/SqlXmlValues$Read")) ws ({ frames := 0, cells := 0, slots := 0, locals := 0 } : Room) Z h0 #[.null] (fun _ _ _ _ _ => True) (Q_ofn Z o h0 n0) := by
  refine own_startP (plainFor_of_name own_pn_com_example_shredloom_shredloom_db_SqlXmlValues_Read) fun p e s m below meth c s₁ Bd hx hby hml hown0 X0 e0 hh0 hZ hK Pst hPst => ?_
  have hown : s.vm.findClass "com/example/shredloom/shredloom/db/SqlXmlValues$Read" = some m.cls := hown0
  have hnm := (name_of_methodNamed Bd.named Bd.method).1
  have N0 := Fr.nil n0
  rw [own_ef_N_1 m ]
  refine own_x_aloadN X0.here hx (hb hby own_d5_0) rfl rfl ?_
  refine own_x_ifnonnullNo X0.here hx (hb hby own_d5_1) rfl ?_
  refine own_h_getS2 X0 hx hZ hown (host := "") (Or.inl (own_w73 hw)) Via.refl e0 (SN.ext O.2) (hb hby own_d5_4) fun T101 X101 e101 => ?_
  refine own_x_goto X101.here hx (pc0 := 7) (pc' := 19) rfl (hb hby own_d5_7) (by decide) (by decide) ?_
  rw [hPst]
  exact own_retP X101 (v := (some (.ref o))) (Q := Q_ofn Z o h0 n0) (fun h => by rw [Bd.returns] at h; cases h) Bd.notSynchronized (fun fs hr => retOut X101 hx Bd.returns rfl (Or.inr (Or.inr (Or.inr (Or.inr ⟨rfl, rfl, rfl⟩)))) (hb hby own_d5_19) hr) (by decide) (by decide) (by rw [e101]; exact ⟨rfl, N0, rfl⟩)
theorem own_d1_0 : decode method_3_code 0 = .ok (.iload_n 1, 1) := by decide +kernel
theorem own_d1_1 : decode method_3_code 1 = .ok (.ldc 33, 2) := by decide +kernel
theorem own_d1_3 : decode method_3_code 3 = .ok (.iand, 1) := by decide +kernel
theorem own_d1_4 : decode method_3_code 4 = .ok (.i2c, 1) := by decide +kernel
theorem own_d1_5 : decode method_3_code 5 = .ok (.istore 4, 2) := by decide +kernel
theorem own_d1_7 : decode method_3_code 7 = .ok (.iload_n 2, 1) := by decide +kernel
theorem own_d1_8 : decode method_3_code 8 = .ok (.ldc 33, 2) := by decide +kernel
theorem own_d1_10 : decode method_3_code 10 = .ok (.iand, 1) := by decide +kernel
theorem own_d1_11 : decode method_3_code 11 = .ok (.i2c, 1) := by decide +kernel
theorem own_d1_12 : decode method_3_code 12 = .ok (.istore 5, 2) := by decide +kernel
theorem own_d1_14 : decode method_3_code 14 = .ok (.iload_n 3, 1) := by decide +kernel
theorem own_d1_15 : decode method_3_code 15 = .ok (.ldc 33, 2) := by decide +kernel
theorem own_d1_17 : decode method_3_code 17 = .ok (.iand, 1) := by decide +kernel
theorem own_d1_18 : decode method_3_code 18 = .ok (.i2c, 1) := by decide +kernel
theorem own_d1_19 : decode method_3_code 19 = .ok (.istore 6, 2) := by decide +kernel
theorem own_d1_21 : decode method_3_code 21 = .ok (.iload_n 0, 1) := by decide +kernel
theorem own_d1_22 : decode method_3_code 22 = .ok (.ifCond .ne 14, 3) := by decide +kernel
theorem own_d1_25 : decode method_3_code 25 = .ok (.new 28, 3) := by decide +kernel
theorem own_d1_28 : decode method_3_code 28 = .ok (.dup, 1) := by decide +kernel
theorem own_d1_29 : decode method_3_code 29 = .ok (.iconst 0, 1) := by decide +kernel
theorem own_d1_30 : decode method_3_code 30 = .ok (.newarray .char, 2) := by decide +kernel
theorem own_d1_32 : decode method_3_code 32 = .ok (.invokespecial 34, 3) := by decide +kernel
theorem own_pd10 : parseMethodDescriptor "([C)V" = some ⟨[(.array .char)], none⟩ := by decide +kernel
theorem own_d1_35 : decode method_3_code 35 = .ok (.areturn, 1) := by decide +kernel
theorem own_d1_36 : decode method_3_code 36 = .ok (.iload_n 0, 1) := by decide +kernel
theorem own_d1_37 : decode method_3_code 37 = .ok (.iconst 1, 1) := by decide +kernel
theorem own_d1_38 : decode method_3_code 38 = .ok (.if_icmp .ne 19, 3) := by decide +kernel
theorem own_d1_41 : decode method_3_code 41 = .ok (.new 28, 3) := by decide +kernel
theorem own_d1_44 : decode method_3_code 44 = .ok (.dup, 1) := by decide +kernel
theorem own_d1_45 : decode method_3_code 45 = .ok (.iconst 1, 1) := by decide +kernel
theorem own_d1_46 : decode method_3_code 46 = .ok (.newarray .char, 2) := by decide +kernel
theorem own_d1_48 : decode method_3_code 48 = .ok (.dup, 1) := by decide +kernel
theorem own_d1_49 : decode method_3_code 49 = .ok (.iconst 0, 1) := by decide +kernel
theorem own_d1_50 : decode method_3_code 50 = .ok (.iload 4, 2) := by decide +kernel
theorem own_d1_52 : decode method_3_code 52 = .ok (.castore, 1) := by decide +kernel
theorem own_d1_53 : decode method_3_code 53 = .ok (.invokespecial 34, 3) := by decide +kernel
theorem own_d1_56 : decode method_3_code 56 = .ok (.areturn, 1) := by decide +kernel
theorem own_d1_57 : decode method_3_code 57 = .ok (.iload_n 0, 1) := by decide +kernel
theorem own_d1_58 : decode method_3_code 58 = .ok (.iconst 2, 1) := by decide +kernel
theorem own_d1_59 : decode method_3_code 59 = .ok (.if_icmp .ne 24, 3) := by decide +kernel
theorem own_d1_62 : decode method_3_code 62 = .ok (.new 28, 3) := by decide +kernel
theorem own_d1_65 : decode method_3_code 65 = .ok (.dup, 1) := by decide +kernel
theorem own_d1_66 : decode method_3_code 66 = .ok (.iconst 2, 1) := by decide +kernel
theorem own_d1_67 : decode method_3_code 67 = .ok (.newarray .char, 2) := by decide +kernel
theorem own_d1_69 : decode method_3_code 69 = .ok (.dup, 1) := by decide +kernel
theorem own_d1_70 : decode method_3_code 70 = .ok (.iconst 0, 1) := by decide +kernel
theorem own_d1_71 : decode method_3_code 71 = .ok (.iload 4, 2) := by decide +kernel
theorem own_d1_73 : decode method_3_code 73 = .ok (.castore, 1) := by decide +kernel
theorem own_d1_74 : decode method_3_code 74 = .ok (.dup, 1) := by decide +kernel
theorem own_d1_75 : decode method_3_code 75 = .ok (.iconst 1, 1) := by decide +kernel
theorem own_d1_76 : decode method_3_code 76 = .ok (.iload 5, 2) := by decide +kernel
theorem own_d1_78 : decode method_3_code 78 = .ok (.castore, 1) := by decide +kernel
theorem own_d1_79 : decode method_3_code 79 = .ok (.invokespecial 34, 3) := by decide +kernel
theorem own_d1_82 : decode method_3_code 82 = .ok (.areturn, 1) := by decide +kernel
theorem own_d1_83 : decode method_3_code 83 = .ok (.new 28, 3) := by decide +kernel
theorem own_d1_86 : decode method_3_code 86 = .ok (.dup, 1) := by decide +kernel
theorem own_d1_87 : decode method_3_code 87 = .ok (.iconst 3, 1) := by decide +kernel
theorem own_d1_88 : decode method_3_code 88 = .ok (.newarray .char, 2) := by decide +kernel
theorem own_d1_90 : decode method_3_code 90 = .ok (.dup, 1) := by decide +kernel
theorem own_d1_91 : decode method_3_code 91 = .ok (.iconst 0, 1) := by decide +kernel
theorem own_d1_92 : decode method_3_code 92 = .ok (.iload 4, 2) := by decide +kernel
theorem own_d1_94 : decode method_3_code 94 = .ok (.castore, 1) := by decide +kernel
theorem own_d1_95 : decode method_3_code 95 = .ok (.dup, 1) := by decide +kernel
theorem own_d1_96 : decode method_3_code 96 = .ok (.iconst 1, 1) := by decide +kernel
theorem own_d1_97 : decode method_3_code 97 = .ok (.iload 5, 2) := by decide +kernel
theorem own_d1_99 : decode method_3_code 99 = .ok (.castore, 1) := by decide +kernel
theorem own_d1_100 : decode method_3_code 100 = .ok (.dup, 1) := by decide +kernel
theorem own_d1_101 : decode method_3_code 101 = .ok (.iconst 2, 1) := by decide +kernel
theorem own_d1_102 : decode method_3_code 102 = .ok (.iload 6, 2) := by decide +kernel
theorem own_d1_104 : decode method_3_code 104 = .ok (.castore, 1) := by decide +kernel
theorem own_d1_105 : decode method_3_code 105 = .ok (.invokespecial 34, 3) := by decide +kernel
theorem own_d1_108 : decode method_3_code 108 = .ok (.areturn, 1) := by decide +kernel
theorem own_pn_com_example_shredloom_shredloom_db_ReadOfPinLaw : plainName "com/example/shredloom/shredloom/db/ReadOfPinLaw" = true := by first | (simp [plainName, overriddenIn]; done) | decide +kernel
theorem own_ef_IIII_7 (m : MethodId) (x0 : Int32) (x1 : Int32) (x2 : Int32) (x3 : Int32) : entryFrame m #[(.int x0), (.int x1), (.int x2), (.int x3)] 7 = mkF m 0 #[.val (.int x0), .val (.int x1), .val (.int x2), .val (.int x3), .unset, .unset, .unset] [] := by first | (simp [entryFrame, mkF, argsToLocals, Value.category]; done) | rfl
def Q_make (Z : State) (z p1 p2 p3 p4 : Int32) (h0 : Heap) (n0 : Nat) (v : Option Value) (h : Heap) (L : List Loc) : Prop := ∃ x : Addr, v = some (.ref x) ∧ Fr n0 L ∧ Keep h0 h [] ∧ h0.size ≤ x ∧ Exa Z h x "java/lang/String"
theorem rm_make (l : Launch) (Z : State) (a0 : Array Value) (hw : own_H a0 Z) (ws : List Jvm.Cond) (z p1 p2 p3 p4 : Int32) (h0 : Heap) (n0 : Nat) (Z0 : n0 ≤ h0.size) (O : Old Z n0 h0) (SC : Sta Z Z.heap "java/lang/String" "COMPACT_STRINGS" "Z" (.int z)) (hz : ¬ z = 0) (SU0 : Sta Z Z.heap "java/lang/StringUTF16" "$assertionsDisabled" "Z" (.int (1 : Int32))) (SU1 : Sta Z Z.heap "java/lang/StringUTF16" "HI_BYTE_SHIFT" "I" (.int (0 : Int32))) (SU2 : Sta Z Z.heap "java/lang/StringUTF16" "LO_BYTE_SHIFT" "I" (.int (8 : Int32))) : own_MS own_EL l (⟨"com/example/shredloom/shredloom/db/ReadOfPinLaw", "make", "(IIII)Ljava/lang/String;"⟩ : MethodName) method_3_code 7 (some (.object "java/lang/String")) ws ({ frames := 6, cells := 6, slots := 17, locals := 95 } : Room) Z h0 #[(.int p1), (.int p2), (.int p3), (.int p4)] (fun _ _ _ _ _ => True) (Q_make Z z p1 p2 p3 p4 h0 n0) := by
  refine own_startS (plainFor_of_name own_pn_com_example_shredloom_shredloom_db_ReadOfPinLaw) fun p e s m below meth c s₁ Bd hx hby hml hown0 X0 e0 hh0 hZ hCH0 hS0 hK Pst hPst => ?_
  have hown : s.vm.findClass "com/example/shredloom/shredloom/db/ReadOfPinLaw" = some m.cls := hown0
  have hnm := (name_of_methodNamed Bd.named Bd.method).1
  have N0 := Fr.nil n0
  have hk0 : 0 ≤ h0.size := Nat.zero_le _
  have hEL := own_hEL Z a0 hw
  rw [own_ef_IIII_7 m p1 p2 p3 p4]
  refine own_x_iloadN X0.here hx (hb hby own_d1_0) rfl ?_
  refine own_Go.of (S' := s₁.setTop (mkF m 3 #[.val (.int p1), .val (.int p2), .val (.int p3), .val (.int p4), .unset, .unset, .unset] [(.int (65535 : Int32)), (.int p2)])) (fun tgt kst => X0.ldcInt hx hown (mvT hZ (own_w5 hw)) (g := (mkF m 1 #[.val (.int p1), .val (.int p2), .val (.int p3), .val (.int p4), .unset, .unset, .unset] [(.int p2)])) rfl (hb hby own_d1_1) _ kst) ?_
  refine own_x_iand X0.here hx (hb hby own_d1_3) rfl ?_
  refine own_x_i2c X0.here hx (hb hby own_d1_4) rfl ?_
  refine own_x_istore X0.here hx (hb hby own_d1_5) rfl (l' := #[.val (.int p1), .val (.int p2), .val (.int p3), .val (.int p4), .val (.int ((p2 &&& (65535 : Int32)).toUInt32.toUInt16.toUInt32.toInt32)), .unset, .unset]) rfl ?_
  refine own_x_iloadN X0.here hx (hb hby own_d1_7) rfl ?_
  refine own_Go.of (S' := s₁.setTop (mkF m 10 #[.val (.int p1), .val (.int p2), .val (.int p3), .val (.int p4), .val (.int ((p2 &&& (65535 : Int32)).toUInt32.toUInt16.toUInt32.toInt32)), .unset, .unset] [(.int (65535 : Int32)), (.int p3)])) (fun tgt kst => X0.ldcInt hx hown (mvT hZ (own_w5 hw)) (g := (mkF m 8 #[.val (.int p1), .val (.int p2), .val (.int p3), .val (.int p4), .val (.int ((p2 &&& (65535 : Int32)).toUInt32.toUInt16.toUInt32.toInt32)), .unset, .unset] [(.int p3)])) rfl (hb hby own_d1_8) _ kst) ?_
  refine own_x_iand X0.here hx (hb hby own_d1_10) rfl ?_
  refine own_x_i2c X0.here hx (hb hby own_d1_11) rfl ?_
  refine own_x_istore X0.here hx (hb hby own_d1_12) rfl (l' := #[.val (.int p1), .val (.int p2), .val (.int p3), .val (.int p4), .val (.int ((p2 &&& (65535 : Int32)).toUInt32.toUInt16.toUInt32.toInt32)), .val (.int ((p3 &&& (65535 : Int32)).toUInt32.toUInt16.toUInt32.toInt32)), .unset]) rfl ?_
  refine own_x_iloadN X0.here hx (hb hby own_d1_14) rfl ?_
  refine own_Go.of (S' := s₁.setTop (mkF m 17 #[.val (.int p1), .val (.int p2), .val (.int p3), .val (.int p4), .val (.int ((p2 &&& (65535 : Int32)).toUInt32.toUInt16.toUInt32.toInt32)), .val (.int ((p3 &&& (65535 : Int32)).toUInt32.toUInt16.toUInt32.toInt32)), .unset] [(.int (65535 : Int32)), (.int p4)])) (fun tgt kst => X0.ldcInt hx hown (mvT hZ (own_w5 hw)) (g := (mkF m 15 #[.val (.int p1), .val (.int p2), .val (.int p3), .val (.int p4), .val (.int ((p2 &&& (65535 : Int32)).toUInt32.toUInt16.toUInt32.toInt32)), .val (.int ((p3 &&& (65535 : Int32)).toUInt32.toUInt16.toUInt32.toInt32)), .unset] [(.int p4)])) rfl (hb hby own_d1_15) _ kst) ?_
  refine own_x_iand X0.here hx (hb hby own_d1_17) rfl ?_
  refine own_x_i2c X0.here hx (hb hby own_d1_18) rfl ?_
  refine own_x_istore X0.here hx (hb hby own_d1_19) rfl (l' := #[.val (.int p1), .val (.int p2), .val (.int p3), .val (.int p4), .val (.int ((p2 &&& (65535 : Int32)).toUInt32.toUInt16.toUInt32.toInt32)), .val (.int ((p3 &&& (65535 : Int32)).toUInt32.toUInt16.toUInt32.toInt32)), .val (.int ((p4 &&& (65535 : Int32)).toUInt32.toUInt16.toUInt32.toInt32))]) rfl ?_
  refine own_x_iloadN X0.here hx (hb hby own_d1_21) rfl ?_
  by_cases hn0 : p1 = (0 : Int32)
  · refine own_x_ifNo X0.here hx (hb hby own_d1_22) rfl ((if0 _ _).trans (teq hn0).2) ?_
    refine own_h_newO X0 hx hZ hown (own_w6 hw) (own_w7 hw) (own_w8 hw) e0 (hb hby own_d1_25) (by decide) (by decide) fun T101 h101 b101 g101 X101 e101 E101 A101 D101 U101 => ?_
    have gn_b101 : n0 ≤ b101 := Nat.le_trans Z0 (Nat.le_of_eq g101.symm)
    have sz_b101 : h0.size ≤ b101 := Nat.le_trans (Keep.refl h0 []).1 (Nat.le_of_eq g101.symm)
    have sf_b101 := Safe.ext E101 hCH0 (Safe.new (Nat.le_of_eq g101.symm))
    have c102 := (CHv.ext E101 hCH0)
    have c103 := (CHr.trans (CHr.refl hCH0) (CHr.ext E101 hCH0))
    have c104 := (Nat.le_trans hk0 E101.1)
    have f101_value : Fld Z h101 b101 "java/lang/String" "value" "[B" .null := D101 (Or.inr (own_w22 hw)) (ty := (.array .byte)) (by decide)
    have f101_coder : Fld Z h101 b101 "java/lang/String" "coder" "B" (.int (0 : Int32)) := D101 (Or.inr (own_w23 hw)) (ty := .byte) (by decide)
    refine own_x_dup X101.here hx (hb hby own_d1_28) rfl rfl ?_
    refine own_x_iconst X101.here hx (hb hby own_d1_29) (z := (0 : Int32)) rfl ?_
    have c106 := (Nat.le_trans Z0 E101.1)
    have c107 := ((Keep.refl h0 []).ext E101)
    refine own_h_newP (aty := .char) X101 hx hZ (own_w9 hw) e101 (hb hby own_d1_30) rfl (by decide) (cap := 0) (by decide) (by decide) (by decide) (by decide) fun T105 h105 k105 b105 g105 X105 e105 E105 A105 => ?_
    have ne_b101_b105 : b101 ≠ b105 := Nat.ne_of_lt (Nat.lt_of_lt_of_le A101.lt (Nat.le_of_eq g105.symm))
    have gn_b105 : n0 ≤ b105 := Nat.le_trans c106 (Nat.le_of_eq g105.symm)
    have sz_b105 : h0.size ≤ b105 := Nat.le_trans c107.1 (Nat.le_of_eq g105.symm)
    have sf_b105 := Safe.ext E105 c102 (Safe.new (Nat.le_of_eq g105.symm))
    have c108 := (CHv.ext E105 c102)
    have c109 := (CHr.trans c103 (CHr.ext E105 c102))
    have c110 := (Nat.le_trans c104 E105.1)
    have V105 : Arv Z h105 b105 k105 .char (0 : Int32) [] (.int (0 : Int32)) := Arv.new A105 (by decide)
    have c111 := (A101.ext E105)
    have c112 := (f101_value.ext E105)
    have c113 := (f101_coder.ext E105)
    have c115 := (Nat.le_trans c106 E105.1)
    refine own_cS X105 hS0 (by rw [e105]; exact c110) hZ hown (X105.specialBackS hx (y := (⟨"java/lang/String", "<init>", "([C)V"⟩ : MethodName)) rfl hown (mvT hZ (own_w10 hw)) (mvT hZ (own_w11 hw)) (mvT hZ (own_w12 hw)) (by decide) (backOfSH (W := 1) (rm_i1z l Z a0 hw [] b101 b105 k105 [] (.int (0 : Int32)) h105 n0 c115 c111 c112 c113 gn_b101 V105) hZ (own_w12 hw) (own_w8 hw) (by decide) (by decide) hEL c108) (g := (mkF m 32 #[.val (.int p1), .val (.int p2), .val (.int p3), .val (.int p4), .val (.int ((p2 &&& (65535 : Int32)).toUInt32.toUInt16.toUInt32.toInt32)), .val (.int ((p3 &&& (65535 : Int32)).toUInt32.toUInt16.toUInt32.toInt32)), .val (.int ((p4 &&& (65535 : Int32)).toUInt32.toUInt16.toUInt32.toInt32))] [(.ref b105), (.ref b101), (.ref b101)])) rfl (by rw [hml]; rfl) (Steps.refl _) (a := b101) (argsL := [(.ref b105)]) (rest := [(.ref b101)]) (lenOf own_pd10 rfl) rfl (by show 2 * 0 + _ ≤ _; exact Nat.le_of_eq rfl) (hb hby own_d1_32) (fun _ _ => ⟨rfl, e105, (by decide : 2 + 4 ≤ _), (by decide : 4 + 8 ≤ _)⟩)) fun v114 T114 L114 X114 hS114 hZ114 hown114 hQ114 cr114 => ?_
    obtain ⟨rfl, Nq114, K114, A114, C114, t114, kb114, V114, B114⟩ := hQ114
    have N114 := Fr.app N0 Nq114
    have c116 := cr114.1
    have c117 := (CHr.trans c109 cr114)
    have c118 := (Nat.le_trans c110 K114.1)
    show own_Go p e below Pst (T114.setTop (mkF m 35 #[.val (.int p1), .val (.int p2), .val (.int p3), .val (.int p4), .val (.int ((p2 &&& (65535 : Int32)).toUInt32.toUInt16.toUInt32.toInt32)), .val (.int ((p3 &&& (65535 : Int32)).toUInt32.toUInt16.toUInt32.toInt32)), .val (.int ((p4 &&& (65535 : Int32)).toUInt32.toUInt16.toUInt32.toInt32))] [(.ref b101)]))
    have c119 := (Keep.trans (c107.ext E105) K114 (allS (Or.inr sz_b101) all0))
    rw [hPst]
    exact own_retW X114 hS114 (Nat.le_refl _) (v := (some (.ref b101))) (Q := Q_make Z z p1 p2 p3 p4 h0 n0) (fun h => by rw [Bd.returns] at h; cases h) Bd.notSynchronized (fun fs hr => retOut X114 hx Bd.returns rfl (Or.inr (Or.inr (Or.inr (Or.inr ⟨rfl, rfl, rfl⟩)))) (hb hby own_d1_35) hr) (by decide) (by decide) (by rw [hh0]; exact CHr.trans c117 (CHv.at X114 hZ114 hEL c116)) ⟨_, rfl, N114, c119, sz_b101, A114⟩
  · refine own_x_ifYes X0.here hx (pc0 := 22) (pc' := 36) rfl (hb hby own_d1_22) rfl ((if0 _ _).trans (feq hn0).2) (by decide) (by decide) ?_
    refine own_x_iloadN X0.here hx (hb hby own_d1_36) rfl ?_
    refine own_x_iconst X0.here hx (hb hby own_d1_37) (z := (1 : Int32)) rfl ?_
    by_cases hn1 : p1 = (1 : Int32)
    · refine own_x_icmpNo X0.here hx (hb hby own_d1_38) rfl (teq hn1).2 ?_
      refine own_h_newO X0 hx hZ hown (own_w6 hw) (own_w7 hw) (own_w8 hw) e0 (hb hby own_d1_41) (by decide) (by decide) fun T120 h120 b120 g120 X120 e120 E120 A120 D120 U120 => ?_
      have gn_b120 : n0 ≤ b120 := Nat.le_trans Z0 (Nat.le_of_eq g120.symm)
      have sz_b120 : h0.size ≤ b120 := Nat.le_trans (Keep.refl h0 []).1 (Nat.le_of_eq g120.symm)
      have sf_b120 := Safe.ext E120 hCH0 (Safe.new (Nat.le_of_eq g120.symm))
      have c121 := (CHv.ext E120 hCH0)
      have c122 := (CHr.trans (CHr.refl hCH0) (CHr.ext E120 hCH0))
      have c123 := (Nat.le_trans hk0 E120.1)
      have f120_value : Fld Z h120 b120 "java/lang/String" "value" "[B" .null := D120 (Or.inr (own_w22 hw)) (ty := (.array .byte)) (by decide)
      have f120_coder : Fld Z h120 b120 "java/lang/String" "coder" "B" (.int (0 : Int32)) := D120 (Or.inr (own_w23 hw)) (ty := .byte) (by decide)
      refine own_x_dup X120.here hx (hb hby own_d1_44) rfl rfl ?_
      refine own_x_iconst X120.here hx (hb hby own_d1_45) (z := (1 : Int32)) rfl ?_
      have c125 := (Nat.le_trans Z0 E120.1)
      have c126 := ((Keep.refl h0 []).ext E120)
      refine own_h_newP (aty := .char) X120 hx hZ (own_w9 hw) e120 (hb hby own_d1_46) rfl (by decide) (cap := 1) (by decide) (by decide) (by decide) (by decide) fun T124 h124 k124 b124 g124 X124 e124 E124 A124 => ?_
      have ne_b120_b124 : b120 ≠ b124 := Nat.ne_of_lt (Nat.lt_of_lt_of_le A120.lt (Nat.le_of_eq g124.symm))
      have gn_b124 : n0 ≤ b124 := Nat.le_trans c125 (Nat.le_of_eq g124.symm)
      have sz_b124 : h0.size ≤ b124 := Nat.le_trans c126.1 (Nat.le_of_eq g124.symm)
      have sf_b124 := Safe.ext E124 c121 (Safe.new (Nat.le_of_eq g124.symm))
      have c127 := (CHv.ext E124 c121)
      have c128 := (CHr.trans c122 (CHr.ext E124 c121))
      have c129 := (Nat.le_trans c123 E124.1)
      have V124 : Arv Z h124 b124 k124 .char (1 : Int32) [(.int (0 : Int32))] (.int (0 : Int32)) := (Arv.new A124 (by decide)).pad (pad_rep [] (.int (0 : Int32)) 1)
      refine own_x_dup X124.here hx (hb hby own_d1_48) rfl rfl ?_
      refine own_x_iconst X124.here hx (hb hby own_d1_49) (z := (0 : Int32)) rfl ?_
      refine own_x_iload X124.here hx (hb hby own_d1_50) rfl ?_
      refine own_h_arC X124 hx hZ e124 V124 (0 : Int32) 0 ⟨by decide, by decide⟩ rfl (Nat.le_of_ble_eq_true rfl) rfl (hb hby own_d1_52) fun T130 h130 X130 e130 W130 V130 => ?_
      have c131 := (CHv.wr W130 sf_b124 c127)
      have c132 := (CHr.trans c128 (CHr.wr W130 sf_b124 c127))
      have c133 := (Nat.le_trans c129 (Keep.of_wr W130).1)
      have N130 := Fr.snoc X130 N0 gn_b124
      obtain ⟨d134_0, hd134_0⟩ : ∃ d, d = (nar .char ((p2 &&& (65535 : Int32)).toUInt32.toUInt16.toUInt32.toInt32)) := ⟨_, rfl⟩
      have hr134_0 : ¬ d134_0 < 0 ∧ ¬ (65535 : Int32) < d134_0 := by rw [hd134_0]; exact own_rchar _
      have AA134 : Arv Z h130 b124 k124 .char (1 : Int32) [(.int d134_0)] (.int (0 : Int32)) := by rw [hd134_0]; exact V130
      by_cases hl134 : ¬ (255 : Int32) < d134_0
      · have hp134 : ∀ c ∈ ([d134_0] : List Int32), ¬ c < 0 ∧ ¬ (255 : Int32) < c := by
          intro c hc
          simp only [List.mem_cons, List.not_mem_nil, or_false] at hc
          have e := hc
          · rw [e]; exact ⟨hr134_0.1, hl134⟩
        have c135 := (Nat.le_trans (Nat.le_trans c125 E124.1) (Keep.of_wr W130).1)
        have c136 := ((A120.ext E124).wr W130)
        have c137 := ((f120_value.ext E124).other W130 (Or.inl ne_b120_b124))
        have c138 := ((f120_coder.ext E124).other W130 (Or.inl ne_b120_b124))
        have c139 := (((O.ext E120).ext E124).wr W130 gn_b124)
        refine own_cP X130 (X130.specialBack hx (y := (⟨"java/lang/String", "<init>", "([C)V"⟩ : MethodName)) rfl hown (mvT hZ (own_w10 hw)) (mvT hZ (own_w11 hw)) (mvT hZ (own_w12 hw)) (by decide) (StrChars.Road.backV (W := 1) hZ (own_words Z a0 hw) (kI := 4) (own_w7 hw) (cs := [d134_0]) (bs := ([d134_0] : List Int32).map (fun c => c.toInt8.toInt32)) (n := 1) gn_b120 c135 c136 c137 c138 AA134 (SC.ext c139.2) hz rfl rfl (by decide) (by decide) hp134 rfl (by decide) (by decide)) (g := (mkF m 53 #[.val (.int p1), .val (.int p2), .val (.int p3), .val (.int p4), .val (.int ((p2 &&& (65535 : Int32)).toUInt32.toUInt16.toUInt32.toInt32)), .val (.int ((p3 &&& (65535 : Int32)).toUInt32.toUInt16.toUInt32.toInt32)), .val (.int ((p4 &&& (65535 : Int32)).toUInt32.toUInt16.toUInt32.toInt32))] [(.ref b124), (.ref b120), (.ref b120)])) rfl (by rw [hml]; rfl) (Steps.refl _) (a := b120) (argsL := [(.ref b124)]) (rest := [(.ref b120)]) (lenOf own_pd10 rfl) rfl (by show 2 * 0 + _ ≤ _; exact Nat.le_of_eq rfl) (hb hby own_d1_53) (fun _ _ => ⟨rfl, e130, (by decide : 2 + 1 ≤ _), (by decide : 5 + 1 ≤ _)⟩)) fun v140 T140 L140 X140 hQ140 => ?_
        obtain ⟨rfl, Nq140, K140, A140, C140, t140, kb140, -, -, -, V140, B140⟩ := hQ140
        have N140 := Fr.app N130 Nq140
        have c141 := (Safe.wr W130 sf_b124 c127 (Safe.ext E124 c121 sf_b120))
        have c142 := (CHv.keep K140 (sfS c141 sf0) c131)
        have c143 := (CHr.trans c132 (CHr.keep K140 (sfS c141 sf0) c131))
        have c144 := (Nat.le_trans c133 K140.1)
        show own_Go p e below Pst (T140.setTop (mkF m 56 #[.val (.int p1), .val (.int p2), .val (.int p3), .val (.int p4), .val (.int ((p2 &&& (65535 : Int32)).toUInt32.toUInt16.toUInt32.toInt32)), .val (.int ((p3 &&& (65535 : Int32)).toUInt32.toUInt16.toUInt32.toInt32)), .val (.int ((p4 &&& (65535 : Int32)).toUInt32.toUInt16.toUInt32.toInt32))] [(.ref b120)]))
        have c145 := (Keep.trans ((c126.ext E124).wr W130 (Or.inr sz_b124)) K140 (allS (Or.inr sz_b120) all0))
        rw [hPst]
        exact own_retW X140 hS0 c144 (v := (some (.ref b120))) (Q := Q_make Z z p1 p2 p3 p4 h0 n0) (fun h => by rw [Bd.returns] at h; cases h) Bd.notSynchronized (fun fs hr => retOut X140 hx Bd.returns rfl (Or.inr (Or.inr (Or.inr (Or.inr ⟨rfl, rfl, rfl⟩)))) (hb hby own_d1_56) hr) (by decide) (by decide) (by rw [hh0]; exact CHr.trans c143 (CHv.at X140 hZ hEL c142)) ⟨_, rfl, N140, c145, sz_b120, A140⟩
      · have c146 := (((O.ext E120).ext E124).wr W130 gn_b124)
        have c147 := ((A120.ext E124).wr W130)
        have c148 := ((f120_value.ext E124).other W130 (Or.inl ne_b120_b124))
        have c149 := ((f120_coder.ext E124).other W130 (Or.inl ne_b120_b124))
        have c151 := (Nat.le_trans (Nat.le_trans c125 E124.1) (Keep.of_wr W130).1)
        refine own_cP X130 (X130.specialBack hx (y := (⟨"java/lang/String", "<init>", "([C)V"⟩ : MethodName)) rfl hown (mvT hZ (own_w10 hw)) (mvT hZ (own_w11 hw)) (mvT hZ (own_w12 hw)) (by decide) (backOf (W := 1) (rm_i1u1 l Z a0 hw [] z b120 b124 k124 (.int (0 : Int32)) d134_0 .null (.int 0) h130 n0 c151 c146 SC hz SU0 SU1 SU2 c147 c148 c149 gn_b120 AA134 ⟨hr134_0.1, hr134_0.2⟩ hl134) hZ (own_w12 hw) (own_w8 hw) (by decide) (by decide)) (g := (mkF m 53 #[.val (.int p1), .val (.int p2), .val (.int p3), .val (.int p4), .val (.int ((p2 &&& (65535 : Int32)).toUInt32.toUInt16.toUInt32.toInt32)), .val (.int ((p3 &&& (65535 : Int32)).toUInt32.toUInt16.toUInt32.toInt32)), .val (.int ((p4 &&& (65535 : Int32)).toUInt32.toUInt16.toUInt32.toInt32))] [(.ref b124), (.ref b120), (.ref b120)])) rfl (by rw [hml]; rfl) (Steps.refl _) (a := b120) (argsL := [(.ref b124)]) (rest := [(.ref b120)]) (lenOf own_pd10 rfl) rfl (by show 2 * 0 + _ ≤ _; exact Nat.le_of_eq rfl) (hb hby own_d1_53) (fun _ _ => ⟨rfl, e130, (by decide : 2 + 2 ≤ _), (by decide : 5 + 3 ≤ _)⟩)) fun v150 T150 L150 X150 hQ150 => ?_
        obtain ⟨rfl, Nq150, K150, A150, C150, t150, kb150, st_150, V150, B150⟩ := hQ150
        have N150 := Fr.app N130 Nq150
        have c152 := (Safe.wr W130 sf_b124 c127 (Safe.ext E124 c121 sf_b120))
        have c153 := (CHv.keep K150 (sfS c152 sf0) c131)
        have c154 := (CHr.trans c132 (CHr.keep K150 (sfS c152 sf0) c131))
        have c155 := (Nat.le_trans c133 K150.1)
        show own_Go p e below Pst (T150.setTop (mkF m 56 #[.val (.int p1), .val (.int p2), .val (.int p3), .val (.int p4), .val (.int ((p2 &&& (65535 : Int32)).toUInt32.toUInt16.toUInt32.toInt32)), .val (.int ((p3 &&& (65535 : Int32)).toUInt32.toUInt16.toUInt32.toInt32)), .val (.int ((p4 &&& (65535 : Int32)).toUInt32.toUInt16.toUInt32.toInt32))] [(.ref b120)]))
        have c156 := (Keep.trans ((c126.ext E124).wr W130 (Or.inr sz_b124)) K150 (allS (Or.inr sz_b120) all0))
        rw [hPst]
        exact own_retW X150 hS0 c155 (v := (some (.ref b120))) (Q := Q_make Z z p1 p2 p3 p4 h0 n0) (fun h => by rw [Bd.returns] at h; cases h) Bd.notSynchronized (fun fs hr => retOut X150 hx Bd.returns rfl (Or.inr (Or.inr (Or.inr (Or.inr ⟨rfl, rfl, rfl⟩)))) (hb hby own_d1_56) hr) (by decide) (by decide) (by rw [hh0]; exact CHr.trans c154 (CHv.at X150 hZ hEL c153)) ⟨_, rfl, N150, c156, sz_b120, A150⟩
    · refine own_x_icmpYes X0.here hx (pc0 := 38) (pc' := 57) rfl (hb hby own_d1_38) rfl (feq hn1).2 (by decide) (by decide) ?_
      refine own_x_iloadN X0.here hx (hb hby own_d1_57) rfl ?_
      refine own_x_iconst X0.here hx (hb hby own_d1_58) (z := (2 : Int32)) rfl ?_
      by_cases hn2 : p1 = (2 : Int32)
      · refine own_x_icmpNo X0.here hx (hb hby own_d1_59) rfl (teq hn2).2 ?_
        refine own_h_newO X0 hx hZ hown (own_w6 hw) (own_w7 hw) (own_w8 hw) e0 (hb hby own_d1_62) (by decide) (by decide) fun T157 h157 b157 g157 X157 e157 E157 A157 D157 U157 => ?_
        have gn_b157 : n0 ≤ b157 := Nat.le_trans Z0 (Nat.le_of_eq g157.symm)
        have sz_b157 : h0.size ≤ b157 := Nat.le_trans (Keep.refl h0 []).1 (Nat.le_of_eq g157.symm)
        have sf_b157 := Safe.ext E157 hCH0 (Safe.new (Nat.le_of_eq g157.symm))
        have c158 := (CHv.ext E157 hCH0)
        have c159 := (CHr.trans (CHr.refl hCH0) (CHr.ext E157 hCH0))
        have c160 := (Nat.le_trans hk0 E157.1)
        have f157_value : Fld Z h157 b157 "java/lang/String" "value" "[B" .null := D157 (Or.inr (own_w22 hw)) (ty := (.array .byte)) (by decide)
        have f157_coder : Fld Z h157 b157 "java/lang/String" "coder" "B" (.int (0 : Int32)) := D157 (Or.inr (own_w23 hw)) (ty := .byte) (by decide)
        refine own_x_dup X157.here hx (hb hby own_d1_65) rfl rfl ?_
        refine own_x_iconst X157.here hx (hb hby own_d1_66) (z := (2 : Int32)) rfl ?_
        have c162 := (Nat.le_trans Z0 E157.1)
        have c163 := ((Keep.refl h0 []).ext E157)
        refine own_h_newP (aty := .char) X157 hx hZ (own_w9 hw) e157 (hb hby own_d1_67) rfl (by decide) (cap := 2) (by decide) (by decide) (by decide) (by decide) fun T161 h161 k161 b161 g161 X161 e161 E161 A161 => ?_
        have ne_b157_b161 : b157 ≠ b161 := Nat.ne_of_lt (Nat.lt_of_lt_of_le A157.lt (Nat.le_of_eq g161.symm))
        have gn_b161 : n0 ≤ b161 := Nat.le_trans c162 (Nat.le_of_eq g161.symm)
        have sz_b161 : h0.size ≤ b161 := Nat.le_trans c163.1 (Nat.le_of_eq g161.symm)
        have sf_b161 := Safe.ext E161 c158 (Safe.new (Nat.le_of_eq g161.symm))
        have c164 := (CHv.ext E161 c158)
        have c165 := (CHr.trans c159 (CHr.ext E161 c158))
        have c166 := (Nat.le_trans c160 E161.1)
        have V161 : Arv Z h161 b161 k161 .char (2 : Int32) [(.int (0 : Int32)), (.int (0 : Int32))] (.int (0 : Int32)) := (Arv.new A161 (by decide)).pad (pad_rep [] (.int (0 : Int32)) 2)
        refine own_x_dup X161.here hx (hb hby own_d1_69) rfl rfl ?_
        refine own_x_iconst X161.here hx (hb hby own_d1_70) (z := (0 : Int32)) rfl ?_
        refine own_x_iload X161.here hx (hb hby own_d1_71) rfl ?_
        refine own_h_arC X161 hx hZ e161 V161 (0 : Int32) 0 ⟨by decide, by decide⟩ rfl (Nat.le_of_ble_eq_true rfl) rfl (hb hby own_d1_73) fun T167 h167 X167 e167 W167 V167 => ?_
        have c168 := (CHv.wr W167 sf_b161 c164)
        have c169 := (CHr.trans c165 (CHr.wr W167 sf_b161 c164))
        have c170 := (Nat.le_trans c166 (Keep.of_wr W167).1)
        have N167 := Fr.snoc X167 N0 gn_b161
        refine own_x_dup X167.here hx (hb hby own_d1_74) rfl rfl ?_
        refine own_x_iconst X167.here hx (hb hby own_d1_75) (z := (1 : Int32)) rfl ?_
        refine own_x_iload X167.here hx (hb hby own_d1_76) rfl ?_
        refine own_h_arC X167 hx hZ e167 V167 (1 : Int32) 1 ⟨by decide, by decide⟩ rfl (Nat.le_of_ble_eq_true rfl) rfl (hb hby own_d1_78) fun T171 h171 X171 e171 W171 V171 => ?_
        have c172 := (Safe.wr W167 sf_b161 c164 sf_b161)
        have c173 := (CHv.wr W171 c172 c168)
        have c174 := (CHr.trans c169 (CHr.wr W171 c172 c168))
        have c175 := (Nat.le_trans c170 (Keep.of_wr W171).1)
        have N171 := Fr.snoc X171 N167 gn_b161
        obtain ⟨d176_0, hd176_0⟩ : ∃ d, d = (nar .char ((p2 &&& (65535 : Int32)).toUInt32.toUInt16.toUInt32.toInt32)) := ⟨_, rfl⟩
        have hr176_0 : ¬ d176_0 < 0 ∧ ¬ (65535 : Int32) < d176_0 := by rw [hd176_0]; exact own_rchar _
        obtain ⟨d176_1, hd176_1⟩ : ∃ d, d = (nar .char ((p3 &&& (65535 : Int32)).toUInt32.toUInt16.toUInt32.toInt32)) := ⟨_, rfl⟩
        have hr176_1 : ¬ d176_1 < 0 ∧ ¬ (65535 : Int32) < d176_1 := by rw [hd176_1]; exact own_rchar _
        have AA176 : Arv Z h171 b161 k161 .char (2 : Int32) [(.int d176_0), (.int d176_1)] (.int (0 : Int32)) := by rw [hd176_0, hd176_1]; exact V171
        by_cases hl176 : ¬ (255 : Int32) < d176_0 ∧ ¬ (255 : Int32) < d176_1
        · have hp176 : ∀ c ∈ ([d176_0, d176_1] : List Int32), ¬ c < 0 ∧ ¬ (255 : Int32) < c := by
            intro c hc
            simp only [List.mem_cons, List.not_mem_nil, or_false] at hc
            rcases hc with e | e
            · rw [e]; exact ⟨hr176_0.1, hl176.1⟩
            · rw [e]; exact ⟨hr176_1.1, hl176.2⟩
          have c177 := (Nat.le_trans (Nat.le_trans (Nat.le_trans c162 E161.1) (Keep.of_wr W167).1) (Keep.of_wr W171).1)
          have c178 := (((A157.ext E161).wr W167).wr W171)
          have c179 := (((f157_value.ext E161).other W167 (Or.inl ne_b157_b161)).other W171 (Or.inl ne_b157_b161))
          have c180 := (((f157_coder.ext E161).other W167 (Or.inl ne_b157_b161)).other W171 (Or.inl ne_b157_b161))
          have c181 := ((((O.ext E157).ext E161).wr W167 gn_b161).wr W171 gn_b161)
          refine own_cP X171 (X171.specialBack hx (y := (⟨"java/lang/String", "<init>", "([C)V"⟩ : MethodName)) rfl hown (mvT hZ (own_w10 hw)) (mvT hZ (own_w11 hw)) (mvT hZ (own_w12 hw)) (by decide) (StrChars.Road.backV (W := 1) hZ (own_words Z a0 hw) (kI := 4) (own_w7 hw) (cs := [d176_0, d176_1]) (bs := ([d176_0, d176_1] : List Int32).map (fun c => c.toInt8.toInt32)) (n := 2) gn_b157 c177 c178 c179 c180 AA176 (SC.ext c181.2) hz rfl rfl (by decide) (by decide) hp176 rfl (by decide) (by decide)) (g := (mkF m 79 #[.val (.int p1), .val (.int p2), .val (.int p3), .val (.int p4), .val (.int ((p2 &&& (65535 : Int32)).toUInt32.toUInt16.toUInt32.toInt32)), .val (.int ((p3 &&& (65535 : Int32)).toUInt32.toUInt16.toUInt32.toInt32)), .val (.int ((p4 &&& (65535 : Int32)).toUInt32.toUInt16.toUInt32.toInt32))] [(.ref b161), (.ref b157), (.ref b157)])) rfl (by rw [hml]; rfl) (Steps.refl _) (a := b157) (argsL := [(.ref b161)]) (rest := [(.ref b157)]) (lenOf own_pd10 rfl) rfl (by show 2 * 0 + _ ≤ _; exact Nat.le_of_eq rfl) (hb hby own_d1_79) (fun _ _ => ⟨rfl, e171, (by decide : 2 + 1 ≤ _), (by decide : 6 + 2 ≤ _)⟩)) fun v182 T182 L182 X182 hQ182 => ?_
          obtain ⟨rfl, Nq182, K182, A182, C182, t182, kb182, -, -, -, V182, B182⟩ := hQ182
          have N182 := Fr.app N171 Nq182
          have c183 := (Safe.wr W171 c172 c168 (Safe.wr W167 sf_b161 c164 (Safe.ext E161 c158 sf_b157)))
          have c184 := (CHv.keep K182 (sfS c183 sf0) c173)
          have c185 := (CHr.trans c174 (CHr.keep K182 (sfS c183 sf0) c173))
          have c186 := (Nat.le_trans c175 K182.1)
          show own_Go p e below Pst (T182.setTop (mkF m 82 #[.val (.int p1), .val (.int p2), .val (.int p3), .val (.int p4), .val (.int ((p2 &&& (65535 : Int32)).toUInt32.toUInt16.toUInt32.toInt32)), .val (.int ((p3 &&& (65535 : Int32)).toUInt32.toUInt16.toUInt32.toInt32)), .val (.int ((p4 &&& (65535 : Int32)).toUInt32.toUInt16.toUInt32.toInt32))] [(.ref b157)]))
          have c187 := (Keep.trans (((c163.ext E161).wr W167 (Or.inr sz_b161)).wr W171 (Or.inr sz_b161)) K182 (allS (Or.inr sz_b157) all0))
          rw [hPst]
          exact own_retW X182 hS0 c186 (v := (some (.ref b157))) (Q := Q_make Z z p1 p2 p3 p4 h0 n0) (fun h => by rw [Bd.returns] at h; cases h) Bd.notSynchronized (fun fs hr => retOut X182 hx Bd.returns rfl (Or.inr (Or.inr (Or.inr (Or.inr ⟨rfl, rfl, rfl⟩)))) (hb hby own_d1_82) hr) (by decide) (by decide) (by rw [hh0]; exact CHr.trans c185 (CHv.at X182 hZ hEL c184)) ⟨_, rfl, N182, c187, sz_b157, A182⟩
        · have c188 := ((((O.ext E157).ext E161).wr W167 gn_b161).wr W171 gn_b161)
          have c189 := (((A157.ext E161).wr W167).wr W171)
          have c190 := (((f157_value.ext E161).other W167 (Or.inl ne_b157_b161)).other W171 (Or.inl ne_b157_b161))
          have c191 := (((f157_coder.ext E161).other W167 (Or.inl ne_b157_b161)).other W171 (Or.inl ne_b157_b161))
          have c193 := (Nat.le_trans (Nat.le_trans (Nat.le_trans c162 E161.1) (Keep.of_wr W167).1) (Keep.of_wr W171).1)
          refine own_cP X171 (X171.specialBack hx (y := (⟨"java/lang/String", "<init>", "([C)V"⟩ : MethodName)) rfl hown (mvT hZ (own_w10 hw)) (mvT hZ (own_w11 hw)) (mvT hZ (own_w12 hw)) (by decide) (backOf (W := 1) (rm_i1u2 l Z a0 hw [] z b157 b161 k161 (.int (0 : Int32)) d176_0 d176_1 .null (.int 0) h171 n0 c193 c188 SC hz SU0 SU1 SU2 c189 c190 c191 gn_b157 AA176 ⟨hr176_0.1, hr176_0.2, hr176_1.1, hr176_1.2⟩ hl176) hZ (own_w12 hw) (own_w8 hw) (by decide) (by decide)) (g := (mkF m 79 #[.val (.int p1), .val (.int p2), .val (.int p3), .val (.int p4), .val (.int ((p2 &&& (65535 : Int32)).toUInt32.toUInt16.toUInt32.toInt32)), .val (.int ((p3 &&& (65535 : Int32)).toUInt32.toUInt16.toUInt32.toInt32)), .val (.int ((p4 &&& (65535 : Int32)).toUInt32.toUInt16.toUInt32.toInt32))] [(.ref b161), (.ref b157), (.ref b157)])) rfl (by rw [hml]; rfl) (Steps.refl _) (a := b157) (argsL := [(.ref b161)]) (rest := [(.ref b157)]) (lenOf own_pd10 rfl) rfl (by show 2 * 0 + _ ≤ _; exact Nat.le_of_eq rfl) (hb hby own_d1_79) (fun _ _ => ⟨rfl, e171, (by decide : 2 + 2 ≤ _), (by decide : 6 + 6 ≤ _)⟩)) fun v192 T192 L192 X192 hQ192 => ?_
          obtain ⟨rfl, Nq192, K192, A192, C192, t192, kb192, st_192, V192, B192⟩ := hQ192
          have N192 := Fr.app N171 Nq192
          have c194 := (Safe.wr W171 c172 c168 (Safe.wr W167 sf_b161 c164 (Safe.ext E161 c158 sf_b157)))
          have c195 := (CHv.keep K192 (sfS c194 sf0) c173)
          have c196 := (CHr.trans c174 (CHr.keep K192 (sfS c194 sf0) c173))
          have c197 := (Nat.le_trans c175 K192.1)
          show own_Go p e below Pst (T192.setTop (mkF m 82 #[.val (.int p1), .val (.int p2), .val (.int p3), .val (.int p4), .val (.int ((p2 &&& (65535 : Int32)).toUInt32.toUInt16.toUInt32.toInt32)), .val (.int ((p3 &&& (65535 : Int32)).toUInt32.toUInt16.toUInt32.toInt32)), .val (.int ((p4 &&& (65535 : Int32)).toUInt32.toUInt16.toUInt32.toInt32))] [(.ref b157)]))
          have c198 := (Keep.trans (((c163.ext E161).wr W167 (Or.inr sz_b161)).wr W171 (Or.inr sz_b161)) K192 (allS (Or.inr sz_b157) all0))
          rw [hPst]
          exact own_retW X192 hS0 c197 (v := (some (.ref b157))) (Q := Q_make Z z p1 p2 p3 p4 h0 n0) (fun h => by rw [Bd.returns] at h; cases h) Bd.notSynchronized (fun fs hr => retOut X192 hx Bd.returns rfl (Or.inr (Or.inr (Or.inr (Or.inr ⟨rfl, rfl, rfl⟩)))) (hb hby own_d1_82) hr) (by decide) (by decide) (by rw [hh0]; exact CHr.trans c196 (CHv.at X192 hZ hEL c195)) ⟨_, rfl, N192, c198, sz_b157, A192⟩
      · refine own_x_icmpYes X0.here hx (pc0 := 59) (pc' := 83) rfl (hb hby own_d1_59) rfl (feq hn2).2 (by decide) (by decide) ?_
        refine own_h_newO X0 hx hZ hown (own_w6 hw) (own_w7 hw) (own_w8 hw) e0 (hb hby own_d1_83) (by decide) (by decide) fun T199 h199 b199 g199 X199 e199 E199 A199 D199 U199 => ?_
        have gn_b199 : n0 ≤ b199 := Nat.le_trans Z0 (Nat.le_of_eq g199.symm)
        have sz_b199 : h0.size ≤ b199 := Nat.le_trans (Keep.refl h0 []).1 (Nat.le_of_eq g199.symm)
        have sf_b199 := Safe.ext E199 hCH0 (Safe.new (Nat.le_of_eq g199.symm))
        have c200 := (CHv.ext E199 hCH0)
        have c201 := (CHr.trans (CHr.refl hCH0) (CHr.ext E199 hCH0))
        have c202 := (Nat.le_trans hk0 E199.1)
        have f199_value : Fld Z h199 b199 "java/lang/String" "value" "[B" .null := D199 (Or.inr (own_w22 hw)) (ty := (.array .byte)) (by decide)
        have f199_coder : Fld Z h199 b199 "java/lang/String" "coder" "B" (.int (0 : Int32)) := D199 (Or.inr (own_w23 hw)) (ty := .byte) (by decide)
        refine own_x_dup X199.here hx (hb hby own_d1_86) rfl rfl ?_
        refine own_x_iconst X199.here hx (hb hby own_d1_87) (z := (3 : Int32)) rfl ?_
        have c204 := (Nat.le_trans Z0 E199.1)
        have c205 := ((Keep.refl h0 []).ext E199)
        refine own_h_newP (aty := .char) X199 hx hZ (own_w9 hw) e199 (hb hby own_d1_88) rfl (by decide) (cap := 3) (by decide) (by decide) (by decide) (by decide) fun T203 h203 k203 b203 g203 X203 e203 E203 A203 => ?_
        have ne_b199_b203 : b199 ≠ b203 := Nat.ne_of_lt (Nat.lt_of_lt_of_le A199.lt (Nat.le_of_eq g203.symm))
        have gn_b203 : n0 ≤ b203 := Nat.le_trans c204 (Nat.le_of_eq g203.symm)
        have sz_b203 : h0.size ≤ b203 := Nat.le_trans c205.1 (Nat.le_of_eq g203.symm)
        have sf_b203 := Safe.ext E203 c200 (Safe.new (Nat.le_of_eq g203.symm))
        have c206 := (CHv.ext E203 c200)
        have c207 := (CHr.trans c201 (CHr.ext E203 c200))
        have c208 := (Nat.le_trans c202 E203.1)
        have V203 : Arv Z h203 b203 k203 .char (3 : Int32) [(.int (0 : Int32)), (.int (0 : Int32)), (.int (0 : Int32))] (.int (0 : Int32)) := (Arv.new A203 (by decide)).pad (pad_rep [] (.int (0 : Int32)) 3)
        refine own_x_dup X203.here hx (hb hby own_d1_90) rfl rfl ?_
        refine own_x_iconst X203.here hx (hb hby own_d1_91) (z := (0 : Int32)) rfl ?_
        refine own_x_iload X203.here hx (hb hby own_d1_92) rfl ?_
        refine own_h_arC X203 hx hZ e203 V203 (0 : Int32) 0 ⟨by decide, by decide⟩ rfl (Nat.le_of_ble_eq_true rfl) rfl (hb hby own_d1_94) fun T209 h209 X209 e209 W209 V209 => ?_
        have c210 := (CHv.wr W209 sf_b203 c206)
        have c211 := (CHr.trans c207 (CHr.wr W209 sf_b203 c206))
        have c212 := (Nat.le_trans c208 (Keep.of_wr W209).1)
        have N209 := Fr.snoc X209 N0 gn_b203
        refine own_x_dup X209.here hx (hb hby own_d1_95) rfl rfl ?_
        refine own_x_iconst X209.here hx (hb hby own_d1_96) (z := (1 : Int32)) rfl ?_
        refine own_x_iload X209.here hx (hb hby own_d1_97) rfl ?_
        refine own_h_arC X209 hx hZ e209 V209 (1 : Int32) 1 ⟨by decide, by decide⟩ rfl (Nat.le_of_ble_eq_true rfl) rfl (hb hby own_d1_99) fun T213 h213 X213 e213 W213 V213 => ?_
        have c214 := (Safe.wr W209 sf_b203 c206 sf_b203)
        have c215 := (CHv.wr W213 c214 c210)
        have c216 := (CHr.trans c211 (CHr.wr W213 c214 c210))
        have c217 := (Nat.le_trans c212 (Keep.of_wr W213).1)
        have N213 := Fr.snoc X213 N209 gn_b203
        refine own_x_dup X213.here hx (hb hby own_d1_100) rfl rfl ?_
        refine own_x_iconst X213.here hx (hb hby own_d1_101) (z := (2 : Int32)) rfl ?_
        refine own_x_iload X213.here hx (hb hby own_d1_102) rfl ?_
        refine own_h_arC X213 hx hZ e213 V213 (2 : Int32) 2 ⟨by decide, by decide⟩ rfl (Nat.le_of_ble_eq_true rfl) rfl (hb hby own_d1_104) fun T218 h218 X218 e218 W218 V218 => ?_
        have c219 := (Safe.wr W213 c214 c210 c214)
        have c220 := (CHv.wr W218 c219 c215)
        have c221 := (CHr.trans c216 (CHr.wr W218 c219 c215))
        have c222 := (Nat.le_trans c217 (Keep.of_wr W218).1)
        have N218 := Fr.snoc X218 N213 gn_b203
        obtain ⟨d223_0, hd223_0⟩ : ∃ d, d = (nar .char ((p2 &&& (65535 : Int32)).toUInt32.toUInt16.toUInt32.toInt32)) := ⟨_, rfl⟩
        have hr223_0 : ¬ d223_0 < 0 ∧ ¬ (65535 : Int32) < d223_0 := by rw [hd223_0]; exact own_rchar _
        obtain ⟨d223_1, hd223_1⟩ : ∃ d, d = (nar .char ((p3 &&& (65535 : Int32)).toUInt32.toUInt16.toUInt32.toInt32)) := ⟨_, rfl⟩
        have hr223_1 : ¬ d223_1 < 0 ∧ ¬ (65535 : Int32) < d223_1 := by rw [hd223_1]; exact own_rchar _
        obtain ⟨d223_2, hd223_2⟩ : ∃ d, d = (nar .char ((p4 &&& (65535 : Int32)).toUInt32.toUInt16.toUInt32.toInt32)) := ⟨_, rfl⟩
        have hr223_2 : ¬ d223_2 < 0 ∧ ¬ (65535 : Int32) < d223_2 := by rw [hd223_2]; exact own_rchar _
        have AA223 : Arv Z h218 b203 k203 .char (3 : Int32) [(.int d223_0), (.int d223_1), (.int d223_2)] (.int (0 : Int32)) := by rw [hd223_0, hd223_1, hd223_2]; exact V218
        by_cases hl223 : ¬ (255 : Int32) < d223_0 ∧ ¬ (255 : Int32) < d223_1 ∧ ¬ (255 : Int32) < d223_2
        · have hp223 : ∀ c ∈ ([d223_0, d223_1, d223_2] : List Int32), ¬ c < 0 ∧ ¬ (255 : Int32) < c := by
            intro c hc
            simp only [List.mem_cons, List.not_mem_nil, or_false] at hc
            rcases hc with e | e | e
            · rw [e]; exact ⟨hr223_0.1, hl223.1⟩
            · rw [e]; exact ⟨hr223_1.1, hl223.2.1⟩
            · rw [e]; exact ⟨hr223_2.1, hl223.2.2⟩
          have c224 := (Nat.le_trans (Nat.le_trans (Nat.le_trans (Nat.le_trans c204 E203.1) (Keep.of_wr W209).1) (Keep.of_wr W213).1) (Keep.of_wr W218).1)
          have c225 := ((((A199.ext E203).wr W209).wr W213).wr W218)
          have c226 := ((((f199_value.ext E203).other W209 (Or.inl ne_b199_b203)).other W213 (Or.inl ne_b199_b203)).other W218 (Or.inl ne_b199_b203))
          have c227 := ((((f199_coder.ext E203).other W209 (Or.inl ne_b199_b203)).other W213 (Or.inl ne_b199_b203)).other W218 (Or.inl ne_b199_b203))
          have c228 := (((((O.ext E199).ext E203).wr W209 gn_b203).wr W213 gn_b203).wr W218 gn_b203)
          refine own_cP X218 (X218.specialBack hx (y := (⟨"java/lang/String", "<init>", "([C)V"⟩ : MethodName)) rfl hown (mvT hZ (own_w10 hw)) (mvT hZ (own_w11 hw)) (mvT hZ (own_w12 hw)) (by decide) (StrChars.Road.backV (W := 1) hZ (own_words Z a0 hw) (kI := 4) (own_w7 hw) (cs := [d223_0, d223_1, d223_2]) (bs := ([d223_0, d223_1, d223_2] : List Int32).map (fun c => c.toInt8.toInt32)) (n := 3) gn_b199 c224 c225 c226 c227 AA223 (SC.ext c228.2) hz rfl rfl (by decide) (by decide) hp223 rfl (by decide) (by decide)) (g := (mkF m 105 #[.val (.int p1), .val (.int p2), .val (.int p3), .val (.int p4), .val (.int ((p2 &&& (65535 : Int32)).toUInt32.toUInt16.toUInt32.toInt32)), .val (.int ((p3 &&& (65535 : Int32)).toUInt32.toUInt16.toUInt32.toInt32)), .val (.int ((p4 &&& (65535 : Int32)).toUInt32.toUInt16.toUInt32.toInt32))] [(.ref b203), (.ref b199), (.ref b199)])) rfl (by rw [hml]; rfl) (Steps.refl _) (a := b199) (argsL := [(.ref b203)]) (rest := [(.ref b199)]) (lenOf own_pd10 rfl) rfl (by show 2 * 0 + _ ≤ _; exact Nat.le_of_eq rfl) (hb hby own_d1_105) (fun _ _ => ⟨rfl, e218, (by decide : 2 + 1 ≤ _), (by decide : 7 + 3 ≤ _)⟩)) fun v229 T229 L229 X229 hQ229 => ?_
          obtain ⟨rfl, Nq229, K229, A229, C229, t229, kb229, -, -, -, V229, B229⟩ := hQ229
          have N229 := Fr.app N218 Nq229
          have c230 := (Safe.wr W218 c219 c215 (Safe.wr W213 c214 c210 (Safe.wr W209 sf_b203 c206 (Safe.ext E203 c200 sf_b199))))
          have c231 := (CHv.keep K229 (sfS c230 sf0) c220)
          have c232 := (CHr.trans c221 (CHr.keep K229 (sfS c230 sf0) c220))
          have c233 := (Nat.le_trans c222 K229.1)
          show own_Go p e below Pst (T229.setTop (mkF m 108 #[.val (.int p1), .val (.int p2), .val (.int p3), .val (.int p4), .val (.int ((p2 &&& (65535 : Int32)).toUInt32.toUInt16.toUInt32.toInt32)), .val (.int ((p3 &&& (65535 : Int32)).toUInt32.toUInt16.toUInt32.toInt32)), .val (.int ((p4 &&& (65535 : Int32)).toUInt32.toUInt16.toUInt32.toInt32))] [(.ref b199)]))
          have c234 := (Keep.trans ((((c205.ext E203).wr W209 (Or.inr sz_b203)).wr W213 (Or.inr sz_b203)).wr W218 (Or.inr sz_b203)) K229 (allS (Or.inr sz_b199) all0))
          rw [hPst]
          exact own_retW X229 hS0 c233 (v := (some (.ref b199))) (Q := Q_make Z z p1 p2 p3 p4 h0 n0) (fun h => by rw [Bd.returns] at h; cases h) Bd.notSynchronized (fun fs hr => retOut X229 hx Bd.returns rfl (Or.inr (Or.inr (Or.inr (Or.inr ⟨rfl, rfl, rfl⟩)))) (hb hby own_d1_108) hr) (by decide) (by decide) (by rw [hh0]; exact CHr.trans c232 (CHv.at X229 hZ hEL c231)) ⟨_, rfl, N229, c234, sz_b199, A229⟩
        · have c235 := (((((O.ext E199).ext E203).wr W209 gn_b203).wr W213 gn_b203).wr W218 gn_b203)
          have c236 := ((((A199.ext E203).wr W209).wr W213).wr W218)
          have c237 := ((((f199_value.ext E203).other W209 (Or.inl ne_b199_b203)).other W213 (Or.inl ne_b199_b203)).other W218 (Or.inl ne_b199_b203))
          have c238 := ((((f199_coder.ext E203).other W209 (Or.inl ne_b199_b203)).other W213 (Or.inl ne_b199_b203)).other W218 (Or.inl ne_b199_b203))
          have c240 := (Nat.le_trans (Nat.le_trans (Nat.le_trans (Nat.le_trans c204 E203.1) (Keep.of_wr W209).1) (Keep.of_wr W213).1) (Keep.of_wr W218).1)
          refine own_cP X218 (X218.specialBack hx (y := (⟨"java/lang/String", "<init>", "([C)V"⟩ : MethodName)) rfl hown (mvT hZ (own_w10 hw)) (mvT hZ (own_w11 hw)) (mvT hZ (own_w12 hw)) (by decide) (backOf (W := 1) (rm_i1u3 l Z a0 hw [] z b199 b203 k203 (.int (0 : Int32)) d223_0 d223_1 d223_2 .null (.int 0) h218 n0 c240 c235 SC hz SU0 SU1 SU2 c236 c237 c238 gn_b199 AA223 ⟨hr223_0.1, hr223_0.2, hr223_1.1, hr223_1.2, hr223_2.1, hr223_2.2⟩ hl223) hZ (own_w12 hw) (own_w8 hw) (by decide) (by decide)) (g := (mkF m 105 #[.val (.int p1), .val (.int p2), .val (.int p3), .val (.int p4), .val (.int ((p2 &&& (65535 : Int32)).toUInt32.toUInt16.toUInt32.toInt32)), .val (.int ((p3 &&& (65535 : Int32)).toUInt32.toUInt16.toUInt32.toInt32)), .val (.int ((p4 &&& (65535 : Int32)).toUInt32.toUInt16.toUInt32.toInt32))] [(.ref b203), (.ref b199), (.ref b199)])) rfl (by rw [hml]; rfl) (Steps.refl _) (a := b199) (argsL := [(.ref b203)]) (rest := [(.ref b199)]) (lenOf own_pd10 rfl) rfl (by show 2 * 0 + _ ≤ _; exact Nat.le_of_eq rfl) (hb hby own_d1_105) (fun _ _ => ⟨rfl, e218, (by decide : 2 + 2 ≤ _), (by decide : 7 + 9 ≤ _)⟩)) fun v239 T239 L239 X239 hQ239 => ?_
          obtain ⟨rfl, Nq239, K239, A239, C239, t239, kb239, st_239, V239, B239⟩ := hQ239
          have N239 := Fr.app N218 Nq239
          have c241 := (Safe.wr W218 c219 c215 (Safe.wr W213 c214 c210 (Safe.wr W209 sf_b203 c206 (Safe.ext E203 c200 sf_b199))))
          have c242 := (CHv.keep K239 (sfS c241 sf0) c220)
          have c243 := (CHr.trans c221 (CHr.keep K239 (sfS c241 sf0) c220))
          have c244 := (Nat.le_trans c222 K239.1)
          show own_Go p e below Pst (T239.setTop (mkF m 108 #[.val (.int p1), .val (.int p2), .val (.int p3), .val (.int p4), .val (.int ((p2 &&& (65535 : Int32)).toUInt32.toUInt16.toUInt32.toInt32)), .val (.int ((p3 &&& (65535 : Int32)).toUInt32.toUInt16.toUInt32.toInt32)), .val (.int ((p4 &&& (65535 : Int32)).toUInt32.toUInt16.toUInt32.toInt32))] [(.ref b199)]))
          have c245 := (Keep.trans ((((c205.ext E203).wr W209 (Or.inr sz_b203)).wr W213 (Or.inr sz_b203)).wr W218 (Or.inr sz_b203)) K239 (allS (Or.inr sz_b199) all0))
          rw [hPst]
          exact own_retW X239 hS0 c244 (v := (some (.ref b199))) (Q := Q_make Z z p1 p2 p3 p4 h0 n0) (fun h => by rw [Bd.returns] at h; cases h) Bd.notSynchronized (fun fs hr => retOut X239 hx Bd.returns rfl (Or.inr (Or.inr (Or.inr (Or.inr ⟨rfl, rfl, rfl⟩)))) (hb hby own_d1_108) hr) (by decide) (by decide) (by rw [hh0]; exact CHr.trans c243 (CHv.at X239 hZ hEL c242)) ⟨_, rfl, N239, c245, sz_b199, A239⟩
theorem own_pd11 : parseMethodDescriptor "(Ljava/lang/String;)Lcom/example/shredloom/shredloom/db/SqlXmlValues$Read;" = some ⟨[(.object "java/lang/String")], some (.object "com/example/shredloom/shredloom/db/SqlXmlValues$Read")⟩ := by decide +kernel
theorem own_pd12 : parseMethodDescriptor "()Ljava/lang/String;" = some ⟨[], some (.object "java/lang/String")⟩ := by decide +kernel
theorem own_pd13 : parseMethodDescriptor "(IIII)Ljava/lang/String;" = some ⟨[.int, .int, .int, .int], some (.object "java/lang/String")⟩ := by decide +kernel
theorem own_pd14 : parseMethodDescriptor "(Ljava/lang/Object;)Z" = some ⟨[(.object "java/lang/Object")], some .boolean⟩ := by decide +kernel
theorem own_ef_IIII_maxLocals (m : MethodId) (x0 : Int32) (x1 : Int32) (x2 : Int32) (x3 : Int32) : entryFrame m #[(.int x0), (.int x1), (.int x2), (.int x3)] maxLocals = mkF m 0 #[.val (.int x0), .val (.int x1), .val (.int x2), .val (.int x3), .unset, .unset, .unset, .unset] [] := by first | (simp [entryFrame, mkF, argsToLocals, Value.category, maxLocals]; done) | rfl
def Q0 (Z : State) (z p1 p2 p3 p4 : Int32) (o : Addr) (h0 : Heap) (n0 : Nat) (v : Option Value) (h : Heap) (L : List Loc) : Prop := v = some (.int 1) ∧ Fr n0 L
theorem rm0 (l : Launch) (Z : State) (a0 : Array Value) (hw : own_H a0 Z) (ws : List Jvm.Cond) (z p1 p2 p3 p4 : Int32) (o : Addr) (h0 : Heap) (n0 : Nat) (Z0 : n0 ≤ h0.size) (O : Old Z n0 h0) (SC : Sta Z Z.heap "java/lang/String" "COMPACT_STRINGS" "Z" (.int z)) (hz : ¬ z = 0) (SU0 : Sta Z Z.heap "java/lang/StringUTF16" "$assertionsDisabled" "Z" (.int (1 : Int32))) (SU1 : Sta Z Z.heap "java/lang/StringUTF16" "HI_BYTE_SHIFT" "I" (.int (0 : Int32))) (SU2 : Sta Z Z.heap "java/lang/StringUTF16" "LO_BYTE_SHIFT" "I" (.int (8 : Int32))) (SN : Sta Z Z.heap "com/example/shredloom/shredloom/db/SqlXmlValues$Read" "NULL" "Lcom/example/shredloom/shredloom/db/SqlXmlValues$Read;" (.ref o)) (NE : Exa Z Z.heap o "com/example/shredloom/shredloom/db/SqlXmlValues$Read") (N1 : Fld Z Z.heap o "com/example/shredloom/shredloom/db/SqlXmlValues$Read" "withoutForm" "Ljava/lang/String;" .null) (N2 : Fld Z Z.heap o "com/example/shredloom/shredloom/db/SqlXmlValues$Read" "text" "Ljava/lang/String;" .null) :
    MetFree l x (head1 (Jvm.Cond.code x code maxLocals ret :: ws) room_1) (fun a U => a = #[(.int p1), (.int p2), (.int p3), (.int p4)] ∧ Z.Warmed39 U.vm ∧ U.heap = h0 ∧ CHv Z own_EL U.vm h0) (fun _ _ _ _ _ => True) (fun _ U oc U' => ∃ v L, oc = .returned v ∧ Q0 Z z p1 p2 p3 p4 o h0 n0 v U'.heap L ∧ CHr Z own_EL U.vm U.heap U'.vm U'.heap ∧ ReturnedEndW U oc U' L 24 1152) := by
  refine MetFree.of_bodySF (plainFor_of_name own_pn_com_example_shredloom_shredloom_db_ReadOfPinLaw) hisR ?_
  intro p e s m args below meth c s₁ Bd hml0 hP hK
  obtain ⟨rfl, hZ, hh0, hCH0⟩ := hP
  have hx := Bd.exec
  have hby := Bd.bytes
  have hml : c.maxLocals = 8 := hml0
  have hown : s.vm.findClass "com/example/shredloom/shredloom/db/ReadOfPinLaw" = some m.cls := findClass_of_methodNamed Bd.named
  have hnm := (name_of_methodNamed Bd.named Bd.method).1
  have X0 : Stand p l e room_1 (s.setVm s.vm) m #[(.int p1), (.int p2), (.int p3), (.int p4)] below meth c s₁ [] 0 0 := Stand.of_body Bd
  have e0 : s₁.heap = h0 := by rw [← hh0, Bd.state]; rfl
  have N0 := Fr.nil n0
  have hS0 : s.Since s.vm 0 := (State.WarmedH.refl s).since 0
  have hk0 : 0 ≤ h0.size := Nat.zero_le _
  have hEL := own_hEL Z a0 hw
  obtain ⟨Pst, hPst⟩ : ∃ P : Outcome → State → Prop, P = (fun oc U' => ∃ v L, oc = .returned v ∧ Q0 Z z p1 p2 p3 p4 o h0 n0 v U'.heap L ∧ CHr Z own_EL s.vm s.heap U'.vm U'.heap ∧ ReturnedEndW s oc U' L 24 1152) := ⟨_, rfl⟩
  suffices hgo : own_Go p e below Pst (s₁.setTop (entryFrame m #[(.int p1), (.int p2), (.int p3), (.int p4)] maxLocals)) by rw [hPst] at hgo; exact hgo
  rw [own_ef_IIII_maxLocals m p1 p2 p3 p4]
  refine own_x_iloadN X0.here hx (hb hby at_0) rfl ?_
  refine own_Go.of (S' := s₁.setTop (mkF m 3 #[.val (.int p1), .val (.int p2), .val (.int p3), .val (.int p4), .unset, .unset, .unset, .unset] [(.int (2147483647 : Int32)), (.int p1)])) (fun tgt kst => X0.ldcInt hx hown (mvT hZ (own_w0 hw)) (g := (mkF m 1 #[.val (.int p1), .val (.int p2), .val (.int p3), .val (.int p4), .unset, .unset, .unset, .unset] [(.int p1)])) rfl (hb hby at_1) _ kst) ?_
  refine own_x_iand X0.here hx (hb hby at_3) rfl ?_
  refine own_x_iconst X0.here hx (hb hby at_4) (z := (5 : Int32)) rfl ?_
  refine own_Go.of (S' := s₁.setTop (mkF m 6 #[.val (.int p1), .val (.int p2), .val (.int p3), .val (.int p4), .unset, .unset, .unset, .unset] [(.int ((p1 &&& (2147483647 : Int32)) % (5 : Int32)))])) (fun tgt kst => iremM X0 hx rfl (hb hby at_5) rfl (by decide) kst) ?_
  refine own_x_istore X0.here hx (hb hby at_6) rfl (l' := #[.val (.int p1), .val (.int p2), .val (.int p3), .val (.int p4), .val (.int ((p1 &&& (2147483647 : Int32)) % (5 : Int32))), .unset, .unset, .unset]) rfl ?_
  refine own_x_aconstNull X0.here hx (hb hby at_8) ?_
  refine own_x_astore X0.here hx (hb hby at_9) rfl rfl (l' := #[.val (.int p1), .val (.int p2), .val (.int p3), .val (.int p4), .val (.int ((p1 &&& (2147483647 : Int32)) % (5 : Int32))), .val .null, .unset, .unset]) rfl ?_
  refine own_x_iload X0.here hx (hb hby at_11) rfl ?_
  refine own_x_iconst X0.here hx (hb hby at_13) (z := (4 : Int32)) rfl ?_
  by_cases h4 : ((p1 &&& (2147483647 : Int32)) % (5 : Int32)) = (4 : Int32)
  · refine own_x_icmpYes X0.here hx (pc0 := 14) (pc' := 27) rfl (hb hby at_14) rfl (teq h4).1 (by decide) (by decide) ?_
    refine own_x_aload X0.here hx (hb hby at_27) rfl rfl ?_
    refine own_cF X0 (Jvm.LawKit.callS X0 hx (y := (⟨"com/example/shredloom/shredloom/db/SqlXmlValues$Read", "of", "(Ljava/lang/String;)Lcom/example/shredloom/shredloom/db/SqlXmlValues$Read;"⟩ : MethodName)) hown (mvT hZ (own_w28 hw)) (mvT hZ (own_w29 hw)) (mvT hZ (own_w30 hw)) (mvT hZ (own_w31 hw)) (by decide) (backOf (W := 0) (rm_ofn l Z a0 hw [] o h0 n0 Z0 O SN) hZ (own_w31 hw) (own_w30 hw) (by decide) (by decide)) (g := (mkF m 29 #[.val (.int p1), .val (.int p2), .val (.int p3), .val (.int p4), .val (.int ((p1 &&& (2147483647 : Int32)) % (5 : Int32))), .val .null, .unset, .unset] [.null])) rfl (by rw [hml]; rfl) (argsL := [.null]) (rest := []) (lenOf own_pd11 rfl) rfl (by show 2 * 0 + _ ≤ _; exact Nat.le_of_eq rfl) (hb hby at_29) (fun _ _ => ⟨rfl, e0, (by decide : 0 + 0 ≤ _), (by decide : 0 + 0 ≤ _)⟩)) fun v101 T101 L101 X101 hQ101 => ?_
    obtain ⟨rfl, Nq101, e101⟩ := hQ101
    have N101 := Fr.app N0 Nq101
    show own_Go p e below Pst (T101.setTop (mkF m 32 #[.val (.int p1), .val (.int p2), .val (.int p3), .val (.int p4), .val (.int ((p1 &&& (2147483647 : Int32)) % (5 : Int32))), .val .null, .unset, .unset] [(.ref o)]))
    have NE' := NE.ext O.2
    have N1' := N1.ext O.2
    have N2' := N2.ext O.2
    refine own_x_astore X101.here hx (hb hby at_32) rfl rfl (l' := #[.val (.int p1), .val (.int p2), .val (.int p3), .val (.int p4), .val (.int ((p1 &&& (2147483647 : Int32)) % (5 : Int32))), .val .null, .val (.ref o), .unset]) rfl ?_
    refine own_x_aload X101.here hx (hb hby at_34) rfl rfl ?_
    refine own_x_ifnonnullYes X101.here hx (pc0 := 36) (pc' := 41) rfl (hb hby at_36) rfl (by decide) (by decide) ?_
    refine own_x_aload X101.here hx (hb hby at_41) rfl rfl ?_
    obtain ⟨cq102, kq102, q102a, q102b, q102c⟩ := isOf hZ e101 NE'
    refine own_cP X101 (X101.virtualBack hx (y := (⟨"com/example/shredloom/shredloom/db/SqlXmlValues$Read", "withoutForm", "()Ljava/lang/String;"⟩ : MethodName)) (z := (⟨"com/example/shredloom/shredloom/db/SqlXmlValues$Read", "withoutForm", "()Ljava/lang/String;"⟩ : MethodName)) hown (mvT hZ (own_w47 hw)) (mvT hZ (own_w48 hw)) (notFace_of_selects (args := #[]) (mvT hZ (own_w50 hw))) (mvT hZ (own_w50 hw)) (mvT hZ (own_w49 hw)) (by decide) (backOf (W := 0) (rm_wf l Z a0 hw [] o .null h0 n0 Z0 rfl N1') hZ (own_w51 hw) (own_w30 hw) (by decide) (by decide)) q102a q102c (g := (mkF m 43 #[.val (.int p1), .val (.int p2), .val (.int p3), .val (.int p4), .val (.int ((p1 &&& (2147483647 : Int32)) % (5 : Int32))), .val .null, .val (.ref o), .unset] [(.ref o)])) rfl (by rw [hml]; rfl) (Steps.refl _) (argsL := []) (rest := []) (lenOf own_pd12 rfl) rfl (by show 2 * 0 + _ ≤ _; exact Nat.le_of_eq rfl) (hb hby at_43) (fun _ _ => ⟨rfl, e101, (by decide : 0 + 0 ≤ _), (by decide : 0 + 0 ≤ _)⟩)) fun v102 T102 L102 X102 hQ102 => ?_
    obtain ⟨rfl, Nq102, e102⟩ := hQ102
    have N102 := Fr.app N101 Nq102
    show own_Go p e below Pst (T102.setTop (mkF m 46 #[.val (.int p1), .val (.int p2), .val (.int p3), .val (.int p4), .val (.int ((p1 &&& (2147483647 : Int32)) % (5 : Int32))), .val .null, .val (.ref o), .unset] [.null]))
    refine own_x_ifnullYes X102.here hx (pc0 := 46) (pc' := 51) rfl (hb hby at_46) rfl (by decide) (by decide) ?_
    refine own_x_aload X102.here hx (hb hby at_51) rfl rfl ?_
    refine own_x_ifnonnullNo X102.here hx (hb hby at_53) rfl ?_
    refine own_x_aload X102.here hx (hb hby at_56) rfl rfl ?_
    obtain ⟨cq103, kq103, q103a, q103b, q103c⟩ := isOf hZ e102 NE'
    refine own_cP X102 (X102.virtualBack hx (y := (⟨"com/example/shredloom/shredloom/db/SqlXmlValues$Read", "text", "()Ljava/lang/String;"⟩ : MethodName)) (z := (⟨"com/example/shredloom/shredloom/db/SqlXmlValues$Read", "text", "()Ljava/lang/String;"⟩ : MethodName)) hown (mvT hZ (own_w52 hw)) (mvT hZ (own_w53 hw)) (notFace_of_selects (args := #[]) (mvT hZ (own_w55 hw))) (mvT hZ (own_w55 hw)) (mvT hZ (own_w54 hw)) (by decide) (backOf (W := 0) (rm_tx l Z a0 hw [] o .null h0 n0 Z0 rfl N2') hZ (own_w56 hw) (own_w30 hw) (by decide) (by decide)) q103a q103c (g := (mkF m 58 #[.val (.int p1), .val (.int p2), .val (.int p3), .val (.int p4), .val (.int ((p1 &&& (2147483647 : Int32)) % (5 : Int32))), .val .null, .val (.ref o), .unset] [(.ref o)])) rfl (by rw [hml]; rfl) (Steps.refl _) (argsL := []) (rest := []) (lenOf own_pd12 rfl) rfl (by show 2 * 0 + _ ≤ _; exact Nat.le_of_eq rfl) (hb hby at_58) (fun _ _ => ⟨rfl, e102, (by decide : 0 + 0 ≤ _), (by decide : 0 + 0 ≤ _)⟩)) fun v103 T103 L103 X103 hQ103 => ?_
    obtain ⟨rfl, Nq103, e103⟩ := hQ103
    have N103 := Fr.app N102 Nq103
    show own_Go p e below Pst (T103.setTop (mkF m 61 #[.val (.int p1), .val (.int p2), .val (.int p3), .val (.int p4), .val (.int ((p1 &&& (2147483647 : Int32)) % (5 : Int32))), .val .null, .val (.ref o), .unset] [.null]))
    refine own_x_ifnonnullNo X103.here hx (hb hby at_61) rfl ?_
    refine own_x_iconst X103.here hx (hb hby at_64) (z := (1 : Int32)) rfl ?_
    refine own_x_goto X103.here hx (pc0 := 65) (pc' := 69) rfl (hb hby at_65) (by decide) (by decide) ?_
    rw [hPst]
    exact own_retW X103 hS0 (by rw [e103]; exact hk0) (v := (some (.int (nar .boolean (1 : Int32))))) (Q := Q0 Z z p1 p2 p3 p4 o h0 n0) (fun h => by rw [Bd.returns] at h; cases h) Bd.notSynchronized (fun fs hr => retN X103 hx (t := .boolean) Bd.returns (by simp) (hb hby at_69) hr) (by decide) (by decide) (by rw [hh0, e103]; exact CHr.trans (CHr.refl hCH0) (CHv.at X103 hZ hEL hCH0)) (by rw [e103]; exact ⟨rfl, N103⟩)
  · refine own_x_icmpNo X0.here hx (hb hby at_14) rfl (feq h4).1 ?_
    refine own_x_iload X0.here hx (hb hby at_17) rfl ?_
    refine own_x_iloadN X0.here hx (hb hby at_19) rfl ?_
    refine own_x_iloadN X0.here hx (hb hby at_20) rfl ?_
    refine own_x_iloadN X0.here hx (hb hby at_21) rfl ?_
    refine own_cS X0 hS0 (by rw [e0]; exact hk0) hZ hown (callSS X0 hx (y := (⟨"com/example/shredloom/shredloom/db/ReadOfPinLaw", "make", "(IIII)Ljava/lang/String;"⟩ : MethodName)) hown (mvT hZ (own_w1 hw)) (mvT hZ (own_w2 hw)) (mvT hZ (own_w3 hw)) (mvT hZ (own_w4 hw)) (by decide) (backOfSH (W := 0) (rm_make l Z a0 hw [] z ((p1 &&& (2147483647 : Int32)) % (5 : Int32)) p2 p3 p4 h0 n0 Z0 O SC hz SU0 SU1 SU2) hZ (own_w4 hw) (own_w3 hw) (by decide) (by decide) hEL hCH0) (g := (mkF m 22 #[.val (.int p1), .val (.int p2), .val (.int p3), .val (.int p4), .val (.int ((p1 &&& (2147483647 : Int32)) % (5 : Int32))), .val .null, .unset, .unset] [(.int p4), (.int p3), (.int p2), (.int ((p1 &&& (2147483647 : Int32)) % (5 : Int32)))])) rfl (by rw [hml]; rfl) (argsL := [(.int ((p1 &&& (2147483647 : Int32)) % (5 : Int32))), (.int p2), (.int p3), (.int p4)]) (rest := []) (lenOf own_pd13 rfl) rfl (by show 2 * 0 + _ ≤ _; exact Nat.le_of_eq rfl) (hb hby at_22) (fun _ _ => ⟨rfl, e0, (by decide : 0 + 6 ≤ _), (by decide : 0 + 17 ≤ _)⟩)) fun v104 T104 L104 X104 hS104 hZ104 hown104 hQ104 cr104 => ?_
    obtain ⟨x104, rfl, Nq104, K104, sx104, A104⟩ := hQ104
    have N104 := Fr.app N0 Nq104
    have gn_x104 : n0 ≤ x104 := Nat.le_trans Z0 sx104
    have sz_x104 : h0.size ≤ x104 := Nat.le_trans (Keep.refl h0 []).1 sx104
    have c105 := cr104.1
    have c106 := (CHr.trans (CHr.refl hCH0) cr104)
    have c107 := (Nat.le_trans hk0 K104.1)
    show own_Go p e below Pst (T104.setTop (mkF m 25 #[.val (.int p1), .val (.int p2), .val (.int p3), .val (.int p4), .val (.int ((p1 &&& (2147483647 : Int32)) % (5 : Int32))), .val .null, .unset, .unset] [(.ref x104)]))
    refine own_x_astore X104.here hx (hb hby at_25) rfl rfl (l' := #[.val (.int p1), .val (.int p2), .val (.int p3), .val (.int p4), .val (.int ((p1 &&& (2147483647 : Int32)) % (5 : Int32))), .val (.ref x104), .unset, .unset]) rfl ?_
    refine own_x_aload X104.here hx (hb hby at_27) rfl rfl ?_
    have c109 := (Nat.le_trans Z0 K104.1)
    refine own_cF X104 (Jvm.LawKit.callS X104 hx (y := (⟨"com/example/shredloom/shredloom/db/SqlXmlValues$Read", "of", "(Ljava/lang/String;)Lcom/example/shredloom/shredloom/db/SqlXmlValues$Read;"⟩ : MethodName)) hown104 (mvT hZ104 (own_w28 hw)) (mvT hZ104 (own_w29 hw)) (mvT hZ104 (own_w30 hw)) (mvT hZ104 (own_w31 hw)) (by decide) (backOf (W := 0) (rm_of l Z a0 hw [] x104 T104.heap n0 c109 ) hZ104 (own_w31 hw) (own_w30 hw) (by decide) (by decide)) (g := (mkF m 29 #[.val (.int p1), .val (.int p2), .val (.int p3), .val (.int p4), .val (.int ((p1 &&& (2147483647 : Int32)) % (5 : Int32))), .val (.ref x104), .unset, .unset] [(.ref x104)])) rfl (by rw [hml]; rfl) (argsL := [(.ref x104)]) (rest := []) (lenOf own_pd11 rfl) rfl (by show 2 * 0 + _ ≤ _; exact Nat.le_of_eq rfl) (hb hby at_29) (fun _ _ => ⟨rfl, rfl, (by decide : 6 + 1 ≤ _), (by decide : 17 + 2 ≤ _)⟩)) fun v108 T108 L108 X108 hQ108 => ?_
    obtain ⟨x108, rfl, Nq108, K108, sx108, A108, G1108, G2108⟩ := hQ108
    have N108 := Fr.app N104 Nq108
    have ne_x104_x108 : x104 ≠ x108 := Nat.ne_of_lt (Nat.lt_of_lt_of_le A104.lt sx108)
    have gn_x108 : n0 ≤ x108 := Nat.le_trans c109 sx108
    have c110 := (Keep.trans (Keep.refl h0 []) K104 all0)
    have sz_x108 : h0.size ≤ x108 := Nat.le_trans c110.1 sx108
    have sn_x108 : Safe Z own_EL T104.vm T104.heap x108 := Safe.new sx108
    have c111 := (CHv.keep K108 sf0 c105)
    have c112 := (CHr.trans c106 (CHr.keep K108 sf0 c105))
    have c113 := (Nat.le_trans (Nat.le_refl _) K108.1)
    show own_Go p e below Pst (T108.setTop (mkF m 32 #[.val (.int p1), .val (.int p2), .val (.int p3), .val (.int p4), .val (.int ((p1 &&& (2147483647 : Int32)) % (5 : Int32))), .val (.ref x104), .unset, .unset] [(.ref x108)]))
    refine own_x_astore X108.here hx (hb hby at_32) rfl rfl (l' := #[.val (.int p1), .val (.int p2), .val (.int p3), .val (.int p4), .val (.int ((p1 &&& (2147483647 : Int32)) % (5 : Int32))), .val (.ref x104), .val (.ref x108), .unset]) rfl ?_
    refine own_x_aload X108.here hx (hb hby at_34) rfl rfl ?_
    refine own_x_ifnonnullYes X108.here hx (pc0 := 36) (pc' := 41) rfl (hb hby at_36) rfl (by decide) (by decide) ?_
    refine own_x_aload X108.here hx (hb hby at_41) rfl rfl ?_
    have c115 := (Nat.le_trans c109 K108.1)
    obtain ⟨cq114, kq114, q114a, q114b, q114c⟩ := isOf hZ104 rfl A108
    refine own_cP X108 (X108.virtualBack hx (y := (⟨"com/example/shredloom/shredloom/db/SqlXmlValues$Read", "withoutForm", "()Ljava/lang/String;"⟩ : MethodName)) (z := (⟨"com/example/shredloom/shredloom/db/SqlXmlValues$Read", "withoutForm", "()Ljava/lang/String;"⟩ : MethodName)) hown104 (mvT hZ104 (own_w47 hw)) (mvT hZ104 (own_w48 hw)) (notFace_of_selects (args := #[]) (mvT hZ104 (own_w50 hw))) (mvT hZ104 (own_w50 hw)) (mvT hZ104 (own_w49 hw)) (by decide) (backOf (W := 0) (rm_wf l Z a0 hw [] x108 .null T108.heap n0 c115 rfl G2108) hZ104 (own_w51 hw) (own_w30 hw) (by decide) (by decide)) q114a q114c (g := (mkF m 43 #[.val (.int p1), .val (.int p2), .val (.int p3), .val (.int p4), .val (.int ((p1 &&& (2147483647 : Int32)) % (5 : Int32))), .val (.ref x104), .val (.ref x108), .unset] [(.ref x108)])) rfl (by rw [hml]; rfl) (Steps.refl _) (argsL := []) (rest := []) (lenOf own_pd12 rfl) rfl (by show 2 * 0 + _ ≤ _; exact Nat.le_of_eq rfl) (hb hby at_43) (fun _ _ => ⟨rfl, rfl, (by decide : 7 + 0 ≤ _), (by decide : 19 + 0 ≤ _)⟩)) fun v114 T114 L114 X114 hQ114 => ?_
    obtain ⟨rfl, Nq114, e114⟩ := hQ114
    have N114 := Fr.app N108 Nq114
    show own_Go p e below Pst (T114.setTop (mkF m 46 #[.val (.int p1), .val (.int p2), .val (.int p3), .val (.int p4), .val (.int ((p1 &&& (2147483647 : Int32)) % (5 : Int32))), .val (.ref x104), .val (.ref x108), .unset] [.null]))
    refine own_x_ifnullYes X114.here hx (pc0 := 46) (pc' := 51) rfl (hb hby at_46) rfl (by decide) (by decide) ?_
    refine own_x_aload X114.here hx (hb hby at_51) rfl rfl ?_
    refine own_x_ifnonnullYes X114.here hx (pc0 := 53) (pc' := 70) rfl (hb hby at_53) rfl (by decide) (by decide) ?_
    refine own_x_aload X114.here hx (hb hby at_70) rfl rfl ?_
    obtain ⟨cq116, kq116, q116a, q116b, q116c⟩ := isOf hZ104 e114 A108
    refine own_cP X114 (X114.virtualBack hx (y := (⟨"com/example/shredloom/shredloom/db/SqlXmlValues$Read", "text", "()Ljava/lang/String;"⟩ : MethodName)) (z := (⟨"com/example/shredloom/shredloom/db/SqlXmlValues$Read", "text", "()Ljava/lang/String;"⟩ : MethodName)) hown104 (mvT hZ104 (own_w52 hw)) (mvT hZ104 (own_w53 hw)) (notFace_of_selects (args := #[]) (mvT hZ104 (own_w55 hw))) (mvT hZ104 (own_w55 hw)) (mvT hZ104 (own_w54 hw)) (by decide) (backOf (W := 0) (rm_tx l Z a0 hw [] x108 (.ref x104) T108.heap n0 c115 rfl G1108) hZ104 (own_w56 hw) (own_w30 hw) (by decide) (by decide)) q116a q116c (g := (mkF m 72 #[.val (.int p1), .val (.int p2), .val (.int p3), .val (.int p4), .val (.int ((p1 &&& (2147483647 : Int32)) % (5 : Int32))), .val (.ref x104), .val (.ref x108), .unset] [(.ref x108)])) rfl (by rw [hml]; rfl) (Steps.refl _) (argsL := []) (rest := []) (lenOf own_pd12 rfl) rfl (by show 2 * 0 + _ ≤ _; exact Nat.le_of_eq rfl) (hb hby at_72) (fun _ _ => ⟨rfl, e114, (by decide : 7 + 0 ≤ _), (by decide : 19 + 0 ≤ _)⟩)) fun v116 T116 L116 X116 hQ116 => ?_
    obtain ⟨rfl, Nq116, e116⟩ := hQ116
    have N116 := Fr.app N114 Nq116
    show own_Go p e below Pst (T116.setTop (mkF m 75 #[.val (.int p1), .val (.int p2), .val (.int p3), .val (.int p4), .val (.int ((p1 &&& (2147483647 : Int32)) % (5 : Int32))), .val (.ref x104), .val (.ref x108), .unset] [(.ref x104)]))
    refine own_x_astore X116.here hx (hb hby at_75) rfl rfl (l' := #[.val (.int p1), .val (.int p2), .val (.int p3), .val (.int p4), .val (.int ((p1 &&& (2147483647 : Int32)) % (5 : Int32))), .val (.ref x104), .val (.ref x108), .val (.ref x104)]) rfl ?_
    refine own_x_aload X116.here hx (hb hby at_77) rfl rfl ?_
    refine own_x_ifnullNo X116.here hx (hb hby at_79) rfl ?_
    refine own_x_aload X116.here hx (hb hby at_82) rfl rfl ?_
    refine own_x_aload X116.here hx (hb hby at_84) rfl rfl ?_
    have c118 := (A104.keep K108)
    obtain ⟨cq117, kq117, q117a, q117b, q117c⟩ := isOf hZ104 e116 c118
    refine own_cP X116 (X116.virtualBack hx (y := (⟨"java/lang/String", "equals", "(Ljava/lang/Object;)Z"⟩ : MethodName)) (z := (⟨"java/lang/String", "equals", "(Ljava/lang/Object;)Z"⟩ : MethodName)) hown104 (mvT hZ104 (own_w57 hw)) (mvT hZ104 (own_w58 hw)) (notFace_of_selects (args := #[]) (mvT hZ104 (own_w60 hw))) (mvT hZ104 (own_w60 hw)) (mvT hZ104 (own_w59 hw)) (by decide) (backOf (W := 0) (rm_eqs l Z a0 hw [] x104 T108.heap n0 c115 ) hZ104 (own_w61 hw) (own_w8 hw) (by decide) (by decide)) q117a q117c (g := (mkF m 86 #[.val (.int p1), .val (.int p2), .val (.int p3), .val (.int p4), .val (.int ((p1 &&& (2147483647 : Int32)) % (5 : Int32))), .val (.ref x104), .val (.ref x108), .val (.ref x104)] [(.ref x104), (.ref x104)])) rfl (by rw [hml]; rfl) (Steps.refl _) (argsL := [(.ref x104)]) (rest := []) (lenOf own_pd14 rfl) rfl (by show 2 * 0 + _ ≤ _; exact Nat.le_of_eq rfl) (hb hby at_86) (fun _ _ => ⟨rfl, e116, (by decide : 7 + 0 ≤ _), (by decide : 19 + 0 ≤ _)⟩)) fun v117 T117 L117 X117 hQ117 => ?_
    obtain ⟨rfl, Nq117, e117⟩ := hQ117
    have N117 := Fr.app N116 Nq117
    show own_Go p e below Pst (T117.setTop (mkF m 89 #[.val (.int p1), .val (.int p2), .val (.int p3), .val (.int p4), .val (.int ((p1 &&& (2147483647 : Int32)) % (5 : Int32))), .val (.ref x104), .val (.ref x108), .val (.ref x104)] [(.int (1 : Int32))]))
    refine own_x_ifNo X117.here hx (hb hby at_89) rfl ((if0 _ _).trans (feq (by decide)).1) ?_
    refine own_x_iconst X117.here hx (hb hby at_92) (z := (1 : Int32)) rfl ?_
    refine own_x_goto X117.here hx (pc0 := 93) (pc' := 97) rfl (hb hby at_93) (by decide) (by decide) ?_
    rw [hPst]
    exact own_retW X117 hS104 (by rw [e117]; exact c113) (v := (some (.int (nar .boolean (1 : Int32))))) (Q := Q0 Z z p1 p2 p3 p4 o h0 n0) (fun h => by rw [Bd.returns] at h; cases h) Bd.notSynchronized (fun fs hr => retN X117 hx (t := .boolean) Bd.returns (by simp) (hb hby at_97) hr) (by decide) (by decide) (by rw [hh0, e117]; exact CHr.trans c112 (CHv.at X117 hZ104 hEL c111)) (by rw [e117]; exact ⟨rfl, N117⟩)
theorem comes_1 {Post : Tables → Env → Array Value → State → Outcome → State → Prop} (hpost : ∀ tb e args s v u, (limb_1_1.after args s (.returned v) u = true ∧ limb_1_2.after args s (.returned v) u = true ∧ True) → ReturnedEndW s (.returned v) u (Jvm.fieldLocs frame_1_writes args s ++ Jvm.arrayLocs frame_1_arrays args s ++ Jvm.staticLocs frame_1_statics s) 24 1152 → Post tb e args s (.returned v) u) :
    ArmFor flags0 classFile x code maxLocals ret World_1 tables_1 room_1 Calls_1 rest_1 Pre_1 Post := by
  intro l hfl _ _ p e ha hc hk s m args below hf hA hF happ hP
  obtain ⟨hcalls, hrest, hpre⟩ := hP
  obtain ⟨-, -, -, hnamed, -, -, -, hat⟩ := (Spec.applies_iff hf).mp happ
  obtain ⟨hg, hn⟩ := and_e (Cond.before_iff.mp (show (Jvm.Cond.and given_1 narrow_1).before args s = true from hpre))
  obtain ⟨h1, h2⟩ := and_e hg
  obtain ⟨h3, h4⟩ := and_e h2
  obtain ⟨h5, h6⟩ := and_e h4
  obtain ⟨h7, h8⟩ := and_e h6
  obtain ⟨w0, w1, w2, w3, rfl⟩ : ∃ w0 w1 w2 w3 : Value, args = #[w0, w1, w2, w3] := by
    have hs : args.size = 4 := by simpa [Cond.value, given_1] using h1
    obtain ⟨L⟩ := args
    match L, hs with
    | [w0, w1, w2, w3], _ => exact ⟨w0, w1, w2, w3, rfl⟩
  have hw := fun d (hd : d ∈ tables_1) => atoms_spec (ws := Jvm.Cond.code x code maxLocals ret :: tables_1) hat d (List.mem_cons_of_mem _ hd)
  obtain ⟨hsets, hown0⟩ := atoms_of _ (rest_1_c_eq ▸ (show rest_1_c.before _ s = true from hrest))
  obtain ⟨i0, ei0⟩ := is_v h3
  obtain rfl : w0 = (.int i0) := Option.some.inj ei0
  obtain ⟨i1, ei1⟩ := is_v h5
  obtain rfl : w1 = (.int i1) := Option.some.inj ei1
  obtain ⟨i2, ei2⟩ := is_v h7
  obtain rfl : w2 = (.int i2) := Option.some.inj ei2
  obtain ⟨i3, ei3⟩ := is_v h8
  obtain rfl : w3 = (.int i3) := Option.some.inj ei3
  obtain ⟨z, ez⟩ := is_v (Cond.before_iff.mp (hsets _ (List.mem_of_getElem? (i := 1) rfl)))
  have SC : Sta s s.heap "java/lang/String" "COMPACT_STRINGS" "Z" (.int z) := Sta.start (args := #[(.int i0), (.int i1), (.int i2), (.int i3)]) ez (Or.inl (hsets _ (List.mem_of_getElem? (i := 0) rfl)))
  have hz : ¬ z = 0 := by
    have q := not_v (Cond.before_iff.mp (hsets _ (List.mem_of_getElem? (i := 2) rfl)))
    intro e0; subst e0
    have r := eq_i (o := none) (idx := []) (s := s) ez (Term.int_eval (0)) rfl
    rw [r] at q; cases q
  have SU0 := Sta.start (args := #[(.int i0), (.int i1), (.int i2), (.int i3)]) (eqv_i (Term.int_eval (1)) (Cond.before_iff.mp (hsets _ (List.mem_of_getElem? (i := 12) rfl)))) (Or.inl (hsets _ (List.mem_of_getElem? (i := 11) rfl)))
  have SU1 := Sta.start (args := #[(.int i0), (.int i1), (.int i2), (.int i3)]) (eqv_i (Term.int_eval (0)) (Cond.before_iff.mp (hsets _ (List.mem_of_getElem? (i := 15) rfl)))) (Or.inl (hsets _ (List.mem_of_getElem? (i := 14) rfl)))
  have SU2 := Sta.start (args := #[(.int i0), (.int i1), (.int i2), (.int i3)]) (eqv_i (Term.int_eval (8)) (Cond.before_iff.mp (hsets _ (List.mem_of_getElem? (i := 18) rfl)))) (Or.inl (hsets _ (List.mem_of_getElem? (i := 17) rfl)))
  obtain ⟨n1, n2⟩ := and_e hn
  obtain ⟨n3, n4⟩ := and_e n2
  obtain ⟨oe, eo⟩ := exa_v n1
  have SN : Sta s s.heap "com/example/shredloom/shredloom/db/SqlXmlValues$Read" "NULL" "Lcom/example/shredloom/shredloom/db/SqlXmlValues$Read;" (.ref oe) := Sta.start (args := #[(.int i0), (.int i1), (.int i2), (.int i3)]) eo (Or.inr ⟨(hw _ (List.mem_of_getElem? (i := 30) rfl)), (hw _ (List.mem_of_getElem? (i := 74) rfl))⟩)
  have NE : Exa s s.heap oe "com/example/shredloom/shredloom/db/SqlXmlValues$Read" := Exa.start eo n1
  have N1 : Fld s s.heap oe "com/example/shredloom/shredloom/db/SqlXmlValues$Read" "withoutForm" "Ljava/lang/String;" .null := Fld.start (by have q := null_v n3; rw [fld_at eo] at q; exact q)
  have N2 : Fld s s.heap oe "com/example/shredloom/shredloom/db/SqlXmlValues$Read" "text" "Ljava/lang/String;" .null := Fld.start (by have q := null_v n4; rw [fld_at eo] at q; exact q)
  have hcw : Jvm.Lit.compactW.before #[(.int i0), (.int i1), (.int i2), (.int i3)] s = true := hsets _ (List.mem_of_getElem? (i := 2) rfl)
  have CH : CHv s own_EL s.vm s.heap := CHv.start (own_hEL s _ hw) (fun p hp => hcalls.1 p hp) hcw (own_wS s _ hw _ (by simp [Bundle.stringAtoms])) (own_wS s _ hw _ (by simp [Bundle.stringAtoms, Bundle.sN]))
  obtain ⟨n, o, h1, h2, h3, _, L, rfl, ⟨rfl, N⟩, -, hq⟩ := rm0 l s _ hw tables_1 z i0 i1 i2 i3 oe s.heap s.heap.size (Nat.le_refl _) (Old.start s) SC hz SU0 SU1 SU2 SN NE N1 N2 p e ha hc hk s m _ below hf ((Spec.applies_iff_loose hf).mp happ).1 ⟨rfl, State.Warmed39.refl s, rfl, CH⟩ trivial
  refine ⟨n, _, h1, h2, h3, hpost _ _ _ _ _ _ ⟨Cond.after_iff.mpr rfl, Cond.after_iff.mpr (eq_i res_at (Term.int_eval (1)) rfl), trivial⟩ ⟨hq.1, hq.2.1, hq.2.2.1, (hq.2.2.2.sift fun y hy => Or.inr (N y hy)).mono (by decide) (by decide)⟩⟩
theorem main_1_1 : Claimed_1_1 := comes_1 fun _ _ _ _ _ _ h hF => ⟨h.1, hF⟩
theorem main_1_2 : Claimed_1_2 := comes_1 fun _ _ _ _ _ _ h hF => ⟨h.2.1, hF⟩
end Jvm.Pilot.@@N@@
namespace Jvm.Pilot.@@N@@
open Jvm Jvm.ClassFile Sem Op Lib Jvm.Free Jvm.Stand Jvm.Pilot.@@N@@.Jvm.D
/-! MADE BY PROGRAM (witnessworld.py) out of the Statement's table words and the real class files: 21 classes; the members and pool entries that the words name. The judged class is class 1, her method 1. -/
namespace start1
open Jvm.ClassFile
def u (s : String) : CpInfo := .utf8 (stringToUtf16 s)
/-- a pool by its gaps: so many unusable entries, then the entry; so many at the end -/
def gap : Nat → List CpInfo → List CpInfo
  | 0, r => r
  | n + 1, r => .unusable :: gap n r
def poolList (es : List (Nat × CpInfo)) (last : Nat) : List CpInfo := es.foldr (fun e r => gap e.1 (e.2 :: r)) (gap last [])
def pool (es : List (Nat × CpInfo)) (last : Nat) : Array CpInfo := ⟨poolList es last⟩
def fileOf (pool : Array CpInfo) (this : Nat) (attrs : Array Attribute := #[]) (ms : Array MethodInfo := #[]) (fl : Nat := 33) (sup : Nat := 0) (ifs : Array Nat := #[]) (fds : Array FieldInfo := #[]) : ClassFile where
  minorVersion := 0
  majorVersion := 65
  constantPool := pool
  accessFlags := fl
  thisClass := this
  superClass := sup
  interfaces := ifs
  fields := fds
  methods := ms
  attributes := attrs
def plain (name : String) (sup : Option ClassId) : Class where
  name := name
  kind := .ordinary
  loader := none
  accessFlags := 33
  super := sup
  interfaces := #[]
  cf := none
  fields := #[]
  methods := #[]
  instanceTypes := #[]
  staticTypes := #[]
  resolved := #[]
  callSites := []
  init := .initialized
  statics := none
  mirror := none

def pool0 : Array CpInfo := pool [(5, u "<init>"), (0, u "()V"), (1, .class_ 10), (1, u "java/lang/Object")] 113

def k0c0 : Code := { maxStack := 0, maxLocals := 1, code := object_method_1_code, exceptionTable := #[], attributes := #[] }
def k0m0 : Method := { name := "<init>", desc := "()V", sig := { parameters := [], returnType := none }, accessFlags := 1, code := some k0c0 }
/-- java/lang/Object -/
def k0 : Class := { plain "java/lang/Object" none with
  accessFlags := 33
  interfaces := #[]
  cf := some (fileOf pool0 8 #[] #[{ accessFlags := 1, nameIndex := 5, descriptorIndex := 6, attributes := #[] }] 33 0 #[] #[])
  fields := #[]
  methods := #[k0m0]
  instanceTypes := #[]
  staticTypes := #[]
  resolved := Array.replicate 124 none
  statics := none }

def pool1 : Array CpInfo := pool [(2, .class_ 4), (1, u "java/lang/Object"), (0, u "<init>"), (0, u "()V"), (0, .integer 2147483647), (0, .methodref 9 10), (0, .class_ 11), (0, .nameAndType 12 13), (0, u "com/example/shredloom/shredloom/db/ReadOfPinLaw"), (0, u "make"), (0, u "(IIII)Ljava/lang/String;"), (0, .methodref 15 16), (0, .class_ 17), (0, .nameAndType 18 19), (0, u "com/example/shredloom/shredloom/db/SqlXmlValues$Read"), (0, u "of"), (0, u "(Ljava/lang/String;)Lcom/example/shredloom/shredloom/db/SqlXmlValues$Read;"), (0, .methodref 15 21), (0, .nameAndType 22 23), (0, u "withoutForm"), (0, u "()Ljava/lang/String;"), (0, .methodref 15 25), (0, .nameAndType 26 23), (0, u "text"), (0, .methodref 28 29), (0, .class_ 30), (0, .nameAndType 31 32), (0, u "java/lang/String"), (0, u "equals"), (0, u "(Ljava/lang/Object;)Z"), (0, .integer 65535), (0, .methodref 28 35), (0, .nameAndType 5 36), (0, u "([C)V"), (2, u "law"), (0, u "(IIII)Z")] 7

def k1m0 : Method := { name := "<init>", desc := "()V", sig := { parameters := [], returnType := none }, accessFlags := 1, code := none }
def k1c1 : Code := { maxStack := 4, maxLocals := 8, code := code, exceptionTable := #[], attributes := #[] }
def k1m1 : Method := { name := "law", desc := "(IIII)Z", sig := { parameters := [.int, .int, .int, .int], returnType := some .boolean }, accessFlags := 9, code := some k1c1 }
def k1c2 : Code := { maxStack := 6, maxLocals := 7, code := method_3_code, exceptionTable := #[], attributes := #[] }
def k1m2 : Method := { name := "make", desc := "(IIII)Ljava/lang/String;", sig := { parameters := [.int, .int, .int, .int], returnType := some (.object "java/lang/String") }, accessFlags := 10, code := some k1c2 }
/-- com/example/shredloom/shredloom/db/ReadOfPinLaw -/
def k1 : Class := { plain "com/example/shredloom/shredloom/db/ReadOfPinLaw" (some 0) with
  accessFlags := 49
  interfaces := #[]
  cf := some (fileOf pool1 9 #[] #[{ accessFlags := 1, nameIndex := 5, descriptorIndex := 6, attributes := #[] }, { accessFlags := 9, nameIndex := 39, descriptorIndex := 40, attributes := #[] }, { accessFlags := 10, nameIndex := 12, descriptorIndex := 13, attributes := #[] }] 49 2 #[] #[])
  fields := #[]
  methods := #[k1m0, k1m1, k1m2]
  instanceTypes := #[]
  staticTypes := #[]
  resolved := Array.replicate 48 none
  statics := none }

def pool2 : Array CpInfo := pool [(1, .class_ 2), (0, u "java/io/Serializable"), (0, .class_ 4), (0, u "java/lang/Object")] 2

/-- java/io/Serializable -/
def k2 : Class := { plain "java/io/Serializable" (some 0) with
  accessFlags := 1537
  interfaces := #[]
  cf := some (fileOf pool2 1 #[] #[] 1537 3 #[] #[])
  fields := #[]
  methods := #[]
  instanceTypes := #[]
  staticTypes := #[]
  resolved := Array.replicate 7 none
  statics := none }

def pool3 : Array CpInfo := pool [(1, .class_ 2), (0, u "java/lang/Comparable"), (0, .class_ 4), (0, u "java/lang/Object")] 7

/-- java/lang/Comparable -/
def k3 : Class := { plain "java/lang/Comparable" (some 0) with
  accessFlags := 1537
  interfaces := #[]
  cf := some (fileOf pool3 1 #[] #[] 1537 3 #[] #[])
  fields := #[]
  methods := #[]
  instanceTypes := #[]
  staticTypes := #[]
  resolved := Array.replicate 12 none
  statics := none }

def pool4 : Array CpInfo := pool [(2, .class_ 4), (1, u "java/lang/CharSequence"), (42, .class_ 48), (0, u "java/lang/CharSequence$1CodePointIterator"), (10, .class_ 60), (0, u "java/lang/CharSequence$1CharIterator"), (5, .class_ 67), (0, u "java/lang/Object")] 63

/-- java/lang/CharSequence -/
def k4 : Class := { plain "java/lang/CharSequence" (some 0) with
  accessFlags := 1537
  interfaces := #[]
  cf := some (fileOf pool4 2 #[.nestMembers #[47, 59]] #[] 1537 66 #[] #[])
  fields := #[]
  methods := #[]
  instanceTypes := #[]
  staticTypes := #[]
  resolved := Array.replicate 131 none
  statics := none }

def pool5 : Array CpInfo := pool [(1, .class_ 2), (0, u "java/lang/constant/Constable"), (0, .class_ 4), (0, u "java/lang/Object")] 6

/-- java/lang/constant/Constable -/
def k5 : Class := { plain "java/lang/constant/Constable" (some 0) with
  accessFlags := 1537
  interfaces := #[]
  cf := some (fileOf pool5 1 #[] #[] 1537 3 #[] #[])
  fields := #[]
  methods := #[]
  instanceTypes := #[]
  staticTypes := #[]
  resolved := Array.replicate 11 none
  statics := none }

def pool6 : Array CpInfo := pool [(1, .class_ 2), (0, u "java/lang/constant/ConstantDesc"), (0, .class_ 4), (0, u "java/lang/Object")] 32

/-- java/lang/constant/ConstantDesc -/
def k6 : Class := { plain "java/lang/constant/ConstantDesc" (some 0) with
  accessFlags := 1537
  interfaces := #[]
  cf := some (fileOf pool6 1 #[] #[] 1537 3 #[] #[])
  fields := #[]
  methods := #[]
  instanceTypes := #[]
  staticTypes := #[]
  resolved := Array.replicate 37 none
  statics := none }

def pool7 : Array CpInfo := pool [(1, .methodref 2 3), (0, .class_ 4), (0, .nameAndType 5 6), (0, u "java/lang/Object"), (0, u "<init>"), (0, u "()V"), (0, .string 8), (0, u ""), (0, .fieldref 10 11), (0, .class_ 12), (0, .nameAndType 13 14), (0, u "java/lang/String"), (0, u "value"), (0, u "[B"), (0, .fieldref 10 16), (0, .nameAndType 17 18), (0, u "coder"), (0, u "B"), (2, u "hash"), (0, u "I"), (2, u "hashIsZero"), (0, u "Z"), (0, .methodref 10 28), (0, .nameAndType 5 29), (0, u "([CIILjava/lang/Void;)V"), (8, .fieldref 10 39), (0, .nameAndType 40 26), (0, u "COMPACT_STRINGS"), (1, .class_ 44), (1, u "java/lang/StringUTF16"), (0, u "compress"), (1, .methodref 42 48), (0, .nameAndType 49 50), (0, u "coderFromArrayLen"), (0, u "([BI)B"), (126, .methodref 42 178), (0, .nameAndType 45 179), (0, u "([CII)[B"), (363, u "equals"), (29, u "(Ljava/lang/Object;)Z"), (1, .class_ 576), (0, u "java/lang/CharSequence"), (22, u "CASE_INSENSITIVE_ORDER"), (0, u "Ljava/util/Comparator;"), (409, u "([C)V"), (90, u "serialPersistentFields"), (0, u "[Ljava/io/ObjectStreamField;"), (0, .class_ 1104), (0, u "java/lang/String$CaseInsensitiveComparator"), (1, .class_ 1107), (0, u "java/io/Serializable"), (0, .class_ 1109), (0, u "java/lang/Comparable"), (0, .class_ 1111), (0, u "java/lang/constant/Constable"), (0, .class_ 1113), (0, u "java/lang/constant/ConstantDesc"), (2, u "serialVersionUID"), (0, u "J"), (3, u "REPL"), (0, u "C"), (2, u "LATIN1"), (1, u "UTF16")] 323

def k7m0 : Method := { name := "<init>", desc := "()V", sig := { parameters := [], returnType := none }, accessFlags := 1, code := none }
def k7c1 : Code := { maxStack := 5, maxLocals := 2, code := jdk_42_method_3_code, exceptionTable := #[], attributes := #[] }
def k7m1 : Method := { name := "<init>", desc := "([C)V", sig := { parameters := [(.array .char)], returnType := none }, accessFlags := 1, code := some k7c1 }
def k7c2 : Code := { maxStack := 2, maxLocals := 3, code := jdk_42_method_66_code, exceptionTable := #[], attributes := #[] }
def k7m2 : Method := { name := "equals", desc := "(Ljava/lang/Object;)Z", sig := { parameters := [(.object "java/lang/Object")], returnType := some .boolean }, accessFlags := 1, code := some k7c2 }
def k7c3 : Code := { maxStack := 4, maxLocals := 6, code := jdk_42_method_149_code, exceptionTable := #[], attributes := #[] }
def k7m3 : Method := { name := "<init>", desc := "([CIILjava/lang/Void;)V", sig := { parameters := [(.array .char), .int, .int, (.object "java/lang/Void")], returnType := none }, accessFlags := 2, code := some k7c3 }
/-- java/lang/String -/
def k7 : Class := { plain "java/lang/String" (some 0) with
  accessFlags := 49
  interfaces := #[2, 3, 4, 5, 6]
  cf := some (fileOf pool7 10 #[.nestMembers #[1103]] #[{ accessFlags := 1, nameIndex := 5, descriptorIndex := 6, attributes := #[] }, { accessFlags := 1, nameIndex := 5, descriptorIndex := 1010, attributes := #[] }, { accessFlags := 1, nameIndex := 543, descriptorIndex := 573, attributes := #[] }, { accessFlags := 2, nameIndex := 5, descriptorIndex := 29, attributes := #[] }] 49 2 #[1106, 1108, 575, 1110, 1112] #[{ accessFlags := 18, nameIndex := 13, descriptorIndex := 14, attributes := #[] }, { accessFlags := 18, nameIndex := 17, descriptorIndex := 18, attributes := #[] }, { accessFlags := 2, nameIndex := 21, descriptorIndex := 22, attributes := #[] }, { accessFlags := 2, nameIndex := 25, descriptorIndex := 26, attributes := #[] }, { accessFlags := 26, nameIndex := 1116, descriptorIndex := 1117, attributes := #[] }, { accessFlags := 24, nameIndex := 40, descriptorIndex := 26, attributes := #[] }, { accessFlags := 26, nameIndex := 1101, descriptorIndex := 1102, attributes := #[] }, { accessFlags := 26, nameIndex := 1121, descriptorIndex := 1122, attributes := #[] }, { accessFlags := 25, nameIndex := 599, descriptorIndex := 600, attributes := #[] }, { accessFlags := 24, nameIndex := 1125, descriptorIndex := 18, attributes := #[] }, { accessFlags := 24, nameIndex := 1127, descriptorIndex := 18, attributes := #[] }])
  fields := #[{ name := "value", type := (.array .byte), accessFlags := 18, slot := 0, constantValue := 0 }, { name := "coder", type := .byte, accessFlags := 18, slot := 1, constantValue := 0 }, { name := "hash", type := .int, accessFlags := 2, slot := 2, constantValue := 0 }, { name := "hashIsZero", type := .boolean, accessFlags := 2, slot := 3, constantValue := 0 }, { name := "serialVersionUID", type := .long, accessFlags := 26, slot := 0, constantValue := 0 }, { name := "COMPACT_STRINGS", type := .boolean, accessFlags := 24, slot := 1, constantValue := 0 }, { name := "serialPersistentFields", type := (.array (.object "java/io/ObjectStreamField")), accessFlags := 26, slot := 2, constantValue := 0 }, { name := "REPL", type := .char, accessFlags := 26, slot := 3, constantValue := 0 }, { name := "CASE_INSENSITIVE_ORDER", type := (.object "java/util/Comparator"), accessFlags := 25, slot := 4, constantValue := 0 }, { name := "LATIN1", type := .byte, accessFlags := 24, slot := 5, constantValue := 0 }, { name := "UTF16", type := .byte, accessFlags := 24, slot := 6, constantValue := 0 }]
  methods := #[k7m0, k7m1, k7m2, k7m3]
  instanceTypes := #[(.array .byte), .byte, .int, .boolean]
  staticTypes := #[.long, .boolean, (.array (.object "java/io/ObjectStreamField")), .char, (.object "java/util/Comparator"), .byte, .byte]
  resolved := Array.replicate 1451 none
  statics := some 0 }

def pool8 : Array CpInfo := pool [(1, .methodref 2 3), (0, .class_ 4), (0, .nameAndType 5 6), (0, u "java/lang/Object"), (0, u "<init>"), (0, u "()V"), (0, .class_ 8), (0, u "java/lang/Record")] 13

def k8c0 : Code := { maxStack := 1, maxLocals := 1, code := jdk_30_method_1_code, exceptionTable := #[], attributes := #[] }
def k8m0 : Method := { name := "<init>", desc := "()V", sig := { parameters := [], returnType := none }, accessFlags := 4, code := some k8c0 }
/-- java/lang/Record -/
def k8 : Class := { plain "java/lang/Record" (some 0) with
  accessFlags := 1057
  interfaces := #[]
  cf := some (fileOf pool8 7 #[] #[{ accessFlags := 4, nameIndex := 5, descriptorIndex := 6, attributes := #[] }] 1057 2 #[] #[])
  fields := #[]
  methods := #[k8m0]
  instanceTypes := #[]
  staticTypes := #[]
  resolved := Array.replicate 22 none
  statics := none }

def pool9 : Array CpInfo := pool [(1, .methodref 2 3), (0, .class_ 4), (0, .nameAndType 5 6), (0, u "java/lang/Record"), (0, u "<init>"), (0, u "()V"), (0, .fieldref 8 9), (0, .class_ 10), (0, .nameAndType 11 12), (0, u "com/example/shredloom/shredloom/db/SqlXmlValues$Read"), (0, u "text"), (0, u "Ljava/lang/String;"), (0, .fieldref 8 14), (0, .nameAndType 15 12), (0, u "withoutForm"), (0, .fieldref 8 17), (0, .nameAndType 18 19), (0, u "NULL"), (0, u "Lcom/example/shredloom/shredloom/db/SqlXmlValues$Read;"), (0, .methodref 8 21), (0, .nameAndType 5 22), (0, u "(Ljava/lang/String;Ljava/lang/String;)V"), (19, u "of"), (0, u "(Ljava/lang/String;)Lcom/example/shredloom/shredloom/db/SqlXmlValues$Read;"), (2, u "()Ljava/lang/String;"), (6, .class_ 54), (0, u "com/example/shredloom/shredloom/db/SqlXmlValues")] 28

def k9c0 : Code := { maxStack := 2, maxLocals := 3, code := prog_17_method_1_code, exceptionTable := #[], attributes := #[] }
def k9m0 : Method := { name := "<init>", desc := "(Ljava/lang/String;Ljava/lang/String;)V", sig := { parameters := [(.object "java/lang/String"), (.object "java/lang/String")], returnType := none }, accessFlags := 0, code := some k9c0 }
def k9c1 : Code := { maxStack := 4, maxLocals := 1, code := prog_17_method_2_code, exceptionTable := #[], attributes := #[] }
def k9m1 : Method := { name := "of", desc := "(Ljava/lang/String;)Lcom/example/shredloom/shredloom/db/SqlXmlValues$Read;", sig := { parameters := [(.object "java/lang/String")], returnType := some (.object "com/example/shredloom/shredloom/db/SqlXmlValues$Read") }, accessFlags := 8, code := some k9c1 }
def k9c2 : Code := { maxStack := 1, maxLocals := 1, code := prog_17_method_7_code, exceptionTable := #[], attributes := #[] }
def k9m2 : Method := { name := "text", desc := "()Ljava/lang/String;", sig := { parameters := [], returnType := some (.object "java/lang/String") }, accessFlags := 1, code := some k9c2 }
def k9c3 : Code := { maxStack := 1, maxLocals := 1, code := prog_17_method_8_code, exceptionTable := #[], attributes := #[] }
def k9m3 : Method := { name := "withoutForm", desc := "()Ljava/lang/String;", sig := { parameters := [], returnType := some (.object "java/lang/String") }, accessFlags := 1, code := some k9c3 }
/-- com/example/shredloom/shredloom/db/SqlXmlValues$Read -/
def k9 : Class := { plain "com/example/shredloom/shredloom/db/SqlXmlValues$Read" (some 8) with
  accessFlags := 48
  interfaces := #[]
  cf := some (fileOf pool9 8 #[.nestHost 53] #[{ accessFlags := 0, nameIndex := 5, descriptorIndex := 22, attributes := #[] }, { accessFlags := 8, nameIndex := 42, descriptorIndex := 43, attributes := #[] }, { accessFlags := 1, nameIndex := 11, descriptorIndex := 46, attributes := #[] }, { accessFlags := 1, nameIndex := 15, descriptorIndex := 46, attributes := #[] }] 48 2 #[] #[{ accessFlags := 18, nameIndex := 11, descriptorIndex := 12, attributes := #[] }, { accessFlags := 18, nameIndex := 15, descriptorIndex := 12, attributes := #[] }, { accessFlags := 26, nameIndex := 18, descriptorIndex := 19, attributes := #[] }])
  fields := #[{ name := "text", type := (.object "java/lang/String"), accessFlags := 18, slot := 0, constantValue := 0 }, { name := "withoutForm", type := (.object "java/lang/String"), accessFlags := 18, slot := 1, constantValue := 0 }, { name := "NULL", type := (.object "com/example/shredloom/shredloom/db/SqlXmlValues$Read"), accessFlags := 26, slot := 0, constantValue := 0 }]
  methods := #[k9m0, k9m1, k9m2, k9m3]
  instanceTypes := #[(.object "java/lang/String"), (.object "java/lang/String")]
  staticTypes := #[(.object "com/example/shredloom/shredloom/db/SqlXmlValues$Read")]
  resolved := Array.replicate 83 none
  statics := some 1 }

def pool10 : Array CpInfo := pool [(6, .class_ 8), (1, u "java/lang/Object"), (0, u "<init>"), (0, u "()V"), (0, .methodref 12 13), (0, .class_ 14), (0, .nameAndType 15 16), (0, u "java/lang/StringUTF16"), (0, u "newBytesLength"), (0, u "(I)I"), (3, .integer 1073741823), (23, .fieldref 12 45), (0, .nameAndType 46 47), (0, u "$assertionsDisabled"), (0, u "Z"), (11, .fieldref 12 60), (0, .nameAndType 61 62), (0, u "HI_BYTE_SHIFT"), (0, u "I"), (0, .fieldref 12 64), (0, .nameAndType 65 62), (0, u "LO_BYTE_SHIFT"), (5, .methodref 12 72), (0, .nameAndType 73 74), (0, u "getChar"), (0, u "([BI)C"), (32, .methodref 12 108), (0, .nameAndType 109 110), (0, u "newBytesFor"), (0, u "(I)[B"), (0, .methodref 12 112), (0, .nameAndType 113 114), (0, u "putChar"), (0, u "([BII)V"), (0, .methodref 12 116), (0, .nameAndType 117 118), (0, u "compress"), (0, u "([CI[BII)I"), (0, .methodref 12 120), (0, .nameAndType 121 122), (0, u "toBytes"), (0, u "([CII)[B"), (138, u "coderFromArrayLen"), (0, u "([BI)B"), (106, .class_ 371), (1, u "java/lang/StringUTF16$LinesSpliterator"), (58, u "MAX_LENGTH"), (196, .class_ 628), (0, u "java/lang/StringUTF16$CodePointsSpliterator"), (0, .class_ 630), (0, u "java/lang/StringUTF16$CharsSpliterator")] 4

def k10m0 : Method := { name := "<init>", desc := "()V", sig := { parameters := [], returnType := none }, accessFlags := 0, code := none }
def k10c1 : Code := { maxStack := 1, maxLocals := 1, code := jdk_52_method_2_code, exceptionTable := #[], attributes := #[] }
def k10m1 : Method := { name := "newBytesFor", desc := "(I)[B", sig := { parameters := [.int], returnType := some (.array .byte) }, accessFlags := 9, code := some k10c1 }
def k10c2 : Code := { maxStack := 4, maxLocals := 1, code := jdk_52_method_3_code, exceptionTable := #[], attributes := #[] }
def k10m2 : Method := { name := "newBytesLength", desc := "(I)I", sig := { parameters := [.int], returnType := some .int }, accessFlags := 9, code := some k10c2 }
def k10c3 : Code := { maxStack := 4, maxLocals := 3, code := jdk_52_method_4_code, exceptionTable := #[], attributes := #[] }
def k10m3 : Method := { name := "putChar", desc := "([BII)V", sig := { parameters := [(.array .byte), .int, .int], returnType := none }, accessFlags := 8, code := some k10c3 }
def k10c4 : Code := { maxStack := 3, maxLocals := 2, code := jdk_52_method_5_code, exceptionTable := #[], attributes := #[] }
def k10m4 : Method := { name := "getChar", desc := "([BI)C", sig := { parameters := [(.array .byte), .int], returnType := some .char }, accessFlags := 8, code := some k10c4 }
def k10c5 : Code := { maxStack := 4, maxLocals := 5, code := jdk_52_method_14_code, exceptionTable := #[], attributes := #[] }
def k10m5 : Method := { name := "toBytes", desc := "([CII)[B", sig := { parameters := [(.array .char), .int, .int], returnType := some (.array .byte) }, accessFlags := 9, code := some k10c5 }
def k10c6 : Code := { maxStack := 2, maxLocals := 2, code := jdk_52_method_15_code, exceptionTable := #[], attributes := #[] }
def k10m6 : Method := { name := "coderFromArrayLen", desc := "([BI)B", sig := { parameters := [(.array .byte), .int], returnType := some .byte }, accessFlags := 8, code := some k10c6 }
def k10c7 : Code := { maxStack := 5, maxLocals := 6, code := jdk_52_method_16_code, exceptionTable := #[], attributes := #[] }
def k10m7 : Method := { name := "compress", desc := "([CII)[B", sig := { parameters := [(.array .char), .int, .int], returnType := some (.array .byte) }, accessFlags := 9, code := some k10c7 }
def k10c8 : Code := { maxStack := 3, maxLocals := 7, code := jdk_52_method_21_code, exceptionTable := #[], attributes := #[] }
def k10m8 : Method := { name := "compress", desc := "([CI[BII)I", sig := { parameters := [(.array .char), .int, (.array .byte), .int, .int], returnType := some .int }, accessFlags := 9, code := some k10c8 }
/-- java/lang/StringUTF16 -/
def k10 : Class := { plain "java/lang/StringUTF16" (some 0) with
  accessFlags := 48
  interfaces := #[]
  cf := some (fileOf pool10 12 #[.nestMembers #[627, 629, 369]] #[{ accessFlags := 0, nameIndex := 9, descriptorIndex := 10, attributes := #[] }, { accessFlags := 9, nameIndex := 109, descriptorIndex := 110, attributes := #[] }, { accessFlags := 9, nameIndex := 15, descriptorIndex := 16, attributes := #[] }, { accessFlags := 8, nameIndex := 113, descriptorIndex := 114, attributes := #[] }, { accessFlags := 8, nameIndex := 73, descriptorIndex := 74, attributes := #[] }, { accessFlags := 9, nameIndex := 121, descriptorIndex := 122, attributes := #[] }, { accessFlags := 8, nameIndex := 261, descriptorIndex := 262, attributes := #[] }, { accessFlags := 9, nameIndex := 117, descriptorIndex := 122, attributes := #[] }, { accessFlags := 9, nameIndex := 117, descriptorIndex := 118, attributes := #[] }] 48 6 #[] #[{ accessFlags := 26, nameIndex := 61, descriptorIndex := 62, attributes := #[] }, { accessFlags := 26, nameIndex := 65, descriptorIndex := 62, attributes := #[] }, { accessFlags := 24, nameIndex := 430, descriptorIndex := 62, attributes := #[] }, { accessFlags := 4120, nameIndex := 46, descriptorIndex := 47, attributes := #[] }])
  fields := #[{ name := "HI_BYTE_SHIFT", type := .int, accessFlags := 26, slot := 0, constantValue := 0 }, { name := "LO_BYTE_SHIFT", type := .int, accessFlags := 26, slot := 1, constantValue := 0 }, { name := "MAX_LENGTH", type := .int, accessFlags := 24, slot := 2, constantValue := 0 }, { name := "$assertionsDisabled", type := .boolean, accessFlags := 4120, slot := 3, constantValue := 0 }]
  methods := #[k10m0, k10m1, k10m2, k10m3, k10m4, k10m5, k10m6, k10m7, k10m8]
  instanceTypes := #[]
  staticTypes := #[.int, .int, .int, .boolean]
  resolved := Array.replicate 635 none
  statics := some 2 }

def pool11 : Array CpInfo := pool [(4, .class_ 6), (1, u "java/lang/Object"), (0, u "<init>"), (0, u "()V"), (5, .class_ 16), (1, u "java/lang/StringLatin1"), (104, u "$assertionsDisabled"), (0, u "Z"), (98, .class_ 223), (1, u "java/lang/StringLatin1$LinesSpliterator"), (166, .class_ 391), (0, u "java/lang/StringLatin1$CharsSpliterator")] 3

def k11m0 : Method := { name := "<init>", desc := "()V", sig := { parameters := [], returnType := none }, accessFlags := 0, code := none }
/-- java/lang/StringLatin1 -/
def k11 : Class := { plain "java/lang/StringLatin1" (some 0) with
  accessFlags := 48
  interfaces := #[]
  cf := some (fileOf pool11 14 #[.nestMembers #[390, 221]] #[{ accessFlags := 0, nameIndex := 7, descriptorIndex := 8, attributes := #[] }] 48 4 #[] #[{ accessFlags := 4120, nameIndex := 121, descriptorIndex := 122, attributes := #[] }])
  fields := #[{ name := "$assertionsDisabled", type := .boolean, accessFlags := 4120, slot := 0, constantValue := 0 }]
  methods := #[k11m0]
  instanceTypes := #[]
  staticTypes := #[.boolean]
  resolved := Array.replicate 395 none
  statics := none }

def pool12 : Array CpInfo := pool [(2, .class_ 4), (1, u "java/lang/Object"), (0, u "<init>"), (0, u "()V"), (17, .class_ 26), (1, u "jdk/internal/util/Preconditions"), (28, .class_ 56), (0, u "jdk/internal/util/Preconditions$4"), (57, .class_ 115), (0, u "jdk/internal/util/Preconditions$1"), (7, u "SIOOBE_FORMATTER"), (0, u "Ljava/util/function/BiFunction;"), (0, .class_ 126), (0, u "jdk/internal/util/Preconditions$2"), (3, u "AIOOBE_FORMATTER"), (0, .class_ 132), (0, u "jdk/internal/util/Preconditions$3"), (3, u "IOOBE_FORMATTER")] 57

def k12m0 : Method := { name := "<init>", desc := "()V", sig := { parameters := [], returnType := none }, accessFlags := 1, code := none }
/-- jdk/internal/util/Preconditions -/
def k12 : Class := { plain "jdk/internal/util/Preconditions" (some 0) with
  accessFlags := 33
  interfaces := #[]
  cf := some (fileOf pool12 24 #[.nestMembers #[55, 131, 125, 114]] #[{ accessFlags := 1, nameIndex := 5, descriptorIndex := 6, attributes := #[] }] 33 2 #[] #[{ accessFlags := 25, nameIndex := 123, descriptorIndex := 124, attributes := #[] }, { accessFlags := 25, nameIndex := 130, descriptorIndex := 124, attributes := #[] }, { accessFlags := 25, nameIndex := 136, descriptorIndex := 124, attributes := #[] }])
  fields := #[{ name := "SIOOBE_FORMATTER", type := (.object "java/util/function/BiFunction"), accessFlags := 25, slot := 0, constantValue := 0 }, { name := "AIOOBE_FORMATTER", type := (.object "java/util/function/BiFunction"), accessFlags := 25, slot := 1, constantValue := 0 }, { name := "IOOBE_FORMATTER", type := (.object "java/util/function/BiFunction"), accessFlags := 25, slot := 2, constantValue := 0 }]
  methods := #[k12m0]
  instanceTypes := #[]
  staticTypes := #[(.object "java/util/function/BiFunction"), (.object "java/util/function/BiFunction"), (.object "java/util/function/BiFunction")]
  resolved := Array.replicate 194 none
  statics := some 3 }

def pool13 : Array CpInfo := pool [(9, u "<init>"), (6, .class_ 18), (1, u "java/lang/Object"), (0, u "()V"), (1, .class_ 23), (1, u "jdk/internal/util/ArraysSupport"), (0, u "LOG2_ARRAY_LONG_INDEX_SCALE"), (0, u "I"), (2, u "U"), (0, u "Ljdk/internal/misc/Unsafe;"), (8, u "BIG_ENDIAN"), (0, u "Z"), (8, u "LOG2_BYTE_BIT_SIZE"), (4, u "LOG2_ARRAY_INT_INDEX_SCALE"), (54, u "JLA"), (0, u "Ljdk/internal/access/JavaLangAccess;"), (11, u "LOG2_ARRAY_BOOLEAN_INDEX_SCALE"), (9, u "LOG2_ARRAY_BYTE_INDEX_SCALE"), (5, u "LOG2_ARRAY_CHAR_INDEX_SCALE"), (5, u "LOG2_ARRAY_SHORT_INDEX_SCALE"), (18, u "LOG2_ARRAY_FLOAT_INDEX_SCALE"), (24, u "LOG2_ARRAY_DOUBLE_INDEX_SCALE"), (89, u "T_BOOLEAN"), (2, u "T_CHAR"), (1, u "T_FLOAT"), (1, u "T_DOUBLE"), (1, u "T_BYTE"), (1, u "T_SHORT"), (1, u "T_INT"), (1, u "T_LONG"), (1, u "SOFT_MAX_ARRAY_LENGTH")] 83

def k13m0 : Method := { name := "<init>", desc := "()V", sig := { parameters := [], returnType := none }, accessFlags := 2, code := none }
/-- jdk/internal/util/ArraysSupport -/
def k13 : Class := { plain "jdk/internal/util/ArraysSupport" (some 0) with
  accessFlags := 33
  interfaces := #[]
  cf := some (fileOf pool13 21 #[] #[{ accessFlags := 2, nameIndex := 9, descriptorIndex := 19, attributes := #[] }] 33 16 #[] #[{ accessFlags := 24, nameIndex := 28, descriptorIndex := 29, attributes := #[] }, { accessFlags := 26, nameIndex := 38, descriptorIndex := 39, attributes := #[] }, { accessFlags := 25, nameIndex := 121, descriptorIndex := 25, attributes := #[] }, { accessFlags := 25, nameIndex := 131, descriptorIndex := 25, attributes := #[] }, { accessFlags := 25, nameIndex := 137, descriptorIndex := 25, attributes := #[] }, { accessFlags := 25, nameIndex := 143, descriptorIndex := 25, attributes := #[] }, { accessFlags := 25, nameIndex := 53, descriptorIndex := 25, attributes := #[] }, { accessFlags := 25, nameIndex := 24, descriptorIndex := 25, attributes := #[] }, { accessFlags := 25, nameIndex := 162, descriptorIndex := 25, attributes := #[] }, { accessFlags := 25, nameIndex := 187, descriptorIndex := 25, attributes := #[] }, { accessFlags := 26, nameIndex := 48, descriptorIndex := 25, attributes := #[] }, { accessFlags := 25, nameIndex := 277, descriptorIndex := 25, attributes := #[] }, { accessFlags := 25, nameIndex := 280, descriptorIndex := 25, attributes := #[] }, { accessFlags := 25, nameIndex := 282, descriptorIndex := 25, attributes := #[] }, { accessFlags := 25, nameIndex := 284, descriptorIndex := 25, attributes := #[] }, { accessFlags := 25, nameIndex := 286, descriptorIndex := 25, attributes := #[] }, { accessFlags := 25, nameIndex := 288, descriptorIndex := 25, attributes := #[] }, { accessFlags := 25, nameIndex := 290, descriptorIndex := 25, attributes := #[] }, { accessFlags := 25, nameIndex := 292, descriptorIndex := 25, attributes := #[] }, { accessFlags := 26, nameIndex := 108, descriptorIndex := 109, attributes := #[] }, { accessFlags := 25, nameIndex := 294, descriptorIndex := 25, attributes := #[] }])
  fields := #[{ name := "U", type := (.object "jdk/internal/misc/Unsafe"), accessFlags := 24, slot := 0, constantValue := 0 }, { name := "BIG_ENDIAN", type := .boolean, accessFlags := 26, slot := 1, constantValue := 0 }, { name := "LOG2_ARRAY_BOOLEAN_INDEX_SCALE", type := .int, accessFlags := 25, slot := 2, constantValue := 0 }, { name := "LOG2_ARRAY_BYTE_INDEX_SCALE", type := .int, accessFlags := 25, slot := 3, constantValue := 0 }, { name := "LOG2_ARRAY_CHAR_INDEX_SCALE", type := .int, accessFlags := 25, slot := 4, constantValue := 0 }, { name := "LOG2_ARRAY_SHORT_INDEX_SCALE", type := .int, accessFlags := 25, slot := 5, constantValue := 0 }, { name := "LOG2_ARRAY_INT_INDEX_SCALE", type := .int, accessFlags := 25, slot := 6, constantValue := 0 }, { name := "LOG2_ARRAY_LONG_INDEX_SCALE", type := .int, accessFlags := 25, slot := 7, constantValue := 0 }, { name := "LOG2_ARRAY_FLOAT_INDEX_SCALE", type := .int, accessFlags := 25, slot := 8, constantValue := 0 }, { name := "LOG2_ARRAY_DOUBLE_INDEX_SCALE", type := .int, accessFlags := 25, slot := 9, constantValue := 0 }, { name := "LOG2_BYTE_BIT_SIZE", type := .int, accessFlags := 26, slot := 10, constantValue := 0 }, { name := "T_BOOLEAN", type := .int, accessFlags := 25, slot := 11, constantValue := 0 }, { name := "T_CHAR", type := .int, accessFlags := 25, slot := 12, constantValue := 0 }, { name := "T_FLOAT", type := .int, accessFlags := 25, slot := 13, constantValue := 0 }, { name := "T_DOUBLE", type := .int, accessFlags := 25, slot := 14, constantValue := 0 }, { name := "T_BYTE", type := .int, accessFlags := 25, slot := 15, constantValue := 0 }, { name := "T_SHORT", type := .int, accessFlags := 25, slot := 16, constantValue := 0 }, { name := "T_INT", type := .int, accessFlags := 25, slot := 17, constantValue := 0 }, { name := "T_LONG", type := .int, accessFlags := 25, slot := 18, constantValue := 0 }, { name := "JLA", type := (.object "jdk/internal/access/JavaLangAccess"), accessFlags := 26, slot := 19, constantValue := 0 }, { name := "SOFT_MAX_ARRAY_LENGTH", type := .int, accessFlags := 25, slot := 20, constantValue := 0 }]
  methods := #[k13m0]
  instanceTypes := #[]
  staticTypes := #[(.object "jdk/internal/misc/Unsafe"), .boolean, .int, .int, .int, .int, .int, .int, .int, .int, .int, .int, .int, .int, .int, .int, .int, .int, .int, (.object "jdk/internal/access/JavaLangAccess"), .int]
  resolved := Array.replicate 378 none
  statics := none }

def pool14 : Array CpInfo := pool [(1, u "java/lang/Cloneable"), (0, .class_ 1), (0, u "java/lang/Object"), (0, .class_ 3)] 3

/-- java/lang/Cloneable -/
def k14 : Class := { plain "java/lang/Cloneable" (some 0) with
  accessFlags := 1537
  interfaces := #[]
  cf := some (fileOf pool14 2 #[] #[] 1537 4 #[] #[])
  fields := #[]
  methods := #[]
  instanceTypes := #[]
  staticTypes := #[]
  resolved := Array.replicate 8 none
  statics := none }

/-- the primitive byte -/
def k15 : Class := { plain "byte" none with kind := .primitive 'B', accessFlags := 0x411 }
/-- [B -/
def k16 : Class := { plain "[B" (some 0) with kind := .array 15 .byte, interfaces := #[14, 2], accessFlags := 1041 }

/-- the primitive char -/
def k17 : Class := { plain "char" none with kind := .primitive 'C', accessFlags := 0x411 }
/-- [C -/
def k18 : Class := { plain "[C" (some 0) with kind := .array 17 .char, interfaces := #[14, 2], accessFlags := 1041 }

/-- the primitive int -/
def k19 : Class := { plain "int" none with kind := .primitive 'I', accessFlags := 0x411 }
/-- [I -/
def k20 : Class := { plain "[I" (some 0) with kind := .array 19 .int, interfaces := #[14, 2], accessFlags := 1041 }

def heap : Heap := #[{ cls := 7, slots := #[.long 0, .int 1, .null, .int 0, .null, .int 0, .int 0], vm := .statics 7 },
  { cls := 9, slots := #[.ref 4], vm := .statics 9 },
  { cls := 10, slots := #[.int 0, .int 8, .int 0, .int 1], vm := .statics 10 },
  { cls := 12, slots := #[.null, .null, .null], vm := .statics 12 },
  { cls := 9, slots := #[.null, .null], vm := .none }]
def classes : Array Class := #[k0, k1, k2, k3, k4, k5, k6, k7, k8, k9, k10, k11, k12, k13, k14, k15, k16, k17, k18, k19, k20]
def interned : List (Array UInt16 × Addr) := []
def slotsUsed : Nat := 17
def theMethod : MethodId := ⟨1, 1⟩
def args0 : Array Value := #[.int 5, .int 5, .int 5, .int 5]
def aboutOver (below : List Frame) : State where
  vm := { classes := classes, interned := interned.toArray }
  heap := heap
  slotsUsed := slotsUsed
  threads := #[{ frames := .invoking theMethod args0 :: below }]
def below0 : List Frame := [.native { method := ⟨0, 0⟩, args := #[] }]
def about1 : State := aboutOver below0
def p0 : Program := .bare "" "" ""
def e0 : Env := launch0.env 0 0 0
theorem w_frames : about1.frames = Frame.invoking theMethod args0 :: below0 := rfl
set_option maxRecDepth 65536 in
theorem w_args : argsFit about1.vm theMethod args0 = true := by decide +kernel
set_option maxRecDepth 65536 in
theorem w_heap : heapFits about1 = true := by decide +kernel
set_option maxRecDepth 65536 in
theorem w_runnable : about1.curStatus? = some .runnable := by decide +kernel
set_option maxRecDepth 65536 in
theorem w_alone : about1.alone = true := by decide +kernel
set_option maxRecDepth 65536 in
theorem w_named : about1.methodNamed? x = some theMethod := by decide +kernel
set_option maxRecDepth 65536 in
theorem w_hears : about1.hears theMethod below0 = true := by decide +kernel
set_option maxRecDepth 65536 in
theorem w_ripe : about1.ripe theMethod args0 below0 = true := by decide +kernel
theorem w_running : about1.status = .running := rfl
set_option maxRecDepth 65536 in
theorem w_room : about1.hasRoom e0.platform room_1 = true :=
  launch0.hasRoom_least _ room_1 (by decide +kernel) (by decide +kernel) (by decide +kernel) (by decide +kernel) (by decide +kernel) (by decide +kernel)
theorem allAtoms_all (ts : List Jvm.Cond) (a : Array Jvm.Value) (st : Jvm.State) : (allAtoms ts).before a st = ts.all (fun c => c.before a st) := by
  induction ts with
  | nil => rfl
  | cons c t ih =>
    show (Jvm.Cond.and c (allAtoms t)).before a st = _
    rw [Jvm.Cond.before_and, ih, List.all_cons]
def words1 : List Jvm.Cond := Jvm.Cond.code x code maxLocals ret :: tables_1
/-- a 'code' word, met by the world's own term for the bytes: nothing is compared byte by byte -/
theorem code_word {y : MethodName} {bytes : ByteArray} {mx : Nat} {rt : Option FieldType} {a : Array Value} {s : State} {m : MethodId} {meth : Method} {c : Code} (h1 : s.methodNamed? y = some m) (h2 : s.vm.method? m = some meth) (h3 : meth.code = some c) (h4 : c.code = bytes)
    (h5 : (c.maxLocals == mx && c.exceptionTable.isEmpty && decide (c.maxStack ≤ mostOperands) && decide (meth.sig.returnType = rt) && !meth.locks && decide (parseMethodDescriptor y.desc = some meth.sig)) = true) : (Jvm.Cond.code y bytes mx rt).before a s = true := by
  simp only [Bool.and_eq_true, beq_iff_eq, Bool.not_eq_true', decide_eq_true_eq] at h5
  obtain ⟨⟨⟨⟨⟨g1, g2⟩, g3⟩, g4⟩, g5⟩, g6⟩ := h5
  simp [Cond.before, Cond.holds, Cond.value, h1, h2, h3, h4, g1, g2, g3, g4, g5, g6]
def isCode : Jvm.Cond → Bool
  | .code _ _ _ _ => true
  | _ => false
theorem all_split {L : List Jvm.Cond} {P : Jvm.Cond → Bool} (h1 : L.all (fun c => isCode c || P c) = true) (h2 : ∀ c ∈ L.filter isCode, P c = true) : L.all P = true := by
  refine List.all_eq_true.mpr fun c hc => ?_
  have h := List.all_eq_true.mp h1 c hc
  rcases Bool.eq_false_or_eq_true (isCode c) with hi | hi
  · exact h2 c (List.mem_filter.mpr ⟨hc, hi⟩)
  · simpa [hi] using h
set_option maxRecDepth 65536 in
theorem w_c0 : (Jvm.Cond.code x code maxLocals ret).before args0 about1 = true := code_word (m := ⟨1, 1⟩) (meth := k1m1) (c := k1c1) (by decide +kernel) rfl rfl rfl (by decide +kernel)
set_option maxRecDepth 65536 in
theorem w_c1 : (Jvm.Cond.code ({ cls := "com/example/shredloom/shredloom/db/ReadOfPinLaw", name := "make", desc := "(IIII)Ljava/lang/String;" } : Jvm.MethodName) method_3_code (7 : Nat) (Option.some (Jvm.ClassFile.FieldType.object "java/lang/String"))).before args0 about1 = true := code_word (m := ⟨1, 2⟩) (meth := k1m2) (c := k1c2) (by decide +kernel) rfl rfl rfl (by decide +kernel)
set_option maxRecDepth 65536 in
theorem w_c2 : (Jvm.Cond.code ({ cls := "java/lang/String", name := "<init>", desc := "([C)V" } : Jvm.MethodName) jdk_42_method_3_code (2 : Nat) (Option.none : Option Jvm.ClassFile.FieldType)).before args0 about1 = true := code_word (m := ⟨7, 1⟩) (meth := k7m1) (c := k7c1) (by decide +kernel) rfl rfl rfl (by decide +kernel)
set_option maxRecDepth 65536 in
theorem w_c3 : (Jvm.Cond.code ({ cls := "java/lang/String", name := "<init>", desc := "([CIILjava/lang/Void;)V" } : Jvm.MethodName) jdk_42_method_149_code (6 : Nat) (Option.none : Option Jvm.ClassFile.FieldType)).before args0 about1 = true := code_word (m := ⟨7, 3⟩) (meth := k7m3) (c := k7c3) (by decide +kernel) rfl rfl rfl (by decide +kernel)
set_option maxRecDepth 65536 in
theorem w_c4 : (Jvm.Cond.code ({ cls := "java/lang/Object", name := "<init>", desc := "()V" } : Jvm.MethodName) object_method_1_code (1 : Nat) (Option.none : Option Jvm.ClassFile.FieldType)).before args0 about1 = true := code_word (m := ⟨0, 0⟩) (meth := k0m0) (c := k0c0) (by decide +kernel) rfl rfl rfl (by decide +kernel)
set_option maxRecDepth 65536 in
theorem w_c5 : (Jvm.Cond.code ({ cls := "com/example/shredloom/shredloom/db/SqlXmlValues$Read", name := "of", desc := "(Ljava/lang/String;)Lcom/example/shredloom/shredloom/db/SqlXmlValues$Read;" } : Jvm.MethodName) prog_17_method_2_code (1 : Nat) (Option.some (Jvm.ClassFile.FieldType.object "com/example/shredloom/shredloom/db/SqlXmlValues$Read"))).before args0 about1 = true := code_word (m := ⟨9, 1⟩) (meth := k9m1) (c := k9c1) (by decide +kernel) rfl rfl rfl (by decide +kernel)
set_option maxRecDepth 65536 in
theorem w_c6 : (Jvm.Cond.code ({ cls := "com/example/shredloom/shredloom/db/SqlXmlValues$Read", name := "<init>", desc := "(Ljava/lang/String;Ljava/lang/String;)V" } : Jvm.MethodName) prog_17_method_1_code (3 : Nat) (Option.none : Option Jvm.ClassFile.FieldType)).before args0 about1 = true := code_word (m := ⟨9, 0⟩) (meth := k9m0) (c := k9c0) (by decide +kernel) rfl rfl rfl (by decide +kernel)
set_option maxRecDepth 65536 in
theorem w_c7 : (Jvm.Cond.code ({ cls := "java/lang/Record", name := "<init>", desc := "()V" } : Jvm.MethodName) jdk_30_method_1_code (1 : Nat) (Option.none : Option Jvm.ClassFile.FieldType)).before args0 about1 = true := code_word (m := ⟨8, 0⟩) (meth := k8m0) (c := k8c0) (by decide +kernel) rfl rfl rfl (by decide +kernel)
set_option maxRecDepth 65536 in
theorem w_c8 : (Jvm.Cond.code ({ cls := "com/example/shredloom/shredloom/db/SqlXmlValues$Read", name := "withoutForm", desc := "()Ljava/lang/String;" } : Jvm.MethodName) prog_17_method_8_code (1 : Nat) (Option.some (Jvm.ClassFile.FieldType.object "java/lang/String"))).before args0 about1 = true := code_word (m := ⟨9, 3⟩) (meth := k9m3) (c := k9c3) (by decide +kernel) rfl rfl rfl (by decide +kernel)
set_option maxRecDepth 65536 in
theorem w_c9 : (Jvm.Cond.code ({ cls := "com/example/shredloom/shredloom/db/SqlXmlValues$Read", name := "text", desc := "()Ljava/lang/String;" } : Jvm.MethodName) prog_17_method_7_code (1 : Nat) (Option.some (Jvm.ClassFile.FieldType.object "java/lang/String"))).before args0 about1 = true := code_word (m := ⟨9, 2⟩) (meth := k9m2) (c := k9c2) (by decide +kernel) rfl rfl rfl (by decide +kernel)
set_option maxRecDepth 65536 in
theorem w_c10 : (Jvm.Cond.code ({ cls := "java/lang/String", name := "equals", desc := "(Ljava/lang/Object;)Z" } : Jvm.MethodName) jdk_42_method_66_code (3 : Nat) (Option.some Jvm.ClassFile.FieldType.boolean)).before args0 about1 = true := code_word (m := ⟨7, 2⟩) (meth := k7m2) (c := k7c2) (by decide +kernel) rfl rfl rfl (by decide +kernel)
set_option maxRecDepth 65536 in
theorem w_c11 : (Jvm.Cond.code ({ cls := "java/lang/StringUTF16", name := "compress", desc := "([CII)[B" } : Jvm.MethodName) jdk_52_method_16_code (6 : Nat) (Option.some (Jvm.ClassFile.FieldType.array Jvm.ClassFile.FieldType.byte))).before args0 about1 = true := code_word (m := ⟨10, 7⟩) (meth := k10m7) (c := k10c7) (by decide +kernel) rfl rfl rfl (by decide +kernel)
set_option maxRecDepth 65536 in
theorem w_c12 : (Jvm.Cond.code ({ cls := "java/lang/StringUTF16", name := "compress", desc := "([CI[BII)I" } : Jvm.MethodName) jdk_52_method_21_code (7 : Nat) (Option.some Jvm.ClassFile.FieldType.int)).before args0 about1 = true := code_word (m := ⟨10, 8⟩) (meth := k10m8) (c := k10c8) (by decide +kernel) rfl rfl rfl (by decide +kernel)
set_option maxRecDepth 65536 in
theorem w_c13 : (Jvm.Cond.code ({ cls := "java/lang/StringUTF16", name := "coderFromArrayLen", desc := "([BI)B" } : Jvm.MethodName) jdk_52_method_15_code (2 : Nat) (Option.some Jvm.ClassFile.FieldType.byte)).before args0 about1 = true := code_word (m := ⟨10, 6⟩) (meth := k10m6) (c := k10c6) (by decide +kernel) rfl rfl rfl (by decide +kernel)
set_option maxRecDepth 65536 in
theorem w_c14 : (Jvm.Cond.code ({ cls := "java/lang/StringUTF16", name := "toBytes", desc := "([CII)[B" } : Jvm.MethodName) jdk_52_method_14_code (5 : Nat) (Option.some (Jvm.ClassFile.FieldType.array Jvm.ClassFile.FieldType.byte))).before args0 about1 = true := code_word (m := ⟨10, 5⟩) (meth := k10m5) (c := k10c5) (by decide +kernel) rfl rfl rfl (by decide +kernel)
set_option maxRecDepth 65536 in
theorem w_c15 : (Jvm.Cond.code ({ cls := "java/lang/StringUTF16", name := "newBytesFor", desc := "(I)[B" } : Jvm.MethodName) jdk_52_method_2_code (1 : Nat) (Option.some (Jvm.ClassFile.FieldType.array Jvm.ClassFile.FieldType.byte))).before args0 about1 = true := code_word (m := ⟨10, 1⟩) (meth := k10m1) (c := k10c1) (by decide +kernel) rfl rfl rfl (by decide +kernel)
set_option maxRecDepth 65536 in
theorem w_c16 : (Jvm.Cond.code ({ cls := "java/lang/StringUTF16", name := "newBytesLength", desc := "(I)I" } : Jvm.MethodName) jdk_52_method_3_code (1 : Nat) (Option.some Jvm.ClassFile.FieldType.int)).before args0 about1 = true := code_word (m := ⟨10, 2⟩) (meth := k10m2) (c := k10c2) (by decide +kernel) rfl rfl rfl (by decide +kernel)
set_option maxRecDepth 65536 in
theorem w_c17 : (Jvm.Cond.code ({ cls := "java/lang/StringUTF16", name := "putChar", desc := "([BII)V" } : Jvm.MethodName) jdk_52_method_4_code (3 : Nat) (Option.none : Option Jvm.ClassFile.FieldType)).before args0 about1 = true := code_word (m := ⟨10, 3⟩) (meth := k10m3) (c := k10c3) (by decide +kernel) rfl rfl rfl (by decide +kernel)
set_option maxRecDepth 65536 in
theorem w_c18 : (Jvm.Cond.code ({ cls := "java/lang/StringUTF16", name := "getChar", desc := "([BI)C" } : Jvm.MethodName) jdk_52_method_5_code (2 : Nat) (Option.some Jvm.ClassFile.FieldType.char)).before args0 about1 = true := code_word (m := ⟨10, 4⟩) (meth := k10m4) (c := k10c4) (by decide +kernel) rfl rfl rfl (by decide +kernel)
def codes1 : List Jvm.Cond := [Jvm.Cond.code x code maxLocals ret, Jvm.Cond.code ({ cls := "com/example/shredloom/shredloom/db/ReadOfPinLaw", name := "make", desc := "(IIII)Ljava/lang/String;" } : Jvm.MethodName) method_3_code (7 : Nat) (Option.some (Jvm.ClassFile.FieldType.object "java/lang/String")), Jvm.Cond.code ({ cls := "java/lang/String", name := "<init>", desc := "([C)V" } : Jvm.MethodName) jdk_42_method_3_code (2 : Nat) (Option.none : Option Jvm.ClassFile.FieldType), Jvm.Cond.code ({ cls := "java/lang/String", name := "<init>", desc := "([CIILjava/lang/Void;)V" } : Jvm.MethodName) jdk_42_method_149_code (6 : Nat) (Option.none : Option Jvm.ClassFile.FieldType), Jvm.Cond.code ({ cls := "java/lang/Object", name := "<init>", desc := "()V" } : Jvm.MethodName) object_method_1_code (1 : Nat) (Option.none : Option Jvm.ClassFile.FieldType), Jvm.Cond.code ({ cls := "com/example/shredloom/shredloom/db/SqlXmlValues$Read", name := "of", desc := "(Ljava/lang/String;)Lcom/example/shredloom/shredloom/db/SqlXmlValues$Read;" } : Jvm.MethodName) prog_17_method_2_code (1 : Nat) (Option.some (Jvm.ClassFile.FieldType.object "com/example/shredloom/shredloom/db/SqlXmlValues$Read")), Jvm.Cond.code ({ cls := "com/example/shredloom/shredloom/db/SqlXmlValues$Read", name := "<init>", desc := "(Ljava/lang/String;Ljava/lang/String;)V" } : Jvm.MethodName) prog_17_method_1_code (3 : Nat) (Option.none : Option Jvm.ClassFile.FieldType), Jvm.Cond.code ({ cls := "java/lang/Record", name := "<init>", desc := "()V" } : Jvm.MethodName) jdk_30_method_1_code (1 : Nat) (Option.none : Option Jvm.ClassFile.FieldType), Jvm.Cond.code ({ cls := "com/example/shredloom/shredloom/db/SqlXmlValues$Read", name := "withoutForm", desc := "()Ljava/lang/String;" } : Jvm.MethodName) prog_17_method_8_code (1 : Nat) (Option.some (Jvm.ClassFile.FieldType.object "java/lang/String")), Jvm.Cond.code ({ cls := "com/example/shredloom/shredloom/db/SqlXmlValues$Read", name := "text", desc := "()Ljava/lang/String;" } : Jvm.MethodName) prog_17_method_7_code (1 : Nat) (Option.some (Jvm.ClassFile.FieldType.object "java/lang/String")), Jvm.Cond.code ({ cls := "java/lang/String", name := "equals", desc := "(Ljava/lang/Object;)Z" } : Jvm.MethodName) jdk_42_method_66_code (3 : Nat) (Option.some Jvm.ClassFile.FieldType.boolean), Jvm.Cond.code ({ cls := "java/lang/StringUTF16", name := "compress", desc := "([CII)[B" } : Jvm.MethodName) jdk_52_method_16_code (6 : Nat) (Option.some (Jvm.ClassFile.FieldType.array Jvm.ClassFile.FieldType.byte)), Jvm.Cond.code ({ cls := "java/lang/StringUTF16", name := "compress", desc := "([CI[BII)I" } : Jvm.MethodName) jdk_52_method_21_code (7 : Nat) (Option.some Jvm.ClassFile.FieldType.int), Jvm.Cond.code ({ cls := "java/lang/StringUTF16", name := "coderFromArrayLen", desc := "([BI)B" } : Jvm.MethodName) jdk_52_method_15_code (2 : Nat) (Option.some Jvm.ClassFile.FieldType.byte), Jvm.Cond.code ({ cls := "java/lang/StringUTF16", name := "toBytes", desc := "([CII)[B" } : Jvm.MethodName) jdk_52_method_14_code (5 : Nat) (Option.some (Jvm.ClassFile.FieldType.array Jvm.ClassFile.FieldType.byte)), Jvm.Cond.code ({ cls := "java/lang/StringUTF16", name := "newBytesFor", desc := "(I)[B" } : Jvm.MethodName) jdk_52_method_2_code (1 : Nat) (Option.some (Jvm.ClassFile.FieldType.array Jvm.ClassFile.FieldType.byte)), Jvm.Cond.code ({ cls := "java/lang/StringUTF16", name := "newBytesLength", desc := "(I)I" } : Jvm.MethodName) jdk_52_method_3_code (1 : Nat) (Option.some Jvm.ClassFile.FieldType.int), Jvm.Cond.code ({ cls := "java/lang/StringUTF16", name := "putChar", desc := "([BII)V" } : Jvm.MethodName) jdk_52_method_4_code (3 : Nat) (Option.none : Option Jvm.ClassFile.FieldType), Jvm.Cond.code ({ cls := "java/lang/StringUTF16", name := "getChar", desc := "([BI)C" } : Jvm.MethodName) jdk_52_method_5_code (2 : Nat) (Option.some Jvm.ClassFile.FieldType.char)]
set_option maxRecDepth 65536 in
theorem codes_eq : words1.filter isCode = codes1 := rfl
theorem w_codes : ∀ c ∈ words1.filter isCode, c.before args0 about1 = true := by
  rw [codes_eq]
  intro c hc
  simp only [codes1, List.mem_cons, List.not_mem_nil, or_false] at hc
  rcases hc with rfl | rfl | rfl | rfl | rfl | rfl | rfl | rfl | rfl | rfl | rfl | rfl | rfl | rfl | rfl | rfl | rfl | rfl | rfl
  · exact w_c0
  · exact w_c1
  · exact w_c2
  · exact w_c3
  · exact w_c4
  · exact w_c5
  · exact w_c6
  · exact w_c7
  · exact w_c8
  · exact w_c9
  · exact w_c10
  · exact w_c11
  · exact w_c12
  · exact w_c13
  · exact w_c14
  · exact w_c15
  · exact w_c16
  · exact w_c17
  · exact w_c18
set_option maxRecDepth 65536 in
theorem w_t1 : (words1.take 24).all (fun c => isCode c || c.before args0 about1) = true := by decide +kernel
set_option maxRecDepth 65536 in
theorem w_t2 : ((words1.drop 24).take 24).all (fun c => isCode c || c.before args0 about1) = true := by decide +kernel
set_option maxRecDepth 65536 in
theorem w_t3 : (((words1.drop 24).drop 24).take 24).all (fun c => isCode c || c.before args0 about1) = true := by decide +kernel
set_option maxRecDepth 65536 in
theorem w_t4 : (((words1.drop 24).drop 24).drop 24).all (fun c => isCode c || c.before args0 about1) = true := by decide +kernel
theorem w_tables : (allAtoms (Jvm.Cond.code x code maxLocals ret :: tables_1)).before args0 about1 = true := by
  rw [allAtoms_all]
  show words1.all (fun c => c.before args0 about1) = true
  refine all_split ?_ w_codes
  rw [← List.take_append_drop 24 words1, List.all_append, w_t1, ← List.take_append_drop 24 (words1.drop 24), List.all_append, w_t2, ← List.take_append_drop 24 ((words1.drop 24).drop 24), List.all_append, w_t3, w_t4]
  rfl
set_option maxRecDepth 65536 in
theorem w_rest : rest_1_c.before args0 about1 = true := by decide +kernel
set_option maxRecDepth 65536 in
theorem w_case : (Jvm.Cond.and given_1 narrow_1).before args0 about1 = true := by decide +kernel
set_option maxRecDepth 65536 in
theorem w_consts : constsHeld consts_1 about1 := Jvm.Lit.constsHeldB_iff.mp (by decide +kernel)
theorem w_applies : (headSpec (Jvm.Cond.code x code maxLocals ret :: tables_1) room_1).applies x e0.platform about1 = true :=
  (Spec.applies_iff w_frames).mpr ⟨w_running, w_runnable, w_alone, w_named, w_hears, w_ripe, w_room, w_tables⟩
theorem atStart : AtStart classFile x code maxLocals ret World_1 tables_1 room_1 Calls_1 rest_1 Pre_1 launch0 p0 e0 about1 theMethod args0 below0 :=
  ⟨lists_1, trivial, launch0.admits_env _ _ _, launch0.least_env, fairChoices_fair.cas, fairChoices_fair.clock, w_frames, w_args, w_heap, w_applies, ⟨w_consts, trivial⟩, w_rest, w_case⟩
end start1
theorem witness_1 : WitnessClaimed_1 := ⟨start1.p0, start1.e0, start1.about1, start1.theMethod, start1.args0, start1.below0, start1.atStart⟩
end Jvm.Pilot.@@N@@
