import JvmDerived
import JvmDerived.Pilot.@@N@@Statement
import JvmDerived.Pilot.@@N@@Code
set_option linter.unusedVariables false
set_option linter.unusedSimpArgs false
/- laws to paste: Road.backV, Road.lenW, Road.chN, Road.codOf (cut by pick.py; bodies as the Statement names them) -/
namespace Jvm.Pilot.@@N@@
namespace StrChars
open Jvm Sem ClassFile Op Lib Jvm.Stand Jvm.Free.XT Jvm.Free.ALB Jvm.Free.JM Jvm.Free
open Jvm.Lib.Cold (StaticIs)
/-- a char array whose places are chars -/
def Ch (a : Addr) (A : Cell) (U : State) : Prop := Arr .char a A U ∧ Typed .char A
theorem Ch.mv {a : Addr} {A : Cell} {U U' : State} (h : Ch a A U) (hal : U.vm.Alike U'.vm) (hh : U'.heap = U.heap) : Ch a A U' := ⟨h.1.mv hal hh, h.2⟩
theorem Ch.keep {a : Addr} {A : Cell} {U U' : State} (h : Ch a A U) (hal : U.vm.Alike U'.vm) (hk : U'.heap[a]? = some A) : Ch a A U' := ⟨h.1.keep hal hk, h.2⟩
/-- what place i of a char[]'s cell holds -/
def cv (A : Cell) (i : Nat) : Int32 := match A.slots[i]? with | some (.int x) => x | _ => 0
theorem Ch.get {a : Addr} {A : Cell} {U : State} (h : Ch a A U) {i : Nat} (hi : i < A.slots.size) : A.slots[i]? = some (.int (cv A i)) := by
  have e := Array.getElem?_eq_getElem hi
  have f := h.2 i _ e
  unfold cv; rw [e]
  generalize A.slots[i] = v at f
  cases v <;> simp [fits] at f ⊢
/-- the byte that i2b leaves of a char -/
def lo8 (x : Int32) : Int32 := x.toInt8.toInt32
theorem fits_lo8 (y : Int32) : fits .byte (.int (lo8 y)) = true := by
  have h1 := y.toInt8.le_toInt
  have h2 := y.toInt8.toInt_lt
  simp only [lo8, fits, Bool.and_eq_true, decide_eq_true_eq, Int32.le_iff_toInt_le, Int8.toInt_toInt32, show (-128 : Int32).toInt = -128 from by decide, show (127 : Int32).toInt = 127 from by decide]
  omega
/-- A' is A but that each place j of lo .. hi - 1 holds f j -/
def Laid (A A' : Cell) (lo hi : Nat) (f : Nat → Value) : Prop := A'.cls = A.cls ∧ A'.vm = A.vm ∧ A'.slots.size = A.slots.size ∧ ∀ i, A'.slots[i]? = if lo ≤ i ∧ i < hi then some (f i) else A.slots[i]?
theorem Laid.zero (A : Cell) (lo : Nat) (f : Nat → Value) : Laid A A lo (lo + 0) f := ⟨rfl, rfl, rfl, fun i => by rw [if_neg (by omega)]⟩
theorem Laid.step {A Ak : Cell} {lo k : Nat} {f : Nat → Value} {v : Value} (h : Laid A Ak lo k f) (hlo : lo ≤ k) (hk : k < Ak.slots.size) (hv : v = f k) : Laid A (Ak.setSlot k v) lo (k + 1) f := by
  refine ⟨h.1, h.2.1, by simpa [Cell.setSlot] using h.2.2.1, fun i => ?_⟩
  by_cases e : k = i
  · subst e; rw [Cell.slots_setSlot_self v hk, if_pos (by omega), hv]
  · rw [Cell.slots_setSlot_ne v e, h.2.2.2 i]
    by_cases q : lo ≤ i ∧ i < k
    · rw [if_pos q, if_pos (by omega)]
    · rw [if_neg q, if_neg (by omega)]
def U16 : String := "java/lang/StringUTF16"
namespace Cmp5
def yN : MethodName := ⟨"java/lang/StringUTF16", "compress", "([CI[BII)I"⟩
abbrev yB : ByteArray := jdk_52_method_21_code
theorem d0 : decode yB 0 = .ok (.iconst 0, 1) := by decide +kernel
theorem d1 : decode yB 1 = .ok (.istore 5, 2) := by decide +kernel
theorem d3 : decode yB 3 = .ok (.iload 5, 2) := by decide +kernel
theorem d5 : decode yB 5 = .ok (.iload 4, 2) := by decide +kernel
theorem d7 : decode yB 7 = .ok (.if_icmp (.ge) 37, 3) := by decide +kernel
theorem d10 : decode yB 10 = .ok (.aload_n 0, 1) := by decide +kernel
theorem d11 : decode yB 11 = .ok (.iload_n 1, 1) := by decide +kernel
theorem d12 : decode yB 12 = .ok (.caload, 1) := by decide +kernel
theorem d13 : decode yB 13 = .ok (.istore 6, 2) := by decide +kernel
theorem d15 : decode yB 15 = .ok (.iload 6, 2) := by decide +kernel
theorem d17 : decode yB 17 = .ok (.sipush 255, 3) := by decide +kernel
theorem d20 : decode yB 20 = .ok (.if_icmp (.le) 6, 3) := by decide +kernel
theorem d26 : decode yB 26 = .ok (.aload_n 2, 1) := by decide +kernel
theorem d27 : decode yB 27 = .ok (.iload_n 3, 1) := by decide +kernel
theorem d28 : decode yB 28 = .ok (.iload 6, 2) := by decide +kernel
theorem d30 : decode yB 30 = .ok (.i2b, 1) := by decide +kernel
theorem d31 : decode yB 31 = .ok (.bastore, 1) := by decide +kernel
theorem d32 : decode yB 32 = .ok (.iinc 1 1, 3) := by decide +kernel
theorem d35 : decode yB 35 = .ok (.iinc 3 1, 3) := by decide +kernel
theorem d38 : decode yB 38 = .ok (.iinc 5 1, 3) := by decide +kernel
theorem d41 : decode yB 41 = .ok (.goto (-38), 3) := by decide +kernel
theorem d44 : decode yB 44 = .ok (.iload 4, 2) := by decide +kernel
theorem d46 : decode yB 46 = .ok (.ireturn, 1) := by decide +kernel
def site : List Cond := []
def tab : Cond := tabOf yN yB 7 (some .int) site
def P (b : Addr) (A : Cell) (d : Addr) (B : Cell) (o q len : Nat) (args : Array Value) (s : State) : Prop := args = #[.ref b, .int (Int32.ofNat o), .ref d, .int (Int32.ofNat q), .int (Int32.ofNat len)] ∧ Ch b A s ∧ Arr .byte d B s ∧ b ≠ d ∧ o + len ≤ A.slots.size ∧ q + len ≤ B.slots.size ∧ ∀ i, i < len → ¬ 255 < cv A (o + i)
def E (b : Addr) (A : Cell) (d : Addr) (B : Cell) (o q len : Nat) (r : Option Value) (s u : State) : Prop := r = some (.int (Int32.ofNat len)) ∧ ∃ B', Put d B' s u ∧ Laid B B' q (q + len) (fun j => Value.int (lo8 (cv A (o + (j - q)))))
/-- no char of the range above 255: len; the places written hold each char's low byte -/
theorem law (l : Launch) (b : Addr) (A : Cell) (d : Addr) (B : Cell) (o q len : Nat) : Law l yN 5 5 0 0 yB 7 (some .int) site (P b A d B o q len) (E b A d B o q len) (copyLocs d q len) 0 0 := by
  refine Law.of_walk (plainFor_of_name (by decide +kernel)) (by decide +kernel) (by decide +kernel) (by decide) (fun _ _ h => by rw [h.1]; rfl) (fun _ U U' hal hh h => ⟨h.1, h.2.1.mv hal hh, h.2.2.1.mv hal hh, h.2.2.2⟩) (fun r U U' V V' h1 hal h2 h => ⟨h.1, h.2.elim fun B' q => ⟨B', q.1.mv h1 h2, q.2⟩⟩) ?_
  intro p e s m args below meth c s₁ X0 hexec hbytes hml hret hlk hnm hown hh0 W hP
  obtain ⟨rfl, hA, hB, hne, l1, l2, hp⟩ := hP
  have c1 : Steps p.tables e below (s₁.setTop (entryFrame m #[.ref b, .int (Int32.ofNat o), .ref d, .int (Int32.ofNat q), .int (Int32.ofNat len)] 7)) (s₁.setTop (mkF m 0 #[.val (.ref b), .val (.int (Int32.ofNat o)), .val (.ref d), .val (.int (Int32.ofNat q)), .val (.int (Int32.ofNat len)), .unset, .unset] [])) := entry rfl
  have hA0 := hA.1.mv X0.warmed.alike hh0
  have hB0 := hB.mv X0.warmed.alike hh0
  have a31 := hA.1.2.2.2
  have c2 : Steps p.tables e below (s₁.setTop (entryFrame m #[.ref b, .int (Int32.ofNat o), .ref d, .int (Int32.ofNat q), .int (Int32.ofNat len)] 7)) (s₁.setTop (mkF m 3 #[.val (.ref b), .val (.int (Int32.ofNat o)), .val (.ref d), .val (.int (Int32.ofNat q)), .val (.int (Int32.ofNat len)), .val (.int 0), .unset] [])) := c1.trans (by
    refine iconstV X0.here hexec rfl 0 (hb hbytes d0) (by decide) ?_
    refine XS.istore X0.here hexec rfl (hb hbytes d1) rfl rfl ?_
    exact Steps.refl _)
  have loop : ∀ (r i : Nat), i + r = len → ∀ (z : Slot), (z = .unset ∨ ∃ w, z = .val w ∧ w.category = 1) → ∀ (Tl : State) (Bk : Cell), Stand p l e { frames := 0, locals := 0, cells := 0, slots := 0 } s m #[.ref b, .int (Int32.ofNat o), .ref d, .int (Int32.ofNat q), .int (Int32.ofNat len)] below meth c Tl ([] ++ copyLocs d q i) 0 0 → Put d Bk s₁ Tl → Laid B Bk q (q + i) (fun j => Value.int (lo8 (cv A (o + (j - q))))) →
      Steps p.tables e below (s₁.setTop (entryFrame m #[.ref b, .int (Int32.ofNat o), .ref d, .int (Int32.ofNat q), .int (Int32.ofNat len)] 7)) (Tl.setTop (mkF m 3 #[.val (.ref b), .val (.int (Int32.ofNat (o + i))), .val (.ref d), .val (.int (Int32.ofNat (q + i))), .val (.int (Int32.ofNat len)), .val (.int (Int32.ofNat i)), z] [])) → ∃ (T' : State) (B' : Cell) (z' : Slot), Stand p l e { frames := 0, locals := 0, cells := 0, slots := 0 } s m #[.ref b, .int (Int32.ofNat o), .ref d, .int (Int32.ofNat q), .int (Int32.ofNat len)] below meth c T' ([] ++ copyLocs d q len) 0 0 ∧ Put d B' s₁ T' ∧ Laid B B' q (q + len) (fun j => Value.int (lo8 (cv A (o + (j - q))))) ∧
      Steps p.tables e below (s₁.setTop (entryFrame m #[.ref b, .int (Int32.ofNat o), .ref d, .int (Int32.ofNat q), .int (Int32.ofNat len)] 7)) (T'.setTop (mkF m 3 #[.val (.ref b), .val (.int (Int32.ofNat (o + len))), .val (.ref d), .val (.int (Int32.ofNat (q + len))), .val (.int (Int32.ofNat len)), .val (.int (Int32.ofNat len)), z'] [])) := by
    intro r
    induction r with
    | zero =>
      intro i hi z hz Tl Bk Xl pl fl cl
      have hil : i = len := by omega
      rw [hil] at Xl fl cl
      exact ⟨Tl, Bk, z, Xl, pl, fl, cl⟩
    | succ r ih =>
      intro i hi z hz Tl Bk Xl pl fl cl
      have all := X0.warmed.alike.symm.trans Xl.warmed.alike
      have hAl := hA0.keep all (pl.other hne hA0.1)
      have hBk := hB0.like all pl.1 fl.1 fl.2.1 fl.2.2.1
      have hlt : q + i < Bk.slots.size := by rw [fl.2.2.1]; omega
      have c3 : Steps p.tables e below (s₁.setTop (entryFrame m #[.ref b, .int (Int32.ofNat o), .ref d, .int (Int32.ofNat q), .int (Int32.ofNat len)] 7)) (Tl.setTop (mkF m 12 #[.val (.ref b), .val (.int (Int32.ofNat (o + i))), .val (.ref d), .val (.int (Int32.ofNat (q + i))), .val (.int (Int32.ofNat len)), .val (.int (Int32.ofNat i)), z] [.int (Int32.ofNat (o + i)), .ref b])) := cl.trans (by
        refine XS.iload Xl.here hexec rfl (hb hbytes d3) rfl ?_
        refine XS.iload Xl.here hexec rfl (hb hbytes d5) rfl ?_
        refine XS.icmpNo Xl.here hexec rfl (hb hbytes d7) rfl (ii_ge_f (lt32 (by omega) (by omega))) ?_
        refine XS.aloadN Xl.here hexec rfl (hb hbytes d10) rfl rfl ?_
        refine XS.iloadN Xl.here hexec rfl (hb hbytes d11) rfl ?_
        exact Steps.refl _)
      have c4 : Steps p.tables e below (s₁.setTop (entryFrame m #[.ref b, .int (Int32.ofNat o), .ref d, .int (Int32.ofNat q), .int (Int32.ofNat len)] 7)) (Tl.setTop (mkF m 13 #[.val (.ref b), .val (.int (Int32.ofNat (o + i))), .val (.ref d), .val (.int (Int32.ofNat (q + i))), .val (.int (Int32.ofNat len)), .val (.int (Int32.ofNat i)), z] [.int (cv A (o + i))])) := c3.trans (by
        refine Xl.aget hexec hAl rfl (hA.get (i := o + i) (by omega)) rfl rfl (hb hbytes d12) ?_
        exact Steps.refl _)
      have c5 : Steps p.tables e below (s₁.setTop (entryFrame m #[.ref b, .int (Int32.ofNat o), .ref d, .int (Int32.ofNat q), .int (Int32.ofNat len)] 7)) (Tl.setTop (mkF m 15 #[.val (.ref b), .val (.int (Int32.ofNat (o + i))), .val (.ref d), .val (.int (Int32.ofNat (q + i))), .val (.int (Int32.ofNat len)), .val (.int (Int32.ofNat i)), .val (.int (cv A (o + i)))] [])) := c4.trans (by
        refine XS.istoreS Xl.here hexec rfl (hb hbytes d13) rfl rfl hz ?_
        exact Steps.refl _)
      have c6 : Steps p.tables e below (s₁.setTop (entryFrame m #[.ref b, .int (Int32.ofNat o), .ref d, .int (Int32.ofNat q), .int (Int32.ofNat len)] 7)) (Tl.setTop (mkF m 31 #[.val (.ref b), .val (.int (Int32.ofNat (o + i))), .val (.ref d), .val (.int (Int32.ofNat (q + i))), .val (.int (Int32.ofNat len)), .val (.int (Int32.ofNat i)), .val (.int (cv A (o + i)))] [.int (lo8 (cv A (o + i))), .int (Int32.ofNat (q + i)), .ref d])) := c5.trans (by
        refine XS.iload Xl.here hexec rfl (hb hbytes d15) rfl ?_
        refine sipushV Xl.here hexec rfl 255 (hb hbytes d17) (by decide) ?_
        refine XS.icmpYes Xl.here hexec rfl (pc0 := 20) rfl (hb hbytes d20) rfl (ii_le_t (hp i (by omega))) (by decide) rfl ?_
        refine XS.aloadN Xl.here hexec rfl (hb hbytes d26) rfl rfl ?_
        refine XS.iloadN Xl.here hexec rfl (hb hbytes d27) rfl ?_
        refine XS.iload Xl.here hexec rfl (hb hbytes d28) rfl ?_
        refine i2b Xl.here hexec rfl (hb hbytes d30) rfl ?_
        exact Steps.refl _)
      obtain ⟨T7, X7, p7, st7⟩ := Xl.aput hexec hBk rfl hlt rfl (fits_lo8 (cv A (o + i))) (g := (mkF m 31 #[.val (.ref b), .val (.int (Int32.ofNat (o + i))), .val (.ref d), .val (.int (Int32.ofNat (q + i))), .val (.int (Int32.ofNat len)), .val (.int (Int32.ofNat i)), .val (.int (cv A (o + i)))] [.int (lo8 (cv A (o + i))), .int (Int32.ofNat (q + i)), .ref d])) rfl (rest := []) rfl (hb hbytes d31)
      have c8 : Steps p.tables e below (s₁.setTop (entryFrame m #[.ref b, .int (Int32.ofNat o), .ref d, .int (Int32.ofNat q), .int (Int32.ofNat len)] 7)) (T7.setTop (mkF m 32 #[.val (.ref b), .val (.int (Int32.ofNat (o + i))), .val (.ref d), .val (.int (Int32.ofNat (q + i))), .val (.int (Int32.ofNat len)), .val (.int (Int32.ofNat i)), .val (.int (cv A (o + i)))] [])) := c6.trans (st7 _ (Steps.refl _))
      have c9 : Steps p.tables e below (s₁.setTop (entryFrame m #[.ref b, .int (Int32.ofNat o), .ref d, .int (Int32.ofNat q), .int (Int32.ofNat len)] 7)) (T7.setTop (mkF m 3 #[.val (.ref b), .val (.int (Int32.ofNat (o + i) + 1)), .val (.ref d), .val (.int (Int32.ofNat (q + i) + 1)), .val (.int (Int32.ofNat len)), .val (.int (Int32.ofNat i + 1)), .val (.int (cv A (o + i)))] [])) := c8.trans (by
        refine iincV X7.here hexec rfl 1 (hb hbytes d32) (by decide) rfl rfl ?_
        refine iincV X7.here hexec rfl 1 (hb hbytes d35) (by decide) rfl rfl ?_
        refine iincV X7.here hexec rfl 1 (hb hbytes d38) (by decide) rfl rfl ?_
        refine XS.goto X7.here hexec rfl (pc0 := 41) rfl (hb hbytes d41) (by decide) rfl ?_
        exact Steps.refl _)
      have c10 : Steps p.tables e below (s₁.setTop (entryFrame m #[.ref b, .int (Int32.ofNat o), .ref d, .int (Int32.ofNat q), .int (Int32.ofNat len)] 7)) (T7.setTop (mkF m 3 #[.val (.ref b), .val (.int (Int32.ofNat (o + (i + 1)))), .val (.ref d), .val (.int (Int32.ofNat (q + (i + 1)))), .val (.int (Int32.ofNat len)), .val (.int (Int32.ofNat (i + 1))), .val (.int (cv A (o + i)))] [])) := by
        have := c9
        rw [succ32, succ32, succ32] at this
        exact this
      exact ih (i + 1) (by omega) _ (Or.inr ⟨_, rfl, rfl⟩) T7 _ (by rw [copyLocs_step, ← List.append_assoc]; exact X7) (pl.trans p7) (fl.step (by omega) hlt (by simp)) c10
  obtain ⟨T9, B9, z9, X9, p9, f9, g9⟩ := loop len 0 (by omega) .unset (Or.inl rfl) s₁ B (by simpa [copyLocs] using X0) ⟨hB0.1, fun _ _ => rfl, rfl⟩ (Laid.zero _ _ _) c2
  have c11 : Steps p.tables e below (s₁.setTop (entryFrame m #[.ref b, .int (Int32.ofNat o), .ref d, .int (Int32.ofNat q), .int (Int32.ofNat len)] 7)) (T9.setTop (mkF m 46 #[.val (.ref b), .val (.int (Int32.ofNat (o + len))), .val (.ref d), .val (.int (Int32.ofNat (q + len))), .val (.int (Int32.ofNat len)), .val (.int (Int32.ofNat len)), z9] [.int (Int32.ofNat len)])) := g9.trans (by
    refine XS.iload X9.here hexec rfl (hb hbytes d3) rfl ?_
    refine XS.iload X9.here hexec rfl (hb hbytes d5) rfl ?_
    refine XS.icmpYes X9.here hexec rfl (pc0 := 7) rfl (hb hbytes d7) rfl (ii_ge_t (nlt32 (by omega) (Nat.le_refl _))) (by decide) rfl ?_
    refine XS.iload X9.here hexec rfl (hb hbytes d44) rfl ?_
    exact Steps.refl _)
  exact ⟨T9, some (.int (Int32.ofNat len)), _, _, _, X9, by simp, rfl, rfl, (fun h => by cases h), ⟨rfl, B9, p9.from hh0, f9⟩, fun fs hl => c11.trans (X9.ireturnOut hexec hret rfl (Or.inl rfl) (hb hbytes d46) hl)⟩
end Cmp5
namespace Cmp3
def yN : MethodName := ⟨"java/lang/StringUTF16", "compress", "([CII)[B"⟩
abbrev yB : ByteArray := jdk_52_method_16_code
theorem d0 : decode yB 0 = .ok (.iload_n 2, 1) := by decide +kernel
theorem d1 : decode yB 1 = .ok (.newarray .byte, 2) := by decide +kernel
theorem d3 : decode yB 3 = .ok (.astore_n 3, 1) := by decide +kernel
theorem d4 : decode yB 4 = .ok (.aload_n 0, 1) := by decide +kernel
theorem d5 : decode yB 5 = .ok (.iload_n 1, 1) := by decide +kernel
theorem d6 : decode yB 6 = .ok (.aload_n 3, 1) := by decide +kernel
theorem d7 : decode yB 7 = .ok (.iconst 0, 1) := by decide +kernel
theorem d8 : decode yB 8 = .ok (.iload_n 2, 1) := by decide +kernel
theorem d9 : decode yB 9 = .ok (.invokestatic 115, 3) := by decide +kernel
theorem d12 : decode yB 12 = .ok (.istore 4, 2) := by decide +kernel
theorem d14 : decode yB 14 = .ok (.iload 4, 2) := by decide +kernel
theorem d16 : decode yB 16 = .ok (.iload_n 2, 1) := by decide +kernel
theorem d17 : decode yB 17 = .ok (.if_icmp (.eq) 40, 3) := by decide +kernel
theorem d57 : decode yB 57 = .ok (.aload_n 3, 1) := by decide +kernel
theorem d58 : decode yB 58 = .ok (.areturn, 1) := by decide +kernel
def site : List Cond := [.arrayClass .byte, Cmp5.tab] ++ staticW U16 115 Cmp5.yN
def tab : Cond := tabOf yN yB 6 (some (.array .byte)) site
def P (b : Addr) (A : Cell) (o len : Nat) (args : Array Value) (s : State) : Prop := args = #[.ref b, .int (Int32.ofNat o), .int (Int32.ofNat len)] ∧ Ch b A s ∧ o + len ≤ A.slots.size ∧ len ≤ 536870912 ∧ ∀ i, i < len → ¬ 255 < cv A (o + i)
def E (b : Addr) (A : Cell) (o len : Nat) (r : Option Value) (s u : State) : Prop := NewArr .byte "[B" len (fun j => .int (lo8 (cv A (o + j)))) r s u ∧ u.heap.size = s.heap.size + 1
/-- no char of the range above 255: a new byte[] of their low bytes -/
theorem law (l : Launch) (b : Addr) (A : Cell) (o len : Nat) : Law l yN 3 3 1 18 yB 6 (some (.array .byte)) site (P b A o len) (E b A o len) [] 1 len := by
  refine Law.of_walk (plainFor_of_name (by decide +kernel)) (by decide +kernel) (by decide +kernel) (by decide) (fun _ _ h => by rw [h.1]; rfl) (fun _ U U' hal hh h => ⟨h.1, h.2.1.mv hal hh, h.2.2⟩) (fun r U U' V V' h1 hal h2 h => ⟨NewArr.mv r U U' V V' h1 hal h2 h.1, by rw [h1, h2]; exact h.2⟩) ?_
  intro p e s m args below meth c s₁ X0 hexec hbytes hml hret hlk hnm hown hh0 W hP
  obtain ⟨rfl, hA, l1, l2, hp⟩ := hP
  have a31 := hA.1.2.2.2
  have c1 : Steps p.tables e below (s₁.setTop (entryFrame m #[.ref b, .int (Int32.ofNat o), .int (Int32.ofNat len)] 6)) (s₁.setTop (mkF m 0 #[.val (.ref b), .val (.int (Int32.ofNat o)), .val (.int (Int32.ofNat len)), .unset, .unset, .unset] [])) := entry rfl
  have c2 : Steps p.tables e below (s₁.setTop (entryFrame m #[.ref b, .int (Int32.ofNat o), .int (Int32.ofNat len)] 6)) (s₁.setTop (mkF m 1 #[.val (.ref b), .val (.int (Int32.ofNat o)), .val (.int (Int32.ofNat len)), .unset, .unset, .unset] [.int (Int32.ofNat len)])) := c1.trans (by
    refine XS.iloadN X0.here hexec rfl (hb hbytes d0) rfl ?_
    exact Steps.refl _)
  obtain ⟨T3, B3, X3, ba3, bs3, bv3, bh3, bf3, st3⟩ := X0.anew hexec (atype := .byte) (wk W (.arrayClass .byte)) rfl (by show len * 1 ≤ _; omega) (by omega) (g := (mkF m 1 #[.val (.ref b), .val (.int (Int32.ofNat o)), .val (.int (Int32.ofNat len)), .unset, .unset, .unset] [.int (Int32.ofNat len)])) rfl (hb hbytes d1) (rest := []) rfl (Nat.le_refl _) (by show 0 + len ≤ len; omega)
  rw [hh0] at ba3 st3
  have kp3 : XT.Kept s T3 := (XT.Kept.of_eq hh0).push bh3
  have hA3 := hA.keep X3.warmed.alike (kp3 _ _ hA.1.1)
  have hne : b ≠ s.heap.size := hA.1.ne
  have c4 : Steps p.tables e below (s₁.setTop (entryFrame m #[.ref b, .int (Int32.ofNat o), .int (Int32.ofNat len)] 6)) (T3.setTop (mkF m 3 #[.val (.ref b), .val (.int (Int32.ofNat o)), .val (.int (Int32.ofNat len)), .unset, .unset, .unset] [.ref s.heap.size])) := c2.trans (st3 _ (Steps.refl _))
  have c5 : Steps p.tables e below (s₁.setTop (entryFrame m #[.ref b, .int (Int32.ofNat o), .int (Int32.ofNat len)] 6)) (T3.setTop (mkF m 9 #[.val (.ref b), .val (.int (Int32.ofNat o)), .val (.int (Int32.ofNat len)), .val (.ref s.heap.size), .unset, .unset] [.int (Int32.ofNat len), .int 0, .ref s.heap.size, .int (Int32.ofNat o), .ref b])) := c4.trans (by
    refine XS.astoreN X3.here hexec rfl (hb hbytes d3) rfl rfl rfl ?_
    refine XS.aloadN X3.here hexec rfl (hb hbytes d4) rfl rfl ?_
    refine XS.iloadN X3.here hexec rfl (hb hbytes d5) rfl ?_
    refine XS.aloadN X3.here hexec rfl (hb hbytes d6) rfl rfl ?_
    refine iconstV X3.here hexec rfl 0 (hb hbytes d7) (by decide) ?_
    refine XS.iloadN X3.here hexec rfl (hb hbytes d8) rfl ?_
    exact Steps.refl _)
  obtain ⟨v6, T6, X6, E6, g6⟩ := X3.callS hexec (Cmp5.law l b A s.heap.size B3 o 0 len) hown (wks W (staticW U16 115 Cmp5.yN)) (wk W Cmp5.tab) (W := 0) (Nat.le_of_ble_eq_true rfl) (Nat.le_of_ble_eq_true rfl) (Nat.le_refl _) (by show 0 + len + 0 ≤ len; omega) (g := (mkF m 9 #[.val (.ref b), .val (.int (Int32.ofNat o)), .val (.int (Int32.ofNat len)), .val (.ref s.heap.size), .unset, .unset] [.int (Int32.ofNat len), .int (Int32.ofNat 0), .ref s.heap.size, .int (Int32.ofNat o), .ref b])) rfl (by rw [hml]; rfl) c5 (argsL := [.ref b, .int (Int32.ofNat o), .ref s.heap.size, .int (Int32.ofNat 0), .int (Int32.ofNat len)]) (rest := []) rfl rfl (by show 2 * 0 + 0 ≤ _; decide) (hb hbytes d9) (⟨rfl, hA3, ba3, hne, l1, by rw [bs3]; simp, hp⟩)
  obtain ⟨rfl, B6, p6, f6⟩ := E6
  have c7 : Steps p.tables e below (s₁.setTop (entryFrame m #[.ref b, .int (Int32.ofNat o), .int (Int32.ofNat len)] 6)) (T6.setTop (mkF m 12 #[.val (.ref b), .val (.int (Int32.ofNat o)), .val (.int (Int32.ofNat len)), .val (.ref s.heap.size), .unset, .unset] [.int (Int32.ofNat len)])) := g6
  have c8 : Steps p.tables e below (s₁.setTop (entryFrame m #[.ref b, .int (Int32.ofNat o), .int (Int32.ofNat len)] 6)) (T6.setTop (mkF m 58 #[.val (.ref b), .val (.int (Int32.ofNat o)), .val (.int (Int32.ofNat len)), .val (.ref s.heap.size), .val (.int (Int32.ofNat len)), .unset] [.ref s.heap.size])) := c7.trans (by
    refine XS.istore X6.here hexec rfl (hb hbytes d12) rfl rfl ?_
    refine XS.iload X6.here hexec rfl (hb hbytes d14) rfl ?_
    refine XS.iloadN X6.here hexec rfl (hb hbytes d16) rfl ?_
    refine XS.icmpYes X6.here hexec rfl (pc0 := 17) rfl (hb hbytes d17) rfl (ii_eq_t rfl) (by decide) rfl ?_
    refine XS.aloadN X6.here hexec rfl (hb hbytes d57) rfl rfl ?_
    exact Steps.refl _)
  have X8 := X6.wide (L' := []) (cells' := 1) (slots' := len) (fun x hx hlt => by
    simp only [List.nil_append, copyLocs, List.mem_map, List.mem_range] at hx
    obtain ⟨i, -, rfl⟩ := hx
    exact absurd hlt (Nat.lt_irrefl _)) (Nat.le_refl _) (by omega)
  exact ⟨T6, some (.ref s.heap.size), _, _, _, X8, rfl, rfl, rfl, (fun h => by cases h), ⟨⟨rfl, B6, ba3.like (X3.warmed.alike.symm.trans X6.warmed.alike) p6.1 f6.1 f6.2.1 f6.2.2.1, f6.2.1.trans bv3, by rw [X6.warmed.alike.findClass, f6.1]; exact bf3, by rw [f6.2.2.1, bs3]; simp, fun j hj => by rw [f6.2.2.2 j, if_pos (by omega)]; rfl, kp3.put p6 (Nat.le_refl _)⟩, by rw [p6.2.2, bh3, hh0]; simp⟩, fun fs hl => c8.trans (X8.areturnOut hexec rfl hret rfl (hb hbytes d58) hl)⟩
end Cmp3
namespace CodL
def yN : MethodName := ⟨"java/lang/StringUTF16", "coderFromArrayLen", "([BI)B"⟩
abbrev yB : ByteArray := jdk_52_method_15_code
theorem d0 : decode yB 0 = .ok (.iload_n 1, 1) := by decide +kernel
theorem d1 : decode yB 1 = .ok (.aload_n 0, 1) := by decide +kernel
theorem d2 : decode yB 2 = .ok (.arraylength, 1) := by decide +kernel
theorem d3 : decode yB 3 = .ok (.isub, 1) := by decide +kernel
theorem d4 : decode yB 4 = .ok (.bipush 31, 2) := by decide +kernel
theorem d6 : decode yB 6 = .ok (.iushr, 1) := by decide +kernel
theorem d7 : decode yB 7 = .ok (.i2b, 1) := by decide +kernel
theorem d8 : decode yB 8 = .ok (.ireturn, 1) := by decide +kernel
def site : List Cond := []
def tab : Cond := tabOf yN yB 2 (some .byte) site
def P (d : Addr) (B : Cell) (args : Array Value) (s : State) : Prop := args = #[.ref d, .int (Int32.ofNat B.slots.size)] ∧ Arr .byte d B s
def E (r : Option Value) (s u : State) : Prop := XT.PureE (some (.int 0)) r s u
/-- an array as long as the number of chars: LATIN1 -/
theorem law (l : Launch) (d : Addr) (B : Cell) : Law l yN 2 2 0 0 yB 2 (some .byte) site (P d B) E [] 0 0 := by
  refine Law.of_walk (plainFor_of_name (by decide +kernel)) (by decide +kernel) (by decide +kernel) (by decide) (fun _ _ h => by rw [h.1]; rfl) (fun _ U U' hal hh h => ⟨h.1, h.2.mv hal hh⟩) (fun r U U' V V' h1 hal h2 h => XT.PureE.mv r U U' V V' h1 hal h2 h) ?_
  intro p e s m args below meth c s₁ X0 hexec hbytes hml hret hlk hnm hown hh0 W hP
  obtain ⟨rfl, hB⟩ := hP
  have hB0 := hB.mv X0.warmed.alike hh0
  have c1 : Steps p.tables e below (s₁.setTop (entryFrame m #[.ref d, .int (Int32.ofNat B.slots.size)] 2)) (s₁.setTop (mkF m 0 #[.val (.ref d), .val (.int (Int32.ofNat B.slots.size))] [])) := entry rfl
  have c2 : Steps p.tables e below (s₁.setTop (entryFrame m #[.ref d, .int (Int32.ofNat B.slots.size)] 2)) (s₁.setTop (mkF m 2 #[.val (.ref d), .val (.int (Int32.ofNat B.slots.size))] [.ref d, .int (Int32.ofNat B.slots.size)])) := c1.trans (by
    refine XS.iloadN X0.here hexec rfl (hb hbytes d0) rfl ?_
    refine XS.aloadN X0.here hexec rfl (hb hbytes d1) rfl rfl ?_
    exact Steps.refl _)
  have c3 : Steps p.tables e below (s₁.setTop (entryFrame m #[.ref d, .int (Int32.ofNat B.slots.size)] 2)) (s₁.setTop (mkF m 8 #[.val (.ref d), .val (.int (Int32.ofNat B.slots.size))] [.int (lo8 (ushr (Int32.ofNat B.slots.size - Int32.ofNat B.slots.size) 31))])) := c2.trans (by
    refine X0.alen hexec hB0 rfl rfl (hb hbytes d2) ?_
    refine XS.isub X0.here hexec rfl (hb hbytes d3) rfl ?_
    refine bipushV X0.here hexec rfl 31 (hb hbytes d4) (by decide) ?_
    refine iushr X0.here hexec rfl (hb hbytes d6) rfl ?_
    refine i2b X0.here hexec rfl (hb hbytes d7) rfl ?_
    exact Steps.refl _)
  have e0 : lo8 (ushr (Int32.ofNat B.slots.size - Int32.ofNat B.slots.size) 31) = 0 := by rw [Int32.sub_self]; decide
  rw [e0] at c3
  exact ⟨s₁, some (.int 0), _, _, _, X0, rfl, rfl, rfl, (fun h => by cases h), ⟨rfl, hh0⟩, fun fs hl => c3.trans (X0.ireturnOut hexec hret rfl (Or.inr (Or.inr (Or.inl rfl))) (hb hbytes d8) hl)⟩
end CodL
/-- the String at a is Latin-1 over a new byte[] (the heap's one new cell): the low bytes of the len chars of A from o on; every cell but a is kept -/
def Got (a : Addr) (D : Cell) (fV fC : Field) (A : Cell) (o len : Nat) (r : Option Value) (s u : State) : Prop := r = none ∧ ∃ D' V : Cell, Blank "java/lang/String" a D' u ∧ Same D D' [fV.slot, fC.slot] ∧ D'.slots[fV.slot]? = some (.ref s.heap.size) ∧ D'.slots[fC.slot]? = some (.int 0) ∧ Arr .byte s.heap.size V u ∧ V.vm = .none ∧ u.vm.findClass "[B" = some V.cls ∧ V.slots.size = len ∧ (∀ j, j < len → V.slots[j]? = some (.int (lo8 (cv A (o + j))))) ∧ (∀ (y : Addr) (c : Cell), y ≠ a → s.heap[y]? = some c → u.heap[y]? = some c) ∧ u.heap.size = s.heap.size + 1
theorem Got.mv {a : Addr} {D A : Cell} {fV fC : Field} {o len : Nat} : ∀ r (U U' V V' : State), U'.heap = U.heap → V.vm.Alike V'.vm → V'.heap = V.heap → Got a D fV fC A o len r U V → Got a D fV fC A o len r U' V' :=
  fun r U U' V V' h1 hal h2 ⟨e0, D', X, a1, a2, a3, a4, a5, a6, a7, a8, a9, a10, a11⟩ => ⟨e0, D', X, a1.mv hal h2, a2, by rw [h1]; exact a3, a4, by rw [h1]; exact a5.mv hal h2, a6, by rw [hal.findClass]; exact a7, a8, a9, by rw [h1, h2]; exact a10, by rw [h1, h2]; exact a11⟩
namespace New4
def yN : MethodName := ⟨"java/lang/String", "<init>", "([CIILjava/lang/Void;)V"⟩
abbrev yB : ByteArray := jdk_42_method_149_code
theorem d0 : decode yB 0 = .ok (.aload_n 0, 1) := by decide +kernel
theorem d1 : decode yB 1 = .ok (.invokespecial 1, 3) := by decide +kernel
theorem d4 : decode yB 4 = .ok (.iload_n 3, 1) := by decide +kernel
theorem d5 : decode yB 5 = .ok (.ifCond (.ne) 22, 3) := by decide +kernel
theorem d27 : decode yB 27 = .ok (.getstatic 38, 3) := by decide +kernel
theorem d30 : decode yB 30 = .ok (.ifCond (.eq) 28, 3) := by decide +kernel
theorem d33 : decode yB 33 = .ok (.aload_n 1, 1) := by decide +kernel
theorem d34 : decode yB 34 = .ok (.iload_n 2, 1) := by decide +kernel
theorem d35 : decode yB 35 = .ok (.iload_n 3, 1) := by decide +kernel
theorem d36 : decode yB 36 = .ok (.invokestatic 177, 3) := by decide +kernel
theorem d39 : decode yB 39 = .ok (.astore 5, 2) := by decide +kernel
theorem d41 : decode yB 41 = .ok (.aload_n 0, 1) := by decide +kernel
theorem d42 : decode yB 42 = .ok (.aload 5, 2) := by decide +kernel
theorem d44 : decode yB 44 = .ok (.iload_n 3, 1) := by decide +kernel
theorem d45 : decode yB 45 = .ok (.invokestatic 47, 3) := by decide +kernel
theorem d48 : decode yB 48 = .ok (.putfield 15, 3) := by decide +kernel
theorem d51 : decode yB 51 = .ok (.aload_n 0, 1) := by decide +kernel
theorem d52 : decode yB 52 = .ok (.aload 5, 2) := by decide +kernel
theorem d54 : decode yB 54 = .ok (.putfield 9, 3) := by decide +kernel
theorem d57 : decode yB 57 = .ok (.return_, 1) := by decide +kernel
def site : List Cond := [.fieldLink "java/lang/String" 38 "java/lang/String" "COMPACT_STRINGS" "Z", Cmp3.tab, CodL.tab, .laysFinal "java/lang/String" "java/lang/String" "value" "[B", .fieldLink "java/lang/String" 9 "java/lang/String" "value" "[B", .laysFinal "java/lang/String" "java/lang/String" "coder" "B", .fieldLink "java/lang/String" 15 "java/lang/String" "coder" "B"] ++ objW "java/lang/String" 1 ++ staticW "java/lang/String" 177 Cmp3.yN ++ staticW "java/lang/String" 47 CodL.yN
def tab : Cond := tabOf yN yB 6 none site
def P (a : Addr) (D : Cell) (fV fC : Field) (b : Addr) (A : Cell) (z : Int32) (o len : Nat) (args : Array Value) (s : State) : Prop := args = #[.ref a, .ref b, .int (Int32.ofNat o), .int (Int32.ofNat len), .null] ∧ Blank "java/lang/String" a D s ∧ Found "java/lang/String" "value" "[B" fV s ∧ Found "java/lang/String" "coder" "B" fC s ∧ Ch b A s ∧ StaticIs s "java/lang/String" "COMPACT_STRINGS" "Z" (.int z) ∧ ¬ z = 0 ∧ 0 < len ∧ o + len ≤ A.slots.size ∧ len ≤ 536870912 ∧ ∀ i, i < len → ¬ 255 < cv A (o + i)
def E (a : Addr) (D : Cell) (fV fC : Field) (A : Cell) (o len : Nat) (r : Option Value) (s u : State) : Prop := Got a D fV fC A o len r s u
/-- len > 0, no char of the range above 255: a Latin-1 String of their low bytes -/
theorem law (l : Launch) (a : Addr) (D : Cell) (fV fC : Field) (b : Addr) (A : Cell) (z : Int32) (o len : Nat) : Law l yN 5 4 2 35 yB 6 none site (P a D fV fC b A z o len) (E a D fV fC A o len) [⟨a, fC.slot⟩, ⟨a, fV.slot⟩] 1 len := by
  refine Law.of_walk (plainFor_of_name (by decide +kernel)) (by decide +kernel) (by decide +kernel) (by decide) (fun _ _ h => by rw [h.1]; rfl) (fun _ U U' hal hh h => ⟨h.1, h.2.1.mv hal hh, h.2.2.1.al hal, h.2.2.2.1.al hal, h.2.2.2.2.1.mv hal hh, h.2.2.2.2.2.1.there hal hh, h.2.2.2.2.2.2⟩) (fun r U U' V V' h1 hal h2 h => Got.mv r U U' V V' h1 hal h2 h) ?_
  intro p e s m args below meth c s₁ X0 hexec hbytes hml hret hlk hnm hown hh0 W hP
  obtain ⟨rfl, hB, f1, f2, hA, s1, hz, l0, l1, l2, hp⟩ := hP
  have a31 := hA.1.2.2.2
  have c1 : Steps p.tables e below (s₁.setTop (entryFrame m #[.ref a, .ref b, .int (Int32.ofNat o), .int (Int32.ofNat len), .null] 6)) (s₁.setTop (mkF m 0 #[.val (.ref a), .val (.ref b), .val (.int (Int32.ofNat o)), .val (.int (Int32.ofNat len)), .val .null, .unset] [])) := entry rfl
  have c2 : Steps p.tables e below (s₁.setTop (entryFrame m #[.ref a, .ref b, .int (Int32.ofNat o), .int (Int32.ofNat len), .null] 6)) (s₁.setTop (mkF m 1 #[.val (.ref a), .val (.ref b), .val (.int (Int32.ofNat o)), .val (.int (Int32.ofNat len)), .val .null, .unset] [.ref a])) := c1.trans (by
    refine XS.aloadN X0.here hexec rfl (hb hbytes d0) rfl rfl ?_
    exact Steps.refl _)
  obtain ⟨T3, X3, q3, st3⟩ := X0.oinit hexec hown (wks W (objW "java/lang/String" 1)) (g := (mkF m 1 #[.val (.ref a), .val (.ref b), .val (.int (Int32.ofNat o)), .val (.int (Int32.ofNat len)), .val .null, .unset] [.ref a])) rfl (by rw [hml]; rfl) (rest := []) rfl (hb hbytes d1) (W := 0) (by show 2 * 0 + 0 ≤ _; decide) (Nat.le_of_ble_eq_true rfl) (Nat.le_of_ble_eq_true rfl)
  have hh3 := q3.trans hh0
  have c4 : Steps p.tables e below (s₁.setTop (entryFrame m #[.ref a, .ref b, .int (Int32.ofNat o), .int (Int32.ofNat len), .null] 6)) (T3.setTop (mkF m 27 #[.val (.ref a), .val (.ref b), .val (.int (Int32.ofNat o)), .val (.int (Int32.ofNat len)), .val .null, .unset] [])) := (c2.trans (st3 _ (Steps.refl _))).trans (by
    refine XS.iloadN X3.here hexec rfl (hb hbytes d4) rfl ?_
    refine XS.ifYes X3.here hexec rfl (pc0 := 5) rfl (hb hbytes d5) rfl (i0_ne_t (nz32 (by omega) l0)) (by decide) rfl ?_
    exact Steps.refl _)
  obtain ⟨T5, X5, q5, st5⟩ := X3.sget hexec hown (wk W (.fieldLink "java/lang/String" 38 "java/lang/String" "COMPACT_STRINGS" "Z")) s1 (fun _ _ h => by rw [hh3]; exact h) (g := (mkF m 27 #[.val (.ref a), .val (.ref b), .val (.int (Int32.ofNat o)), .val (.int (Int32.ofNat len)), .val .null, .unset] [])) rfl (hb hbytes d27)
  have hh5 := q5.trans hh3
  have c6 : Steps p.tables e below (s₁.setTop (entryFrame m #[.ref a, .ref b, .int (Int32.ofNat o), .int (Int32.ofNat len), .null] 6)) (T5.setTop (mkF m 30 #[.val (.ref a), .val (.ref b), .val (.int (Int32.ofNat o)), .val (.int (Int32.ofNat len)), .val .null, .unset] [.int z])) := c4.trans (st5 _ (Steps.refl _))
  have c7 : Steps p.tables e below (s₁.setTop (entryFrame m #[.ref a, .ref b, .int (Int32.ofNat o), .int (Int32.ofNat len), .null] 6)) (T5.setTop (mkF m 36 #[.val (.ref a), .val (.ref b), .val (.int (Int32.ofNat o)), .val (.int (Int32.ofNat len)), .val .null, .unset] [.int (Int32.ofNat len), .int (Int32.ofNat o), .ref b])) := c6.trans (by
    refine XS.ifNo X5.here hexec rfl (hb hbytes d30) rfl (i0_eq_f hz) ?_
    refine XS.aloadN X5.here hexec rfl (hb hbytes d33) rfl rfl ?_
    refine XS.iloadN X5.here hexec rfl (hb hbytes d34) rfl ?_
    refine XS.iloadN X5.here hexec rfl (hb hbytes d35) rfl ?_
    exact Steps.refl _)
  obtain ⟨v8, T8, X8, E8, g8⟩ := X5.callS hexec (Cmp3.law l b A o len) hown (wks W (staticW "java/lang/String" 177 Cmp3.yN)) (wk W Cmp3.tab) (W := 0) (Nat.le_of_ble_eq_true rfl) (Nat.le_of_ble_eq_true rfl) (Nat.le_refl _) (by show 0 + len ≤ len; omega) (g := (mkF m 36 #[.val (.ref a), .val (.ref b), .val (.int (Int32.ofNat o)), .val (.int (Int32.ofNat len)), .val .null, .unset] [.int (Int32.ofNat len), .int (Int32.ofNat o), .ref b])) rfl (by rw [hml]; rfl) c7 (argsL := [.ref b, .int (Int32.ofNat o), .int (Int32.ofNat len)]) (rest := []) rfl rfl (by show 2 * 0 + 0 ≤ _; decide) (hb hbytes d36) (⟨rfl, hA.mv X5.warmed.alike hh5, l1, l2, hp⟩)
  obtain ⟨e8, z8⟩ := E8
  obtain ⟨rfl, N, n1, n2, n3, n4, n5, n6⟩ := NewArr.mv _ T5 s _ _ hh5.symm (Vm.Alike.refl _) rfl e8
  rw [hh5] at z8
  have hB1 := hB.keep X8.warmed.alike (n6 _ _ hB.1)
  have hne : s.heap.size ≠ a := (Nat.ne_of_lt (Array.getElem?_eq_some_iff.mp hB.1).1).symm
  have c9 : Steps p.tables e below (s₁.setTop (entryFrame m #[.ref a, .ref b, .int (Int32.ofNat o), .int (Int32.ofNat len), .null] 6)) (T8.setTop (mkF m 39 #[.val (.ref a), .val (.ref b), .val (.int (Int32.ofNat o)), .val (.int (Int32.ofNat len)), .val .null, .unset] [.ref s.heap.size])) := g8
  have c10 : Steps p.tables e below (s₁.setTop (entryFrame m #[.ref a, .ref b, .int (Int32.ofNat o), .int (Int32.ofNat len), .null] 6)) (T8.setTop (mkF m 45 #[.val (.ref a), .val (.ref b), .val (.int (Int32.ofNat o)), .val (.int (Int32.ofNat len)), .val .null, .val (.ref s.heap.size)] [.int (Int32.ofNat N.slots.size), .ref s.heap.size, .ref a])) := by
    have hc : Steps p.tables e below (s₁.setTop (entryFrame m #[.ref a, .ref b, .int (Int32.ofNat o), .int (Int32.ofNat len), .null] 6)) (T8.setTop (mkF m 45 #[.val (.ref a), .val (.ref b), .val (.int (Int32.ofNat o)), .val (.int (Int32.ofNat len)), .val .null, .val (.ref s.heap.size)] [.int (Int32.ofNat len), .ref s.heap.size, .ref a])) := c9.trans (by
      refine XS.astore X8.here hexec rfl (hb hbytes d39) rfl rfl rfl ?_
      refine XS.aloadN X8.here hexec rfl (hb hbytes d41) rfl rfl ?_
      refine XS.aload X8.here hexec rfl (hb hbytes d42) rfl rfl ?_
      refine XS.iloadN X8.here hexec rfl (hb hbytes d44) rfl ?_
      exact Steps.refl _)
    rw [n4]; exact hc
  obtain ⟨v11, T11, X11, E11, g11⟩ := X8.callS hexec (CodL.law l s.heap.size N) hown (wks W (staticW "java/lang/String" 47 CodL.yN)) (wk W CodL.tab) (W := 1) (Nat.le_of_ble_eq_true rfl) (Nat.le_of_ble_eq_true rfl) (Nat.le_refl _) (by show 0 + len + 0 ≤ len; omega) (g := (mkF m 45 #[.val (.ref a), .val (.ref b), .val (.int (Int32.ofNat o)), .val (.int (Int32.ofNat len)), .val .null, .val (.ref s.heap.size)] [.int (Int32.ofNat N.slots.size), .ref s.heap.size, .ref a])) rfl (by rw [hml]; rfl) c10 (argsL := [.ref s.heap.size, .int (Int32.ofNat N.slots.size)]) (rest := [.ref a]) rfl rfl (by show 2 * 0 + (1 + 0) ≤ _; decide) (hb hbytes d45) (⟨rfl, n1⟩)
  obtain ⟨rfl, q11⟩ := E11
  have hB11 := hB1.mv (X8.warmed.alike.symm.trans X11.warmed.alike) q11
  have c12 : Steps p.tables e below (s₁.setTop (entryFrame m #[.ref a, .ref b, .int (Int32.ofNat o), .int (Int32.ofNat len), .null] 6)) (T11.setTop (mkF m 48 #[.val (.ref a), .val (.ref b), .val (.int (Int32.ofNat o)), .val (.int (Int32.ofNat len)), .val .null, .val (.ref s.heap.size)] [.int 0, .ref a])) := g11
  obtain ⟨T13, X13, p13, bl13, sl13, st13⟩ := X11.finit hexec hown (wk W (.fieldLink "java/lang/String" 15 "java/lang/String" "coder" "B")) (Or.inr ⟨_, (wk W (.laysFinal "java/lang/String" "java/lang/String" "coder" "B"))⟩) (Or.inl ⟨rfl, hnm⟩) f2 (Or.inl rfl) hB11 (t := .byte) (by decide +kernel) rfl (g := (mkF m 48 #[.val (.ref a), .val (.ref b), .val (.int (Int32.ofNat o)), .val (.int (Int32.ofNat len)), .val .null, .val (.ref s.heap.size)] [.int 0, .ref a])) rfl (rest := []) rfl (hb hbytes d48)
  have c14 : Steps p.tables e below (s₁.setTop (entryFrame m #[.ref a, .ref b, .int (Int32.ofNat o), .int (Int32.ofNat len), .null] 6)) (T13.setTop (mkF m 54 #[.val (.ref a), .val (.ref b), .val (.int (Int32.ofNat o)), .val (.int (Int32.ofNat len)), .val .null, .val (.ref s.heap.size)] [.ref s.heap.size, .ref a])) := (c12.trans (st13 _ (Steps.refl _))).trans (by
    refine XS.aloadN X13.here hexec rfl (hb hbytes d51) rfl rfl ?_
    refine XS.aload X13.here hexec rfl (hb hbytes d52) rfl rfl ?_
    exact Steps.refl _)
  obtain ⟨T15, X15, p15, bl15, sl15, st15⟩ := X13.finit hexec hown (wk W (.fieldLink "java/lang/String" 9 "java/lang/String" "value" "[B")) (Or.inr ⟨_, (wk W (.laysFinal "java/lang/String" "java/lang/String" "value" "[B"))⟩) (Or.inl ⟨rfl, hnm⟩) f1 (Or.inl rfl) bl13 (t := (.array .byte)) (by decide +kernel) rfl (g := (mkF m 54 #[.val (.ref a), .val (.ref b), .val (.int (Int32.ofNat o)), .val (.int (Int32.ofNat len)), .val .null, .val (.ref s.heap.size)] [.ref s.heap.size, .ref a])) rfl (rest := []) rfl (hb hbytes d54)
  have c16 : Steps p.tables e below (s₁.setTop (entryFrame m #[.ref a, .ref b, .int (Int32.ofNat o), .int (Int32.ofNat len), .null] 6)) (T15.setTop (mkF m 57 #[.val (.ref a), .val (.ref b), .val (.int (Int32.ofNat o)), .val (.int (Int32.ofNat len)), .val .null, .val (.ref s.heap.size)] [])) := c14.trans (st15 _ (Steps.refl _))
  have ap := apart (Or.inr ⟨_, (wk W (.laysFinal "java/lang/String" "java/lang/String" "value" "[B"))⟩) (Or.inr ⟨_, (wk W (.laysFinal "java/lang/String" "java/lang/String" "coder" "B"))⟩) f1 f2 (t₁ := .array .byte) (t₂ := .byte) (by decide +kernel) (by decide +kernel) (by decide)
  have al := X8.warmed.alike.symm.trans X15.warmed.alike
  have n7 : T11.heap[s.heap.size]? = some N := by rw [q11]; exact n1.1
  exact ⟨T15, none, _, _, _, X15, by simp, rfl, by omega, (fun _ => rfl), ⟨rfl, _, N, bl15, ((Same.refl D _).set _ (by simp)).set _ (by simp), sl15, (Cell.slots_setSlot_ne _ ap).trans sl13, n1.keep al (p15.other hne (p13.other hne n7)), n2, by rw [al.findClass]; exact n3, n4, n5, fun y c h1 h2 => p15.other h1 (p13.other h1 (by rw [q11]; exact n6 y c h2)), by rw [p15.2.2, p13.2.2, q11]; exact z8⟩, fun fs hl => c16.trans (X15.returnOut hexec hret (hb hbytes d57) hl)⟩
end New4
namespace New1
def yN : MethodName := ⟨"java/lang/String", "<init>", "([C)V"⟩
abbrev yB : ByteArray := jdk_42_method_3_code
theorem d0 : decode yB 0 = .ok (.aload_n 0, 1) := by decide +kernel
theorem d1 : decode yB 1 = .ok (.aload_n 1, 1) := by decide +kernel
theorem d2 : decode yB 2 = .ok (.iconst 0, 1) := by decide +kernel
theorem d3 : decode yB 3 = .ok (.aload_n 1, 1) := by decide +kernel
theorem d4 : decode yB 4 = .ok (.arraylength, 1) := by decide +kernel
theorem d5 : decode yB 5 = .ok (.aconst_null, 1) := by decide +kernel
theorem d6 : decode yB 6 = .ok (.invokespecial 27, 3) := by decide +kernel
theorem d9 : decode yB 9 = .ok (.return_, 1) := by decide +kernel
def site : List Cond := [New4.tab] ++ initW "java/lang/String" 27 New4.yN
def tab : Cond := tabOf yN yB 2 none site
def P (a : Addr) (D : Cell) (fV fC : Field) (b : Addr) (A : Cell) (z : Int32) (args : Array Value) (s : State) : Prop := args = #[.ref a, .ref b] ∧ Blank "java/lang/String" a D s ∧ Found "java/lang/String" "value" "[B" fV s ∧ Found "java/lang/String" "coder" "B" fC s ∧ Ch b A s ∧ StaticIs s "java/lang/String" "COMPACT_STRINGS" "Z" (.int z) ∧ ¬ z = 0 ∧ 0 < A.slots.size ∧ A.slots.size ≤ 536870912 ∧ ∀ i, i < A.slots.size → ¬ 255 < cv A i
def E (a : Addr) (D : Cell) (fV fC : Field) (A : Cell) (r : Option Value) (s u : State) : Prop := Got a D fV fC A 0 A.slots.size r s u
/-- new String(chars), not empty, no char above 255: a Latin-1 String of their low bytes -/
theorem law (l : Launch) (a : Addr) (D : Cell) (fV fC : Field) (b : Addr) (A : Cell) (z : Int32) : Law l yN 2 1 3 52 yB 2 none site (P a D fV fC b A z) (E a D fV fC A) [⟨a, fC.slot⟩, ⟨a, fV.slot⟩] 1 A.slots.size := by
  refine Law.of_walk (plainFor_of_name (by decide +kernel)) (by decide +kernel) (by decide +kernel) (by decide) (fun _ _ h => by rw [h.1]; rfl) (fun _ U U' hal hh h => ⟨h.1, h.2.1.mv hal hh, h.2.2.1.al hal, h.2.2.2.1.al hal, h.2.2.2.2.1.mv hal hh, h.2.2.2.2.2.1.there hal hh, h.2.2.2.2.2.2⟩) (fun r U U' V V' h1 hal h2 h => Got.mv r U U' V V' h1 hal h2 h) ?_
  intro p e s m args below meth c s₁ X0 hexec hbytes hml hret hlk hnm hown hh0 W hP
  obtain ⟨rfl, hB, f1, f2, hA, s1, hz, l0, l2, hp⟩ := hP
  have c1 : Steps p.tables e below (s₁.setTop (entryFrame m #[.ref a, .ref b] 2)) (s₁.setTop (mkF m 0 #[.val (.ref a), .val (.ref b)] [])) := entry rfl
  have c2 : Steps p.tables e below (s₁.setTop (entryFrame m #[.ref a, .ref b] 2)) (s₁.setTop (mkF m 6 #[.val (.ref a), .val (.ref b)] [.null, .int (Int32.ofNat A.slots.size), .int 0, .ref b, .ref a])) := c1.trans (by
    refine XS.aloadN X0.here hexec rfl (hb hbytes d0) rfl rfl ?_
    refine XS.aloadN X0.here hexec rfl (hb hbytes d1) rfl rfl ?_
    refine iconstV X0.here hexec rfl 0 (hb hbytes d2) (by decide) ?_
    refine XS.aloadN X0.here hexec rfl (hb hbytes d3) rfl rfl ?_
    refine X0.alen hexec (hA.1.mv X0.warmed.alike hh0) rfl rfl (hb hbytes d4) ?_
    refine XS.aconstNull X0.here hexec rfl (hb hbytes d5) ?_
    exact Steps.refl _)
  obtain ⟨v3, T3, X3, E3, g3⟩ := X0.callN hexec (New4.law l a D fV fC b A z 0 A.slots.size) rfl hown (wks W (initW "java/lang/String" 27 New4.yN)) (W New4.tab (by simp only [site, List.mem_cons, List.mem_append, true_or, or_true])) (W := 0) (Nat.le_of_ble_eq_true rfl) (Nat.le_of_ble_eq_true rfl) (Nat.le_refl _) (by show 0 + A.slots.size ≤ A.slots.size; omega) (g := (mkF m 6 #[.val (.ref a), .val (.ref b)] [.null, .int (Int32.ofNat A.slots.size), .int (Int32.ofNat 0), .ref b, .ref a])) rfl (by rw [hml]; rfl) c2 (argsL := [.ref b, .int (Int32.ofNat 0), .int (Int32.ofNat A.slots.size), .null]) (rest := []) rfl rfl (by show 2 * 0 + 0 ≤ _; decide) (hb hbytes d6) (⟨rfl, hB.mv X0.warmed.alike hh0, f1.al X0.warmed.alike, f2.al X0.warmed.alike, hA.mv X0.warmed.alike hh0, s1.there X0.warmed.alike hh0, hz, l0, by omega, l2, fun i hi => by rw [Nat.zero_add]; exact hp i hi⟩)
  have e0 := Got.mv _ s₁ s _ _ hh0.symm (Vm.Alike.refl _) rfl E3
  obtain rfl := e0.1
  have c4 : Steps p.tables e below (s₁.setTop (entryFrame m #[.ref a, .ref b] 2)) (T3.setTop (mkF m 9 #[.val (.ref a), .val (.ref b)] [])) := g3
  exact ⟨T3, none, _, _, _, X3, by simp, rfl, by omega, (fun _ => rfl), e0, fun fs hl => c4.trans (X3.returnOut hexec hret (hb hbytes d9) hl)⟩
theorem pays {l : Launch} {R : Room} {p : Program} {e : Env} {below : List Frame} {s : State} {sargs : Array Value} {len W : Nat} (a : Addr) (D : Cell) (fV fC : Field) (b : Addr) (A : Cell) (z : Int32) (htab : tab.before sargs s = true) (hfr : 4 ≤ R.frames) (hlo : W + 65 ≤ R.locals) :
    Back l R p e below s sargs yN len W (fun A₁ a₁ => A₁.cells + 1 ≤ R.cells ∧ A₁.slots + A.slots.size ≤ R.slots ∧ P a D fV fC b A z a₁ A₁.U) (fun A₁ _ v₁ B₁ => E a D fV fC A v₁ A₁.U B₁.U ∧ B₁.locs = A₁.locs ++ [⟨a, fC.slot⟩, ⟨a, fV.slot⟩] ∧ B₁.cells = A₁.cells + 1 ∧ B₁.slots = A₁.slots + A.slots.size) :=
  (law l a D fV fC b A z).pays htab hfr (by omega)
end New1
/-- the byte, read back as charAt reads it, is the char -/
theorem lo8_mask {x : Int32} (h0 : ¬ x < 0) (h1 : ¬ 255 < x) : lo8 x &&& 255 = x := by
  have t : ∀ k : Fin 256, lo8 (Int32.ofNat k.val) &&& 255 = Int32.ofNat k.val := by decide +kernel
  rw [Int32.lt_iff_toInt_lt] at h0 h1
  have e0 : (0 : Int32).toInt = 0 := rfl
  have e1 : (255 : Int32).toInt = 255 := rfl
  obtain ⟨k, hk⟩ : ∃ k : Nat, x.toInt = k := ⟨x.toInt.toNat, by omega⟩
  have hx : x = Int32.ofNat k := Int32.toInt_inj.mp (by rw [hk, Int32.toInt_ofNat_small (by omega)])
  rw [hx]
  exact t ⟨k, by omega⟩
end StrChars
namespace StrChars.Road
open Jvm Sem ClassFile Op Lib Jvm.Stand Jvm.Free Jvm.Free.XT
open Jvm.Lib.Cold (StaticIs)
abbrev ST : String := "java/lang/String"
/-- every table word that New1's law asks, flat -/
abbrev words : List Jvm.Cond := [.code New1.yN New1.yB 2 none, .initialized ST, .methodLink ST 27 New4.yN, .instanceMethod New4.yN,
  .code New4.yN New4.yB 6 none, .fieldLink ST 38 ST "COMPACT_STRINGS" "Z", .laysFinal ST ST "value" "[B", .fieldLink ST 9 ST "value" "[B", .laysFinal ST ST "coder" "B", .fieldLink ST 15 ST "coder" "B",
  .methodLink ST 1 Lib.objectInit, .instanceMethod Lib.objectInit, .code Lib.objectInit ⟨#[0xb1]⟩ 1 none, .methodLink ST 177 Cmp3.yN, .static Cmp3.yN, .methodLink ST 47 CodL.yN, .static CodL.yN,
  .code Cmp3.yN Cmp3.yB 6 (some (.array .byte)), .initialized U16, .arrayClass .byte, .methodLink U16 115 Cmp5.yN, .static Cmp5.yN, .code Cmp5.yN Cmp5.yB 7 (some .int), .code CodL.yN CodL.yB 2 (some .byte)]
theorem tab_of {a : Array Value} {s : State} (h : ∀ w ∈ words, w.before a s = true) : New1.tab.before a s = true := by
  have h5 : Cmp5.tab.before a s = true := unparts (wk h (.code Cmp5.yN Cmp5.yB 7 (some .int))) (wks h (.initialized Cmp5.yN.cls :: Cmp5.site))
  have hc : CodL.tab.before a s = true := unparts (wk h (.code CodL.yN CodL.yB 2 (some .byte))) (wks h (.initialized CodL.yN.cls :: CodL.site))
  have q5 : ∀ w ∈ Cmp5.tab :: words, w.before a s = true := fun w hw => (List.mem_cons.mp hw).elim (fun e => e ▸ h5) (h w)
  have h3 : Cmp3.tab.before a s = true := unparts (wk q5 (.code Cmp3.yN Cmp3.yB 6 (some (.array .byte)))) (wks q5 (.initialized Cmp3.yN.cls :: Cmp3.site))
  have q3 : ∀ w ∈ Cmp3.tab :: CodL.tab :: words, w.before a s = true := fun w hw => (List.mem_cons.mp hw).elim (fun e => e ▸ h3) fun hw => (List.mem_cons.mp hw).elim (fun e => e ▸ hc) (h w)
  have h4 : New4.tab.before a s = true := unparts (wk q3 (.code New4.yN New4.yB 6 none)) (wks q3 (.initialized New4.yN.cls :: New4.site))
  have q4 : ∀ w ∈ New4.tab :: words, w.before a s = true := fun w hw => (List.mem_cons.mp hw).elim (fun e => e ▸ h4) (h w)
  exact unparts (wk q4 (.code New1.yN New1.yB 2 none)) (wks q4 (.initialized New1.yN.cls :: New1.site))
/-- the words ride from the start Z to the walk's own state -/
theorem moved {Z s : State} {a0 args : Array Value} (hZ : Z.Warmed39 s.vm) (hw : ∀ d ∈ words, d.before a0 Z = true) : ∀ d ∈ words, d.before args s = true := fun d hd => by
  have q := hw d hd
  have t : ∀ d ∈ words, d = .arrayClass .byte ∨ (d.onTables && d.keepsFace) = true := by decide +kernel
  rcases t d hd with rfl | t
  · exact RoadKit.mvA hZ q
  · exact RoadKit.mv hZ q t
/-- WHAT COMES BACK, over the tables of the start Z: h the heap at the call, h' behind it -/
def Q (Z : State) (x : Addr) (A : Cell) (h : Heap) (v : Option Value) (h' : Heap) (L : List Loc) : Prop := v = none ∧ (∀ y ∈ L, y.base = x) ∧ RoadKit.Keep h h' [x] ∧ h'.size = h.size + 1 ∧ RoadKit.Exa Z h' x ST ∧ RoadKit.Fld Z h' x ST "value" "[B" (.ref h.size) ∧ RoadKit.Fld Z h' x ST "coder" "B" (.int 0) ∧
  (∃ V : Cell, RoadKit.Arr Z h' h.size V .byte ∧ V.vm = .none ∧ Z.vm.findClass "[B" = some V.cls ∧ V.slots.size = A.slots.size ∧ ∀ j, j < A.slots.size → V.slots[j]? = some (.int (lo8 (cv A j)))) ∧
  ∀ (O n d : String) (w : Value), RoadKit.Fld Z h x O n d w → RoadKit.slotOf Z O n d ≠ RoadKit.slotOf Z ST "value" "[B" → RoadKit.slotOf Z O n d ≠ RoadKit.slotOf Z ST "coder" "B" → RoadKit.Fld Z h' x O n d w
/-- **new String(chars) AT A CALL, IN THE ROAD'S FORM**: for specialBack behind newO: x the fresh String, b the char[] with the cell A -/
theorem back {p : Program} {l : Launch} {e : Env} {R : Room} {s : State} {args : Array Value} {below : List Frame} {len W : Nat} {Z : State} {a0 : Array Value} {h : Heap} (hZ : Z.Warmed39 s.vm) (hw : ∀ d ∈ words, d.before a0 Z = true) {kI : Nat} (wi : (Jvm.Cond.instantiable ST kI).before a0 Z = true)
    {x b : Addr} {A : Cell} {z : Int32} {v0 c0 : Value} (E : RoadKit.Exa Z h x ST) (V : RoadKit.Fld Z h x ST "value" "[B" v0) (C : RoadKit.Fld Z h x ST "coder" "B" c0) (K : RoadKit.Arr Z h b A .char) (hty : Typed .char A) (S : RoadKit.Sta Z h ST "COMPACT_STRINGS" "Z" (.int z)) (hz : ¬ z = 0)
    (l0 : 0 < A.slots.size) (l2 : A.slots.size ≤ 536870912) (hp : ∀ i, i < A.slots.size → ¬ 255 < cv A i) (hfr : 4 ≤ R.frames) (hlo : W + 65 ≤ R.locals) :
    Back l R p e below s args New1.yN len W (fun P a => a = #[.ref x, .ref b] ∧ P.U.heap = h ∧ P.cells + 1 ≤ R.cells ∧ P.slots + A.slots.size ≤ R.slots)
      (fun P _ v B => ∃ L, Q Z x A h v B.U.heap L ∧ B.locs = P.locs ++ L ∧ B.cells = P.cells + 1 ∧ B.slots = P.slots + A.slots.size) := by
  intro m meth c P g ig mk a X hg hsize hdg hW hn hp'
  obtain ⟨rfl, rfl, r1, r2⟩ := hp'
  have al : Z.vm.Alike P.U.vm := hZ.alike.trans X.warmed.alike
  obtain ⟨D, cfV, kV, iV, fV, hD, gV, stV, knV, obV, asV, slV⟩ := id V
  obtain ⟨D', cfC, kC, iC, fC, hD', gC, stC, -, -, asC, slC⟩ := id C
  cases hD.symm.trans hD'
  obtain ⟨D2, kD, e1, e2, e3, e4, e5⟩ := id E
  cases hD.symm.trans e1
  obtain ⟨c2, k2, i1, i2, i3, -⟩ := Cond.instantiable_spec wi
  cases e2.symm.trans i1
  cases e3.symm.trans i2
  obtain ⟨kU, u1, u2⟩ := al.2.2 _ _ e3
  have hB : Blank ST x D P.U := ⟨hD, ⟨knV, fun q hq => by rw [hq] at obV; cases obV⟩, by rw [al.findClass]; exact e2, kU, u1, by rw [u2]; exact i3, by rw [u2]; exact e5 i3⟩
  have F1 : Found ST "value" "[B" fV P.U := ⟨SBG.found_only al ⟨cfV, kV, iV, gV⟩, stV⟩
  have F2 : Found ST "coder" "B" fC P.U := ⟨SBG.found_only al ⟨cfC, kC, iC, gC⟩, stC⟩
  have hA : Ch b A P.U := ⟨⟨K.1, State.isArrayOf_alike al K.2.1, K.2.2, by omega⟩, hty⟩
  have hS : StaticIs P.U ST "COMPACT_STRINGS" "Z" (.int z) := by
    obtain ⟨cfS, iS, kS, fS, st, cS, t1, t2, t3, t4, t5, t6, t7⟩ := S
    exact StaticIs.there (s := { Z with heap := P.U.heap }) ⟨cfS, iS, kS, fS, st, cS, t1, t2, t3, t4, t5, (fun q => by rw [q] at t6; cases t6), t7⟩ al rfl
  obtain ⟨v, B, X', ⟨⟨hv, E', V', q1, q2, q3, q4, q5, q6, q7, q8, q9, q10, q11⟩, hl, hc, hs⟩, st⟩ := New1.pays x D fV fC b A z (tab_of (moved hZ hw)) hfr hlo m meth c P g ig mk _ X hg hsize hdg hW hn ⟨r1, r2, rfl, hB, F1, F2, hA, hS, hz, l0, l2, hp⟩
  have al' : Z.vm.Alike B.U.vm := hZ.alike.trans X'.warmed.alike
  have hsz : E'.slots.size = D.slots.size := by
    obtain ⟨-, -, -, kB, w1, w2, w3⟩ := q1
    obtain ⟨kB', y1, y2⟩ := al'.2.2 _ _ e3
    rw [q2.2.1] at w1
    cases w1.symm.trans y1
    rw [w3, e5 i3, y2]
  refine ⟨v, B, X', ⟨_, ⟨hv, ?_, ⟨by omega, fun y cy hy hn' => q10 y cy (by simpa using hn') hy, fun y cy hy => ?_⟩, q11, ⟨E', _, q1.1, by rw [q2.2.1]; exact e2, by rw [q2.2.1]; exact e3, by rw [q2.1]; exact obV, fun _ => by rw [hsz]; exact e5 i3⟩,
    ⟨E', cfV, kV, iV, fV, q1.1, gV, stV, by rw [q2.1]; exact knV, by rw [q2.1]; exact obV, by rw [q2.2.1]; exact asV, q3⟩, ⟨E', cfC, kC, iC, fC, q1.1, gC, stC, by rw [q2.1]; exact knV, by rw [q2.1]; exact obV, by rw [q2.2.1]; exact asC, q4⟩,
    ⟨V', ⟨q5.1, State.isArrayOf_alike al'.symm q5.2.1, q5.2.2.1⟩, q6, by rw [← al'.findClass]; exact q7, q8, fun j hj => by have := q9 j hj; rwa [Nat.zero_add] at this⟩, fun O n d w F n1 n2 => ?_⟩, hl, hc, hs⟩, st⟩
  · intro y hy
    simp only [List.mem_cons, List.not_mem_nil, or_false] at hy
    rcases hy with rfl | rfl <;> rfl
  · by_cases q : y = x
    · subst q
      cases hD.symm.trans hy
      exact ⟨E', q1.1, q2.2.1, q2.1, hsz⟩
    · exact ⟨cy, q10 y cy q hy, rfl, rfl, rfl⟩
  · obtain ⟨D3, cf, k, i, f, g1, g2, g3, g4, g5, g6, g7⟩ := F
    cases hD.symm.trans g1
    simp only [RoadKit.slotOf, g2, gV, gC, Option.map_some, Option.getD_some] at n1 n2
    exact ⟨E', cf, k, i, f, q1.1, g2, g3, by rw [q2.1]; exact g4, by rw [q2.1]; exact g5, by rw [q2.2.1]; exact g6, by rw [q2.2.2 f.slot (by simp [n1, n2])]; exact g7⟩
end StrChars.Road
namespace StrChars.Road
open Jvm Sem ClassFile Op Lib Jvm.Stand Jvm.Free Jvm.Free.XT
/-- WHAT COMES BACK, the byte[] as a list of values -/
def QA (Z : State) (x : Addr) (zn : Int32) (cs : List Int32) (h : Heap) (v : Option Value) (h' : Heap) (L : List Loc) : Prop := v = none ∧ (∀ y ∈ L, y.base = x) ∧ RoadKit.Keep h h' [x] ∧ h'.size = h.size + 1 ∧ RoadKit.Exa Z h' x ST ∧ RoadKit.Fld Z h' x ST "value" "[B" (.ref h.size) ∧ RoadKit.Fld Z h' x ST "coder" "B" (.int 0) ∧
  (∃ kb, Z.vm.findClass "[B" = some kb ∧ RoadKit.Arv Z h' h.size kb .byte zn (cs.map fun c => .int (lo8 c)) (.int 0)) ∧
  ∀ (O n d : String) (w : Value), RoadKit.Fld Z h x O n d w → RoadKit.slotOf Z O n d ≠ RoadKit.slotOf Z ST "value" "[B" → RoadKit.slotOf Z O n d ≠ RoadKit.slotOf Z ST "coder" "B" → RoadKit.Fld Z h' x O n d w
/-- **new String(chars) AT A CALL, THE ARRAYS AS LISTS**: the char[] at b holds cs, not empty, no char above 255 -/
theorem backArv {p : Program} {l : Launch} {e : Env} {R : Room} {s : State} {args : Array Value} {below : List Frame} {len W : Nat} {Z : State} {a0 : Array Value} {h : Heap} (hZ : Z.Warmed39 s.vm) (hw : ∀ d ∈ words, d.before a0 Z = true) {kI : Nat} (wi : (Jvm.Cond.instantiable ST kI).before a0 Z = true)
    {x b : Addr} {k : ClassId} {zn z : Int32} {cs : List Int32} {dv v0 c0 : Value} (E : RoadKit.Exa Z h x ST) (V : RoadKit.Fld Z h x ST "value" "[B" v0) (C : RoadKit.Fld Z h x ST "coder" "B" c0) (K : RoadKit.Arv Z h b k .char zn (cs.map Value.int) dv) (S : RoadKit.Sta Z h ST "COMPACT_STRINGS" "Z" (.int z)) (hz : ¬ z = 0)
    (hlen : zn.toNatClampNeg = cs.length) (h0 : 0 < cs.length) (hbig : cs.length ≤ 536870912) (hall : ∀ c ∈ cs, ¬ 255 < c) (hfr : 4 ≤ R.frames) (hlo : W + 65 ≤ R.locals) :
    Back l R p e below s args New1.yN len W (fun P a => a = #[.ref x, .ref b] ∧ P.U.heap = h ∧ P.cells + 1 ≤ R.cells ∧ P.slots + cs.length ≤ R.slots)
      (fun P _ v B => ∃ L, QA Z x zn cs h v B.U.heap L ∧ B.locs = P.locs ++ L ∧ B.cells = P.cells + 1 ∧ B.slots = P.slots + cs.length) := by
  obtain ⟨A, K1, K2, K3, K4, K5, K6⟩ := K
  have e : A.slots.size = cs.length := K3.trans hlen
  have hat : ∀ (i : Nat) (hi : i < cs.length), A.slots[i]? = some (.int cs[i]) := fun i hi => by rw [K5 i (by omega)]; simp [List.getD_eq_getElem?_getD, hi]
  have hcv : ∀ (i : Nat) (hi : i < cs.length), cv A i = cs[i] := fun i hi => by unfold cv; rw [hat i hi]
  have hty : Typed .char A := fun i v hv => by
    have hi : i < A.slots.size := (Array.getElem?_eq_some_iff.mp hv).1
    have q := K5 i hi
    rw [hv] at q
    rw [Option.some.inj q]
    exact K6 i hi
  refine Back.mono (back hZ hw wi E V C K1 hty S hz (by omega) (by omega) (fun i hi => by rw [hcv i (by omega)]; exact hall _ (List.getElem_mem _)) hfr hlo) (fun P a hp => ⟨hp.1, hp.2.1, hp.2.2.1, by rw [e]; exact hp.2.2.2⟩) (fun P a v B hp hq => ?_)
  obtain ⟨L, ⟨q1, q2, q3, q4, q5, q6, q7, ⟨V', v1, v2, v3, v4, v5⟩, q9⟩, hl, hc, hs⟩ := hq
  refine ⟨L, ⟨q1, q2, q3, q4, q5, q6, q7, ⟨V'.cls, v3, V', v1, rfl, by rw [v4, e, hlen], K4, fun i hi => ?_, fun i hi => ?_⟩, q9⟩, hl, hc, by rw [hs, e]⟩
  · have hi' : i < cs.length := by omega
    rw [v5 i (by omega), hcv i hi']; simp [List.getD_eq_getElem?_getD, hi']
  · have hi' : i < cs.length := by omega
    simp only [List.getD_eq_getElem?_getD, List.getElem?_map, List.getElem?_eq_getElem hi', Option.map_some, Option.getD_some]
    exact fits_lo8 _
end StrChars.Road
namespace StrChars.Road
open Jvm Sem ClassFile Op Lib Jvm.Stand Jvm.Free Jvm.Free.XT
/-- WHAT COMES BACK, in the writer's own shape -/
def QV (Z : State) (x : Addr) (N : Int32) (bs : List Int32) (h : Heap) (n0 : Nat) (v : Option Value) (h' : Heap) (L : List Loc) : Prop := v = none ∧ RoadKit.Fr n0 L ∧ RoadKit.Keep h h' [x] ∧ RoadKit.Exa Z h' x ST ∧ RoadKit.Fld Z h' x ST "coder" "B" (.int 0) ∧
  ∃ (t : Addr) (kb : ClassId), n0 ≤ t ∧ h.size ≤ t ∧ ¬ t = x ∧ RoadKit.Fld Z h' x ST "value" "[B" (.ref t) ∧ RoadKit.Arv Z h' t kb .byte N (bs.map Value.int) (.int 0)
/-- **new String(chars) AT A CALL, FOR THE WRITER**: a char[] of n known ints, each 0 to 255 -/
theorem backV {p : Program} {l : Launch} {e : Env} {R : Room} {s : State} {args : Array Value} {below : List Frame} {len W : Nat} {Z : State} {a0 : Array Value} {h : Heap} (hZ : Z.Warmed39 s.vm) (hw : ∀ d ∈ words, d.before a0 Z = true) {kI : Nat} (wi : (Jvm.Cond.instantiable ST kI).before a0 Z = true)
    {x b : Addr} {kC : ClassId} {cs bs : List Int32} {d v0 c0 : Value} {z N : Int32} {n n0 : Nat} (hx0 : n0 ≤ x) (hh0 : n0 ≤ h.size) (E : RoadKit.Exa Z h x ST) (V : RoadKit.Fld Z h x ST "value" "[B" v0) (C : RoadKit.Fld Z h x ST "coder" "B" c0) (K : RoadKit.Arv Z h b kC .char N (cs.map Value.int) d) (S : RoadKit.Sta Z h ST "COMPACT_STRINGS" "Z" (.int z)) (hz : ¬ z = 0)
    (hn : cs.length = n) (hN : N = Int32.ofNat n) (l0 : 0 < n) (l2 : n ≤ 4000) (hp : ∀ c ∈ cs, ¬ c < 0 ∧ ¬ (255 : Int32) < c) (hb : bs = cs.map (fun c => c.toInt8.toInt32)) (hfr : 4 ≤ R.frames) (hlo : W + 65 ≤ R.locals) :
    Back l R p e below s args (⟨"java/lang/String", "<init>", "([C)V"⟩ : MethodName) len W (fun P a => a = #[.ref x, .ref b] ∧ P.U.heap = h ∧ P.cells + 1 ≤ R.cells ∧ P.slots + n ≤ R.slots)
      (fun P _ v B => ∃ L, QV Z x N bs h n0 v B.U.heap L ∧ B.locs = P.locs ++ L ∧ B.cells = P.cells + 1 ∧ B.slots = P.slots + n) := by
  subst hn hN hb
  refine Back.mono (backArv hZ hw wi E V C K S hz (n32 (by omega)) l0 (by omega) (fun c hc => (hp c hc).2) hfr hlo) (fun P a hp => hp) (fun P a v B hp hq => ?_)
  obtain ⟨L, ⟨q1, q2, q3, q4, q5, q6, q7, ⟨kb, v1, v2⟩, q9⟩, hl, hc, hs⟩ := hq
  exact ⟨L, ⟨q1, fun y hy => by rw [q2 y hy]; exact hx0, q3, q5, q7, h.size, kb, hh0, Nat.le_refl _, Nat.ne_of_gt E.lt, q6, by rw [List.map_map]; exact v2⟩, hl, hc, hs⟩
end StrChars.Road
namespace StrChars
open Jvm Sem ClassFile Op Lib Jvm.Stand Jvm.Free.XT Jvm.Free.ALB Jvm.Free.JM Jvm.Free
open Jvm.Lib.Cold (StaticIs)
def hi8 (x : Int32) : Int32 := lo8 (x >>> ((8 : Int32) &&& 31))
/-- what StringUTF16.getChar makes of two bytes -/
def pairCh (u v : Int32) : Int32 := (((u &&& 255) <<< ((0 : Int32) &&& 31)) ||| ((v &&& 255) <<< ((8 : Int32) &&& 31))).toUInt32.toUInt16.toUInt32.toInt32
theorem shr0 (c : Int32) : c >>> ((0 : Int32) &&& 31) = c := by
  have e : ((0 : Int32) &&& 31) = 0 := by decide
  rw [e]
  apply Int32.toBitVec_inj.mp
  rw [Int32.toBitVec_shiftRight]
  have e1 : ((0 : Int32).toBitVec.smod 32) = 0#32 := by decide
  rw [e1, BitVec.sshiftRight_eq']
  exact BitVec.sshiftRight_zero
theorem lo8_and (x : Int32) : (lo8 x &&& 255).toBitVec.toNat = x.toBitVec.toNat % 256 := by
  have h : (lo8 x).toBitVec = (x.toBitVec.signExtend 8).signExtend 32 := by rw [lo8, Int8.toBitVec_toInt32, Int32.toBitVec_toInt8]
  rw [Int32.toBitVec_and, BitVec.toNat_and, h]
  have e : ((x.toBitVec.signExtend 8).signExtend 32).toNat % 256 = x.toBitVec.toNat % 256 := by
    rw [BitVec.toNat_signExtend]
    have hlt := x.toBitVec.isLt
    simp only [BitVec.toNat_setWidth, BitVec.toNat_signExtend]
    split <;> split <;> omega
  rw [← e]
  exact Nat.and_two_pow_sub_one_eq_mod _ 8
theorem pair_says {c : Int32} (h0 : ¬ c < 0) (h1 : ¬ 65535 < c) : pairCh (lo8 c) (hi8 c) = c := by
  rw [Int32.lt_iff_toInt_lt] at h0 h1
  have e0 : (0 : Int32).toInt = 0 := rfl
  have e1 : (65535 : Int32).toInt = 65535 := rfl
  have hc : c.toInt = c.toBitVec.toNat := by
    have := c.toBitVec.isLt
    have e : c.toInt = c.toBitVec.toInt := rfl
    rw [e] at h0 h1
    rw [e]
    rw [BitVec.toInt_eq_toNat_cond] at h0 h1 ⊢
    split at h0 <;> split <;> omega
  have hn : c.toBitVec.toNat < 65536 := by omega
  have a1 := lo8_and c
  have a2 : (hi8 c &&& 255).toBitVec.toNat = c.toBitVec.toNat / 256 := by
    rw [hi8, lo8_and]
    have e : ((8 : Int32) &&& 31) = 8 := by decide
    rw [e, Int32.toBitVec_shiftRight]
    have e2 : ((8 : Int32).toBitVec.smod 32) = 8#32 := by decide
    rw [e2, BitVec.sshiftRight_eq', BitVec.toNat_sshiftRight_of_msb_false (by rw [BitVec.msb_eq_false_iff_two_mul_lt]; omega)]
    show c.toBitVec.toNat >>> 8 % 256 = _
    rw [Nat.shiftRight_eq_div_pow]
    omega
  unfold pairCh
  apply Int32.toBitVec_inj.mp
  apply BitVec.eq_of_toNat_eq
  have f0 : ((0 : Int32) &&& 31) = 0 := by decide
  have f8 : ((8 : Int32) &&& 31) = 8 := by decide
  rw [f0, f8]
  have g : (((lo8 c &&& 255) <<< (0 : Int32)) ||| ((hi8 c &&& 255) <<< (8 : Int32))).toBitVec.toNat = c.toBitVec.toNat := by
    rw [Int32.toBitVec_or, Int32.toBitVec_shiftLeft, Int32.toBitVec_shiftLeft]
    have s0 : ((0 : Int32).toBitVec.smod 32) = 0#32 := by decide
    have s8 : ((8 : Int32).toBitVec.smod 32) = 8#32 := by decide
    rw [s0, s8, BitVec.toNat_or]
    simp only [BitVec.shiftLeft_eq', BitVec.toNat_shiftLeft, a1, a2]
    show (c.toBitVec.toNat % 256) <<< 0 % 2 ^ 32 ||| (c.toBitVec.toNat / 256) <<< 8 % 2 ^ 32 = _
    rw [Nat.shiftLeft_zero, Nat.mod_eq_of_lt (show c.toBitVec.toNat % 256 < 2 ^ 32 by omega), Nat.mod_eq_of_lt (show (c.toBitVec.toNat / 256) <<< 8 < 2 ^ 32 by rw [Nat.shiftLeft_eq]; omega), Nat.or_comm, ← Nat.shiftLeft_add_eq_or_of_lt (by omega), Nat.shiftLeft_eq]
    omega
  show BitVec.toNat (((((lo8 c &&& 255) <<< (0 : Int32)) ||| ((hi8 c &&& 255) <<< (8 : Int32))).toBitVec.setWidth 16).setWidth 32) = _
  rw [BitVec.toNat_setWidth, BitVec.toNat_setWidth, g]
  omega
end StrChars
namespace StrChars
open Jvm Sem ClassFile Op Lib Jvm.Stand Jvm.Free.XT Jvm.Free.ALB Jvm.Free.JM Jvm.Free
open Jvm.Lib.Cold (StaticIs)
theorem shr1 {n : Nat} (h : 2 * n < 2 ^ 31) : Int32.ofNat (2 * n) >>> ((1 : Int32) &&& 31) = Int32.ofNat n := by
  have e : ((1 : Int32) &&& 31) = 1 := by decide
  rw [e]
  apply Int32.toBitVec_inj.mp
  rw [Int32.toBitVec_shiftRight]
  have e1 : ((1 : Int32).toBitVec.smod 32) = 1#32 := by decide
  have hm : (BitVec.ofNat 32 (2 * n)).toNat = 2 * n := by rw [BitVec.toNat_ofNat, Nat.mod_eq_of_lt (by omega)]
  rw [e1, BitVec.sshiftRight_eq']
  apply BitVec.eq_of_toNat_eq
  show ((BitVec.ofNat 32 (2 * n)).sshiftRight 1).toNat = (BitVec.ofNat 32 n).toNat
  rw [BitVec.toNat_sshiftRight_of_msb_false (by rw [BitVec.msb_eq_false_iff_two_mul_lt, hm]; omega), hm, BitVec.toNat_ofNat, Nat.shiftRight_eq_div_pow]
  omega
/-- charAt's cast of a byte read back -/
def chr8 (u : Int32) : Int32 := (u &&& 255).toUInt32.toUInt16.toUInt32.toInt32
theorem chr8_lo8 {c : Int32} (h0 : ¬ c < 0) (h1 : ¬ 255 < c) : chr8 (lo8 c) = c := by
  have t : ∀ k : Fin 256, (Int32.ofNat k.val).toUInt32.toUInt16.toUInt32.toInt32 = Int32.ofNat k.val := by decide +kernel
  unfold chr8
  rw [lo8_mask h0 h1]
  rw [Int32.lt_iff_toInt_lt] at h0 h1
  have e0 : (0 : Int32).toInt = 0 := rfl
  have e1 : (255 : Int32).toInt = 255 := rfl
  obtain ⟨k, hk⟩ : ∃ k : Nat, c.toInt = k := ⟨c.toInt.toNat, by omega⟩
  have hx : c = Int32.ofNat k := Int32.toInt_inj.mp (by rw [hk, Int32.toInt_ofNat_small (by omega)])
  rw [hx]
  exact t ⟨k, by omega⟩
theorem narrow_ch {c : Int32} (h0 : ¬ c < 0) (h1 : ¬ 65535 < c) : narrow .char (.int c) = .int c := by
  have q : narrow .char (.int (pairCh (lo8 c) (hi8 c))) = .int (pairCh (lo8 c) (hi8 c)) := narrow_c _
  rwa [pair_says h0 h1] at q
/-- the array's cell V codes the n chars f 0 .. f (n - 1) by the coder cd, as the JDK does: coder 1 just where some char is above 255 -/
def Cod (cd : Int32) (n : Nat) (f : Nat → Int32) (V : Cell) : Prop := (cd = 0 ∧ V.slots.size = n ∧ ∀ j, j < n → V.slots[j]? = some (.int (lo8 (f j))) ∧ ¬ 255 < f j) ∨ (cd = 1 ∧ V.slots.size = 2 * n ∧ (∀ j, j < n → V.slots[2 * j]? = some (.int (lo8 (f j))) ∧ V.slots[2 * j + 1]? = some (.int (hi8 (f j)))) ∧ ∃ j, j < n ∧ 255 < f j)
theorem Cod.cd {cd : Int32} {n : Nat} {f : Nat → Int32} {V : Cell} (h : Cod cd n f V) : cd = 0 ∨ cd = 1 := h.imp (fun q => q.1) fun q => q.1
theorem Cod.len {cd : Int32} {n : Nat} {f : Nat → Int32} {V : Cell} (h : Cod cd n f V) (hs : V.slots.size < 2 ^ 31) : Int32.ofNat V.slots.size >>> (cd &&& 31) = Int32.ofNat n := by
  rcases h with ⟨rfl, h, -⟩ | ⟨rfl, h, -⟩
  · rw [shr0, h]
  · rw [h, shr1 (by omega)]
/-- **x is a String of the n chars f 0 .. f (n - 1)**, Latin-1 or UTF-16; its array at t has the cell V -/
def Txt (x t : Addr) (V : Cell) (cd : Int32) (n : Nat) (f : Nat → Int32) (U : State) : Prop := Exact "java/lang/String" x U ∧ Has x "java/lang/String" "value" "[B" (.ref t) U ∧ Has x "java/lang/String" "coder" "B" (.int cd) U ∧ XT.Arr .byte t V U ∧ Cod cd n f V ∧ ∀ j, j < n → ¬ f j < 0 ∧ ¬ 65535 < f j
theorem Txt.mv {x t : Addr} {V : Cell} {cd : Int32} {n : Nat} {f : Nat → Int32} {U U' : State} (h : Txt x t V cd n f U) (hal : U.vm.Alike U'.vm) (hh : U'.heap = U.heap) : Txt x t V cd n f U' := ⟨h.1.mv hal hh, h.2.1.mv hal hh, h.2.2.1.mv hal hh, h.2.2.2.1.mv hal hh, h.2.2.2.2⟩
namespace Cdr
def yN : MethodName := ⟨"java/lang/String", "coder", "()B"⟩
abbrev yB : ByteArray := jdk_42_method_152_code
theorem d0 : decode yB 0 = .ok (.getstatic 38, 3) := by decide +kernel
theorem d3 : decode yB 3 = .ok (.ifCond (.eq) 10, 3) := by decide +kernel
theorem d6 : decode yB 6 = .ok (.aload_n 0, 1) := by decide +kernel
theorem d7 : decode yB 7 = .ok (.getfield 15, 3) := by decide +kernel
theorem d10 : decode yB 10 = .ok (.goto 4, 3) := by decide +kernel
theorem d14 : decode yB 14 = .ok (.ireturn, 1) := by decide +kernel
def site : List Cond := [.fieldLink "java/lang/String" 38 "java/lang/String" "COMPACT_STRINGS" "Z", .fieldLink "java/lang/String" 15 "java/lang/String" "coder" "B"]
def tab : Cond := tabOf yN yB 1 (some .byte) site
def P (x : Addr) (cd z : Int32) (args : Array Value) (s : State) : Prop := args = #[.ref x] ∧ Has x "java/lang/String" "coder" "B" (.int cd) s ∧ (cd = 0 ∨ cd = 1) ∧ StaticIs s "java/lang/String" "COMPACT_STRINGS" "Z" (.int z) ∧ ¬ z = 0
def E (cd : Int32) (r : Option Value) (s u : State) : Prop := XT.PureE (some (.int cd)) r s u
theorem law (l : Launch) (x : Addr) (cd z : Int32) : Law l yN 1 0 0 0 yB 1 (some .byte) site (P x cd z) (E cd) [] 0 0 := by
  refine Law.of_walk (plainFor_of_name (by decide +kernel)) (by decide +kernel) (by decide +kernel) (by decide) (fun _ _ h => by rw [h.1]; rfl) (fun _ U U' hal hh h => ⟨h.1, h.2.1.mv hal hh, h.2.2.1, h.2.2.2.1.there hal hh, h.2.2.2.2⟩) (fun r U U' V V' h1 hal h2 h => XT.PureE.mv r U U' V V' h1 hal h2 h) ?_
  intro p e s m args below meth c s₁ X0 hexec hbytes hml hret hlk hnm hown hh0 W hP
  obtain ⟨rfl, hx, hc, s1, hz⟩ := hP
  have c1 : Steps p.tables e below (s₁.setTop (entryFrame m #[.ref x] 1)) (s₁.setTop (mkF m 0 #[.val (.ref x)] [])) := entry rfl
  obtain ⟨T2, X2, q2, st2⟩ := X0.sget hexec hown (wk W (.fieldLink "java/lang/String" 38 "java/lang/String" "COMPACT_STRINGS" "Z")) s1 (fun _ _ h => by rw [hh0]; exact h) (g := (mkF m 0 #[.val (.ref x)] [])) rfl (hb hbytes d0)
  have hh2 := q2.trans hh0
  have c3 : Steps p.tables e below (s₁.setTop (entryFrame m #[.ref x] 1)) (T2.setTop (mkF m 7 #[.val (.ref x)] [.ref x])) := (c1.trans (st2 _ (Steps.refl _))).trans (by
    refine XS.ifNo X2.here hexec rfl (hb hbytes d3) rfl (i0_eq_f hz) ?_
    refine XS.aloadN X2.here hexec rfl (hb hbytes d6) rfl rfl ?_
    exact Steps.refl _)
  obtain ⟨T4, X4, q4, st4⟩ := X2.hget hexec hown (wk W (.fieldLink "java/lang/String" 15 "java/lang/String" "coder" "B")) (hx.mv X2.warmed.alike hh2) (g := (mkF m 7 #[.val (.ref x)] [.ref x])) rfl (rest := []) rfl (hb hbytes d7)
  have c5 : Steps p.tables e below (s₁.setTop (entryFrame m #[.ref x] 1)) (T4.setTop (mkF m 14 #[.val (.ref x)] [.int cd])) := (c3.trans (st4 _ (Steps.refl _))).trans (by
    refine XS.goto X4.here hexec rfl (pc0 := 10) rfl (hb hbytes d10) (by decide) rfl ?_
    exact Steps.refl _)
  exact ⟨T4, some (.int cd), _, _, _, X4, rfl, rfl, rfl, (fun h => by cases h), ⟨rfl, q4.trans hh2⟩, fun fs hl => c5.trans (X4.ireturnOut hexec hret (by rcases hc with rfl | rfl <;> rfl) (Or.inr (Or.inr (Or.inl rfl))) (hb hbytes d14) hl)⟩
end Cdr
namespace Len
def yN : MethodName := ⟨"java/lang/String", "length", "()I"⟩
abbrev yB : ByteArray := jdk_42_method_54_code
theorem d0 : decode yB 0 = .ok (.aload_n 0, 1) := by decide +kernel
theorem d1 : decode yB 1 = .ok (.getfield 9, 3) := by decide +kernel
theorem d4 : decode yB 4 = .ok (.arraylength, 1) := by decide +kernel
theorem d5 : decode yB 5 = .ok (.aload_n 0, 1) := by decide +kernel
theorem d6 : decode yB 6 = .ok (.invokevirtual 335, 3) := by decide +kernel
theorem d9 : decode yB 9 = .ok (.ishr, 1) := by decide +kernel
theorem d10 : decode yB 10 = .ok (.ireturn, 1) := by decide +kernel
def site : List Cond := [.fieldLink "java/lang/String" 9 "java/lang/String" "value" "[B", Cdr.tab] ++ virtW "java/lang/String" 335 "java/lang/String" Cdr.yN Cdr.yN
def tab : Cond := tabOf yN yB 1 (some .int) site
def P (x t : Addr) (V : Cell) (cd : Int32) (n : Nat) (f : Nat → Int32) (z : Int32) (args : Array Value) (s : State) : Prop := args = #[.ref x] ∧ Txt x t V cd n f s ∧ StaticIs s "java/lang/String" "COMPACT_STRINGS" "Z" (.int z) ∧ ¬ z = 0
def E (n : Nat) (r : Option Value) (s u : State) : Prop := XT.PureE (some (.int (Int32.ofNat n))) r s u
/-- length() of a String of n chars, in either coding -/
theorem law (l : Launch) (x t : Addr) (V : Cell) (cd : Int32) (n : Nat) (f : Nat → Int32) (z : Int32) : Law l yN 1 0 1 13 yB 1 (some .int) site (P x t V cd n f z) (E n) [] 0 0 := by
  refine Law.of_walk (plainFor_of_name (by decide +kernel)) (by decide +kernel) (by decide +kernel) (by decide) (fun _ _ h => by rw [h.1]; rfl) (fun _ U U' hal hh h => ⟨h.1, h.2.1.mv hal hh, h.2.2.1.there hal hh, h.2.2.2⟩) (fun r U U' V V' h1 hal h2 h => XT.PureE.mv r U U' V V' h1 hal h2 h) ?_
  intro p e s m args below meth c s₁ X0 hexec hbytes hml hret hlk hnm hown hh0 W hP
  obtain ⟨rfl, hx, s1, hz⟩ := hP
  have v31 := hx.2.2.2.1.2.2.2
  have c1 : Steps p.tables e below (s₁.setTop (entryFrame m #[.ref x] 1)) (s₁.setTop (mkF m 1 #[.val (.ref x)] [.ref x])) := Steps.trans (entry rfl) (by
    show Steps p.tables e below (s₁.setTop (mkF m 0 #[.val (.ref x)] [])) _
    refine XS.aloadN X0.here hexec rfl (hb hbytes d0) rfl rfl ?_
    exact Steps.refl _)
  obtain ⟨T2, X2, q2, st2⟩ := X0.hget hexec hown (wk W (.fieldLink "java/lang/String" 9 "java/lang/String" "value" "[B")) (hx.mv X0.warmed.alike hh0).2.1 (g := (mkF m 1 #[.val (.ref x)] [.ref x])) rfl (rest := []) rfl (hb hbytes d1)
  have hh2 := q2.trans hh0
  have hx2 := hx.mv X2.warmed.alike hh2
  have c3 : Steps p.tables e below (s₁.setTop (entryFrame m #[.ref x] 1)) (T2.setTop (mkF m 6 #[.val (.ref x)] [.ref x, .int (Int32.ofNat V.slots.size)])) := (c1.trans (st2 _ (Steps.refl _))).trans (by
    refine X2.alen hexec hx2.2.2.2.1 rfl rfl (hb hbytes d4) ?_
    refine XS.aloadN X2.here hexec rfl (hb hbytes d5) rfl rfl ?_
    exact Steps.refl _)
  obtain ⟨v4, T4, X4, E4, g4⟩ := X2.callV hexec (Cdr.law l x cd z) hown (wks W (virtW "java/lang/String" 335 "java/lang/String" Cdr.yN Cdr.yN)) rfl (by decide) (wk W Cdr.tab) (W := 1) (Nat.le_of_ble_eq_true rfl) (Nat.le_of_ble_eq_true rfl) (Nat.le_refl _) (Nat.le_refl _) (hx2.1.fc X2.warmed.alike) hx2.1.is (g := (mkF m 6 #[.val (.ref x)] [.ref x, .int (Int32.ofNat V.slots.size)])) rfl (by rw [hml]; rfl) c3 (argsL := []) (rest := [.int (Int32.ofNat V.slots.size)]) rfl rfl (by show 2 * 0 + (1 + 0) ≤ _; decide) (hb hbytes d6) (⟨rfl, hx2.2.2.1, hx.2.2.2.2.1.cd, s1.there X2.warmed.alike hh2, hz⟩)
  obtain ⟨rfl, q4⟩ := E4
  have c5 : Steps p.tables e below (s₁.setTop (entryFrame m #[.ref x] 1)) (T4.setTop (mkF m 10 #[.val (.ref x)] [.int (Int32.ofNat V.slots.size >>> (cd &&& 31))])) := Steps.trans g4 (by
    refine ishr X4.here hexec rfl (hb hbytes d9) rfl ?_
    exact Steps.refl _)
  rw [hx.2.2.2.2.1.len v31] at c5
  exact ⟨T4, some (.int (Int32.ofNat n)), _, _, _, X4, rfl, rfl, rfl, (fun h => by cases h), ⟨rfl, q4.trans hh2⟩, fun fs hl => c5.trans (X4.ireturnOut hexec hret rfl (Or.inl rfl) (hb hbytes d10) hl)⟩
theorem pays {l : Launch} {R : Room} {p : Program} {e : Env} {below : List Frame} {s : State} {sargs : Array Value} {len W : Nat} (x t : Addr) (V : Cell) (cd : Int32) (n : Nat) (f : Nat → Int32) (z : Int32) (htab : tab.before sargs s = true) (hfr : 2 ≤ R.frames) (hlo : W + 25 ≤ R.locals) :
    Back l R p e below s sargs yN len W (fun A₁ a₁ => A₁.cells + 0 ≤ R.cells ∧ A₁.slots + 0 ≤ R.slots ∧ P x t V cd n f z a₁ A₁.U) (fun A₁ _ v₁ B₁ => E n v₁ A₁.U B₁.U ∧ B₁.locs = A₁.locs ++ [] ∧ B₁.cells = A₁.cells + 0 ∧ B₁.slots = A₁.slots + 0) :=
  (law l x t V cd n f z).pays htab hfr (by omega)
end Len
namespace IsL
def yN : MethodName := ⟨"java/lang/String", "isLatin1", "()Z"⟩
abbrev yB : ByteArray := jdk_42_method_154_code
theorem d0 : decode yB 0 = .ok (.getstatic 38, 3) := by decide +kernel
theorem d3 : decode yB 3 = .ok (.ifCond (.eq) 14, 3) := by decide +kernel
theorem d6 : decode yB 6 = .ok (.aload_n 0, 1) := by decide +kernel
theorem d7 : decode yB 7 = .ok (.getfield 15, 3) := by decide +kernel
theorem d10 : decode yB 10 = .ok (.ifCond (.ne) 7, 3) := by decide +kernel
theorem d13 : decode yB 13 = .ok (.iconst 1, 1) := by decide +kernel
theorem d14 : decode yB 14 = .ok (.goto 4, 3) := by decide +kernel
theorem d17 : decode yB 17 = .ok (.iconst 0, 1) := by decide +kernel
theorem d18 : decode yB 18 = .ok (.ireturn, 1) := by decide +kernel
def site : List Cond := [.fieldLink "java/lang/String" 38 "java/lang/String" "COMPACT_STRINGS" "Z", .fieldLink "java/lang/String" 15 "java/lang/String" "coder" "B"]
def tab : Cond := tabOf yN yB 1 (some .boolean) site
def P (x : Addr) (cd z : Int32) (args : Array Value) (s : State) : Prop := args = #[.ref x] ∧ Has x "java/lang/String" "coder" "B" (.int cd) s ∧ (cd = 0 ∨ cd = 1) ∧ StaticIs s "java/lang/String" "COMPACT_STRINGS" "Z" (.int z) ∧ ¬ z = 0
def E (cd : Int32) (r : Option Value) (s u : State) : Prop := XT.PureE (some (.int (1 - cd))) r s u
theorem law (l : Launch) (x : Addr) (cd z : Int32) : Law l yN 1 0 0 0 yB 1 (some .boolean) site (P x cd z) (E cd) [] 0 0 := by
  refine Law.of_walk (plainFor_of_name (by decide +kernel)) (by decide +kernel) (by decide +kernel) (by decide) (fun _ _ h => by rw [h.1]; rfl) (fun _ U U' hal hh h => ⟨h.1, h.2.1.mv hal hh, h.2.2.1, h.2.2.2.1.there hal hh, h.2.2.2.2⟩) (fun r U U' V V' h1 hal h2 h => XT.PureE.mv r U U' V V' h1 hal h2 h) ?_
  intro p e s m args below meth c s₁ X0 hexec hbytes hml hret hlk hnm hown hh0 W hP
  obtain ⟨rfl, hx, hc, s1, hz⟩ := hP
  have c1 : Steps p.tables e below (s₁.setTop (entryFrame m #[.ref x] 1)) (s₁.setTop (mkF m 0 #[.val (.ref x)] [])) := entry rfl
  obtain ⟨T2, X2, q2, st2⟩ := X0.sget hexec hown (wk W (.fieldLink "java/lang/String" 38 "java/lang/String" "COMPACT_STRINGS" "Z")) s1 (fun _ _ h => by rw [hh0]; exact h) (g := (mkF m 0 #[.val (.ref x)] [])) rfl (hb hbytes d0)
  have hh2 := q2.trans hh0
  have c3 : Steps p.tables e below (s₁.setTop (entryFrame m #[.ref x] 1)) (T2.setTop (mkF m 7 #[.val (.ref x)] [.ref x])) := (c1.trans (st2 _ (Steps.refl _))).trans (by
    refine XS.ifNo X2.here hexec rfl (hb hbytes d3) rfl (i0_eq_f hz) ?_
    refine XS.aloadN X2.here hexec rfl (hb hbytes d6) rfl rfl ?_
    exact Steps.refl _)
  obtain ⟨T4, X4, q4, st4⟩ := X2.hget hexec hown (wk W (.fieldLink "java/lang/String" 15 "java/lang/String" "coder" "B")) (hx.mv X2.warmed.alike hh2) (g := (mkF m 7 #[.val (.ref x)] [.ref x])) rfl (rest := []) rfl (hb hbytes d7)
  have c5 : Steps p.tables e below (s₁.setTop (entryFrame m #[.ref x] 1)) (T4.setTop (mkF m 10 #[.val (.ref x)] [.int cd])) := c3.trans (st4 _ (Steps.refl _))
  have c6 : Steps p.tables e below (s₁.setTop (entryFrame m #[.ref x] 1)) (T4.setTop (mkF m 18 #[.val (.ref x)] [.int (1 - cd)])) := by
    rcases hc with rfl | rfl
    · exact c5.trans (by
        refine XS.ifNo X4.here hexec rfl (hb hbytes d10) rfl (i0_ne_f rfl) ?_
        refine iconstV X4.here hexec rfl 1 (hb hbytes d13) (by decide) ?_
        refine XS.goto X4.here hexec rfl (pc0 := 14) rfl (hb hbytes d14) (by decide) rfl ?_
        exact Steps.refl _)
    · exact c5.trans (by
        refine XS.ifYes X4.here hexec rfl (pc0 := 10) rfl (hb hbytes d10) rfl (i0_ne_t (by decide)) (by decide) rfl ?_
        refine iconstV X4.here hexec rfl 0 (hb hbytes d17) (by decide) ?_
        exact Steps.refl _)
  exact ⟨T4, some (.int (1 - cd)), _, _, _, X4, rfl, rfl, rfl, (fun h => by cases h), ⟨rfl, q4.trans hh2⟩, fun fs hl => c6.trans (X4.ireturnOut hexec hret (by rcases hc with rfl | rfl <;> rfl) (Or.inr (Or.inl rfl)) (hb hbytes d18) hl)⟩
end IsL
namespace LChA
def yN : MethodName := ⟨"java/lang/StringLatin1", "charAt", "([BI)C"⟩
abbrev yB : ByteArray := jdk_43_method_2_code
theorem d0 : decode yB 0 = .ok (.iload_n 1, 1) := by decide +kernel
theorem d1 : decode yB 1 = .ok (.aload_n 0, 1) := by decide +kernel
theorem d2 : decode yB 2 = .ok (.arraylength, 1) := by decide +kernel
theorem d3 : decode yB 3 = .ok (.invokestatic 9, 3) := by decide +kernel
theorem d6 : decode yB 6 = .ok (.aload_n 0, 1) := by decide +kernel
theorem d7 : decode yB 7 = .ok (.iload_n 1, 1) := by decide +kernel
theorem d8 : decode yB 8 = .ok (.baload, 1) := by decide +kernel
theorem d9 : decode yB 9 = .ok (.sipush 255, 3) := by decide +kernel
theorem d12 : decode yB 12 = .ok (.iand, 1) := by decide +kernel
theorem d13 : decode yB 13 = .ok (.i2c, 1) := by decide +kernel
theorem d14 : decode yB 14 = .ok (.ireturn, 1) := by decide +kernel
def site : List Cond := [JO.Str_checkIndex.tab] ++ staticW "java/lang/StringLatin1" 9 JO.Str_checkIndex.yN
def tab : Cond := tabOf yN yB 2 (some .char) site
def P (t : Addr) (V : Cell) (i : Nat) (u : Int32) (fm : Value) (args : Array Value) (s : State) : Prop := args = #[.ref t, .int (Int32.ofNat i)] ∧ XT.Arr .byte t V s ∧ V.slots[i]? = some (.int u) ∧ (StaticIs s "jdk/internal/util/Preconditions" "SIOOBE_FORMATTER" "Ljava/util/function/BiFunction;" fm ∧ fm.isRef = true)
def E (u : Int32) (r : Option Value) (s w : State) : Prop := XT.PureE (some (.int (chr8 u))) r s w
theorem law (l : Launch) (t : Addr) (V : Cell) (i : Nat) (u : Int32) (fm : Value) : Law l yN 2 2 2 27 yB 2 (some .char) site (P t V i u fm) (E u) [] 0 0 := by
  refine Law.of_walk (plainFor_of_name (by decide +kernel)) (by decide +kernel) (by decide +kernel) (by decide) (fun _ _ h => by rw [h.1]; rfl) (fun _ U U' hal hh h => ⟨h.1, h.2.1.mv hal hh, h.2.2.1, h.2.2.2.1.there hal hh, h.2.2.2.2⟩) (fun r U U' V V' h1 hal h2 h => XT.PureE.mv r U U' V V' h1 hal h2 h) ?_
  intro p e s m args below meth c s₁ X0 hexec hbytes hml hret hlk hnm hown hh0 W hP
  obtain ⟨rfl, hV, hu, s1, rf⟩ := hP
  have v31 := hV.2.2.2
  have hi : i < V.slots.size := (Array.getElem?_eq_some_iff.mp hu).1
  have c1 : Steps p.tables e below (s₁.setTop (entryFrame m #[.ref t, .int (Int32.ofNat i)] 2)) (s₁.setTop (mkF m 0 #[.val (.ref t), .val (.int (Int32.ofNat i))] [])) := entry rfl
  have c2 : Steps p.tables e below (s₁.setTop (entryFrame m #[.ref t, .int (Int32.ofNat i)] 2)) (s₁.setTop (mkF m 3 #[.val (.ref t), .val (.int (Int32.ofNat i))] [.int (Int32.ofNat V.slots.size), .int (Int32.ofNat i)])) := c1.trans (by
    refine XS.iloadN X0.here hexec rfl (hb hbytes d0) rfl ?_
    refine XS.aloadN X0.here hexec rfl (hb hbytes d1) rfl rfl ?_
    refine X0.alen hexec (hV.mv X0.warmed.alike hh0) rfl rfl (hb hbytes d2) ?_
    exact Steps.refl _)
  obtain ⟨v3, T3, X3, E3, g3⟩ := X0.callS hexec (JO.Str_checkIndex.law l (Int32.ofNat i) (Int32.ofNat V.slots.size) fm) hown (wks W (staticW "java/lang/StringLatin1" 9 JO.Str_checkIndex.yN)) (wk W JO.Str_checkIndex.tab) (W := 0) (Nat.le_of_ble_eq_true rfl) (Nat.le_of_ble_eq_true rfl) (Nat.le_refl _) (Nat.le_refl _) (g := (mkF m 3 #[.val (.ref t), .val (.int (Int32.ofNat i))] [.int (Int32.ofNat V.slots.size), .int (Int32.ofNat i)])) rfl (by rw [hml]; rfl) c2 (argsL := [.int (Int32.ofNat i), .int (Int32.ofNat V.slots.size)]) (rest := []) rfl rfl (by show 2 * 0 + 0 ≤ _; decide) (hb hbytes d3) (⟨rfl, rf, s1.there X0.warmed.alike hh0, Int32.ofNat_not_neg (by omega), lt32 v31 hi⟩)
  obtain ⟨rfl, q3⟩ := E3
  have hh3 := q3.trans hh0
  have c4 : Steps p.tables e below (s₁.setTop (entryFrame m #[.ref t, .int (Int32.ofNat i)] 2)) (T3.setTop (mkF m 14 #[.val (.ref t), .val (.int (Int32.ofNat i))] [.int (chr8 u)])) := Steps.trans g3 (by
    refine XS.aloadN X3.here hexec rfl (hb hbytes d6) rfl rfl ?_
    refine XS.iloadN X3.here hexec rfl (hb hbytes d7) rfl ?_
    refine X3.aget hexec (hV.mv X3.warmed.alike hh3) rfl hu rfl rfl (hb hbytes d8) ?_
    refine sipushV X3.here hexec rfl 255 (hb hbytes d9) (by decide) ?_
    refine XS.iand X3.here hexec rfl (hb hbytes d12) rfl ?_
    refine i2c X3.here hexec rfl (hb hbytes d13) rfl ?_
    exact Steps.refl _)
  exact ⟨T3, some (.int (chr8 u)), _, _, _, X3, rfl, rfl, rfl, (fun h => by cases h), ⟨rfl, hh3⟩, fun fs hl => c4.trans (X3.ireturnOut hexec hret (narrow_c _) (Or.inr (Or.inr (Or.inr (Or.inl rfl)))) (hb hbytes d14) hl)⟩
end LChA
end StrChars
namespace StrChars.Road
open Jvm Sem ClassFile Op Lib Jvm.Stand Jvm.Free Jvm.Free.XT
open Jvm.Lib.Cold (StaticIs)
theorem consq {a : Array Value} {s : State} {c : Jvm.Cond} {L : List Jvm.Cond} (h0 : c.before a s = true) (h : ∀ w ∈ L, w.before a s = true) : ∀ w ∈ c :: L, w.before a s = true := fun w hw => (List.mem_cons.mp hw).elim (fun e => e ▸ h0) (h w)
/-- the words of String.length(), either coding -/
abbrev wordsLen : List Jvm.Cond := [.code Len.yN Len.yB 1 (some .int), .initialized ST, .fieldLink ST 9 ST "value" "[B", .fieldLink ST 38 ST "COMPACT_STRINGS" "Z", .fieldLink ST 15 ST "coder" "B", .code Cdr.yN Cdr.yB 1 (some .byte), .methodLink ST 335 Cdr.yN, .declares Cdr.yN, .selects ST Cdr.yN Cdr.yN, .instanceMethod Cdr.yN]
theorem tabLen_of {a : Array Value} {s : State} (h : ∀ w ∈ wordsLen, w.before a s = true) : Len.tab.before a s = true := by
  have hc : Cdr.tab.before a s = true := unparts (wk h (.code Cdr.yN Cdr.yB 1 (some .byte))) (wks h (.initialized Cdr.yN.cls :: Cdr.site))
  have q := consq hc h
  exact unparts (wk q (.code Len.yN Len.yB 1 (some .int))) (wks q (.initialized Len.yN.cls :: Len.site))
theorem movedLen {Z s : State} {a0 args : Array Value} (hZ : Z.Warmed39 s.vm) (hw : ∀ d ∈ wordsLen, d.before a0 Z = true) : ∀ d ∈ wordsLen, d.before args s = true := fun d hd => by
  have q := hw d hd
  have t : ∀ d ∈ wordsLen, d = .arrayClass .byte ∨ (d.onTables && d.keepsFace) = true := by decide +kernel
  rcases t d hd with rfl | t
  · exact RoadKit.mvA hZ q
  · exact RoadKit.mv hZ q t
/-- the bytes of the chars cs, low before high -/
def wideBytes : List Int32 → List Value
  | [] => []
  | c :: cs => .int (lo8 c) :: .int (hi8 c) :: wideBytes cs
theorem wide_lo (d : Value) : ∀ (cs : List Int32) (j : Nat), j < cs.length → (wideBytes cs).getD (2 * j) d = .int (lo8 (cs.getD j 0))
  | [], j, h => absurd h (Nat.not_lt_zero j)
  | c :: cs, 0, _ => rfl
  | c :: cs, j + 1, h => by
    have q := wide_lo d cs j (by simpa using h)
    rw [show 2 * (j + 1) = 2 * j + 1 + 1 from by omega]
    simpa [wideBytes] using q
theorem wide_hi (d : Value) : ∀ (cs : List Int32) (j : Nat), j < cs.length → (wideBytes cs).getD (2 * j + 1) d = .int (hi8 (cs.getD j 0))
  | [], j, h => absurd h (Nat.not_lt_zero j)
  | c :: cs, 0, _ => rfl
  | c :: cs, j + 1, h => by
    have q := wide_hi d cs j (by simpa using h)
    rw [show 2 * (j + 1) + 1 = 2 * j + 1 + 1 + 1 from by omega]
    simpa [wideBytes] using q
theorem low_at (d : Value) (cs : List Int32) (j : Nat) (h : j < cs.length) : (cs.map fun c => Value.int (lo8 c)).getD j d = .int (lo8 (cs.getD j 0)) := by
  simp [List.getD_eq_getElem?_getD, h]
/-- an array of N2 bytes vs codes the chars cs by the coder cd -/
def CodA (cs : List Int32) (cd N2 : Int32) (vs : List Value) : Prop := (cd = 0 ∧ N2 = Int32.ofNat cs.length ∧ vs = (cs.map fun c => Value.int (lo8 c)) ∧ ∀ c ∈ cs, ¬ 255 < c) ∨ (cd = 1 ∧ N2 = Int32.ofNat (2 * cs.length) ∧ vs = wideBytes cs ∧ ∃ c ∈ cs, 255 < c)
theorem CodA.cod {cs : List Int32} {cd N2 : Int32} {vs : List Value} {V : Cell} (h : CodA cs cd N2 vs) (hn : 2 * cs.length < 2 ^ 31) (hs : V.slots.size = N2.toNatClampNeg) (hv : RoadKit.Has V vs (.int 0)) : Cod cd cs.length (fun j => cs.getD j 0) V := by
  rcases h with ⟨rfl, rfl, rfl, h⟩ | ⟨rfl, rfl, rfl, c, hc, hw⟩
  · rw [n32 (by omega)] at hs
    exact Or.inl ⟨rfl, hs, fun j hj => ⟨by rw [hv j (by omega), low_at _ _ _ hj], by
      have e : cs.getD j 0 = cs[j] := by simp [List.getD_eq_getElem?_getD, hj]
      show ¬ 255 < cs.getD j 0
      rw [e]; exact h _ (List.getElem_mem _)⟩⟩
  · rw [n32 (by omega)] at hs
    obtain ⟨j, hj, rfl⟩ := List.getElem_of_mem hc
    exact Or.inr ⟨rfl, hs, fun j hj => ⟨by rw [hv _ (by omega), wide_lo _ _ _ hj], by rw [hv _ (by omega), wide_hi _ _ _ hj]⟩, j, hj, by
      have e : cs.getD j 0 = cs[j] := by simp [List.getD_eq_getElem?_getD, hj]
      show 255 < cs.getD j 0
      rw [e]; exact hw⟩
/-- an object of exactly java/lang/String, its two fields found: as the laws ask it -/
theorem strObj {Z U : State} {a0 : Array Value} {kI : Nat} (wi : (Jvm.Cond.instantiable ST kI).before a0 Z = true) (al : Z.vm.Alike U.vm) {x : Addr} {v0 c0 : Value} (E : RoadKit.Exa Z U.heap x ST) (V : RoadKit.Fld Z U.heap x ST "value" "[B" v0) (C : RoadKit.Fld Z U.heap x ST "coder" "B" c0) :
    ∃ (D : Cell) (fV fC : Field), Blank ST x D U ∧ Found ST "value" "[B" fV U ∧ Found ST "coder" "B" fC U ∧ D.slots[fV.slot]? = some v0 ∧ D.slots[fC.slot]? = some c0 ∧ RoadKit.slotOf Z ST "value" "[B" = fV.slot ∧ RoadKit.slotOf Z ST "coder" "B" = fC.slot := by
  obtain ⟨D, cfV, kV, iV, fV, hD, gV, stV, knV, obV, asV, slV⟩ := V
  obtain ⟨D', cfC, kC, iC, fC, hD', gC, stC, -, -, asC, slC⟩ := C
  cases hD.symm.trans hD'
  obtain ⟨D2, kD, e1, e2, e3, e4, e5⟩ := E
  cases hD.symm.trans e1
  obtain ⟨c2, k2, i1, i2, i3, -⟩ := Cond.instantiable_spec wi
  cases e2.symm.trans i1
  cases e3.symm.trans i2
  obtain ⟨kU, u1, u2⟩ := al.2.2 _ _ e3
  exact ⟨D, fV, fC, ⟨hD, ⟨knV, fun q hq => by rw [hq] at obV; cases obV⟩, by rw [al.findClass]; exact e2, kU, u1, by rw [u2]; exact i3, by rw [u2]; exact e5 i3⟩, ⟨SBG.found_only al ⟨cfV, kV, iV, gV⟩, stV⟩, ⟨SBG.found_only al ⟨cfC, kC, iC, gC⟩, stC⟩, slV, slC, by simp [RoadKit.slotOf, gV], by simp [RoadKit.slotOf, gC]⟩
theorem sta_is {Z U : State} (al : Z.vm.Alike U.vm) {C n d : String} {v : Value} (S : RoadKit.Sta Z U.heap C n d v) : StaticIs U C n d v := by
  obtain ⟨cfS, iS, kS, fS, st, cS, t1, t2, t3, t4, t5, t6, t7⟩ := S
  exact StaticIs.there (s := { Z with heap := U.heap }) ⟨cfS, iS, kS, fS, st, cS, t1, t2, t3, t4, t5, (fun q => by rw [q] at t6; cases t6), t7⟩ al rfl
/-- **length() OF SUCH A STRING** -/
theorem lenW {p : Program} {l : Launch} {e : Env} {R : Room} {s : State} {args : Array Value} {below : List Frame} {len W : Nat} {Z : State} {a0 : Array Value} {h : Heap} (hZ : Z.Warmed39 s.vm) (hw : ∀ d ∈ wordsLen, d.before a0 Z = true) {kI : Nat} (wi : (Jvm.Cond.instantiable ST kI).before a0 Z = true)
    {x t : Addr} {kb : ClassId} {cs : List Int32} {cd N2 z : Int32} {vs : List Value} (E : RoadKit.Exa Z h x ST) (V : RoadKit.Fld Z h x ST "value" "[B" (.ref t)) (C : RoadKit.Fld Z h x ST "coder" "B" (.int cd)) (K : RoadKit.Arv Z h t kb .byte N2 vs (.int 0)) (hc : CodA cs cd N2 vs) (hb : ∀ c ∈ cs, ¬ c < 0 ∧ ¬ (65535 : Int32) < c)
    (S : RoadKit.Sta Z h ST "COMPACT_STRINGS" "Z" (.int z)) (hz : ¬ z = 0) (l2 : cs.length ≤ 4000) (hfr : 2 ≤ R.frames) (hlo : W + 25 ≤ R.locals) :
    Back l R p e below s args (⟨"java/lang/String", "length", "()I"⟩ : MethodName) len W (fun P a => a = #[.ref x] ∧ P.U.heap = h ∧ P.cells + 0 ≤ R.cells ∧ P.slots + 0 ≤ R.slots)
      (fun P _ v B => ∃ L, (v = some (.int (Int32.ofNat cs.length)) ∧ L = [] ∧ B.U.heap = h) ∧ B.locs = P.locs ++ L ∧ B.cells = P.cells + 0 ∧ B.slots = P.slots + 0) := by
  obtain ⟨A, K1, K2, K3, K4, K5, K6⟩ := K
  have hcod := hc.cod (by omega) K3 K5
  intro m meth c P g ig mk a X hg hsize hdg hW hn hp'
  obtain ⟨rfl, rfl, r1, r2⟩ := hp'
  have al : Z.vm.Alike P.U.vm := hZ.alike.trans X.warmed.alike
  obtain ⟨D, fV, fC, hB, F1, F2, g1, g2, -, -⟩ := strObj wi al E V C
  have hx : Txt x t A cd cs.length (fun j => cs.getD j 0) P.U := ⟨⟨_, hB.2.2.1, D, hB.1, rfl, by cases q : D.vm <;> first | rfl | exact absurd q (hB.2.1.2 _)⟩, Has.of hB F1 g1, Has.of hB F2 g2, ⟨K1.1, State.isArrayOf_alike al K1.2.1, K1.2.2, by rcases hcod with ⟨-, q, -⟩ | ⟨-, q, -⟩ <;> omega⟩, hcod, fun j hj => by
    have e : cs.getD j 0 = cs[j] := by simp [List.getD_eq_getElem?_getD, hj]
    show ¬ cs.getD j 0 < 0 ∧ ¬ 65535 < cs.getD j 0
    rw [e]; exact hb _ (List.getElem_mem _)⟩
  obtain ⟨v, B, X', ⟨⟨hv, hh⟩, hl, hk, hs⟩, st⟩ := Len.pays x t A cd cs.length (fun j => cs.getD j 0) z (tabLen_of (movedLen hZ hw)) hfr hlo m meth c P g ig mk _ X hg hsize hdg hW hn ⟨r1, r2, rfl, hx, sta_is al S, hz⟩
  exact ⟨v, B, X', ⟨[], ⟨hv, rfl, hh⟩, hl, hk, hs⟩, st⟩
end StrChars.Road
namespace StrChars.Road
open Jvm Sem ClassFile Op Lib Jvm.Stand Jvm.Free Jvm.Free.XT
open Jvm.Lib.Cold (StaticIs)
/-- the road's facts of a String, as the laws ask it -/
theorem txt_of {Z U : State} {a0 : Array Value} {kI : Nat} (wi : (Jvm.Cond.instantiable ST kI).before a0 Z = true) (al : Z.vm.Alike U.vm) {x t : Addr} {kb : ClassId} {cs : List Int32} {cd N2 : Int32} {vs : List Value} (E : RoadKit.Exa Z U.heap x ST) (V : RoadKit.Fld Z U.heap x ST "value" "[B" (.ref t)) (C : RoadKit.Fld Z U.heap x ST "coder" "B" (.int cd)) (K : RoadKit.Arv Z U.heap t kb .byte N2 vs (.int 0)) (hc : CodA cs cd N2 vs) (hb : ∀ c ∈ cs, ¬ c < 0 ∧ ¬ (65535 : Int32) < c) (l2 : cs.length ≤ 4000) :
    ∃ A, Txt x t A cd cs.length (fun j => cs.getD j 0) U := by
  obtain ⟨A, K1, K2, K3, K4, K5, K6⟩ := K
  have hcod := hc.cod (by omega) K3 K5
  obtain ⟨D, fV, fC, hB, F1, F2, g1, g2, -, -⟩ := strObj wi al E V C
  exact ⟨A, ⟨_, hB.2.2.1, D, hB.1, rfl, by cases q : D.vm <;> first | rfl | exact absurd q (hB.2.1.2 _)⟩, Has.of hB F1 g1, Has.of hB F2 g2, ⟨K1.1, State.isArrayOf_alike al K1.2.1, K1.2.2, by rcases hcod with ⟨-, q, -⟩ | ⟨-, q, -⟩ <;> omega⟩, hcod, fun j hj => by
    have e : cs.getD j 0 = cs[j] := by simp [List.getD_eq_getElem?_getD, hj]
    show ¬ cs.getD j 0 < 0 ∧ ¬ 65535 < cs.getD j 0
    rw [e]; exact hb _ (List.getElem_mem _)⟩
end StrChars.Road
namespace StrChars
open Jvm Sem ClassFile Op Lib Jvm.Stand Jvm.Free.XT Jvm.Free.ALB Jvm.Free.JM Jvm.Free
open Jvm.Lib.Cold (StaticIs)
namespace ChN
def yN : MethodName := ⟨"java/lang/String", "charAt", "(I)C"⟩
abbrev yB : ByteArray := jdk_42_method_56_code
theorem d0 : decode yB 0 = .ok (.aload_n 0, 1) := by decide +kernel
theorem d1 : decode yB 1 = .ok (.invokevirtual 492, 3) := by decide +kernel
theorem d4 : decode yB 4 = .ok (.ifCond (.eq) 12, 3) := by decide +kernel
theorem d7 : decode yB 7 = .ok (.aload_n 0, 1) := by decide +kernel
theorem d8 : decode yB 8 = .ok (.getfield 9, 3) := by decide +kernel
theorem d11 : decode yB 11 = .ok (.iload_n 1, 1) := by decide +kernel
theorem d12 : decode yB 12 = .ok (.invokestatic 495, 3) := by decide +kernel
theorem d15 : decode yB 15 = .ok (.ireturn, 1) := by decide +kernel
def site : List Cond := [.fieldLink "java/lang/String" 9 "java/lang/String" "value" "[B", IsL.tab, LChA.tab] ++ virtW "java/lang/String" 492 "java/lang/String" IsL.yN IsL.yN ++ staticW "java/lang/String" 495 LChA.yN
def tab : Cond := tabOf yN yB 2 (some .char) site
def P (x t : Addr) (V : Cell) (n : Nat) (f : Nat → Int32) (z : Int32) (fm : Value) (i : Nat) (args : Array Value) (s : State) : Prop := args = #[.ref x, .int (Int32.ofNat i)] ∧ Txt x t V 0 n f s ∧ i < n ∧ StaticIs s "java/lang/String" "COMPACT_STRINGS" "Z" (.int z) ∧ ¬ z = 0 ∧ StaticIs s "jdk/internal/util/Preconditions" "SIOOBE_FORMATTER" "Ljava/util/function/BiFunction;" fm ∧ fm.isRef = true
def E (f : Nat → Int32) (i : Nat) (r : Option Value) (s u : State) : Prop := XT.PureE (some (.int (f i))) r s u
/-- charAt(i) of a Latin-1 String of n chars, i < n: f i -/
theorem law (l : Launch) (x t : Addr) (V : Cell) (n : Nat) (f : Nat → Int32) (z : Int32) (fm : Value) (i : Nat) : Law l yN 2 1 3 40 yB 2 (some .char) site (P x t V n f z fm i) (E f i) [] 0 0 := by
  refine Law.of_walk (plainFor_of_name (by decide +kernel)) (by decide +kernel) (by decide +kernel) (by decide) (fun _ _ h => by rw [h.1]; rfl) (fun _ U U' hal hh h => ⟨h.1, h.2.1.mv hal hh, h.2.2.1, h.2.2.2.1.there hal hh, h.2.2.2.2.1, h.2.2.2.2.2.1.there hal hh, h.2.2.2.2.2.2⟩) (fun r U U' V V' h1 hal h2 h => XT.PureE.mv r U U' V V' h1 hal h2 h) ?_
  intro p e s m args below meth c s₁ X0 hexec hbytes hml hret hlk hnm hown hh0 W hP
  obtain ⟨rfl, hx, hi, s1, hz, s3, rf⟩ := hP
  have v31 := hx.2.2.2.1.2.2.2
  have hr := hx.2.2.2.2.2 i hi
  have hx0 := hx.mv X0.warmed.alike hh0
  have c1 : Steps p.tables e below (s₁.setTop (entryFrame m #[.ref x, .int (Int32.ofNat i)] 2)) (s₁.setTop (mkF m 1 #[.val (.ref x), .val (.int (Int32.ofNat i))] [.ref x])) := Steps.trans (entry rfl) (by
    show Steps p.tables e below (s₁.setTop (mkF m 0 #[.val (.ref x), .val (.int (Int32.ofNat i))] [])) _
    refine XS.aloadN X0.here hexec rfl (hb hbytes d0) rfl rfl ?_
    exact Steps.refl _)
  obtain ⟨v2, T2, X2, E2, g2⟩ := X0.callV hexec (IsL.law l x 0 z) hown (wks W (virtW "java/lang/String" 492 "java/lang/String" IsL.yN IsL.yN)) rfl (by decide) (wk W IsL.tab) (W := 0) (Nat.le_of_ble_eq_true rfl) (Nat.le_of_ble_eq_true rfl) (Nat.le_refl _) (Nat.le_refl _) (hx0.1.fc X0.warmed.alike) hx0.1.is (g := (mkF m 1 #[.val (.ref x), .val (.int (Int32.ofNat i))] [.ref x])) rfl (by rw [hml]; rfl) c1 (argsL := []) (rest := []) rfl rfl (by show 2 * 0 + 0 ≤ _; decide) (hb hbytes d1) (⟨rfl, hx0.2.2.1, hx.2.2.2.2.1.cd, s1.there X0.warmed.alike hh0, hz⟩)
  obtain ⟨rfl, q2⟩ := E2
  have hh2 := q2.trans hh0
  have hx2 := hx.mv X2.warmed.alike hh2
  obtain ⟨-, k1, k2⟩ | ⟨k0, -⟩ := hx.2.2.2.2.1
  · have c3 : Steps p.tables e below (s₁.setTop (entryFrame m #[.ref x, .int (Int32.ofNat i)] 2)) (T2.setTop (mkF m 8 #[.val (.ref x), .val (.int (Int32.ofNat i))] [.ref x])) := Steps.trans g2 (by
      refine XS.ifNo X2.here hexec rfl (hb hbytes d4) rfl (i0_eq_f (by decide)) ?_
      refine XS.aloadN X2.here hexec rfl (hb hbytes d7) rfl rfl ?_
      exact Steps.refl _)
    obtain ⟨T4, X4, q4, st4⟩ := X2.hget hexec hown (wk W (.fieldLink "java/lang/String" 9 "java/lang/String" "value" "[B")) hx2.2.1 (g := (mkF m 8 #[.val (.ref x), .val (.int (Int32.ofNat i))] [.ref x])) rfl (rest := []) rfl (hb hbytes d8)
    have hh4 := q4.trans hh2
    have c5 : Steps p.tables e below (s₁.setTop (entryFrame m #[.ref x, .int (Int32.ofNat i)] 2)) (T4.setTop (mkF m 12 #[.val (.ref x), .val (.int (Int32.ofNat i))] [.int (Int32.ofNat i), .ref t])) := (c3.trans (st4 _ (Steps.refl _))).trans (by
      refine XS.iloadN X4.here hexec rfl (hb hbytes d11) rfl ?_
      exact Steps.refl _)
    obtain ⟨v6, T6, X6, E6, g6⟩ := X4.callS hexec (LChA.law l t V i (lo8 (f i)) fm) hown (wks W (staticW "java/lang/String" 495 LChA.yN)) (wk W LChA.tab) (W := 0) (Nat.le_of_ble_eq_true rfl) (Nat.le_of_ble_eq_true rfl) (Nat.le_refl _) (Nat.le_refl _) (g := (mkF m 12 #[.val (.ref x), .val (.int (Int32.ofNat i))] [.int (Int32.ofNat i), .ref t])) rfl (by rw [hml]; rfl) c5 (argsL := [.ref t, .int (Int32.ofNat i)]) (rest := []) rfl rfl (by show 2 * 0 + 0 ≤ _; decide) (hb hbytes d12) (⟨rfl, hx.2.2.2.1.mv X4.warmed.alike hh4, (k2 i hi).1, s3.there X4.warmed.alike hh4, rf⟩)
    obtain ⟨rfl, q6⟩ := E6
    rw [chr8_lo8 hr.1 (k2 i hi).2] at g6
    exact ⟨T6, some (.int (f i)), _, _, _, X6, rfl, rfl, rfl, (fun h => by cases h), ⟨rfl, q6.trans hh4⟩, fun fs hl => Steps.trans g6 (X6.ireturnOut hexec hret (narrow_ch hr.1 hr.2) (Or.inr (Or.inr (Or.inr (Or.inl rfl)))) (hb hbytes d15) hl)⟩
  · exact absurd k0 (by decide)
theorem pays {l : Launch} {R : Room} {p : Program} {e : Env} {below : List Frame} {s : State} {sargs : Array Value} {len W : Nat} (x t : Addr) (V : Cell) (n : Nat) (f : Nat → Int32) (z : Int32) (fm : Value) (i : Nat) (htab : tab.before sargs s = true) (hfr : 4 ≤ R.frames) (hlo : W + 53 ≤ R.locals) :
    Back l R p e below s sargs yN len W (fun A₁ a₁ => A₁.cells + 0 ≤ R.cells ∧ A₁.slots + 0 ≤ R.slots ∧ P x t V n f z fm i a₁ A₁.U) (fun A₁ _ v₁ B₁ => E f i v₁ A₁.U B₁.U ∧ B₁.locs = A₁.locs ++ [] ∧ B₁.cells = A₁.cells + 0 ∧ B₁.slots = A₁.slots + 0) :=
  (law l x t V n f z fm i).pays htab hfr (by omega)
end ChN
end StrChars
namespace StrChars.Road
open Jvm Sem ClassFile Op Lib Jvm.Stand Jvm.Free Jvm.Free.XT
open Jvm.Lib.Cold (StaticIs)
/-- the words of String.charAt(int), the Latin-1 road alone -/
abbrev wordsChN : List Jvm.Cond := [.code ChN.yN ChN.yB 2 (some .char), .initialized ST, .fieldLink ST 9 ST "value" "[B", .fieldLink ST 38 ST "COMPACT_STRINGS" "Z", .fieldLink ST 15 ST "coder" "B", .code IsL.yN IsL.yB 1 (some .boolean), .methodLink ST 492 IsL.yN, .declares IsL.yN, .selects ST IsL.yN IsL.yN, .instanceMethod IsL.yN,
  .methodLink ST 495 LChA.yN, .static LChA.yN, .code LChA.yN LChA.yB 2 (some .char), .initialized "java/lang/StringLatin1", .methodLink "java/lang/StringLatin1" 9 JO.Str_checkIndex.yN, .static JO.Str_checkIndex.yN, .code JO.Str_checkIndex.yN JO.Str_checkIndex.yB 2 none,
  .fieldLink ST 1053 "jdk/internal/util/Preconditions" "SIOOBE_FORMATTER" "Ljava/util/function/BiFunction;", .methodLink ST 1059 JC.PreCheck.yN, .static JC.PreCheck.yN, .code JC.PreCheck.yN JC.PreCheck.yB 3 (some .int), .initialized "jdk/internal/util/Preconditions"]
theorem tabChN_of {a : Array Value} {s : State} (h : ∀ w ∈ wordsChN, w.before a s = true) : ChN.tab.before a s = true := by
  have hp : JC.PreCheck.tab.before a s = true := unparts (wk h (.code JC.PreCheck.yN JC.PreCheck.yB 3 (some .int))) (wks h (.initialized JC.PreCheck.yN.cls :: JC.PreCheck.site))
  have qk := consq hp h
  have hk : JO.Str_checkIndex.tab.before a s = true := unparts (wk qk (.code JO.Str_checkIndex.yN JO.Str_checkIndex.yB 2 none)) (wks qk (.initialized JO.Str_checkIndex.yN.cls :: JO.Str_checkIndex.site))
  have ql := consq hk h
  have hl : LChA.tab.before a s = true := unparts (wk ql (.code LChA.yN LChA.yB 2 (some .char))) (wks ql (.initialized LChA.yN.cls :: LChA.site))
  have hi : IsL.tab.before a s = true := unparts (wk h (.code IsL.yN IsL.yB 1 (some .boolean))) (wks h (.initialized IsL.yN.cls :: IsL.site))
  have q := consq hi (consq hl h)
  exact unparts (wk q (.code ChN.yN ChN.yB 2 (some .char))) (wks q (.initialized ChN.yN.cls :: ChN.site))
theorem movedChN {Z s : State} {a0 args : Array Value} (hZ : Z.Warmed39 s.vm) (hw : ∀ d ∈ wordsChN, d.before a0 Z = true) : ∀ d ∈ wordsChN, d.before args s = true := fun d hd => by
  have t : ∀ d ∈ wordsChN, (d.onTables && d.keepsFace) = true := by decide +kernel
  exact RoadKit.mv hZ (hw d hd) (t d hd)
/-- **charAt(i) OF A LATIN-1 STRING**, i < n: the char -/
theorem chN {p : Program} {l : Launch} {e : Env} {R : Room} {s : State} {args : Array Value} {below : List Frame} {len W : Nat} {Z : State} {a0 : Array Value} {h : Heap} (hZ : Z.Warmed39 s.vm) (hw : ∀ d ∈ wordsChN, d.before a0 Z = true) {kI : Nat} (wi : (Jvm.Cond.instantiable ST kI).before a0 Z = true)
    {x t : Addr} {kb : ClassId} {cs : List Int32} {N2 z : Int32} {vs : List Value} {fm : Value} {i : Nat} {j : Int32} (E : RoadKit.Exa Z h x ST) (V : RoadKit.Fld Z h x ST "value" "[B" (.ref t)) (C : RoadKit.Fld Z h x ST "coder" "B" (.int 0)) (K : RoadKit.Arv Z h t kb .byte N2 vs (.int 0)) (hc : CodA cs 0 N2 vs) (hb : ∀ c ∈ cs, ¬ c < 0 ∧ ¬ (65535 : Int32) < c)
    (S : RoadKit.Sta Z h ST "COMPACT_STRINGS" "Z" (.int z)) (hz : ¬ z = 0) (F : RoadKit.Sta Z h "jdk/internal/util/Preconditions" "SIOOBE_FORMATTER" "Ljava/util/function/BiFunction;" fm) (rf : fm.isRef = true) (l2 : cs.length ≤ 4000) (hi : i < cs.length) (hj : j = Int32.ofNat i) (hfr : 4 ≤ R.frames) (hlo : W + 53 ≤ R.locals) :
    Back l R p e below s args (⟨"java/lang/String", "charAt", "(I)C"⟩ : MethodName) len W (fun P a => a = #[.ref x, .int j] ∧ P.U.heap = h ∧ P.cells + 0 ≤ R.cells ∧ P.slots + 0 ≤ R.slots)
      (fun P _ v B => ∃ L, (v = some (.int (cs.getD i 0)) ∧ L = [] ∧ B.U.heap = h) ∧ B.locs = P.locs ++ L ∧ B.cells = P.cells + 0 ∧ B.slots = P.slots + 0) := by
  subst hj
  intro m meth c P g ig mk a X hg hsize hdg hW hn hp'
  obtain ⟨rfl, rfl, r1, r2⟩ := hp'
  have al : Z.vm.Alike P.U.vm := hZ.alike.trans X.warmed.alike
  obtain ⟨A, hx⟩ := txt_of wi al E V C K hc hb l2
  obtain ⟨v, B, X', ⟨⟨hv, hh⟩, hl, hk, hs⟩, st⟩ := ChN.pays x t A cs.length (fun j => cs.getD j 0) z fm i (tabChN_of (movedChN hZ hw)) hfr hlo m meth c P g ig mk _ X hg hsize hdg hW hn ⟨r1, r2, rfl, hx, hi, sta_is al S, hz, sta_is al F, rf⟩
  exact ⟨v, B, X', ⟨[], ⟨hv, rfl, hh⟩, hl, hk, hs⟩, st⟩
/-- what backV says of its String, as the contracts of this text ask it: cs's low bytes, coder 0 -/
theorem codOf {cs : List Int32} {n : Nat} (hn : cs.length = n) (hb : ∀ c ∈ cs, ¬ 255 < c) : CodA cs 0 (Int32.ofNat n) ((cs.map lo8).map Value.int) := Or.inl ⟨rfl, by rw [hn], by simp [List.map_map, Function.comp_def], hb⟩
end StrChars.Road
end Jvm.Pilot.@@N@@
namespace Jvm.Pilot.@@N@@
open Jvm Jvm.ClassFile Sem Op Lib Jvm.Free Jvm.Stand Jvm.LawKit Jvm.RoadKit Bundle Jvm.Pilot.@@N@@.Jvm.D
section OwnKit
variable {l : Launch} {Z : State} {EL : List (String × Nat)} {n0 : Nat} {p : Program} {e : Env} {R : Room} {s : State} {m : MethodId} {args : Array Value} {below : List Frame} {meth : Method} {c : Code} {own : String} {ws : List Addr} {vm : Vm} {T : State} {h h' h2 : Heap} {locs : List Loc} {cells slots : Nat} {a0 : Array Value} {Rz : Outcome → State → Prop} {A B : State}
/-- the run goes on from here to a good end -/
def oGo (p : Program) (e : Env) (below : List Frame) (Rz : Outcome → State → Prop) (A : State) : Prop :=
  ∃ s₂ o, Steps p.tables e below A s₂ ∧ s₂.status = .running ∧ Ended s₂ below o ∧ Rz o s₂
theorem oSt (h : ∀ t, Steps p.tables e below B t → Steps p.tables e below A t) (k : oGo p e below Rz B) : oGo p e below Rz A := by
  obtain ⟨s₂, o, h1, r⟩ := k
  exact ⟨s₂, o, h _ h1, r⟩
theorem oCast {g g' : JFrame} (q : g = g') (k : oGo p e below Rz (T.setTop g')) : oGo p e below Rz (T.setTop g) := q ▸ k
theorem oExtR (h : Heap) : Ext h h := ⟨Nat.le_refl _, fun _ _ q => q⟩
theorem oExtT (E : Ext h h') (E' : Ext h' h2) : Ext h h2 := ⟨Nat.le_trans E.1 E'.1, fun a c q => E'.2 a c (E.2 a c q)⟩
theorem oExtK {ws' : List Addr} (E : Ext h h') (K : Keep h' h2 ws') (q : ∀ x ∈ ws', h.size ≤ x) : Ext h h2 :=
  ⟨Nat.le_trans E.1 K.1, fun x c r => K.2.1 x c (E.2 x c r) fun z => absurd (Array.getElem?_eq_some_iff.mp r).1 (Nat.not_lt.mpr (q x z))⟩
theorem oExtW {a : Addr} {sl : Nat} {v : Value} (E : Ext h h') (W : Wr h' h2 a sl v) (q : h.size ≤ a) : Ext h h2 :=
  oExtK E (Keep.of_wr W) (allS q all0)
theorem oExt0 (K : Keep h h' []) : Ext h h' := ⟨K.1, fun x c r => K.2.1 x c r nin0⟩
theorem oKeep0 (E : Ext h h') : Keep h h' [] := (Keep.refl _ _).ext E
theorem oIn1 {P : Addr → Prop} {x : Addr} (q : P x) : ∀ y ∈ [x], P y := allS q all0
/-- where the walk stands: the run, the heap, the tables, the places written, what stood, what the literals' book says -/
def oA (l : Launch) (Z : State) (EL : List (String × Nat)) (n0 : Nat) (p : Program) (e : Env) (R : Room) (s : State) (m : MethodId) (args : Array Value) (below : List Frame) (meth : Method) (c : Code) (own : String) (ws : List Addr) (vm : Vm) (T : State) (h : Heap) (locs : List Loc) (cells slots : Nat) : Prop :=
  Stand p l e R (s.setVm vm) m args below meth c T locs cells slots ∧ T.heap = h ∧ Z.Warmed39 vm ∧ vm.findClass own = some m.cls ∧ (∃ k, s.Since vm k ∧ k ≤ h.size) ∧ Fr n0 locs ∧ Old Z n0 h ∧ Keep s.heap h ws ∧ CHr Z EL s.vm s.heap vm h
theorem oA.here (A : oA l Z EL n0 p e R s m args below meth c own ws vm T h locs cells slots) : At T m c below := A.1.here
theorem oA.al (A : oA l Z EL n0 p e R s m args below meth c own ws vm T h locs cells slots) : Z.vm.Alike vm := A.2.2.1.alike
theorem oA.old (A : oA l Z EL n0 p e R s m args below meth c own ws vm T h locs cells slots) : Ext Z.heap h := A.2.2.2.2.2.2.1.2
theorem oA.oldn (A : oA l Z EL n0 p e R s m args below meth c own ws vm T h locs cells slots) : Old Z n0 h := A.2.2.2.2.2.2.1
theorem oA.n0le (A : oA l Z EL n0 p e R s m args below meth c own ws vm T h locs cells slots) : n0 ≤ h.size := A.2.2.2.2.2.2.1.1 ▸ A.2.2.2.2.2.2.1.2.1
theorem oA.keep (A : oA l Z EL n0 p e R s m args below meth c own ws vm T h locs cells slots) : Keep s.heap h ws := A.2.2.2.2.2.2.2.1
theorem oA.ch (A : oA l Z EL n0 p e R s m args below meth c own ws vm T h locs cells slots) : CHv Z EL vm h := A.2.2.2.2.2.2.2.2.1
theorem oA.sle (A : oA l Z EL n0 p e R s m args below meth c own ws vm T h locs cells slots) : s.heap.size ≤ h.size := A.keep.1
theorem oA.mono {k n : Nat} (A : oA l Z EL n0 p e R s m args below meth c own ws vm T h locs cells slots) (h1 : cells ≤ k) (h2 : slots ≤ n) : oA l Z EL n0 p e R s m args below meth c own ws vm T h locs k n := ⟨A.1.mono h1 h2, A.2⟩
/-- the walk stands behind a step that moved the tables alone -/
theorem oA.set {T' : State} (A : oA l Z EL n0 p e R s m args below meth c own ws vm T h locs cells slots) (X : Stand p l e R (s.setVm vm) m args below meth c T' locs cells slots) (eT : T'.heap = h) : oA l Z EL n0 p e R s m args below meth c own ws vm T' h locs cells slots := ⟨X, eT, A.2.2⟩
/-- .. that made a cell or more -/
theorem oA.grow {T' : State} {k n : Nat} (A : oA l Z EL n0 p e R s m args below meth c own ws vm T h locs cells slots) (X : Stand p l e R (s.setVm vm) m args below meth c T' locs k n) (eT : T'.heap = h') (E : Ext h h') : oA l Z EL n0 p e R s m args below meth c own ws vm T' h' locs k n := by
  obtain ⟨-, -, hZ, ho, ⟨k, hS, hk⟩, N, O, K, C⟩ := A
  exact ⟨X, eT, hZ, ho, ⟨k, hS, Nat.le_trans hk E.1⟩, N, O.ext E, K.ext E, C.trans (CHr.ext E C.1)⟩
/-- .. that wrote one place -/
theorem oA.write {T' : State} {a : Addr} {sl : Nat} {v : Value} (A : oA l Z EL n0 p e R s m args below meth c own ws vm T h locs cells slots) (X : Stand p l e R (s.setVm vm) m args below meth c T' (locs ++ [⟨a, sl⟩]) cells slots) (eT : T'.heap = h') (W : Wr h h' a sl v) (q1 : n0 ≤ a) (q2 : a ∈ ws ∨ s.heap.size ≤ a) (q3 : Safe Z EL vm h a) : oA l Z EL n0 p e R s m args below meth c own ws vm T' h' (locs ++ [⟨a, sl⟩]) cells slots := by
  obtain ⟨-, -, hZ, ho, ⟨k, hS, hk⟩, N, O, K, C⟩ := A
  exact ⟨X, eT, hZ, ho, ⟨k, hS, by rw [W.size]; exact hk⟩, N.app fun y hy => by cases List.mem_singleton.mp hy; exact q1, O.wr W q1, K.wr W q2, C.trans (CHr.wr W q3 C.1)⟩
theorem oA.safeExa {x : Addr} {C : String} (A : oA l Z EL n0 p e R s m args below meth c own ws vm T h locs cells slots) (E : Exa Z h x C) (h1 : C ≠ "java/lang/String") (h2 : C ≠ "[B") : Safe Z EL vm h x := Safe.exa A.al E h1 h2
/-! single steps -/
theorem oA.getF (A : oA l Z EL n0 p e R s m args below meth c own ws vm T h locs cells slots) (hx : p.tables.exec = Jvm.exec) {R0 O n d host : String} {index : Nat} (w : (Jvm.Cond.fieldLink own index R0 n d).before a0 Z = true ∨ (Jvm.Cond.fieldLinkNest own index R0 n d host).before a0 Z = true) (via : Via Z R0 O n d) {a : Addr} {v : Value} (F : Fld Z h a O n d v) {g : JFrame} (hg : g.method = m) {rest : List Value} (hs : g.stack = .ref a :: rest) (hd : decode c.code g.pc = .ok (.getfield index, 3)) :
    ∃ T', oA l Z EL n0 p e R s m args below meth c own ws vm T' h locs cells slots ∧ ∀ t, Steps p.tables e below (T'.setTop { g with pc := g.pc + 3, stack := v :: rest }) t → Steps p.tables e below (T.setTop g) t := by
  obtain ⟨T', X', e', st⟩ := RoadKit.getF A.1 hx A.2.2.1 A.2.2.2.1 w via A.2.1 F hg hs hd
  exact ⟨T', A.set X' e', st⟩
theorem oA.putF (A : oA l Z EL n0 p e R s m args below meth c own ws vm T h locs cells slots) (hx : p.tables.exec = Jvm.exec) {R0 O n d host C : String} {index kk : Nat} {ty : FieldType} (w : (Jvm.Cond.fieldLink own index R0 n d).before a0 Z = true ∨ (Jvm.Cond.fieldLinkNest own index R0 n d host).before a0 Z = true) (via : Via Z R0 O n d) {a : Addr} {v old : Value} (F : Fld Z h a O n d old) (E : Exa Z h a C)
    (L : (Jvm.Cond.lays C O n d).before a0 Z = true ∨ ((Jvm.Cond.laysFinal C O n d).before a0 Z = true ∧ own = O ∧ meth.name = "<init>")) (wi : (Jvm.Cond.instantiable C kk).before a0 Z = true) (hty : parseFieldDescriptor d = some ty) (hn : narrow ty v = v) (hf : fits ty v = true) (q1 : n0 ≤ a) (q2 : a ∈ ws ∨ s.heap.size ≤ a) (q3 : Safe Z EL vm h a)
    {g : JFrame} (hg : g.method = m) {rest : List Value} (hs : g.stack = v :: .ref a :: rest) (hd : decode c.code g.pc = .ok (.putfield index, 3)) :
    ∃ T' h', oA l Z EL n0 p e R s m args below meth c own ws vm T' h' (locs ++ [⟨a, Jvm.RoadKit.slotOf Z O n d⟩]) cells slots ∧ Wr h h' a (Jvm.RoadKit.slotOf Z O n d) v ∧ ∀ t, Steps p.tables e below (T'.setTop { g with pc := g.pc + 3, stack := rest }) t → Steps p.tables e below (T.setTop g) t := by
  obtain ⟨T', h', X', e', W, st⟩ := RoadKit.putF A.1 hx A.2.2.1 A.2.2.2.1 w via A.2.1 F E L wi hty hn hf hg hs hd
  exact ⟨T', h', A.write X' e' W q1 q2 q3, W, st⟩
theorem oA.getS (A : oA l Z EL n0 p e R s m args below meth c own ws vm T h locs cells slots) (hx : p.tables.exec = Jvm.exec) {R0 O n d host : String} {index : Nat} (w : (Jvm.Cond.fieldLink own index R0 n d).before a0 Z = true ∨ (Jvm.Cond.fieldLinkNest own index R0 n d host).before a0 Z = true) (via : Via Z R0 O n d) {v : Value} (F : Sta Z Z.heap O n d v) {g : JFrame} (hg : g.method = m) (hd : decode c.code g.pc = .ok (.getstatic index, 3)) :
    ∃ T', oA l Z EL n0 p e R s m args below meth c own ws vm T' h locs cells slots ∧ ∀ t, Steps p.tables e below (T'.setTop { g with pc := g.pc + 3, stack := v :: g.stack }) t → Steps p.tables e below (T.setTop g) t := by
  obtain ⟨T', X', e', st⟩ := RoadKit.getS2 A.1 hx A.2.2.1 A.2.2.2.1 w via A.2.1 (F.ext A.old) hg hd
  exact ⟨T', A.set X' e', st⟩
theorem oA.newO (A : oA l Z EL n0 p e R s m args below meth c own ws vm T h locs cells slots) (hx : p.tables.exec = Jvm.exec) {C : String} {index n : Nat} (w : (Jvm.Cond.classLink own index C).before a0 Z = true) (wi : (Jvm.Cond.instantiable C n).before a0 Z = true) (wz : (Jvm.Cond.initialized C).before a0 Z = true) {g : JFrame} (hg : g.method = m) (hd : decode c.code g.pc = .ok (.new index, 3)) (hc : cells + 1 ≤ R.cells) (hl : slots + n ≤ R.slots) :
    ∃ T' h' x, x = h.size ∧ x < h'.size ∧ n0 ≤ x ∧ s.heap.size ≤ x ∧ oA l Z EL n0 p e R s m args below meth c own ws vm T' h' locs (cells + 1) (slots + n) ∧ Ext h h' ∧ Exa Z h' x C ∧ Safe Z EL vm h' x ∧ (∀ {O nm d : String} {ty : FieldType}, Laid Z a0 C O nm d → parseFieldDescriptor d = some ty → Fld Z h' x O nm d (defaultValue ty)) ∧
      ∀ t, Steps p.tables e below (T'.setTop { g with pc := g.pc + 3, stack := .ref x :: g.stack }) t → Steps p.tables e below (T.setTop g) t := by
  obtain ⟨T', h', X', e', E, Ex, D, -, st⟩ := RoadKit.newO A.1 hx A.2.2.1 A.2.2.2.1 w wi wz A.2.1 hg hd hc hl
  exact ⟨T', h', h.size, rfl, Ex.lt, A.n0le, A.sle, A.grow X' e' E, E, Ex, (Safe.new (Nat.le_refl _)).ext E A.ch, D, st⟩
theorem oA.newP (A : oA l Z EL n0 p e R s m args below meth c own ws vm T h locs cells slots) (hx : p.tables.exec = Jvm.exec) {aty : ArrayType} (w : (Jvm.Cond.arrayClass (newarray.typeOf aty)).before a0 Z = true) {g : JFrame} (hg : g.method = m) (hd : decode c.code g.pc = .ok (.newarray aty, 2)) {n : Int32} {rest : List Value} (hs : g.stack = .int n :: rest)
    (hn : ¬ n < 0) {cap : Nat} (hcap : n.toNatClampNeg ≤ cap) (hb : cap * 8 ≤ 536870912) (hc : cells + 1 ≤ R.cells) (hl : slots + cap ≤ R.slots) :
    ∃ T' h' x k, x = h.size ∧ x < h'.size ∧ n0 ≤ x ∧ s.heap.size ≤ x ∧ oA l Z EL n0 p e R s m args below meth c own ws vm T' h' locs (cells + 1) (slots + cap) ∧ Ext h h' ∧ Arv Z h' x k (newarray.typeOf aty) n [] (defaultValue (newarray.typeOf aty)) ∧ Safe Z EL vm h' x ∧
      ∀ t, Steps p.tables e below (T'.setTop { g with pc := g.pc + 2, stack := .ref x :: rest }) t → Steps p.tables e below (T.setTop g) t := by
  obtain ⟨T', h', k, X', e', E, Ar, st⟩ := RoadKit.newP A.1 hx A.2.2.1 w A.2.1 hg hd hs hn hcap hb hc hl
  exact ⟨T', h', h.size, k, rfl, Ar.lt, A.n0le, A.sle, A.grow X' e' E, E, Arv.new Ar hn, (Safe.new (Nat.le_refl _)).ext E A.ch, st⟩
theorem oA.stC (A : oA l Z EL n0 p e R s m args below meth c own ws vm T h locs cells slots) (hx : p.tables.exec = Jvm.exec) {a : Addr} {k : ClassId} {z : Int32} {vs : List Value} {d : Value} (V : Arv Z h a k .char z vs d) {j x : Int32} (i : Nat) (hj : j.toNatClampNeg = i) (hj0 : ¬ j < 0 ∧ j < z) (hi : i < vs.length) (q1 : n0 ≤ a) (q2 : a ∈ ws ∨ s.heap.size ≤ a)
    {g : JFrame} (hg : g.method = m) {rest : List Value} (hs : g.stack = .int x :: .int j :: .ref a :: rest) (hd : decode c.code g.pc = .ok (.castore, 1)) :
    ∃ T' h', oA l Z EL n0 p e R s m args below meth c own ws vm T' h' (locs ++ [⟨a, j.toNatClampNeg⟩]) cells slots ∧ Wr h h' a j.toNatClampNeg (.int (nar .char x)) ∧ Arv Z h' a k .char z (vs.set i (.int (nar .char x))) d ∧ ∀ t, Steps p.tables e below (T'.setTop { g with pc := g.pc + 1, stack := rest }) t → Steps p.tables e below (T.setTop g) t := by
  have hsafe : Safe Z EL vm h a := Safe.arv A.al V (by simp)
  obtain ⟨cl, Ar, r1, S, r3, H, G⟩ := V
  obtain ⟨T', h', X', e', W, st⟩ := RoadKit.stC A.1 hx A.2.2.1 A.2.1 Ar (inb_of S hj0) hg hs hd
  exact ⟨T', h', A.write X' e' W q1 q2 hsafe, W, Arv.set Ar r1 S r3 H G (fits_nar_char _) W i hj hi, st⟩
theorem oA.stB (A : oA l Z EL n0 p e R s m args below meth c own ws vm T h locs cells slots) (hx : p.tables.exec = Jvm.exec) {a : Addr} {k : ClassId} {z : Int32} {vs : List Value} {d : Value} (V : Arv Z h a k .byte z vs d) {j x : Int32} (i : Nat) (hj : j.toNatClampNeg = i) (hj0 : ¬ j < 0 ∧ j < z) (hi : i < vs.length) (q1 : n0 ≤ a) (q2 : a ∈ ws ∨ s.heap.size ≤ a) (q3 : Safe Z EL vm h a)
    {g : JFrame} (hg : g.method = m) {rest : List Value} (hs : g.stack = .int x :: .int j :: .ref a :: rest) (hd : decode c.code g.pc = .ok (.bastore, 1)) :
    ∃ T' h', oA l Z EL n0 p e R s m args below meth c own ws vm T' h' (locs ++ [⟨a, j.toNatClampNeg⟩]) cells slots ∧ Wr h h' a j.toNatClampNeg (.int (nar .byte x)) ∧ Arv Z h' a k .byte z (vs.set i (.int (nar .byte x))) d ∧ ∀ t, Steps p.tables e below (T'.setTop { g with pc := g.pc + 1, stack := rest }) t → Steps p.tables e below (T.setTop g) t := by
  obtain ⟨cl, Ar, r1, S, r3, H, G⟩ := V
  obtain ⟨T', h', X', e', W, st⟩ := RoadKit.stB A.1 hx A.2.2.1 A.2.1 Ar (inb_of S hj0) hg hs hd
  exact ⟨T', h', A.write X' e' W q1 q2 q3, W, Arv.set Ar r1 S r3 H G (fits_nar_byte _) W i hj hi, st⟩
theorem oA.len (A : oA l Z EL n0 p e R s m args below meth c own ws vm T h locs cells slots) (hx : p.tables.exec = Jvm.exec) {a : Addr} {k : ClassId} {ty : FieldType} {z : Int32} {vs : List Value} {d : Value} (V : Arv Z h a k ty z vs d) {g : JFrame} (hg : g.method = m) {rest : List Value} (hs : g.stack = .ref a :: rest) (hd : decode c.code g.pc = .ok (.arraylength, 1)) :
    ∀ t, Steps p.tables e below (T.setTop { g with pc := g.pc + 1, stack := .int z :: rest }) t → Steps p.tables e below (T.setTop g) t := by
  obtain ⟨cl, Ar, r1, S, r3, H, G⟩ := V
  intro t ht
  refine A.1.arraylength hx (by rw [A.2.1]; exact Ar.1) (State.isArrayOf_alike A.al Ar.2.1) hg hs hd _ ?_
  rw [len_of S r3]
  exact ht
theorem oA.ldC (A : oA l Z EL n0 p e R s m args below meth c own ws vm T h locs cells slots) (hx : p.tables.exec = Jvm.exec) {a : Addr} {k : ClassId} {z : Int32} {vs : List Value} {d v : Value} (V : Arv Z h a k .char z vs d) {j : Int32} (hj0 : ¬ j < 0 ∧ j < z) (hv : vs.getD j.toNatClampNeg d = v) {g : JFrame} (hg : g.method = m) {rest : List Value} (hs : g.stack = .int j :: .ref a :: rest) (hd : decode c.code g.pc = .ok (.caload, 1)) :
    ∀ t, Steps p.tables e below (T.setTop { g with pc := g.pc + 1, stack := v :: rest }) t → Steps p.tables e below (T.setTop g) t := by
  obtain ⟨cl, Ar, r1, S, r3, H, G⟩ := V
  intro t ht
  exact A.1.caload hx (by rw [A.2.1]; exact Ar.1) (State.isArrayOf_alike A.al Ar.2.1) Ar.2.2 (inb_of S hj0) (H.at (inb_of S hj0) hv) hg hs hd _ ht
theorem oA.ldB (A : oA l Z EL n0 p e R s m args below meth c own ws vm T h locs cells slots) (hx : p.tables.exec = Jvm.exec) {a : Addr} {k : ClassId} {z : Int32} {vs : List Value} {d v : Value} (V : Arv Z h a k .byte z vs d) {j : Int32} (hj0 : ¬ j < 0 ∧ j < z) (hv : vs.getD j.toNatClampNeg d = v) {g : JFrame} (hg : g.method = m) {rest : List Value} (hs : g.stack = .int j :: .ref a :: rest) (hd : decode c.code g.pc = .ok (.baload, 1)) :
    ∀ t, Steps p.tables e below (T.setTop { g with pc := g.pc + 1, stack := v :: rest }) t → Steps p.tables e below (T.setTop g) t := by
  obtain ⟨cl, Ar, r1, S, r3, H, G⟩ := V
  intro t ht
  exact A.1.baloadBytes hx (by rw [A.2.1]; exact Ar.1) (State.isArrayOf_alike A.al Ar.2.1) Ar.2.2 (inb_of S hj0) (H.at (inb_of S hj0) hv) hg hs hd _ ht
theorem oA.ldR (A : oA l Z EL n0 p e R s m args below meth c own ws vm T h locs cells slots) (hx : p.tables.exec = Jvm.exec) {a : Addr} {k : ClassId} {ty : FieldType} {z : Int32} {vs : List Value} {d v : Value} (V : Arv Z h a k ty z vs d) (hty : ty.isReference = true) {j : Int32} (hj0 : ¬ j < 0 ∧ j < z) (hv : vs.getD j.toNatClampNeg d = v) {g : JFrame} (hg : g.method = m) {rest : List Value} (hs : g.stack = .int j :: .ref a :: rest) (hd : decode c.code g.pc = .ok (.aaload, 1)) :
    ∀ t, Steps p.tables e below (T.setTop { g with pc := g.pc + 1, stack := v :: rest }) t → Steps p.tables e below (T.setTop g) t := by
  obtain ⟨cl, Ar, r1, S, r3, H, G⟩ := V
  intro t ht
  exact A.1.aaload hx (by rw [A.2.1]; exact Ar.1) (State.isArrayOf_alike A.al Ar.2.1) hty Ar.2.2 (inb_of S hj0) (H.at (inb_of S hj0) hv) hg hs hd _ ht
theorem oA.ldcI (A : oA l Z EL n0 p e R s m args below meth c own ws vm T h locs cells slots) (hx : p.tables.exec = Jvm.exec) {index : Nat} {v : Int32} (w : (Jvm.Cond.constant own index v).before a0 Z = true) {g : JFrame} (hg : g.method = m) (hd : decode c.code g.pc = .ok (.ldc index, 2)) :
    ∀ t, Steps p.tables e below (T.setTop { g with pc := g.pc + 2, stack := .int v :: g.stack }) t → Steps p.tables e below (T.setTop g) t :=
  A.1.ldcInt hx A.2.2.2.1 (mvT A.2.2.1 w) hg hd
theorem oA.ldcJ (A : oA l Z EL n0 p e R s m args below meth c own ws vm T h locs cells slots) (hx : p.tables.exec = Jvm.exec) {index : Nat} {v : Int64} (w : (Jvm.Cond.constantLong own index v).before a0 Z = true) {g : JFrame} (hg : g.method = m) (hd : decode c.code g.pc = .ok (.ldc2_w index, 3)) :
    ∀ t, Steps p.tables e below (T.setTop { g with pc := g.pc + 3, stack := .long v :: g.stack }) t → Steps p.tables e below (T.setTop g) t :=
  fun t ht => A.1.ldc2J hx A.2.2.2.1 (mvT A.2.2.1 w) hg hd ht
theorem oA.initO (A : oA l Z EL n0 p e R s m args below meth c own ws vm T h locs cells slots) (hx : p.tables.exec = Jvm.exec) {idx : Nat} (w1 : (Jvm.Cond.methodLink own idx Lib.objectInit).before a0 Z = true) (w2 : (Jvm.Cond.instanceMethod Lib.objectInit).before a0 Z = true) (w3 : (Jvm.Cond.code Lib.objectInit ⟨#[0xb1]⟩ 1 none).before a0 Z = true) {g : JFrame} (hg : g.method = m) (hsize : g.locals.size = c.maxLocals) {a : Addr} {rest : List Value} (hs : g.stack = .ref a :: rest) (hd : decode c.code g.pc = .ok (.invokespecial idx, 3))
    (hf : 1 ≤ R.frames) {W : Nat} (hW : 2 * g.monitorRoom + (rest.map fun v => v.category).sum ≤ W) (hl : W + 12 ≤ R.locals) :
    ∃ T', oA l Z EL n0 p e R s m args below meth c own ws vm T' h locs cells slots ∧ ∀ t, Steps p.tables e below (T'.setTop { g with pc := g.pc + 3, stack := rest }) t → Steps p.tables e below (T.setTop g) t := by
  obtain ⟨T', X', e', st⟩ := RoadKit.initO A.1 hx A.2.2.1 A.2.2.2.1 w1 w2 w3 A.2.1 hg hsize hs hd hf hW hl
  exact ⟨T', A.set X' e', st⟩
theorem oA.castY (A : oA l Z EL n0 p e R s m args below meth c own ws vm T h locs cells slots) (hx : p.tables.exec = Jvm.exec) {K : String} {index : Nat} (w : (Jvm.Cond.classLink own index K).before a0 Z = true) {a : Addr} (F : Ins Z h a K true) {g : JFrame} (hg : g.method = m) {rest : List Value} (hs : g.stack = .ref a :: rest) (hd : decode c.code g.pc = .ok (.checkcast index, 3)) :
    ∃ T', oA l Z EL n0 p e R s m args below meth c own ws vm T' h locs cells slots ∧ ∀ t, Steps p.tables e below (T'.setTop { g with pc := g.pc + 3 }) t → Steps p.tables e below (T.setTop g) t := by
  obtain ⟨T', X', e', st⟩ := RoadKit.castY A.1 hx A.2.2.1 A.2.2.2.1 w A.2.1 F hg hs hd
  exact ⟨T', A.set X' e', st⟩
theorem oA.instY (A : oA l Z EL n0 p e R s m args below meth c own ws vm T h locs cells slots) (hx : p.tables.exec = Jvm.exec) {K : String} {index : Nat} (w : (Jvm.Cond.classLink own index K).before a0 Z = true) {a : Addr} (F : Ins Z h a K true) {g : JFrame} (hg : g.method = m) {rest : List Value} (hs : g.stack = .ref a :: rest) (hd : decode c.code g.pc = .ok (.instanceof index, 3)) :
    ∃ T', oA l Z EL n0 p e R s m args below meth c own ws vm T' h locs cells slots ∧ ∀ t, Steps p.tables e below (T'.setTop { g with pc := g.pc + 3, stack := .int 1 :: rest }) t → Steps p.tables e below (T.setTop g) t := by
  obtain ⟨T', X', e', st⟩ := RoadKit.instY A.1 hx A.2.2.1 A.2.2.2.1 w A.2.1 F hg hs hd
  exact ⟨T', A.set X' e', st⟩
theorem oA.instNo (A : oA l Z EL n0 p e R s m args below meth c own ws vm T h locs cells slots) (hx : p.tables.exec = Jvm.exec) {K C : String} {index : Nat} (w : (Jvm.Cond.classLink own index K).before a0 Z = true) {a : Addr} (E : Exa Z h a C) (F : ∃ c t, Z.vm.findClass C = some c ∧ Z.vm.findClass K = some t ∧ Z.vm.assignable c t = false) {g : JFrame} (hg : g.method = m) {rest : List Value} (hs : g.stack = .ref a :: rest) (hd : decode c.code g.pc = .ok (.instanceof index, 3)) :
    ∃ T', oA l Z EL n0 p e R s m args below meth c own ws vm T' h locs cells slots ∧ ∀ t, Steps p.tables e below (T'.setTop { g with pc := g.pc + 3, stack := .int 0 :: rest }) t → Steps p.tables e below (T.setTop g) t := by
  obtain ⟨T', X', e', st⟩ := RoadKit.instNo A.1 hx A.2.2.1 A.2.2.2.1 w A.2.1 E F hg hs hd
  exact ⟨T', A.set X' e', st⟩
/-- ldc of a String constant of the book: the String, its array, its text -/
theorem oA.ldcS (A : oA l Z EL n0 p e R s m args below meth c own ws vm T h locs cells slots) (hx : p.tables.exec = Jvm.exec) {text : String} {index : Nat} (w : (Jvm.Cond.stringLink own index text).before a0 Z = true) (wS : ∀ a ∈ Bundle.stringAtoms, a.before a0 Z = true) (hEL : EW Z a0 EL) (hmem : (own, index) ∈ EL)
    {vs : List Value} {z : Int32} (ht : (∀ c ∈ text.toList, c.toNat < 256) ∧ text.toList.map (fun c => Value.int (Jvm.Lit.byteI c.toNat.toUInt16)) = vs) (hz : ¬ z < 0) (hl : z.toNatClampNeg = vs.length)
    {g : JFrame} (hg : g.method = m) (hd : decode c.code g.pc = .ok (.ldc index, 2)) {n : Nat} (hn : 4 * text.toList.length ≤ n) (hbig : n ≤ 536870912) (hc : cells + 2 ≤ R.cells) (hl' : slots + (n + 4) ≤ R.slots) :
    ∃ (x : Addr) (T' : State) (h' : Heap) (b : Addr) (k : ClassId), oA l Z EL n0 p e R s m args below meth c own ws T'.vm T' h' locs (cells + 2) (slots + (n + 4)) ∧ Ext h h' ∧ CHr Z EL vm h T'.vm h' ∧ Exa Z h' x "java/lang/String" ∧ Fld Z h' x "java/lang/String" "coder" "B" (.int 0) ∧ Fld Z h' x "java/lang/String" "value" "[B" (.ref b) ∧ Arv Z h' b k .byte z vs (.int 0) ∧ (∀ y, Safe Z EL T'.vm h' y → y ≠ x ∧ y ≠ b) ∧ Lit (s.setVm T'.vm) own index x ∧
      ∀ t, Steps p.tables e below (T'.setTop { g with pc := g.pc + 2, stack := .ref x :: g.stack }) t → Steps p.tables e below (T.setTop g) t := by
  obtain ⟨X, eT, hZ, ho, ⟨k0, hS, hk⟩, N, O, K, C⟩ := A
  obtain ⟨a, T', h', k1, b, k, r1, r2, r3, r4, r5, r6, r7, r8, r9, r10, r11, r12, r13, r14, r15, r16, st⟩ := ldcCH X hx hZ ho w wS eT hS hk hEL hmem C.1 ht hz hl hg hd hn hbig hc hl'
  exact ⟨a, T', h', b, k, ⟨r1, r2, r6, r7, ⟨k1, r4, r5⟩, N, O.ext r3, K.ext r3, C.trans r14⟩, r3, r14, r8, r9, r10, r11, r16, r15, st⟩
/-- a second load of the same constant -/
theorem oA.ldcS2 (A : oA l Z EL n0 p e R s m args below meth c own ws vm T h locs cells slots) (hx : p.tables.exec = Jvm.exec) {text : String} {index : Nat} (w : (Jvm.Cond.stringLink own index text).before a0 Z = true) {x : Addr} (L : Lit (s.setVm vm) own index x) {g : JFrame} (hg : g.method = m) (hd : decode c.code g.pc = .ok (.ldc index, 2)) :
    ∀ t, Steps p.tables e below (T.setTop { g with pc := g.pc + 2, stack := .ref x :: g.stack }) t → Steps p.tables e below (T.setTop g) t :=
  ldcAgain A.1 hx A.2.2.1 A.2.2.2.1 w L hg hd
/-! the contract of a body -/
def oMet (l : Launch) (Z : State) (EL : List (String × Nat)) (n0 : Nat) (y : MethodName) (bytes : ByteArray) (maxL : Nat) (ret : Option FieldType) (wz : List Jvm.Cond) (rm : Room) (as' : Array Value) (h0 : Heap) (ws : List Addr) (P : Option Value → Vm → Heap → Prop) : Prop :=
  MetFree l y (head1 (Jvm.Cond.code y bytes maxL ret :: wz) rm) (fun a U => a = as' ∧ Z.Warmed39 U.vm ∧ U.heap = h0 ∧ CHv Z EL U.vm h0 ∧ ∀ y ∈ ws, Safe Z EL U.vm h0 y) (fun _ _ _ _ _ => True) (fun _ U o U' => ∃ v L, o = .returned v ∧ (Fr n0 L ∧ Keep h0 U'.heap ws ∧ P v U'.vm U'.heap) ∧ CHr Z EL U.vm U.heap U'.vm U'.heap ∧ ReturnedEndW U o U' L rm.cells rm.slots)
/-- what the walk of a body must come to -/
def oEnd (Z : State) (EL : List (String × Nat)) (n0 : Nat) (rm : Room) (s : State) (ws : List Addr) (P : Option Value → Vm → Heap → Prop) (o : Outcome) (u : State) : Prop :=
  ∃ v L, o = .returned v ∧ (Fr n0 L ∧ Keep s.heap u.heap ws ∧ P v u.vm u.heap) ∧ CHr Z EL s.vm s.heap u.vm u.heap ∧ ReturnedEndW s o u L rm.cells rm.slots
theorem oMet.of {y : MethodName} {bytes : ByteArray} {maxL : Nat} {ret : Option FieldType} {wz : List Jvm.Cond} {rm : Room} {as' : Array Value} {h0 : Heap} {P : Option Value → Vm → Heap → Prop} (hpl : plainFor y = true) (hO : Old Z n0 h0)
    (body : ∀ (p : Program) (e : Env) (s : State) (m : MethodId) (below : List Frame) (meth : Method) (c : Code) (s₁ : State), p.tables.exec = Jvm.exec → c.code = bytes → c.maxLocals = maxL → meth.sig.returnType = ret → meth.name = y.name → meth.locks = false → s.heap = h0 → (∀ y ∈ ws, Safe Z EL s.vm h0 y) →
      oA l Z EL n0 p e rm s m as' below meth c y.cls ws s.vm s₁ h0 [] 0 0 → oGo p e below (oEnd Z EL n0 rm s ws P) (s₁.setTop (entryFrame m as' maxL))) : oMet l Z EL n0 y bytes maxL ret wz rm as' h0 ws P := by
  refine MetFree.of_bodySF hpl hisR ?_
  intro p e s m args below meth c s₁ Bd hml0 hP hK
  obtain ⟨ha, hZ, hh, hC, hsf⟩ := hP
  subst ha
  subst hh
  have X0 : Stand p l e rm (s.setVm s.vm) m args below meth c s₁ [] 0 0 := Stand.of_body Bd
  have e0 : s₁.heap = s.heap := by rw [Bd.state]; rfl
  exact body p e s m below meth c s₁ Bd.exec Bd.bytes hml0 Bd.returns (name_of_methodNamed Bd.named Bd.method).1 (BodyLoose.notSynchronized Bd) rfl hsf ⟨X0, e0, hZ, findClass_of_methodNamed Bd.named, ⟨0, (State.WarmedH.refl s).since _, Nat.zero_le _⟩, Fr.nil _, hO, Keep.refl _ _, CHr.refl hC⟩
/-- the end of a body's walk -/
theorem oA.leave (A : oA l Z EL n0 p e R s m args below meth c own ws vm T h locs cells slots) (hlk : meth.locks = false) (hEL : EW Z a0 EL) {v : Option Value} (hv : meth.sig.returnType = none → v = none) {P : Option Value → Vm → Heap → Prop} (hP : ∀ vm', CHr Z EL vm h vm' h → P v vm' h) (hc : cells ≤ R.cells) (hsl : slots ≤ R.slots)
    (st : ∀ fs, (∀ (f : JFrame) (acts : List Action), f.method = m → f.locked = none → f.entered = [] → (doReturn e (T.setTop f) acts v).1 = T.setFrames fs) → Steps p.tables e below B (T.setFrames fs)) : oGo p e below (oEnd Z EL n0 R s ws P) B := by
  obtain ⟨X, eT, hZ, ho, ⟨k, hS, hk⟩, N, O, K, C⟩ := A
  have C3 := CHv.at X hZ hEL C.1
  have C2 := C.trans C3
  subst eT
  obtain ⟨fs, h1, h2, h3, r1, r2, r3, r4⟩ := X.leaveW hS hk hv hlk
  exact ⟨T.setFrames fs, .returned v, st fs h1, h2, h3, v, locs, rfl, ⟨N, K, hP _ C3⟩, C2, r1, r2, r3, r4.mono hc hsl⟩
/-! calls by a contract -/
theorem oBackOf {y : MethodName} {bytes : ByteArray} {maxL : Nat} {ret : Option FieldType} {rm : Room} {len W : Nat} {as' : Array Value} {ws' : List Addr} {P : Option Value → Vm → Heap → Prop} (hM : oMet l Z EL n0 y bytes maxL ret [] rm as' h ws' P) (hZ : Z.Warmed39 vm) (wc : (Jvm.Cond.code y bytes maxL ret).before a0 Z = true) (wz : (Jvm.Cond.initialized y.cls).before a0 Z = true) (hf : rm.frames + 1 ≤ R.frames) (hl : W + (maxL + 11) + rm.locals ≤ R.locals) (hEL : EW Z a0 EL) (H : CHv Z EL vm h) (hsf : ∀ y ∈ ws', Safe Z EL vm h y) :
    BackS l R p e below (s.setVm vm) args y len W (fun A a => a = as' ∧ A.U.heap = h ∧ A.cells + rm.cells ≤ R.cells ∧ A.slots + rm.slots ≤ R.slots)
      (fun A _ v B => ∃ L, (Fr n0 L ∧ Keep h B.U.heap ws' ∧ P v B.U.vm B.U.heap) ∧ B.locs = A.locs ++ L ∧ B.cells = A.cells + rm.cells ∧ B.slots = A.slots + rm.slots ∧ CHr Z EL vm h B.U.vm B.U.heap) := by
  refine BackS.of_freeW (bytes := bytes) (maxL := maxL) (ret := ret) (E := fun _ U o t L k n => (k = rm.cells ∧ n = rm.slots) ∧ (∃ v, o = .returned v ∧ Fr n0 L ∧ Keep h t.heap ws' ∧ P v t.vm t.heap) ∧ CHr Z EL U.vm U.heap t.vm t.heap) hM hf hl ?_ ?_ (fun _ _ _ _ _ _ _ _ _ => trivial) ?_ ?_
  · intro m meth c A a Y hp
    have hU : Z.Warmed39 A.U.vm := wtrans (s := s.setVm vm) hZ Y.warmed
    exact ⟨by show (Jvm.Cond.and _ .tt).before a A.U = true; rw [Cond.before_and, mv hU wc]; rfl, mv hU wc, mv hU wz, hp.2.2.1, hp.2.2.2⟩
  · intro m meth c A a g mk Y hp
    have hC := CHv.at Y hZ hEL H
    refine ⟨hp.1, wtrans (s := s.setVm vm) hZ Y.warmed, hp.2.1, hC.1, fun y hy => ?_⟩
    by_cases q : y < h.size
    · exact hC.safe q (hsf y hy)
    · exact Safe.new (Nat.le_of_not_lt q)
  · intro _ _ _ _ ⟨v, L, h1, h2, h3, h4⟩
    exact ⟨L, _, _, h4, ⟨rfl, rfl⟩, ⟨v, h1, h2⟩, h3⟩
  · intro m meth c A a g mk v t L k n Y hp _ _ ⟨⟨e1, e2⟩, ⟨v', e3, e4⟩, e5⟩
    cases e3
    subst e1 e2
    refine ⟨L, e4, rfl, rfl, rfl, (CHv.at Y hZ hEL H).trans ?_⟩
    rw [← hp.2.1]
    exact e5
theorem oA.back (A : oA l Z EL n0 p e R s m args below meth c own ws vm T h locs cells slots) {rm : Room} {y : MethodName} {ws' : List Addr} {P : Option Value → Vm → Heap → Prop} {v : Option Value} {vm₁ : Vm} {as' : Array Value} {B : Pt} {k n : Nat}
    (X' : Stand p l e R ((s.setVm vm).setVm B.U.vm) m args below meth c B.U B.locs B.cells B.slots) (hS' : (s.setVm vm).Since B.U.vm B.U.heap.size) (hgr : T.heap.size ≤ B.U.heap.size)
    (hQ : ∃ L, (Fr n0 L ∧ Keep h B.U.heap ws' ∧ P v B.U.vm B.U.heap) ∧ B.locs = locs ++ L ∧ B.cells = cells + k ∧ B.slots = slots + n ∧ CHr Z EL vm h B.U.vm B.U.heap) (q1 : ∀ x ∈ ws', n0 ≤ x) (q2 : ∀ x ∈ ws', x ∈ ws ∨ s.heap.size ≤ x) :
    ∃ L, oA l Z EL n0 p e R s m args below meth c own ws B.U.vm B.U B.U.heap (locs ++ L) (cells + k) (slots + n) ∧ Keep h B.U.heap ws' ∧ CHr Z EL vm h B.U.vm B.U.heap ∧ P v B.U.vm B.U.heap := by
  obtain ⟨X, eT, hZ, ho, ⟨k0, hS, hk⟩, N, O, K, C⟩ := A
  obtain ⟨L, ⟨f1, f2, f3⟩, e1, e2, e3, hC⟩ := hQ
  obtain ⟨X2, S2, Z2, o2⟩ := rebS hS (show k0 ≤ T.heap.size by rw [eT]; exact hk) X' hS' hgr hZ ho
  rw [e1, e2, e3] at X2
  exact ⟨L, ⟨X2, rfl, Z2, o2, ⟨_, S2, Nat.le_refl _⟩, N.app f1, O.keep f2 q1, K.trans f2 q2, C.trans hC⟩, f2, hC, f3⟩
theorem oA.callS (A : oA l Z EL n0 p e R s m args below meth c own ws vm T h locs cells slots) (hx : p.tables.exec = Jvm.exec) {index : Nat} {y : MethodName} {bytes : ByteArray} {maxL : Nat} {ret : Option FieldType} (w1 : (Jvm.Cond.methodLink own index y).before a0 Z = true) (w2 : (Jvm.Cond.static y).before a0 Z = true) (w3 : (Jvm.Cond.initialized y.cls).before a0 Z = true) (w4 : (Jvm.Cond.code y bytes maxL ret).before a0 Z = true) (hy : y.cls ≠ "java/lang/invoke/MethodHandle" ∧ y.cls ≠ "java/lang/invoke/VarHandle") (hEL : EW Z a0 EL)
    {rm : Room} {argsL rest : List Value} {ws' : List Addr} {P : Option Value → Vm → Heap → Prop} (M : oMet l Z EL n0 y bytes maxL ret [] rm argsL.toArray h ws' P) {W : Nat} (hf : rm.frames + 1 ≤ R.frames) (hl : W + (maxL + 11) + rm.locals ≤ R.locals) (hc : cells + rm.cells ≤ R.cells) (hsl : slots + rm.slots ≤ R.slots) (q1 : ∀ x ∈ ws', n0 ≤ x) (q2 : ∀ x ∈ ws', x ∈ ws ∨ s.heap.size ≤ x) (q3 : ∀ x ∈ ws', Safe Z EL vm h x)
    {g : JFrame} (hg : g.method = m) (hsize : g.locals.size = c.maxLocals) (hlen : ∀ sig, parseMethodDescriptor y.desc = some sig → argsL.length = sig.parameters.length) (hstack : g.stack = argsL.reverse ++ rest) (hW : 2 * g.monitorRoom + (rest.map fun v => v.category).sum ≤ W) (hd : decode c.code g.pc = .ok (.invokestatic index, 3)) :
    ∃ (v : Option Value) (vm' : Vm) (T' : State) (h' : Heap) (L : List Loc), oA l Z EL n0 p e R s m args below meth c own ws vm' T' h' (locs ++ L) (cells + rm.cells) (slots + rm.slots) ∧ Keep h h' ws' ∧ CHr Z EL vm h vm' h' ∧ P v vm' h' ∧ ∀ t, Steps p.tables e below (T'.setTop { g with pc := g.pc + 3, stack := v.toList ++ rest }) t → Steps p.tables e below (T.setTop g) t := by
  have hZ := A.2.2.1
  obtain ⟨v, vm₁, B, -, X', hS', hgr, hQ, st⟩ := RoadKit.callSS (s := s.setVm vm) A.1 hx A.2.2.2.1 (mvT (s := s.setVm vm) hZ w1) (mvT (s := s.setVm vm) hZ w2) (mvT (s := s.setVm vm) hZ w3) (mvT (s := s.setVm vm) hZ w4) hy (oBackOf (s := s) (args := args) M hZ w4 w3 hf hl hEL A.ch q3) hg hsize hlen hstack hW hd (fun vm₁ _ => ⟨rfl, A.2.1, hc, hsl⟩)
  obtain ⟨L, A', r⟩ := A.back (rm := rm) (y := y) (vm₁ := vm₁) (as' := #[]) X' hS' hgr hQ q1 q2
  exact ⟨v, _, B.U, _, L, A', r.1, r.2.1, r.2.2, fun t ht => st.trans ht⟩
theorem oA.callN (A : oA l Z EL n0 p e R s m args below meth c own ws vm T h locs cells slots) (hx : p.tables.exec = Jvm.exec) {index : Nat} {y : MethodName} {bytes : ByteArray} {maxL : Nat} (hy1 : y.name = "<init>") (w1 : (Jvm.Cond.methodLink own index y).before a0 Z = true) (w2 : (Jvm.Cond.instanceMethod y).before a0 Z = true) (w3 : (Jvm.Cond.initialized y.cls).before a0 Z = true) (w4 : (Jvm.Cond.code y bytes maxL none).before a0 Z = true) (hy : y.cls ≠ "java/lang/invoke/MethodHandle" ∧ y.cls ≠ "java/lang/invoke/VarHandle") (hEL : EW Z a0 EL)
    {rm : Room} {a : Addr} {argsL rest : List Value} {ws' : List Addr} {P : Option Value → Vm → Heap → Prop} (M : oMet l Z EL n0 y bytes maxL none [] rm (.ref a :: argsL).toArray h ws' P) {W : Nat} (hf : rm.frames + 1 ≤ R.frames) (hl : W + (maxL + 11) + rm.locals ≤ R.locals) (hc : cells + rm.cells ≤ R.cells) (hsl : slots + rm.slots ≤ R.slots) (q1 : ∀ x ∈ ws', n0 ≤ x) (q2 : ∀ x ∈ ws', x ∈ ws ∨ s.heap.size ≤ x) (q3 : ∀ x ∈ ws', Safe Z EL vm h x)
    {g : JFrame} (hg : g.method = m) (hsize : g.locals.size = c.maxLocals) (hlen : ∀ sig, parseMethodDescriptor y.desc = some sig → argsL.length = sig.parameters.length) (hstack : g.stack = argsL.reverse ++ .ref a :: rest) (hW : 2 * g.monitorRoom + (rest.map fun v => v.category).sum ≤ W) (hd : decode c.code g.pc = .ok (.invokespecial index, 3)) :
    ∃ (v : Option Value) (vm' : Vm) (T' : State) (h' : Heap) (L : List Loc), oA l Z EL n0 p e R s m args below meth c own ws vm' T' h' (locs ++ L) (cells + rm.cells) (slots + rm.slots) ∧ Keep h h' ws' ∧ CHr Z EL vm h vm' h' ∧ P v vm' h' ∧ ∀ t, Steps p.tables e below (T'.setTop { g with pc := g.pc + 3, stack := v.toList ++ rest }) t → Steps p.tables e below (T.setTop g) t := by
  have hZ := A.2.2.1
  obtain ⟨v, vm₁, B, -, X', hS', hgr, hQ, st⟩ := Stand.specialBackS (s := s.setVm vm) A.1 hx hy1 A.2.2.2.1 (mvT (s := s.setVm vm) hZ w1) (mvT (s := s.setVm vm) hZ w2) (mvT (s := s.setVm vm) hZ w4) hy (oBackOf (s := s) (args := args) M hZ w4 w3 hf hl hEL A.ch q3) hg hsize (Steps.refl _) hlen hstack hW hd (fun vm₁ _ => ⟨rfl, A.2.1, hc, hsl⟩)
  obtain ⟨L, A', r⟩ := A.back (rm := rm) (y := y) (vm₁ := vm₁) (as' := #[]) X' hS' hgr hQ q1 q2
  exact ⟨v, _, B.U, _, L, A', r.1, r.2.1, r.2.2, fun t ht => st.trans ht⟩
theorem oA.callV (A : oA l Z EL n0 p e R s m args below meth c own ws vm T h locs cells slots) (hx : p.tables.exec = Jvm.exec) {index : Nat} {C : String} {y z : MethodName} {bytes : ByteArray} {maxL : Nat} {ret : Option FieldType} (w1 : (Jvm.Cond.methodLink own index y).before a0 Z = true) (w2 : (Jvm.Cond.declares y).before a0 Z = true) (nf : NotFace (s.setVm vm) y) (w5 : (Jvm.Cond.selects C y z).before a0 Z = true) (w6 : (Jvm.Cond.instanceMethod z).before a0 Z = true) (w3 : (Jvm.Cond.initialized z.cls).before a0 Z = true) (w4 : (Jvm.Cond.code z bytes maxL ret).before a0 Z = true) (hy : y.cls ≠ "java/lang/invoke/MethodHandle" ∧ y.cls ≠ "java/lang/invoke/VarHandle") (hEL : EW Z a0 EL)
    {rm : Room} {a : Addr} {argsL rest : List Value} {ws' : List Addr} {P : Option Value → Vm → Heap → Prop} (M : oMet l Z EL n0 z bytes maxL ret [] rm (.ref a :: argsL).toArray h ws' P) (E : Exa Z h a C) {W : Nat} (hf : rm.frames + 1 ≤ R.frames) (hl : W + (maxL + 11) + rm.locals ≤ R.locals) (hc : cells + rm.cells ≤ R.cells) (hsl : slots + rm.slots ≤ R.slots) (q1 : ∀ x ∈ ws', n0 ≤ x) (q2 : ∀ x ∈ ws', x ∈ ws ∨ s.heap.size ≤ x) (q3 : ∀ x ∈ ws', Safe Z EL vm h x)
    {g : JFrame} (hg : g.method = m) (hsize : g.locals.size = c.maxLocals) (hlen : ∀ sig, parseMethodDescriptor y.desc = some sig → argsL.length = sig.parameters.length) (hstack : g.stack = argsL.reverse ++ .ref a :: rest) (hW : 2 * g.monitorRoom + (rest.map fun v => v.category).sum ≤ W) (hd : decode c.code g.pc = .ok (.invokevirtual index, 3)) :
    ∃ (v : Option Value) (vm' : Vm) (T' : State) (h' : Heap) (L : List Loc), oA l Z EL n0 p e R s m args below meth c own ws vm' T' h' (locs ++ L) (cells + rm.cells) (slots + rm.slots) ∧ Keep h h' ws' ∧ CHr Z EL vm h vm' h' ∧ P v vm' h' ∧ ∀ t, Steps p.tables e below (T'.setTop { g with pc := g.pc + 3, stack := v.toList ++ rest }) t → Steps p.tables e below (T.setTop g) t := by
  have hZ := A.2.2.1
  obtain ⟨cq, kq, qa, qb, qc⟩ := isOf (s := s.setVm vm) hZ A.2.1 E
  obtain ⟨v, vm₁, B, -, X', hS', hgr, hQ, st⟩ := Stand.virtualBackS (s := s.setVm vm) A.1 hx A.2.2.2.1 (mvT (s := s.setVm vm) hZ w1) (mvT (s := s.setVm vm) hZ w2) nf (mvT (s := s.setVm vm) hZ w5) (mvT (s := s.setVm vm) hZ w6) hy (oBackOf (s := s) (args := args) M hZ w4 w3 hf hl hEL A.ch q3) qa qc hg hsize (Steps.refl _) hlen hstack hW hd (fun vm₁ _ => ⟨rfl, A.2.1, hc, hsl⟩)
  obtain ⟨L, A', r⟩ := A.back (rm := rm) (y := y) (vm₁ := vm₁) (as' := #[]) X' hS' hgr hQ q1 q2
  exact ⟨v, _, B.U, _, L, A', r.1, r.2.1, r.2.2, fun t ht => st.trans ht⟩
theorem oA.callU (A : oA l Z EL n0 p e R s m args below meth c own ws vm T h locs cells slots) (hx : p.tables.exec = Jvm.exec) {index : Nat} {K : String} {y : MethodName} {bytes : ByteArray} {maxL : Nat} {ret : Option FieldType} (w1 : (Jvm.Cond.methodLink own index y).before a0 Z = true) (w2 : (Jvm.Cond.sameMethod y.cls y.cls y.name y.desc).before a0 Z = true) (w6 : (Jvm.Cond.instanceMethod y).before a0 Z = true) (w7 : (Jvm.Cond.superclass own y.cls).before a0 Z = true) (hn : y.name ≠ "<init>") (w3 : (Jvm.Cond.initialized y.cls).before a0 Z = true) (w4 : (Jvm.Cond.code y bytes maxL ret).before a0 Z = true) (hEL : EW Z a0 EL)
    {rm : Room} {a : Addr} {argsL rest : List Value} {ws' : List Addr} {P : Option Value → Vm → Heap → Prop} (M : oMet l Z EL n0 y bytes maxL ret [] rm (.ref a :: argsL).toArray h ws' P) (F : Ins Z h a K true) {W : Nat} (hf : rm.frames + 1 ≤ R.frames) (hl : W + (maxL + 11) + rm.locals ≤ R.locals) (hc : cells + rm.cells ≤ R.cells) (hsl : slots + rm.slots ≤ R.slots) (q1 : ∀ x ∈ ws', n0 ≤ x) (q2 : ∀ x ∈ ws', x ∈ ws ∨ s.heap.size ≤ x) (q3 : ∀ x ∈ ws', Safe Z EL vm h x)
    {g : JFrame} (hg : g.method = m) (hsize : g.locals.size = c.maxLocals) (hlen : ∀ sig, parseMethodDescriptor y.desc = some sig → argsL.length = sig.parameters.length) (hstack : g.stack = argsL.reverse ++ .ref a :: rest) (hW : 2 * g.monitorRoom + (rest.map fun v => v.category).sum ≤ W) (hd : decode c.code g.pc = .ok (.invokespecial index, 3)) :
    ∃ (v : Option Value) (vm' : Vm) (T' : State) (h' : Heap) (L : List Loc), oA l Z EL n0 p e R s m args below meth c own ws vm' T' h' (locs ++ L) (cells + rm.cells) (slots + rm.slots) ∧ Keep h h' ws' ∧ CHr Z EL vm h vm' h' ∧ P v vm' h' ∧ ∀ t, Steps p.tables e below (T'.setTop { g with pc := g.pc + 3, stack := v.toList ++ rest }) t → Steps p.tables e below (T.setTop g) t := by
  have hZ := A.2.2.1
  obtain ⟨v, vm₁, B, -, X', hS', hgr, hQ, st⟩ := RoadKit.superBackS (s := s.setVm vm) A.1 hx hZ A.2.2.2.1 w1 w2 w6 w7 hn (oBackOf (s := s) (args := args) M hZ w4 w3 hf hl hEL A.ch q3) A.2.1 F hg hsize w4 hlen hstack hW hd (fun vm₁ _ => ⟨rfl, A.2.1, hc, hsl⟩)
  obtain ⟨L, A', r⟩ := A.back (rm := rm) (y := y) (vm₁ := vm₁) (as' := #[]) X' hS' hgr hQ q1 q2
  exact ⟨v, _, B.U, _, L, A', r.1, r.2.1, r.2.2, fun t ht => st.trans ht⟩
theorem oA.nf (A : oA l Z EL n0 p e R s m args below meth c own ws vm T h locs cells slots) {C : String} {y : MethodName} (w : (Jvm.Cond.selects C y y).before a0 Z = true) : NotFace (s.setVm vm) y := notFace_of_selects (args := #[]) (mvT (s := s.setVm vm) A.2.2.1 w)
theorem oDecl {y : MethodName} {bytes : ByteArray} {maxL : Nat} {ret : Option FieldType} (w1 : (Jvm.Cond.instanceMethod y).before a0 Z = true) (w2 : (Jvm.Cond.code y bytes maxL ret).before a0 Z = true) : (Jvm.Cond.declares y).before a0 Z = true := by
  obtain ⟨m, meth, h1, h2, h3, -⟩ := Cond.instanceMethod_spec w1
  obtain ⟨meth', c, g1, -, -, -, -, -, -, g2⟩ := Cond.code_spec h1 w2
  cases h2.symm.trans g1
  simp [Cond.before, Cond.holds, Cond.value, h1, h2, h3, g2]
theorem oNfZ {C : String} {y y' : MethodName} (w : (Jvm.Cond.selects C y' y').before a0 Z = true) (e : y'.cls = y.cls) : NotFace Z y := fun r0 h0 => by
  obtain ⟨-, -, m2, -, -, q3, -, kP, hkP, hkPi⟩ := Cond.selects_spec w
  have h1 := findClass_of_methodNamed h0
  have h2 := findClass_of_methodNamed q3
  rw [e, h1] at h2
  have h3 : r0.cls = m2.cls := Option.some.inj h2
  exact ⟨kP, by rw [h3]; exact hkP, hkPi⟩
theorem oA.nf2 (A : oA l Z EL n0 p e R s m args below meth c own ws vm T h locs cells slots) {C : String} {y y' : MethodName} (w : (Jvm.Cond.selects C y' y').before a0 Z = true) (e : y'.cls = y.cls) : NotFace (s.setVm vm) y := oNfZ (a0 := #[]) (mvT (s := s.setVm vm) A.2.2.1 w) e
theorem oSame {y : MethodName} (w1 : (Jvm.Cond.instanceMethod y).before a0 Z = true) (nf : NotFace Z y) (hy : y.cls ≠ "java/lang/invoke/MethodHandle" ∧ y.cls ≠ "java/lang/invoke/VarHandle") : (Jvm.Cond.sameMethod y.cls y.cls y.name y.desc).before a0 Z = true := by
  obtain ⟨m, meth, h1, -, -, -⟩ := Cond.instanceMethod_spec w1
  have hf := State.methodFound?_of_named h1 hy
  have hc := findClass_of_methodNamed h1
  obtain ⟨kr, g1, g2⟩ := nf m h1
  have h1' : Z.methodNamed? ⟨y.cls, y.name, y.desc⟩ = some m := h1
  simp [Cond.before, Cond.holds, Cond.value, hc, hf, h1', g1, g2]
/-! a call that a payer answers and that leaves all as it was -/
theorem oA.pay (A : oA l Z EL n0 p e R s m args below meth c own ws vm T h locs cells slots) {v : Option Value} {vm₁ : Vm} {B : Pt} {Qp : Option Value → Prop} (X' : Stand p l e R (s.setVm vm) m args below meth c B.U B.locs B.cells B.slots) (hQ : ∃ L, (Qp v ∧ L = [] ∧ B.U.heap = h) ∧ B.locs = locs ++ L ∧ B.cells = cells + 0 ∧ B.slots = slots + 0) : oA l Z EL n0 p e R s m args below meth c own ws vm B.U h locs cells slots ∧ Qp v := by
  obtain ⟨L, ⟨q, rfl, eh⟩, e1, e2, e3⟩ := hQ
  rw [e1, e2, e3, List.append_nil] at X'
  exact ⟨A.set X' eh, q⟩
theorem oA.payV (A : oA l Z EL n0 p e R s m args below meth c own ws vm T h locs cells slots) (hx : p.tables.exec = Jvm.exec) {index : Nat} {C : String} {y z : MethodName} (w1 : (Jvm.Cond.methodLink own index y).before a0 Z = true) (w2 : (Jvm.Cond.declares y).before a0 Z = true) (nf : NotFace (s.setVm vm) y) (w5 : (Jvm.Cond.selects C y z).before a0 Z = true) (w6 : (Jvm.Cond.instanceMethod z).before a0 Z = true) (hy : y.cls ≠ "java/lang/invoke/MethodHandle" ∧ y.cls ≠ "java/lang/invoke/VarHandle")
    {a : Addr} {argsL rest : List Value} {W : Nat} {Qp : Option Value → Prop} (M : Back l R p e below (s.setVm vm) args z 3 W (fun P a' => a' = (.ref a :: argsL).toArray ∧ P.U.heap = h ∧ P.cells + 0 ≤ R.cells ∧ P.slots + 0 ≤ R.slots) (fun P _ v B => ∃ L, (Qp v ∧ L = [] ∧ B.U.heap = h) ∧ B.locs = P.locs ++ L ∧ B.cells = P.cells + 0 ∧ B.slots = P.slots + 0)) (E : Exa Z h a C) (hc : cells + 0 ≤ R.cells) (hsl : slots + 0 ≤ R.slots)
    {g : JFrame} (hg : g.method = m) (hsize : g.locals.size = c.maxLocals) (hlen : ∀ sig, parseMethodDescriptor y.desc = some sig → argsL.length = sig.parameters.length) (hstack : g.stack = argsL.reverse ++ .ref a :: rest) (hW : 2 * g.monitorRoom + (rest.map fun v => v.category).sum ≤ W) (hd : decode c.code g.pc = .ok (.invokevirtual index, 3)) :
    ∃ (v : Option Value) (T' : State), oA l Z EL n0 p e R s m args below meth c own ws vm T' h locs cells slots ∧ Qp v ∧ ∀ t, Steps p.tables e below (T'.setTop { g with pc := g.pc + 3, stack := v.toList ++ rest }) t → Steps p.tables e below (T.setTop g) t := by
  have hZ := A.2.2.1
  obtain ⟨cq, kq, qa, qb, qc⟩ := isOf (s := s.setVm vm) hZ A.2.1 E
  obtain ⟨v, vm₁, B, -, X', hQ, st⟩ := Stand.virtualBack (s := s.setVm vm) A.1 hx A.2.2.2.1 (mvT (s := s.setVm vm) hZ w1) (mvT (s := s.setVm vm) hZ w2) nf (mvT (s := s.setVm vm) hZ w5) (mvT (s := s.setVm vm) hZ w6) hy M qa qc hg hsize (Steps.refl _) hlen hstack hW hd (fun vm₁ _ => ⟨rfl, A.2.1, hc, hsl⟩)
  obtain ⟨A', q⟩ := A.pay (vm₁ := vm₁) X' hQ
  exact ⟨v, B.U, A', q, fun t ht => st.trans ht⟩
/-! Strings of Latin-1 chars -/
def oStr (Z : State) (h : Heap) (x : Addr) (cs : List Int32) : Prop :=
  (∀ c ∈ cs, ¬ c < 0 ∧ ¬ (255 : Int32) < c) ∧ cs.length ≤ 4000 ∧ ∃ (t : Addr) (k : ClassId), Exa Z h x "java/lang/String" ∧ Fld Z h x "java/lang/String" "value" "[B" (.ref t) ∧ Fld Z h x "java/lang/String" "coder" "B" (.int 0) ∧ Arv Z h t k .byte (Int32.ofNat cs.length) ((cs.map fun c => c.toInt8.toInt32).map Value.int) (.int 0)
theorem oStr.ext {x : Addr} {cs : List Int32} (S : oStr Z h x cs) (E : Ext h h') : oStr Z h' x cs := by
  obtain ⟨r1, r2, t, k, e1, e2, e3, e4⟩ := S
  exact ⟨r1, r2, t, k, e1.ext E, e2.ext E, e3.ext E, e4.ext E⟩
theorem oStr.exa {x : Addr} {cs : List Int32} (S : oStr Z h x cs) : Exa Z h x "java/lang/String" := by
  obtain ⟨r1, r2, t, k, e1, e2, e3, e4⟩ := S
  exact e1
theorem oStr.lt {x : Addr} {cs : List Int32} (S : oStr Z h x cs) : x < h.size := S.exa.lt
theorem oUp {cs : List Int32} (h : ∀ c ∈ cs, ¬ c < 0 ∧ ¬ (255 : Int32) < c) : ∀ c ∈ cs, ¬ c < 0 ∧ ¬ (65535 : Int32) < c := fun c hc => ⟨(h c hc).1, fun q => (h c hc).2 (by rw [Int32.lt_iff_toInt_lt] at q ⊢; have e1 : (65535 : Int32).toInt = 65535 := rfl; have e2 : (255 : Int32).toInt = 255 := rfl; omega)⟩

theorem oA.sNew (A : oA l Z EL n0 p e R s m args below meth c own ws vm T h locs cells slots) (hx : p.tables.exec = Jvm.exec) (hws : ∀ d ∈ StrChars.Road.words, d.before a0 Z = true) {index : Nat} {bytes : ByteArray} (wi : (Jvm.Cond.instantiable "java/lang/String" 4).before a0 Z = true) (w1 : (Jvm.Cond.methodLink own index (⟨"java/lang/String", "<init>", "([C)V"⟩ : MethodName)).before a0 Z = true) (w2 : (Jvm.Cond.instanceMethod (⟨"java/lang/String", "<init>", "([C)V"⟩ : MethodName)).before a0 Z = true) (w4 : (Jvm.Cond.code (⟨"java/lang/String", "<init>", "([C)V"⟩ : MethodName) bytes 2 none).before a0 Z = true)
    {x b : Addr} {kC : ClassId} {cs : List Int32} {N zc : Int32} {d v0 c0 : Value} (E : Exa Z h x "java/lang/String") (V : Fld Z h x "java/lang/String" "value" "[B" v0) (Cd : Fld Z h x "java/lang/String" "coder" "B" c0) (K : Arv Z h b kC .char N (cs.map Value.int) d) (C : Sta Z Z.heap "java/lang/String" "COMPACT_STRINGS" "Z" (.int zc)) (hz : ¬ zc = 0) {n : Nat} (hn : cs.length = n) (hN : N = Int32.ofNat n) (l0 : 0 < n) (l2 : n ≤ 4000) (hp : ∀ c ∈ cs, ¬ c < 0 ∧ ¬ (255 : Int32) < c)
    (q1 : n0 ≤ x) (q2 : x ∈ ws ∨ s.heap.size ≤ x) (q3 : Safe Z EL vm h x) {W : Nat} (hfr : 4 ≤ R.frames) (hlo : W + 65 ≤ R.locals) (hc : cells + 1 ≤ R.cells) (hsl : slots + n ≤ R.slots)
    {g : JFrame} (hg : g.method = m) (hsize : g.locals.size = c.maxLocals) {rest : List Value} (hs : g.stack = .ref b :: .ref x :: rest) (hW : 2 * g.monitorRoom + (rest.map fun v => v.category).sum ≤ W) (hd : decode c.code g.pc = .ok (.invokespecial index, 3)) :
    ∃ (T' : State) (h' : Heap) (L : List Loc), oA l Z EL n0 p e R s m args below meth c own ws vm T' h' (locs ++ L) (cells + 1) (slots + n) ∧ Keep h h' [x] ∧ oStr Z h' x cs ∧ ∀ t, Steps p.tables e below (T'.setTop { g with pc := g.pc + 3, stack := rest }) t → Steps p.tables e below (T.setTop g) t := by
  have hZ := A.2.2.1
  have hn0 := A.n0le
  have hold := A.old
  obtain ⟨v, vm₁, ⟨U, Ls, kk, nn⟩, -, X', ⟨L, ⟨rfl, N', K', Ex, Cd', t, kb, -, -, -, V', Ar⟩, e1, e2, e3⟩, st⟩ := Stand.specialBack (s := s.setVm vm) (y := (⟨"java/lang/String", "<init>", "([C)V"⟩ : MethodName)) A.1 hx rfl A.2.2.2.1 (mvT (s := s.setVm vm) hZ w1) (mvT (s := s.setVm vm) hZ w2) (mvT (s := s.setVm vm) hZ w4) (by decide) (StrChars.Road.backV (s := s.setVm vm) (args := args) (W := W) hZ hws wi q1 hn0 E V Cd K (C.ext hold) hz hn hN l0 l2 hp rfl hfr hlo) hg hsize (Steps.refl _) (a := x) (argsL := [.ref b]) (rest := rest) (lenOf (by decide +kernel : parseMethodDescriptor "([C)V" = some ⟨[(.array .char)], none⟩) rfl) hs hW hd (fun vm₁ _ => ⟨rfl, A.2.1, hc, hsl⟩)
  obtain ⟨X, eT, hZ, ho, ⟨k0, hS, hk⟩, N2, O, K2, C2⟩ := A
  dsimp only [Pt.U, Pt.locs, Pt.cells, Pt.slots] at X' e1 e2 e3 K' Ex Cd' V' Ar st
  subst e1 e2 e3
  refine ⟨U, U.heap, L, ⟨X', rfl, hZ, ho, ⟨k0, hS, Nat.le_trans hk K'.1⟩, N2.app N', O.keep K' (oIn1 q1), K2.trans K' (oIn1 q2), C2.trans (CHr.keep K' (oIn1 q3) C2.1)⟩, K', ⟨hp, by omega, t, kb, Ex, V', Cd', ?_⟩, fun t ht => st.trans ht⟩
  rw [hn, ← hN]
  exact Ar

theorem oA.sLen (A : oA l Z EL n0 p e R s m args below meth c own ws vm T h locs cells slots) (hx : p.tables.exec = Jvm.exec) (hws : ∀ d ∈ StrChars.Road.wordsLen, d.before a0 Z = true) {index : Nat} (wi : (Jvm.Cond.instantiable "java/lang/String" 4).before a0 Z = true) (w1 : (Jvm.Cond.methodLink own index (⟨"java/lang/String", "length", "()I"⟩ : MethodName)).before a0 Z = true) (w2 : (Jvm.Cond.declares (⟨"java/lang/String", "length", "()I"⟩ : MethodName)).before a0 Z = true) (w5 : (Jvm.Cond.selects "java/lang/String" (⟨"java/lang/String", "length", "()I"⟩ : MethodName) (⟨"java/lang/String", "length", "()I"⟩ : MethodName)).before a0 Z = true) (w6 : (Jvm.Cond.instanceMethod (⟨"java/lang/String", "length", "()I"⟩ : MethodName)).before a0 Z = true)
    {x : Addr} {cs : List Int32} (S : oStr Z h x cs) {zc : Int32} (C : Sta Z Z.heap "java/lang/String" "COMPACT_STRINGS" "Z" (.int zc)) (hz : ¬ zc = 0) {W : Nat} (hfr : 2 ≤ R.frames) (hlo : W + 25 ≤ R.locals) (hc : cells + 0 ≤ R.cells) (hsl : slots + 0 ≤ R.slots)
    {g : JFrame} (hg : g.method = m) (hsize : g.locals.size = c.maxLocals) {rest : List Value} (hs : g.stack = .ref x :: rest) (hW : 2 * g.monitorRoom + (rest.map fun v => v.category).sum ≤ W) (hd : decode c.code g.pc = .ok (.invokevirtual index, 3)) :
    ∃ T', oA l Z EL n0 p e R s m args below meth c own ws vm T' h locs cells slots ∧ ∀ t, Steps p.tables e below (T'.setTop { g with pc := g.pc + 3, stack := (.int (Int32.ofNat cs.length)) :: rest }) t → Steps p.tables e below (T.setTop g) t := by
  have hexa := S.exa
  obtain ⟨r1, r2, t, k, e1, e2, e3, e4⟩ := S
  obtain ⟨v, T', A', hv, st⟩ := A.payV hx (y := (⟨"java/lang/String", "length", "()I"⟩ : MethodName)) (z := (⟨"java/lang/String", "length", "()I"⟩ : MethodName)) w1 w2 (A.nf w5) w5 w6 (by decide) (argsL := []) (rest := rest) (W := W) (StrChars.Road.lenW (s := s.setVm vm) (args := args) (W := W) A.2.2.1 hws wi e1 e2 e3 e4 (StrChars.Road.codOf rfl (fun c hc => (r1 c hc).2)) (oUp r1) (C.ext A.old) hz r2 hfr hlo) hexa hc hsl hg hsize (lenOf (by decide +kernel : parseMethodDescriptor "()I" = some ⟨[], some .int⟩) rfl) hs hW hd
  subst hv
  exact ⟨T', A', st⟩

theorem oA.sCh (A : oA l Z EL n0 p e R s m args below meth c own ws vm T h locs cells slots) (hx : p.tables.exec = Jvm.exec) (hws : ∀ d ∈ StrChars.Road.wordsChN, d.before a0 Z = true) {index : Nat} (wi : (Jvm.Cond.instantiable "java/lang/String" 4).before a0 Z = true) (w1 : (Jvm.Cond.methodLink own index (⟨"java/lang/String", "charAt", "(I)C"⟩ : MethodName)).before a0 Z = true) (w2 : (Jvm.Cond.declares (⟨"java/lang/String", "charAt", "(I)C"⟩ : MethodName)).before a0 Z = true) (w5 : (Jvm.Cond.selects "java/lang/String" (⟨"java/lang/String", "charAt", "(I)C"⟩ : MethodName) (⟨"java/lang/String", "charAt", "(I)C"⟩ : MethodName)).before a0 Z = true) (w6 : (Jvm.Cond.instanceMethod (⟨"java/lang/String", "charAt", "(I)C"⟩ : MethodName)).before a0 Z = true)
    {x : Addr} {cs : List Int32} (S : oStr Z h x cs) {zc : Int32} (C : Sta Z Z.heap "java/lang/String" "COMPACT_STRINGS" "Z" (.int zc)) (hz : ¬ zc = 0) {fm : Value} (Fm : Sta Z Z.heap "jdk/internal/util/Preconditions" "SIOOBE_FORMATTER" "Ljava/util/function/BiFunction;" fm) (rf : fm.isRef = true) {i : Nat} {j : Int32} (hi : i < cs.length) (hj : j = Int32.ofNat i) {W : Nat} (hfr : 4 ≤ R.frames) (hlo : W + 53 ≤ R.locals) (hc : cells + 0 ≤ R.cells) (hsl : slots + 0 ≤ R.slots)
    {g : JFrame} (hg : g.method = m) (hsize : g.locals.size = c.maxLocals) {rest : List Value} (hs : g.stack = .int j :: .ref x :: rest) (hW : 2 * g.monitorRoom + (rest.map fun v => v.category).sum ≤ W) (hd : decode c.code g.pc = .ok (.invokevirtual index, 3)) :
    ∃ T', oA l Z EL n0 p e R s m args below meth c own ws vm T' h locs cells slots ∧ ∀ t, Steps p.tables e below (T'.setTop { g with pc := g.pc + 3, stack := (.int (cs.getD i 0)) :: rest }) t → Steps p.tables e below (T.setTop g) t := by
  have hexa := S.exa
  obtain ⟨r1, r2, t, k, e1, e2, e3, e4⟩ := S
  obtain ⟨v, T', A', hv, st⟩ := A.payV hx (y := (⟨"java/lang/String", "charAt", "(I)C"⟩ : MethodName)) (z := (⟨"java/lang/String", "charAt", "(I)C"⟩ : MethodName)) w1 w2 (A.nf w5) w5 w6 (by decide) (argsL := [.int j]) (rest := rest) (W := W) (StrChars.Road.chN (s := s.setVm vm) (args := args) (W := W) A.2.2.1 hws wi e1 e2 e3 e4 (StrChars.Road.codOf rfl (fun c hc => (r1 c hc).2)) (oUp r1) (C.ext A.old) hz (Fm.ext A.old) rf r2 hi hj hfr hlo) hexa hc hsl hg hsize (lenOf (by decide +kernel : parseMethodDescriptor "(I)C" = some ⟨[.int], some .char⟩) rfl) hs hW hd
  subst hv
  exact ⟨T', A', st⟩

theorem oA.cpy (A : oA l Z EL n0 p e R s m args below meth c own ws vm T h locs cells slots) (hx : p.tables.exec = Jvm.exec) {index : Nat} (w1 : (Jvm.Cond.methodLink own index Jvm.Stand.acN).before a0 Z = true) (w2 : (Jvm.Cond.native Jvm.Stand.acN).before a0 Z = true) (w3 : (Jvm.Cond.static Jvm.Stand.acN).before a0 Z = true) (w4 : (Jvm.Cond.initialized "java/lang/System").before a0 Z = true)
    {a b : Addr} {k k' : ClassId} {z z' sp dp nn : Int32} {vs vd us : List Value} {dv dd : Value} (Va : Arv Z h a k .byte z vs dv) (Vb : Arv Z h b k' .byte z' vd dd)
    (h1 : ¬ sp < 0) (h2 : ¬ dp < 0) (h3 : ¬ nn < 0) (h4 : sp.toNatClampNeg + nn.toNatClampNeg ≤ z.toNatClampNeg) (h5 : dp.toNatClampNeg + nn.toNatClampNeg ≤ z'.toNatClampNeg)
    (hus : us = (List.range nn.toNatClampNeg).map fun i => vs.getD (sp.toNatClampNeg + i) dv) (hl : dp.toNatClampNeg + nn.toNatClampNeg ≤ vd.length) (q1 : n0 ≤ b) (q2 : b ∈ ws ∨ s.heap.size ≤ b) (q3 : Safe Z EL vm h b)
    {g : JFrame} (hg : g.method = m) (hsize : g.locals.size = c.maxLocals) {rest : List Value} (hs : g.stack = .int nn :: .int dp :: .ref b :: .int sp :: .ref a :: rest) (hd : decode c.code g.pc = .ok (.invokestatic index, 3))
    (hf : 1 ≤ R.frames) {W : Nat} (hW : 2 * g.monitorRoom + (rest.map fun v => v.category).sum ≤ W) (hlo : W + (nativeFrameWords "java/lang/System" "arraycopy" 5 + 11) ≤ R.locals) :
    ∃ T' h' L, oA l Z EL n0 p e R s m args below meth c own ws vm T' h' L cells slots ∧ Keep h h' [b] ∧ Arv Z h' b k' .byte z' (vd.take dp.toNatClampNeg ++ us ++ vd.drop (dp.toNatClampNeg + nn.toNatClampNeg)) dd ∧
      ∀ t, Steps p.tables e below (T'.setTop { g with pc := g.pc + 3, stack := rest }) t → Steps p.tables e below (T.setTop g) t := by
  obtain ⟨X, eT, hZ, ho, ⟨k0, hS, hk⟩, N, O, K, C⟩ := A
  obtain ⟨T', h', L, X', e', N', K', V', st⟩ := cpA X hx hZ ho w1 w2 w3 w4 eT Va Vb (Or.inl ⟨rfl, rfl⟩) h1 h2 h3 h4 h5 hus hl N q1 hg hsize hs hd hf hW hlo
  exact ⟨T', h', L, ⟨X', e', hZ, ho, ⟨k0, hS, Nat.le_trans hk K'.1⟩, N', O.keep K' (oIn1 q1), K.trans K' (oIn1 q2), C.trans (CHr.keep K' (oIn1 q3) C.1)⟩, K', V', st⟩

theorem oAnd (x : Int32) : ∃ k : Nat, k < 256 ∧ (x &&& (255 : Int32)) = Int32.ofNat k := by
  refine ⟨(x &&& 255).toBitVec.toNat, ?_, ?_⟩
  · simp only [Int32.toBitVec_and, BitVec.toNat_and]
    exact Nat.lt_succ_of_le Nat.and_le_right
  · apply Int32.toBitVec_inj.mp
    show _ = BitVec.ofNat 32 _
    rw [BitVec.ofNat_toNat]; simp
theorem oCh (x : Int32) : ¬ (x &&& (255 : Int32)).toUInt32.toUInt16.toUInt32.toInt32 < 0 ∧ ¬ (255 : Int32) < (x &&& (255 : Int32)).toUInt32.toUInt16.toUInt32.toInt32 := by
  have t : ∀ k : Fin 256, ¬ (Int32.ofNat k.val).toUInt32.toUInt16.toUInt32.toInt32 < 0 ∧ ¬ (255 : Int32) < (Int32.ofNat k.val).toUInt32.toUInt16.toUInt32.toInt32 := by decide +kernel
  obtain ⟨k, hk, e⟩ := oAnd x
  rw [e]
  exact t ⟨k, hk⟩
theorem oB8 {x : Int32} (h : ¬ x < 0 ∧ ¬ (255 : Int32) < x) : ∃ k : Nat, k < 256 ∧ x = Int32.ofNat k := by
  obtain ⟨h1, h2⟩ := h
  rw [Int32.lt_iff_toInt_lt] at h1 h2
  have e1 : (255 : Int32).toInt = 255 := rfl
  have e2 : (0 : Int32).toInt = 0 := rfl
  refine ⟨x.toInt.toNat, by omega, ?_⟩
  apply Int32.toInt_inj.mp
  rw [Int32.toInt_ofNat_small (by omega)]
  omega
theorem oNar {x : Int32} (h : ¬ x < 0 ∧ ¬ (255 : Int32) < x) : nar .char x = x := by
  have t : ∀ k : Fin 256, nar .char (Int32.ofNat k.val) = Int32.ofNat k.val := by decide +kernel
  obtain ⟨k, hk, e⟩ := oB8 h
  rw [e]
  exact t ⟨k, hk⟩
theorem oP0 : ∀ c ∈ ([] : List Int32), ¬ c < 0 ∧ ¬ (255 : Int32) < c := fun _ q => nomatch q
theorem oPS {x : Int32} {cs : List Int32} (h : ¬ x < 0 ∧ ¬ (255 : Int32) < x) (r : ∀ c ∈ cs, ¬ c < 0 ∧ ¬ (255 : Int32) < c) : ∀ c ∈ x :: cs, ¬ c < 0 ∧ ¬ (255 : Int32) < c := fun c q => by
  rcases List.mem_cons.mp q with rfl | q
  · exact h
  · exact r c q
end OwnKit
end Jvm.Pilot.@@N@@
namespace Jvm.Pilot.@@N@@
open Jvm Jvm.ClassFile Sem Op Lib Jvm.Free Jvm.Stand Jvm.LawKit Jvm.RoadKit Bundle Jvm.Pilot.@@N@@.Jvm.D
theorem own_nl {i n : Nat} (h : i < n) (hn : n ≤ 4000) : ¬ Int32.ofNat i < 0 ∧ Int32.ofNat i < Int32.ofNat n := by
  rw [Int32.lt_iff_toInt_lt, Int32.lt_iff_toInt_lt, Int32.toInt_ofNat_small (by omega), Int32.toInt_ofNat_small (by omega)]
  have e : (0 : Int32).toInt = 0 := rfl
  omega
theorem own_n32 {n : Nat} (hn : n ≤ 4000) : (Int32.ofNat n).toNatClampNeg = n := by
  have h := Int32.toInt_ofNat_small (n := n) (by omega)
  have : (Int32.ofNat n).toNatClampNeg = (Int32.ofNat n).toInt.toNat := rfl
  rw [this, h]; omega
theorem own_succ {i : Nat} (hi : i < 4000) : Int32.ofNat i + (1 : Int32) = Int32.ofNat (i + 1) := by
  apply Int32.toInt_inj.mp
  have e1 : (1 : Int32).toInt = 1 := rfl
  rw [Int32.toInt_add, Int32.toInt_ofNat_small (by omega), Int32.toInt_ofNat_small (by omega), e1]
  rw [Int.bmod_eq_of_le (by omega) (by omega)]
  omega
theorem own_drop {cs r : List Int32} {c : Int32} {i : Nat} (h : cs.drop i = c :: r) : i < cs.length ∧ cs.getD i 0 = c ∧ cs.drop (i + 1) = r := by
  have hi : i < cs.length := by
    rcases Nat.lt_or_ge i cs.length with q | q
    · exact q
    · rw [List.drop_eq_nil_of_le q] at h; cases h
  rw [List.drop_eq_getElem_cons hi] at h
  injection h with h1 h2
  exact ⟨hi, by simp [List.getD_eq_getElem?_getD, hi, h1], h2⟩
theorem own_drop0 {cs : List Int32} {i : Nat} (h : cs.drop i = []) : cs.length ≤ i := by
  rcases Nat.lt_or_ge i cs.length with q | q
  · rw [List.drop_eq_getElem_cons q] at h; cases h
  · exact q
theorem own_vs {cs : List Int32} {i : Nat} (hi : i < cs.length) (f : Int32 → Int32) : ((cs.map f).map Value.int).getD i (.int (0 : Int32)) = .int (f (cs.getD i 0)) := by
  simp [List.getD_eq_getElem?_getD, hi]
theorem own_lo8 {x y : Int32} (hx : ¬ x < 0 ∧ ¬ (255 : Int32) < x) (hy : ¬ y < 0 ∧ ¬ (255 : Int32) < y) : x.toInt8.toInt32 = y.toInt8.toInt32 ↔ x = y := by
  refine ⟨fun h => ?_, fun h => by rw [h]⟩
  have t : ∀ k : Fin 256, (Int32.ofNat k.val).toInt8.toInt32 &&& (255 : Int32) = Int32.ofNat k.val := by decide +kernel
  obtain ⟨i, hi, ei⟩ := oB8 hx
  obtain ⟨j, hj, ej⟩ := oB8 hy
  have h1 := t ⟨i, hi⟩
  have h2 := t ⟨j, hj⟩
  rw [ei, ej] at h ⊢
  rw [← h1, ← h2]
  show (Int32.ofNat i).toInt8.toInt32 &&& (255 : Int32) = _
  rw [h]
def own_find (ch : Int32) : List Int32 → Nat → Int32
  | [], _ => -1
  | c :: cs, i => if c = ch then Int32.ofNat i else own_find ch cs (i + 1)
theorem own_strK {Z : State} {a0 : Array Value} {h h' : Heap} {x m_ : Addr} {cs : List Int32} {C : String} {n : Nat} (Q : oStr Z h x cs) (K : Keep h h' [m_]) (E : Exa Z h m_ C) (w : (Jvm.Cond.instantiable C n).before a0 Z = true) (hC : "java/lang/String" ≠ C := by decide) : oStr Z h' x cs := by
  obtain ⟨r1, r2, t, k, e1, e2, e3, e4⟩ := Q
  have h1 : x ≠ m_ := e1.ne E hC
  have h2 : m_ ≠ t := E.neArv e4 w
  exact ⟨r1, r2, t, k, e1.keep K, e2.keep K (ninS h1 nin0), e3.keep K (ninS h1 nin0), e4.keep K (ninS (Ne.symm h2) nin0)⟩
def own_B (c : Int32) : Prop := ¬ c < 0 ∧ ¬ (255 : Int32) < c
theorem own_ltn {k n : Nat} (hk : k < 4000) (hn : n ≤ 4000) (h : Int32.ofNat k < Int32.ofNat n) : k < n := by
  rw [Int32.lt_iff_toInt_lt, Int32.toInt_ofNat_small (by omega), Int32.toInt_ofNat_small (by omega)] at h
  omega
def own_W (v : Value) (w : List Int32) : Prop := (v = .null ∧ w = ([110, 111, 110, 101] : List Int32)) ∨ ∃ a, v = .ref a ∧ w = ([103, 105, 118, 101, 110] : List Int32)
theorem own_W.len {v : Value} {w : List Int32} (h : own_W v w) : w.length ≤ 5 ∧ 4 ≤ w.length := by
  rcases h with ⟨-, rfl⟩ | ⟨a, -, rfl⟩ <;> decide
theorem own_W.isr {v : Value} {w : List Int32} (h : own_W v w) : v.isRef = true := by
  rcases h with ⟨rfl, -⟩ | ⟨a, rfl, -⟩ <;> rfl
theorem own_nrw {v : Value} {C : String} (h : v.isRef = true) : narrow (.object C) v = v := by
  rcases ref_cases h with rfl | ⟨a, rfl⟩ <;> rfl
theorem own_fts {v : Value} {C : String} (h : v.isRef = true) : fits (.object C) v = true := by
  rcases ref_cases h with rfl | ⟨a, rfl⟩ <;> rfl
def own_seg (cs ls : List Int32) (o : Nat) : Prop := ∃ p q, cs = p ++ ls ++ q ∧ p.length = o
theorem own_seg.at {cs ls : List Int32} {o i : Nat} (h : own_seg cs ls o) (hi : i < ls.length) : cs.getD (o + i) 0 = ls.getD i 0 := by
  obtain ⟨p, q, rfl, rfl⟩ := h
  simp [List.getD_eq_getElem?_getD, List.append_assoc, List.getElem?_append_right, List.getElem?_append_left, hi]
theorem own_seg.le {cs ls : List Int32} {o : Nat} (h : own_seg cs ls o) : o + ls.length ≤ cs.length := by
  obtain ⟨p, q, rfl, rfl⟩ := h
  simp
theorem d_jdk_42_m149_0 : decode jdk_42_method_149_code 0 = .ok (.aload_n 0, 1) := by decide +kernel
theorem d_jdk_42_m149_1 : decode jdk_42_method_149_code 1 = .ok (.invokespecial 1, 3) := by decide +kernel
theorem d_jdk_42_m149_4 : decode jdk_42_method_149_code 4 = .ok (.iload_n 3, 1) := by decide +kernel
theorem d_jdk_42_m149_5 : decode jdk_42_method_149_code 5 = .ok (.ifCond .ne 22, 3) := by decide +kernel
theorem d_jdk_42_m149_8 : decode jdk_42_method_149_code 8 = .ok (.aload_n 0, 1) := by decide +kernel
theorem d_jdk_42_m149_9 : decode jdk_42_method_149_code 9 = .ok (.ldc 7, 2) := by decide +kernel
theorem d_jdk_42_m149_11 : decode jdk_42_method_149_code 11 = .ok (.getfield 9, 3) := by decide +kernel
theorem d_jdk_42_m149_14 : decode jdk_42_method_149_code 14 = .ok (.putfield 9, 3) := by decide +kernel
theorem d_jdk_42_m149_17 : decode jdk_42_method_149_code 17 = .ok (.aload_n 0, 1) := by decide +kernel
theorem d_jdk_42_m149_18 : decode jdk_42_method_149_code 18 = .ok (.ldc 7, 2) := by decide +kernel
theorem d_jdk_42_m149_20 : decode jdk_42_method_149_code 20 = .ok (.getfield 15, 3) := by decide +kernel
theorem d_jdk_42_m149_23 : decode jdk_42_method_149_code 23 = .ok (.putfield 15, 3) := by decide +kernel
theorem d_jdk_42_m149_26 : decode jdk_42_method_149_code 26 = .ok (.return_, 1) := by decide +kernel
theorem d_jdk_42_m149_27 : decode jdk_42_method_149_code 27 = .ok (.getstatic 38, 3) := by decide +kernel
theorem d_jdk_42_m149_30 : decode jdk_42_method_149_code 30 = .ok (.ifCond .eq 28, 3) := by decide +kernel
theorem d_jdk_42_m149_33 : decode jdk_42_method_149_code 33 = .ok (.aload_n 1, 1) := by decide +kernel
theorem d_jdk_42_m149_34 : decode jdk_42_method_149_code 34 = .ok (.iload_n 2, 1) := by decide +kernel
theorem d_jdk_42_m149_35 : decode jdk_42_method_149_code 35 = .ok (.iload_n 3, 1) := by decide +kernel
theorem d_jdk_42_m149_36 : decode jdk_42_method_149_code 36 = .ok (.invokestatic 177, 3) := by decide +kernel
theorem d_jdk_42_m149_39 : decode jdk_42_method_149_code 39 = .ok (.astore 5, 2) := by decide +kernel
theorem d_jdk_42_m149_41 : decode jdk_42_method_149_code 41 = .ok (.aload_n 0, 1) := by decide +kernel
theorem d_jdk_42_m149_42 : decode jdk_42_method_149_code 42 = .ok (.aload 5, 2) := by decide +kernel
theorem d_jdk_42_m149_44 : decode jdk_42_method_149_code 44 = .ok (.iload_n 3, 1) := by decide +kernel
theorem d_jdk_42_m149_45 : decode jdk_42_method_149_code 45 = .ok (.invokestatic 47, 3) := by decide +kernel
theorem d_jdk_42_m149_48 : decode jdk_42_method_149_code 48 = .ok (.putfield 15, 3) := by decide +kernel
theorem d_jdk_42_m149_51 : decode jdk_42_method_149_code 51 = .ok (.aload_n 0, 1) := by decide +kernel
theorem d_jdk_42_m149_52 : decode jdk_42_method_149_code 52 = .ok (.aload 5, 2) := by decide +kernel
theorem d_jdk_42_m149_54 : decode jdk_42_method_149_code 54 = .ok (.putfield 9, 3) := by decide +kernel
theorem d_jdk_42_m149_57 : decode jdk_42_method_149_code 57 = .ok (.return_, 1) := by decide +kernel
theorem d_jdk_42_m149_58 : decode jdk_42_method_149_code 58 = .ok (.aload_n 0, 1) := by decide +kernel
theorem d_jdk_42_m149_59 : decode jdk_42_method_149_code 59 = .ok (.iconst 1, 1) := by decide +kernel
theorem d_jdk_42_m149_60 : decode jdk_42_method_149_code 60 = .ok (.putfield 15, 3) := by decide +kernel
theorem d_jdk_42_m149_63 : decode jdk_42_method_149_code 63 = .ok (.aload_n 0, 1) := by decide +kernel
theorem d_jdk_42_m149_64 : decode jdk_42_method_149_code 64 = .ok (.aload_n 1, 1) := by decide +kernel
theorem d_jdk_42_m149_65 : decode jdk_42_method_149_code 65 = .ok (.iload_n 2, 1) := by decide +kernel
theorem d_jdk_42_m149_66 : decode jdk_42_method_149_code 66 = .ok (.iload_n 3, 1) := by decide +kernel
theorem d_jdk_42_m149_67 : decode jdk_42_method_149_code 67 = .ok (.invokestatic 180, 3) := by decide +kernel
theorem d_jdk_42_m149_70 : decode jdk_42_method_149_code 70 = .ok (.putfield 9, 3) := by decide +kernel
theorem d_jdk_42_m149_73 : decode jdk_42_method_149_code 73 = .ok (.return_, 1) := by decide +kernel
theorem opn_own_E4 : plainFor (⟨"java/lang/String", "<init>", "([CIILjava/lang/Void;)V"⟩ : MethodName) = true := plainFor_of_name (by first | (simp [plainName, overriddenIn]; done) | decide +kernel)
set_option maxRecDepth 65536 in
set_option maxHeartbeats 40000000 in
theorem own_E4 (l : Launch) (Z : State) (a0 : Array Value) (hw : ∀ d ∈ tables_1, d.before a0 Z = true) (hEL : EW Z a0 consts_1) (n0 : Nat) (h : Heap) (hO : Old Z n0 h) (x b : Addr) (v0 c0 : Value) (E_x : Exa Z h x "java/lang/String") (F_value_x : Fld Z h x "java/lang/String" "value" "[B" v0) (F_coder_x : Fld Z h x "java/lang/String" "coder" "B" c0) (n0_x : n0 ≤ x) (lt_x : x < h.size) :
    oMet l Z consts_1 n0 (⟨"java/lang/String", "<init>", "([CIILjava/lang/Void;)V"⟩ : MethodName) jdk_42_method_149_code 6 none [] ({ frames := 1, cells := 2, slots := 4, locals := 14 } : Room) #[(.ref x), (.ref b), (.int (0 : Int32)), (.int (0 : Int32)), .null] h [x] (fun v _ h => v = none ∧ oStr Z h x []) := by
  refine oMet.of opn_own_E4 hO ?_
  intro p e s m below meth c T hx hby hml hret hnm hlk hh hsf A
  have hml : c.maxLocals = 6 := hml
  refine oCast (g' := mkF m 0 #[.val (.ref x), .val (.ref b), .val (.int (0 : Int32)), .val (.int (0 : Int32)), .val .null, .unset] []) (by first | (simp [entryFrame, mkF, argsToLocals, Value.category]; done) | rfl) ?_
  have hlit : ∀ d ∈ Bundle.stringAtoms, d.before a0 Z = true := fun d hd => hw d ((by decide +kernel : ∀ d ∈ Bundle.stringAtoms, d ∈ tables_1) d hd)
  have S_x := hsf x (List.mem_cons_self ..)
  have q2 : x ∈ [x] ∨ s.heap.size ≤ x := Or.inl (List.mem_cons_self ..)
  show oGo p e below _ (T.setTop (mkF m 0 #[.val (.ref x), .val (.ref b), .val (.int (0 : Int32)), .val (.int (0 : Int32)), .val .null, .unset] []))
  refine oSt (fun _ => XS.aloadN A.here hx rfl (Jvm.hb hby d_jdk_42_m149_0) rfl rfl) ?_
  show oGo p e below _ (T.setTop (mkF m 1 #[.val (.ref x), .val (.ref b), .val (.int (0 : Int32)), .val (.int (0 : Int32)), .val .null, .unset] [(.ref x)]))
  obtain ⟨T, A, st⟩ := A.initO hx (hw _ (List.mem_of_getElem? (i := 19) rfl)) (hw _ (List.mem_of_getElem? (i := 20) rfl)) (hw _ (List.mem_of_getElem? (i := 21) rfl)) (g := (mkF m 1 #[.val (.ref x), .val (.ref b), .val (.int (0 : Int32)), .val (.int (0 : Int32)), .val .null, .unset] [(.ref x)])) rfl (by rw [hml]; rfl) rfl (Jvm.hb hby d_jdk_42_m149_1) (by decide) (W := 0) (by show 2 * 0 + _ ≤ _; exact Nat.le_of_eq rfl) (by decide)
  refine oSt st ?_
  show oGo p e below _ (T.setTop (mkF m 4 #[.val (.ref x), .val (.ref b), .val (.int (0 : Int32)), .val (.int (0 : Int32)), .val .null, .unset] []))
  refine oSt (fun _ => XS.iloadN A.here hx rfl (Jvm.hb hby d_jdk_42_m149_4) rfl) ?_
  show oGo p e below _ (T.setTop (mkF m 5 #[.val (.ref x), .val (.ref b), .val (.int (0 : Int32)), .val (.int (0 : Int32)), .val .null, .unset] [(.int (0 : Int32))]))
  refine oSt (fun _ => XS.ifNo A.here hx rfl (Jvm.hb hby d_jdk_42_m149_5) rfl (Jvm.Free.XT.i0_ne_f rfl)) ?_
  show oGo p e below _ (T.setTop (mkF m 8 #[.val (.ref x), .val (.ref b), .val (.int (0 : Int32)), .val (.int (0 : Int32)), .val .null, .unset] []))
  refine oSt (fun _ => XS.aloadN A.here hx rfl (Jvm.hb hby d_jdk_42_m149_8) rfl rfl) ?_
  show oGo p e below _ (T.setTop (mkF m 9 #[.val (.ref x), .val (.ref b), .val (.int (0 : Int32)), .val (.int (0 : Int32)), .val .null, .unset] [(.ref x)]))
  obtain ⟨y, T, h, bb, kb, A, X, CR, E_y, C_y, V_y, K_y, ne_y, Li, st⟩ := A.ldcS hx (hw _ (List.mem_of_getElem? (i := 250) rfl)) hlit hEL (List.mem_of_getElem? (i := 14) rfl) (vs := []) (z := 0) (by decide +kernel) (by decide) rfl (g := (mkF m 9 #[.val (.ref x), .val (.ref b), .val (.int (0 : Int32)), .val (.int (0 : Int32)), .val .null, .unset] [(.ref x)])) rfl (Jvm.hb hby d_jdk_42_m149_9) (n := 0) (by decide +kernel) (by decide) (by decide) (by decide)
  refine oSt st ?_
  show oGo p e below _ (T.setTop (mkF m 11 #[.val (.ref x), .val (.ref b), .val (.int (0 : Int32)), .val (.int (0 : Int32)), .val .null, .unset] [(.ref y), (.ref x)]))
  have S_x := CR.safe lt_x S_x
  have E_x := E_x.ext X
  have F_value_x := F_value_x.ext X
  have F_coder_x := F_coder_x.ext X
  have hne := ne_y x S_x
  obtain ⟨T, A, st⟩ := A.getF hx (host := "") (Or.inl (hw _ (List.mem_of_getElem? (i := 22) rfl))) Via.refl V_y (g := (mkF m 11 #[.val (.ref x), .val (.ref b), .val (.int (0 : Int32)), .val (.int (0 : Int32)), .val .null, .unset] [(.ref y), (.ref x)])) rfl rfl (Jvm.hb hby d_jdk_42_m149_11)
  refine oSt st ?_
  show oGo p e below _ (T.setTop (mkF m 14 #[.val (.ref x), .val (.ref b), .val (.int (0 : Int32)), .val (.int (0 : Int32)), .val .null, .unset] [(.ref bb), (.ref x)]))
  have CH := A.ch
  obtain ⟨T, h, A, W, st⟩ := A.putF hx (host := "") (Or.inl (hw _ (List.mem_of_getElem? (i := 22) rfl))) Via.refl F_value_x E_x (Or.inr ⟨(hw _ (List.mem_of_getElem? (i := 23) rfl)), rfl, hnm⟩) (hw _ (List.mem_of_getElem? (i := 10) rfl)) (ty := (.array .byte)) (by decide) rfl rfl n0_x q2 S_x (g := (mkF m 14 #[.val (.ref x), .val (.ref b), .val (.int (0 : Int32)), .val (.int (0 : Int32)), .val .null, .unset] [(.ref bb), (.ref x)])) rfl rfl (Jvm.hb hby d_jdk_42_m149_14)
  refine oSt st ?_
  show oGo p e below _ (T.setTop (mkF m 17 #[.val (.ref x), .val (.ref b), .val (.int (0 : Int32)), .val (.int (0 : Int32)), .val .null, .unset] []))
  have C_y := C_y.other W (Or.inl (Ne.symm hne.1))
  have K_y := K_y.other W (Ne.symm hne.2)
  have E_x := E_x.wr W
  have F_coder_x := F_coder_x.other W (Or.inr (slot_ne (Or.inr (hw _ (List.mem_of_getElem? (i := 25) rfl))) (Or.inr (hw _ (List.mem_of_getElem? (i := 23) rfl))) (by decide) (t := .byte) (t' := (.array .byte)) (by decide) (by decide)))
  have F_value_x := F_value_x.same W
  refine oSt (fun _ => XS.aloadN A.here hx rfl (Jvm.hb hby d_jdk_42_m149_17) rfl rfl) ?_
  show oGo p e below _ (T.setTop (mkF m 18 #[.val (.ref x), .val (.ref b), .val (.int (0 : Int32)), .val (.int (0 : Int32)), .val .null, .unset] [(.ref x)]))
  refine oSt (A.ldcS2 hx (hw _ (List.mem_of_getElem? (i := 250) rfl)) Li (g := (mkF m 18 #[.val (.ref x), .val (.ref b), .val (.int (0 : Int32)), .val (.int (0 : Int32)), .val .null, .unset] [(.ref x)])) rfl (Jvm.hb hby d_jdk_42_m149_18)) ?_
  show oGo p e below _ (T.setTop (mkF m 20 #[.val (.ref x), .val (.ref b), .val (.int (0 : Int32)), .val (.int (0 : Int32)), .val .null, .unset] [(.ref y), (.ref x)]))
  obtain ⟨T, A, st⟩ := A.getF hx (host := "") (Or.inl (hw _ (List.mem_of_getElem? (i := 24) rfl))) Via.refl C_y (g := (mkF m 20 #[.val (.ref x), .val (.ref b), .val (.int (0 : Int32)), .val (.int (0 : Int32)), .val .null, .unset] [(.ref y), (.ref x)])) rfl rfl (Jvm.hb hby d_jdk_42_m149_20)
  refine oSt st ?_
  show oGo p e below _ (T.setTop (mkF m 23 #[.val (.ref x), .val (.ref b), .val (.int (0 : Int32)), .val (.int (0 : Int32)), .val .null, .unset] [(.int (0 : Int32)), (.ref x)]))
  obtain ⟨T, h, A, W2, st⟩ := A.putF hx (host := "") (Or.inl (hw _ (List.mem_of_getElem? (i := 24) rfl))) Via.refl F_coder_x E_x (Or.inr ⟨(hw _ (List.mem_of_getElem? (i := 25) rfl)), rfl, hnm⟩) (hw _ (List.mem_of_getElem? (i := 10) rfl)) (ty := .byte) (by decide) rfl rfl n0_x q2 (Safe.wr W S_x CH S_x) (g := (mkF m 23 #[.val (.ref x), .val (.ref b), .val (.int (0 : Int32)), .val (.int (0 : Int32)), .val .null, .unset] [(.int (0 : Int32)), (.ref x)])) rfl rfl (Jvm.hb hby d_jdk_42_m149_23)
  refine oSt st ?_
  show oGo p e below _ (T.setTop (mkF m 26 #[.val (.ref x), .val (.ref b), .val (.int (0 : Int32)), .val (.int (0 : Int32)), .val .null, .unset] []))
  have F_value_x := F_value_x.other W2 (Or.inr (slot_ne (Or.inr (hw _ (List.mem_of_getElem? (i := 23) rfl))) (Or.inr (hw _ (List.mem_of_getElem? (i := 25) rfl))) (by decide) (t := (.array .byte)) (t' := .byte) (by decide) (by decide)))
  have F_coder_x := F_coder_x.same W2
  have K_y := K_y.other W2 (Ne.symm hne.2)
  have E_x := E_x.wr W2
  exact A.leave hlk hEL (v := none) (fun _ => rfl) (fun _ _ => ⟨rfl, oP0, Nat.zero_le _, bb, kb, E_x, F_value_x, F_coder_x, K_y⟩) (by decide) (by decide) (fun fs hr => A.1.returnOut hx hret (Jvm.hb hby d_jdk_42_m149_26) hr)
theorem d_jdk_42_m3_0 : decode jdk_42_method_3_code 0 = .ok (.aload_n 0, 1) := by decide +kernel
theorem d_jdk_42_m3_1 : decode jdk_42_method_3_code 1 = .ok (.aload_n 1, 1) := by decide +kernel
theorem d_jdk_42_m3_2 : decode jdk_42_method_3_code 2 = .ok (.iconst 0, 1) := by decide +kernel
theorem d_jdk_42_m3_3 : decode jdk_42_method_3_code 3 = .ok (.aload_n 1, 1) := by decide +kernel
theorem d_jdk_42_m3_4 : decode jdk_42_method_3_code 4 = .ok (.arraylength, 1) := by decide +kernel
theorem d_jdk_42_m3_5 : decode jdk_42_method_3_code 5 = .ok (.aconst_null, 1) := by decide +kernel
theorem d_jdk_42_m3_6 : decode jdk_42_method_3_code 6 = .ok (.invokespecial 27, 3) := by decide +kernel
theorem d_jdk_42_m3_9 : decode jdk_42_method_3_code 9 = .ok (.return_, 1) := by decide +kernel
theorem opd0 : parseMethodDescriptor "([CIILjava/lang/Void;)V" = some ⟨[(.array .char), .int, .int, (.object "java/lang/Void")], none⟩ := by decide +kernel
theorem opn_own_E1 : plainFor (⟨"java/lang/String", "<init>", "([C)V"⟩ : MethodName) = true := plainFor_of_name (by first | (simp [plainName, overriddenIn]; done) | decide +kernel)
set_option maxRecDepth 65536 in
set_option maxHeartbeats 40000000 in
theorem own_E1 (l : Launch) (Z : State) (a0 : Array Value) (hw : ∀ d ∈ tables_1, d.before a0 Z = true) (hEL : EW Z a0 consts_1) (n0 : Nat) (h : Heap) (hO : Old Z n0 h) (x b : Addr) (v0 c0 : Value) (E_x : Exa Z h x "java/lang/String") (F_value_x : Fld Z h x "java/lang/String" "value" "[B" v0) (F_coder_x : Fld Z h x "java/lang/String" "coder" "B" c0) (n0_x : n0 ≤ x) (lt_x : x < h.size) (k : ClassId) (V_b : Arv Z h b k .char (0 : Int32) [] (.int (0 : Int32))) :
    oMet l Z consts_1 n0 (⟨"java/lang/String", "<init>", "([C)V"⟩ : MethodName) jdk_42_method_3_code 2 none [] ({ frames := 2, cells := 2, slots := 4, locals := 31 } : Room) #[(.ref x), (.ref b)] h [x] (fun v _ h => v = none ∧ oStr Z h x []) := by
  refine oMet.of opn_own_E1 hO ?_
  intro p e s m below meth c T hx hby hml hret hnm hlk hh hsf A
  have hml : c.maxLocals = 2 := hml
  refine oCast (g' := mkF m 0 #[.val (.ref x), .val (.ref b)] []) (by first | (simp [entryFrame, mkF, argsToLocals, Value.category]; done) | rfl) ?_
  have S_x := hsf x (List.mem_cons_self ..)
  show oGo p e below _ (T.setTop (mkF m 0 #[.val (.ref x), .val (.ref b)] []))
  refine oSt (fun _ => XS.aloadN A.here hx rfl (Jvm.hb hby d_jdk_42_m3_0) rfl rfl) ?_
  show oGo p e below _ (T.setTop (mkF m 1 #[.val (.ref x), .val (.ref b)] [(.ref x)]))
  refine oSt (fun _ => XS.aloadN A.here hx rfl (Jvm.hb hby d_jdk_42_m3_1) rfl rfl) ?_
  show oGo p e below _ (T.setTop (mkF m 2 #[.val (.ref x), .val (.ref b)] [(.ref b), (.ref x)]))
  refine oSt (fun _ => XS.iconst A.here hx rfl (Jvm.hb hby d_jdk_42_m3_2)) ?_
  show oGo p e below _ (T.setTop (mkF m 3 #[.val (.ref x), .val (.ref b)] [(.int (0 : Int32)), (.ref b), (.ref x)]))
  refine oSt (fun _ => XS.aloadN A.here hx rfl (Jvm.hb hby d_jdk_42_m3_3) rfl rfl) ?_
  show oGo p e below _ (T.setTop (mkF m 4 #[.val (.ref x), .val (.ref b)] [(.ref b), (.int (0 : Int32)), (.ref b), (.ref x)]))
  refine oSt (A.len hx V_b (g := (mkF m 4 #[.val (.ref x), .val (.ref b)] [(.ref b), (.int (0 : Int32)), (.ref b), (.ref x)])) rfl rfl (Jvm.hb hby d_jdk_42_m3_4)) ?_
  show oGo p e below _ (T.setTop (mkF m 5 #[.val (.ref x), .val (.ref b)] [(.int (0 : Int32)), (.int (0 : Int32)), (.ref b), (.ref x)]))
  refine oSt (fun _ => XS.aconstNull A.here hx rfl (Jvm.hb hby d_jdk_42_m3_5)) ?_
  show oGo p e below _ (T.setTop (mkF m 6 #[.val (.ref x), .val (.ref b)] [.null, (.int (0 : Int32)), (.int (0 : Int32)), (.ref b), (.ref x)]))
  obtain ⟨_, vm, T, h, L, A, K, CR, ⟨rfl, Q_x⟩, st⟩ := A.callN hx (y := (⟨"java/lang/String", "<init>", "([CIILjava/lang/Void;)V"⟩ : MethodName)) rfl (hw _ (List.mem_of_getElem? (i := 35) rfl)) (hw _ (List.mem_of_getElem? (i := 36) rfl)) (hw _ (List.mem_of_getElem? (i := 2) rfl)) (hw _ (List.mem_of_getElem? (i := 37) rfl)) (by decide) hEL (a := x) (argsL := [(.ref b), (.int (0 : Int32)), (.int (0 : Int32)), .null]) (rest := []) (own_E4 l Z a0 hw hEL n0 h A.oldn x b v0 c0 E_x F_value_x F_coder_x n0_x lt_x) (W := 0) (by decide) (by decide) (by decide) (by decide) (oIn1 n0_x) (oIn1 (Or.inl (List.mem_cons_self ..))) (oIn1 S_x) (g := (mkF m 6 #[.val (.ref x), .val (.ref b)] [.null, (.int (0 : Int32)), (.int (0 : Int32)), (.ref b), (.ref x)])) rfl (by rw [hml]; rfl) (lenOf opd0 rfl) rfl (by show 2 * 0 + _ ≤ _; exact Nat.le_of_eq rfl) (Jvm.hb hby d_jdk_42_m3_6)
  refine oSt st ?_
  show oGo p e below _ (T.setTop (mkF m 9 #[.val (.ref x), .val (.ref b)] []))
  exact A.leave hlk hEL (v := none) (fun _ => rfl) (fun _ _ => ⟨rfl, Q_x⟩) (by decide) (by decide) (fun fs hr => A.1.returnOut hx hret (Jvm.hb hby d_jdk_42_m3_9) hr)
theorem d_jdk_43_m3_0 : decode jdk_43_method_3_code 0 = .ok (.iload_n 0, 1) := by decide +kernel
theorem d_jdk_43_m3_1 : decode jdk_43_method_3_code 1 = .ok (.sipush 255, 3) := by decide +kernel
theorem d_jdk_43_m3_4 : decode jdk_43_method_3_code 4 = .ok (.if_icmp .gt 7, 3) := by decide +kernel
theorem d_jdk_43_m3_7 : decode jdk_43_method_3_code 7 = .ok (.iconst 1, 1) := by decide +kernel
theorem d_jdk_43_m3_8 : decode jdk_43_method_3_code 8 = .ok (.goto 4, 3) := by decide +kernel
theorem d_jdk_43_m3_11 : decode jdk_43_method_3_code 11 = .ok (.iconst 0, 1) := by decide +kernel
theorem d_jdk_43_m3_12 : decode jdk_43_method_3_code 12 = .ok (.ireturn, 1) := by decide +kernel
theorem opn_own_canC : plainFor (⟨"java/lang/StringLatin1", "canEncode", "(C)Z"⟩ : MethodName) = true := plainFor_of_name (by first | (simp [plainName, overriddenIn]; done) | decide +kernel)
set_option maxRecDepth 65536 in
set_option maxHeartbeats 40000000 in
theorem own_canC (l : Launch) (Z : State) (a0 : Array Value) (hw : ∀ d ∈ tables_1, d.before a0 Z = true) (hEL : EW Z a0 consts_1) (n0 : Nat) (h : Heap) (hO : Old Z n0 h) (cc : Int32) (hb : ¬ cc < 0 ∧ ¬ (255 : Int32) < cc) :
    oMet l Z consts_1 n0 (⟨"java/lang/StringLatin1", "canEncode", "(C)Z"⟩ : MethodName) jdk_43_method_3_code 1 (some .boolean) [] ({ frames := 0, cells := 0, slots := 0, locals := 0 } : Room) #[(.int cc)] h [] (fun v _ h' => h = h' ∧ v = some (.int 1)) := by
  refine oMet.of opn_own_canC hO ?_
  intro p e s m below meth c T hx hby hml hret hnm hlk hh hsf A
  have hml : c.maxLocals = 1 := hml
  refine oCast (g' := mkF m 0 #[.val (.int cc)] []) (by first | (simp [entryFrame, mkF, argsToLocals, Value.category]; done) | rfl) ?_
  show oGo p e below _ (T.setTop (mkF m 0 #[.val (.int cc)] []))
  refine oSt (fun _ => XS.iloadN A.here hx rfl (Jvm.hb hby d_jdk_43_m3_0) rfl) ?_
  show oGo p e below _ (T.setTop (mkF m 1 #[.val (.int cc)] [(.int cc)]))
  refine oSt (fun _ => XS.sipush A.here hx rfl (Jvm.hb hby d_jdk_43_m3_1)) ?_
  show oGo p e below _ (T.setTop (mkF m 4 #[.val (.int cc)] [(.int (255 : Int32)), (.int cc)]))
  refine oSt (fun _ => XS.icmpNo A.here hx rfl (Jvm.hb hby d_jdk_43_m3_4) rfl (Jvm.Free.XT.ii_gt_f hb.2)) ?_
  show oGo p e below _ (T.setTop (mkF m 7 #[.val (.int cc)] []))
  refine oSt (fun _ => XS.iconst A.here hx rfl (Jvm.hb hby d_jdk_43_m3_7)) ?_
  show oGo p e below _ (T.setTop (mkF m 8 #[.val (.int cc)] [(.int (1 : Int32))]))
  refine oSt (fun _ => XS.goto A.here hx rfl (pc0 := 8) (pc' := 12) rfl (Jvm.hb hby d_jdk_43_m3_8) (by decide) (by decide)) ?_
  show oGo p e below _ (T.setTop (mkF m 12 #[.val (.int cc)] [(.int (1 : Int32))]))
  exact A.leave hlk hEL (v := some (.int (1 : Int32))) (fun h => by rw [hret] at h; cases h) (fun _ _ => ⟨rfl, rfl⟩) (by decide) (by decide) (fun fs hr => retN A.1 hx (t := .boolean) hret (by simp) (Jvm.hb hby d_jdk_43_m3_12) hr)
theorem own_narb (x : Int32) : nar .byte x.toInt8.toInt32 = x.toInt8.toInt32 := by simp [nar]
theorem d_jdk_43_m46_0 : decode jdk_43_method_46_code 0 = .ok (.iconst 1, 1) := by decide +kernel
theorem d_jdk_43_m46_1 : decode jdk_43_method_46_code 1 = .ok (.newarray .byte, 2) := by decide +kernel
theorem d_jdk_43_m46_3 : decode jdk_43_method_46_code 3 = .ok (.dup, 1) := by decide +kernel
theorem d_jdk_43_m46_4 : decode jdk_43_method_46_code 4 = .ok (.iconst 0, 1) := by decide +kernel
theorem d_jdk_43_m46_5 : decode jdk_43_method_46_code 5 = .ok (.iload_n 0, 1) := by decide +kernel
theorem d_jdk_43_m46_6 : decode jdk_43_method_46_code 6 = .ok (.i2b, 1) := by decide +kernel
theorem d_jdk_43_m46_7 : decode jdk_43_method_46_code 7 = .ok (.bastore, 1) := by decide +kernel
theorem d_jdk_43_m46_8 : decode jdk_43_method_46_code 8 = .ok (.areturn, 1) := by decide +kernel
theorem opn_own_toB : plainFor (⟨"java/lang/StringLatin1", "toBytes", "(C)[B"⟩ : MethodName) = true := plainFor_of_name (by first | (simp [plainName, overriddenIn]; done) | decide +kernel)
set_option maxRecDepth 65536 in
set_option maxHeartbeats 40000000 in
theorem own_toB (l : Launch) (Z : State) (a0 : Array Value) (hw : ∀ d ∈ tables_1, d.before a0 Z = true) (hEL : EW Z a0 consts_1) (n0 : Nat) (h : Heap) (hO : Old Z n0 h) (cc : Int32) :
    oMet l Z consts_1 n0 (⟨"java/lang/StringLatin1", "toBytes", "(C)[B"⟩ : MethodName) jdk_43_method_46_code 1 (some (.array .byte)) [] ({ frames := 0, cells := 1, slots := 1, locals := 0 } : Room) #[(.int cc)] h [] (fun v _ h' => ∃ b k, v = some (.ref b) ∧ Arv Z h' b k .byte (1 : Int32) [(.int cc.toInt8.toInt32)] (.int 0)) := by
  refine oMet.of opn_own_toB hO ?_
  intro p e s m below meth c T hx hby hml hret hnm hlk hh hsf A
  have hml : c.maxLocals = 1 := hml
  refine oCast (g' := mkF m 0 #[.val (.int cc)] []) (by first | (simp [entryFrame, mkF, argsToLocals, Value.category]; done) | rfl) ?_
  show oGo p e below _ (T.setTop (mkF m 0 #[.val (.int cc)] []))
  refine oSt (fun _ => XS.iconst A.here hx rfl (Jvm.hb hby d_jdk_43_m46_0)) ?_
  show oGo p e below _ (T.setTop (mkF m 1 #[.val (.int cc)] [(.int (1 : Int32))]))
  obtain ⟨T, h, b, k_b, g_b, lt_b, n0_b, s_b, A, E, V_b, S_b, st⟩ := A.newP hx (hw _ (List.mem_of_getElem? (i := 14) rfl)) (g := (mkF m 1 #[.val (.int cc)] [(.int (1 : Int32))])) rfl (Jvm.hb hby d_jdk_43_m46_1) rfl (by decide) (cap := 1) (by decide) (by decide) (by decide) (by decide)
  refine oSt st ?_
  show oGo p e below _ (T.setTop (mkF m 3 #[.val (.int cc)] [(.ref b)]))
  have V_b : Arv Z h b k_b .byte (1 : Int32) [(.int (0 : Int32))] (.int (0 : Int32)) := V_b.pad (pad_rep [] (.int (0 : Int32)) 1)
  refine oSt (fun _ => XS.dup A.here hx rfl (Jvm.hb hby d_jdk_43_m46_3) rfl rfl) ?_
  show oGo p e below _ (T.setTop (mkF m 4 #[.val (.int cc)] [(.ref b), (.ref b)]))
  refine oSt (fun _ => XS.iconst A.here hx rfl (Jvm.hb hby d_jdk_43_m46_4)) ?_
  show oGo p e below _ (T.setTop (mkF m 5 #[.val (.int cc)] [(.int (0 : Int32)), (.ref b), (.ref b)]))
  refine oSt (fun _ => XS.iloadN A.here hx rfl (Jvm.hb hby d_jdk_43_m46_5) rfl) ?_
  show oGo p e below _ (T.setTop (mkF m 6 #[.val (.int cc)] [(.int cc), (.int (0 : Int32)), (.ref b), (.ref b)]))
  refine oSt (fun _ => XS.i2b A.here hx rfl (Jvm.hb hby d_jdk_43_m46_6) rfl) ?_
  show oGo p e below _ (T.setTop (mkF m 7 #[.val (.int cc)] [(.int (cc.toInt8.toInt32)), (.int (0 : Int32)), (.ref b), (.ref b)]))
  obtain ⟨T, h, A, W, V_b, st⟩ := A.stB hx V_b 0 rfl ⟨by decide, by decide⟩ (by decide) n0_b (Or.inr s_b) S_b (g := (mkF m 7 #[.val (.int cc)] [(.int (cc.toInt8.toInt32)), (.int (0 : Int32)), (.ref b), (.ref b)])) rfl rfl (Jvm.hb hby d_jdk_43_m46_7)
  refine oSt st ?_
  show oGo p e below _ (T.setTop (mkF m 8 #[.val (.int cc)] [(.ref b)]))
  rw [own_narb] at V_b
  exact A.leave hlk hEL (v := some (.ref b)) (fun h => by rw [hret] at h; cases h) (fun _ _ => ⟨b, k_b, rfl, V_b⟩) (by decide) (by decide) (fun fs hr => retOut A.1 hx hret rfl (Or.inr (Or.inr (Or.inr (Or.inr ⟨rfl, rfl, rfl⟩)))) (Jvm.hb hby d_jdk_43_m46_8) hr)
theorem d_jdk_42_m151_0 : decode jdk_42_method_151_code 0 = .ok (.aload_n 0, 1) := by decide +kernel
theorem d_jdk_42_m151_1 : decode jdk_42_method_151_code 1 = .ok (.invokespecial 1, 3) := by decide +kernel
theorem d_jdk_42_m151_4 : decode jdk_42_method_151_code 4 = .ok (.aload_n 0, 1) := by decide +kernel
theorem d_jdk_42_m151_5 : decode jdk_42_method_151_code 5 = .ok (.aload_n 1, 1) := by decide +kernel
theorem d_jdk_42_m151_6 : decode jdk_42_method_151_code 6 = .ok (.putfield 9, 3) := by decide +kernel
theorem d_jdk_42_m151_9 : decode jdk_42_method_151_code 9 = .ok (.aload_n 0, 1) := by decide +kernel
theorem d_jdk_42_m151_10 : decode jdk_42_method_151_code 10 = .ok (.iload_n 2, 1) := by decide +kernel
theorem d_jdk_42_m151_11 : decode jdk_42_method_151_code 11 = .ok (.putfield 15, 3) := by decide +kernel
theorem d_jdk_42_m151_14 : decode jdk_42_method_151_code 14 = .ok (.return_, 1) := by decide +kernel
theorem opn_own_bb : plainFor (⟨"java/lang/String", "<init>", "([BB)V"⟩ : MethodName) = true := plainFor_of_name (by first | (simp [plainName, overriddenIn]; done) | decide +kernel)
set_option maxRecDepth 65536 in
set_option maxHeartbeats 40000000 in
theorem own_bb (l : Launch) (Z : State) (a0 : Array Value) (hw : ∀ d ∈ tables_1, d.before a0 Z = true) (hEL : EW Z a0 consts_1) (n0 : Nat) (h : Heap) (hO : Old Z n0 h) (x b : Addr) (v0 c0 : Value) (cs : List Int32) (k : ClassId) (E_x : Exa Z h x "java/lang/String") (F_value_x : Fld Z h x "java/lang/String" "value" "[B" v0) (F_coder_x : Fld Z h x "java/lang/String" "coder" "B" c0) (n0_x : n0 ≤ x) (hp : ∀ c ∈ cs, ¬ c < 0 ∧ ¬ (255 : Int32) < c) (hlen : cs.length ≤ 4000) (V_b : Arv Z h b k .byte (Int32.ofNat cs.length) ((cs.map fun c => c.toInt8.toInt32).map Value.int) (.int 0)) :
    oMet l Z consts_1 n0 (⟨"java/lang/String", "<init>", "([BB)V"⟩ : MethodName) jdk_42_method_151_code 3 none [] ({ frames := 1, cells := 0, slots := 0, locals := 12 } : Room) #[(.ref x), (.ref b), (.int (0 : Int32))] h [x] (fun v _ h => v = none ∧ oStr Z h x cs) := by
  refine oMet.of opn_own_bb hO ?_
  intro p e s m below meth c T hx hby hml hret hnm hlk hh hsf A
  have hml : c.maxLocals = 3 := hml
  refine oCast (g' := mkF m 0 #[.val (.ref x), .val (.ref b), .val (.int (0 : Int32))] []) (by first | (simp [entryFrame, mkF, argsToLocals, Value.category]; done) | rfl) ?_
  have S_x := hsf x (List.mem_cons_self ..)
  have hne : x ≠ b := E_x.neArv V_b (hw _ (List.mem_of_getElem? (i := 10) rfl))
  show oGo p e below _ (T.setTop (mkF m 0 #[.val (.ref x), .val (.ref b), .val (.int (0 : Int32))] []))
  refine oSt (fun _ => XS.aloadN A.here hx rfl (Jvm.hb hby d_jdk_42_m151_0) rfl rfl) ?_
  show oGo p e below _ (T.setTop (mkF m 1 #[.val (.ref x), .val (.ref b), .val (.int (0 : Int32))] [(.ref x)]))
  obtain ⟨T, A, st⟩ := A.initO hx (hw _ (List.mem_of_getElem? (i := 19) rfl)) (hw _ (List.mem_of_getElem? (i := 20) rfl)) (hw _ (List.mem_of_getElem? (i := 21) rfl)) (g := (mkF m 1 #[.val (.ref x), .val (.ref b), .val (.int (0 : Int32))] [(.ref x)])) rfl (by rw [hml]; rfl) rfl (Jvm.hb hby d_jdk_42_m151_1) (by decide) (W := 0) (by show 2 * 0 + _ ≤ _; exact Nat.le_of_eq rfl) (by decide)
  refine oSt st ?_
  show oGo p e below _ (T.setTop (mkF m 4 #[.val (.ref x), .val (.ref b), .val (.int (0 : Int32))] []))
  refine oSt (fun _ => XS.aloadN A.here hx rfl (Jvm.hb hby d_jdk_42_m151_4) rfl rfl) ?_
  show oGo p e below _ (T.setTop (mkF m 5 #[.val (.ref x), .val (.ref b), .val (.int (0 : Int32))] [(.ref x)]))
  refine oSt (fun _ => XS.aloadN A.here hx rfl (Jvm.hb hby d_jdk_42_m151_5) rfl rfl) ?_
  show oGo p e below _ (T.setTop (mkF m 6 #[.val (.ref x), .val (.ref b), .val (.int (0 : Int32))] [(.ref b), (.ref x)]))
  have CH := A.ch
  obtain ⟨T, h, A, W, st⟩ := A.putF hx (host := "") (Or.inl (hw _ (List.mem_of_getElem? (i := 22) rfl))) Via.refl F_value_x E_x (Or.inr ⟨(hw _ (List.mem_of_getElem? (i := 23) rfl)), rfl, hnm⟩) (hw _ (List.mem_of_getElem? (i := 10) rfl)) (ty := (.array .byte)) (by decide) rfl rfl n0_x (Or.inl (List.mem_cons_self ..)) S_x (g := (mkF m 6 #[.val (.ref x), .val (.ref b), .val (.int (0 : Int32))] [(.ref b), (.ref x)])) rfl rfl (Jvm.hb hby d_jdk_42_m151_6)
  refine oSt st ?_
  show oGo p e below _ (T.setTop (mkF m 9 #[.val (.ref x), .val (.ref b), .val (.int (0 : Int32))] []))
  refine oSt (fun _ => XS.aloadN A.here hx rfl (Jvm.hb hby d_jdk_42_m151_9) rfl rfl) ?_
  show oGo p e below _ (T.setTop (mkF m 10 #[.val (.ref x), .val (.ref b), .val (.int (0 : Int32))] [(.ref x)]))
  refine oSt (fun _ => XS.iloadN A.here hx rfl (Jvm.hb hby d_jdk_42_m151_10) rfl) ?_
  show oGo p e below _ (T.setTop (mkF m 11 #[.val (.ref x), .val (.ref b), .val (.int (0 : Int32))] [(.int (0 : Int32)), (.ref x)]))
  have V_b := V_b.other W (Ne.symm hne)
  have E_x := E_x.wr W
  have F_coder_x := F_coder_x.other W (Or.inr (slot_ne (Or.inr (hw _ (List.mem_of_getElem? (i := 25) rfl))) (Or.inr (hw _ (List.mem_of_getElem? (i := 23) rfl))) (by decide) (t := .byte) (t' := (.array .byte)) (by decide) (by decide)))
  have F_value_x := F_value_x.same W
  obtain ⟨T, h, A, W2, st⟩ := A.putF hx (host := "") (Or.inl (hw _ (List.mem_of_getElem? (i := 24) rfl))) Via.refl F_coder_x E_x (Or.inr ⟨(hw _ (List.mem_of_getElem? (i := 25) rfl)), rfl, hnm⟩) (hw _ (List.mem_of_getElem? (i := 10) rfl)) (ty := .byte) (by decide) rfl rfl n0_x (Or.inl (List.mem_cons_self ..)) (Safe.wr W S_x CH S_x) (g := (mkF m 11 #[.val (.ref x), .val (.ref b), .val (.int (0 : Int32))] [(.int (0 : Int32)), (.ref x)])) rfl rfl (Jvm.hb hby d_jdk_42_m151_11)
  refine oSt st ?_
  show oGo p e below _ (T.setTop (mkF m 14 #[.val (.ref x), .val (.ref b), .val (.int (0 : Int32))] []))
  have F_value_x := F_value_x.other W2 (Or.inr (slot_ne (Or.inr (hw _ (List.mem_of_getElem? (i := 23) rfl))) (Or.inr (hw _ (List.mem_of_getElem? (i := 25) rfl))) (by decide) (t := (.array .byte)) (t' := .byte) (by decide) (by decide)))
  have F_coder_x := F_coder_x.same W2
  have V_b := V_b.other W2 (Ne.symm hne)
  have E_x := E_x.wr W2
  exact A.leave hlk hEL (v := none) (fun _ => rfl) (fun _ _ => ⟨rfl, hp, hlen, b, k, E_x, F_value_x, F_coder_x, V_b⟩) (by decide) (by decide) (fun fs hr => A.1.returnOut hx hret (Jvm.hb hby d_jdk_42_m151_14) hr)
theorem d_jdk_42_m139_0 : decode jdk_42_method_139_code 0 = .ok (.getstatic 38, 3) := by decide +kernel
theorem d_jdk_42_m139_3 : decode jdk_42_method_139_code 3 = .ok (.ifCond .eq 23, 3) := by decide +kernel
theorem d_jdk_42_m139_6 : decode jdk_42_method_139_code 6 = .ok (.iload_n 0, 1) := by decide +kernel
theorem d_jdk_42_m139_7 : decode jdk_42_method_139_code 7 = .ok (.invokestatic 1015, 3) := by decide +kernel
theorem d_jdk_42_m139_10 : decode jdk_42_method_139_code 10 = .ok (.ifCond .eq 16, 3) := by decide +kernel
theorem d_jdk_42_m139_13 : decode jdk_42_method_139_code 13 = .ok (.new 10, 3) := by decide +kernel
theorem d_jdk_42_m139_16 : decode jdk_42_method_139_code 16 = .ok (.dup, 1) := by decide +kernel
theorem d_jdk_42_m139_17 : decode jdk_42_method_139_code 17 = .ok (.iload_n 0, 1) := by decide +kernel
theorem d_jdk_42_m139_18 : decode jdk_42_method_139_code 18 = .ok (.invokestatic 1018, 3) := by decide +kernel
theorem d_jdk_42_m139_21 : decode jdk_42_method_139_code 21 = .ok (.iconst 0, 1) := by decide +kernel
theorem d_jdk_42_m139_22 : decode jdk_42_method_139_code 22 = .ok (.invokespecial 209, 3) := by decide +kernel
theorem d_jdk_42_m139_25 : decode jdk_42_method_139_code 25 = .ok (.areturn, 1) := by decide +kernel
theorem d_jdk_42_m139_26 : decode jdk_42_method_139_code 26 = .ok (.new 10, 3) := by decide +kernel
theorem d_jdk_42_m139_29 : decode jdk_42_method_139_code 29 = .ok (.dup, 1) := by decide +kernel
theorem d_jdk_42_m139_30 : decode jdk_42_method_139_code 30 = .ok (.iload_n 0, 1) := by decide +kernel
theorem d_jdk_42_m139_31 : decode jdk_42_method_139_code 31 = .ok (.invokestatic 1021, 3) := by decide +kernel
theorem d_jdk_42_m139_34 : decode jdk_42_method_139_code 34 = .ok (.iconst 1, 1) := by decide +kernel
theorem d_jdk_42_m139_35 : decode jdk_42_method_139_code 35 = .ok (.invokespecial 209, 3) := by decide +kernel
theorem d_jdk_42_m139_38 : decode jdk_42_method_139_code 38 = .ok (.areturn, 1) := by decide +kernel
theorem opd1 : parseMethodDescriptor "(C)Z" = some ⟨[.char], some .boolean⟩ := by decide +kernel
theorem opd2 : parseMethodDescriptor "(C)[B" = some ⟨[.char], some (.array .byte)⟩ := by decide +kernel
theorem opd3 : parseMethodDescriptor "([BB)V" = some ⟨[(.array .byte), .byte], none⟩ := by decide +kernel
theorem opn_own_vc : plainFor (⟨"java/lang/String", "valueOf", "(C)Ljava/lang/String;"⟩ : MethodName) = true := plainFor_of_name (by first | (simp [plainName, overriddenIn]; done) | decide +kernel)
set_option maxRecDepth 65536 in
set_option maxHeartbeats 40000000 in
theorem own_vc (l : Launch) (Z : State) (a0 : Array Value) (hw : ∀ d ∈ tables_1, d.before a0 Z = true) (hEL : EW Z a0 consts_1) (n0 : Nat) (h : Heap) (hO : Old Z n0 h) (cc : Int32) (zc : Int32) (hcs : Sta Z Z.heap "java/lang/String" "COMPACT_STRINGS" "Z" (.int zc)) (hcz : ¬ zc = 0) (hb : ¬ cc < 0 ∧ ¬ (255 : Int32) < cc) :
    oMet l Z consts_1 n0 (⟨"java/lang/String", "valueOf", "(C)Ljava/lang/String;"⟩ : MethodName) jdk_42_method_139_code 1 (some (.object "java/lang/String")) [] ({ frames := 2, cells := 2, slots := 5, locals := 27 } : Room) #[(.int cc)] h [] (fun v _ h' => ∃ x, v = some (.ref x) ∧ oStr Z h' x [cc]) := by
  refine oMet.of opn_own_vc hO ?_
  intro p e s m below meth c T hx hby hml hret hnm hlk hh hsf A
  have hml : c.maxLocals = 1 := hml
  refine oCast (g' := mkF m 0 #[.val (.int cc)] []) (by first | (simp [entryFrame, mkF, argsToLocals, Value.category]; done) | rfl) ?_
  show oGo p e below _ (T.setTop (mkF m 0 #[.val (.int cc)] []))
  obtain ⟨T, A, st⟩ := A.getS hx (host := "") (Or.inl (hw _ (List.mem_of_getElem? (i := 4) rfl))) Via.refl hcs (g := (mkF m 0 #[.val (.int cc)] [])) rfl (Jvm.hb hby d_jdk_42_m139_0)
  refine oSt st ?_
  show oGo p e below _ (T.setTop (mkF m 3 #[.val (.int cc)] [(.int zc)]))
  refine oSt (fun _ => XS.ifNo A.here hx rfl (Jvm.hb hby d_jdk_42_m139_3) rfl (Jvm.Free.XT.i0_eq_f hcz)) ?_
  show oGo p e below _ (T.setTop (mkF m 6 #[.val (.int cc)] []))
  refine oSt (fun _ => XS.iloadN A.here hx rfl (Jvm.hb hby d_jdk_42_m139_6) rfl) ?_
  show oGo p e below _ (T.setTop (mkF m 7 #[.val (.int cc)] [(.int cc)]))
  obtain ⟨_, vm, T, h, L, A, K, CR, ⟨rfl, rfl⟩, st⟩ := A.callS hx (y := (⟨"java/lang/StringLatin1", "canEncode", "(C)Z"⟩ : MethodName)) (hw _ (List.mem_of_getElem? (i := 5) rfl)) (hw _ (List.mem_of_getElem? (i := 6) rfl)) (hw _ (List.mem_of_getElem? (i := 7) rfl)) (hw _ (List.mem_of_getElem? (i := 8) rfl)) (by decide) hEL (argsL := [(.int cc)]) (rest := []) (own_canC l Z a0 hw hEL n0 _ A.oldn cc hb) (W := 0) (by decide) (by decide) (by decide) (by decide) all0 all0 all0 (g := (mkF m 7 #[.val (.int cc)] [(.int cc)])) rfl (by rw [hml]; rfl) (lenOf opd1 rfl) rfl (by show 2 * 0 + _ ≤ _; exact Nat.le_of_eq rfl) (Jvm.hb hby d_jdk_42_m139_7)
  refine oSt st ?_
  have X := oExt0 K
  show oGo p e below _ (T.setTop (mkF m 10 #[.val (.int cc)] [(.int (1 : Int32))]))
  refine oSt (fun _ => XS.ifNo A.here hx rfl (Jvm.hb hby d_jdk_42_m139_10) rfl (Jvm.Free.XT.i0_eq_f (by decide))) ?_
  show oGo p e below _ (T.setTop (mkF m 13 #[.val (.int cc)] []))
  obtain ⟨T, h, x, g_x, lt_x, n0_x, s_x, A, E, E_x, S_x, D_x, st⟩ := A.newO hx (hw _ (List.mem_of_getElem? (i := 9) rfl)) (hw _ (List.mem_of_getElem? (i := 10) rfl)) (hw _ (List.mem_of_getElem? (i := 2) rfl)) (g := (mkF m 13 #[.val (.int cc)] [])) rfl (Jvm.hb hby d_jdk_42_m139_13) (by decide) (by decide)
  refine oSt st ?_
  show oGo p e below _ (T.setTop (mkF m 16 #[.val (.int cc)] [(.ref x)]))
  have F_value_x : Fld Z h x "java/lang/String" "value" "[B" .null := D_x (Or.inr (hw _ (List.mem_of_getElem? (i := 23) rfl))) (ty := (.array .byte)) (by decide)
  have F_coder_x : Fld Z h x "java/lang/String" "coder" "B" (.int (0 : Int32)) := D_x (Or.inr (hw _ (List.mem_of_getElem? (i := 25) rfl))) (ty := .byte) (by decide)
  refine oSt (fun _ => XS.dup A.here hx rfl (Jvm.hb hby d_jdk_42_m139_16) rfl rfl) ?_
  show oGo p e below _ (T.setTop (mkF m 17 #[.val (.int cc)] [(.ref x), (.ref x)]))
  refine oSt (fun _ => XS.iloadN A.here hx rfl (Jvm.hb hby d_jdk_42_m139_17) rfl) ?_
  show oGo p e below _ (T.setTop (mkF m 18 #[.val (.int cc)] [(.int cc), (.ref x), (.ref x)]))
  obtain ⟨_, vm, T, h, L, A, K, CR, ⟨b, k_b, rfl, V_b⟩, st⟩ := A.callS hx (y := (⟨"java/lang/StringLatin1", "toBytes", "(C)[B"⟩ : MethodName)) (hw _ (List.mem_of_getElem? (i := 11) rfl)) (hw _ (List.mem_of_getElem? (i := 12) rfl)) (hw _ (List.mem_of_getElem? (i := 7) rfl)) (hw _ (List.mem_of_getElem? (i := 13) rfl)) (by decide) hEL (argsL := [(.int cc)]) (rest := [(.ref x), (.ref x)]) (own_toB l Z a0 hw hEL n0 _ A.oldn cc) (W := 2) (by decide) (by decide) (by decide) (by decide) all0 all0 all0 (g := (mkF m 18 #[.val (.int cc)] [(.int cc), (.ref x), (.ref x)])) rfl (by rw [hml]; rfl) (lenOf opd2 rfl) rfl (by show 2 * 0 + _ ≤ _; exact Nat.le_of_eq rfl) (Jvm.hb hby d_jdk_42_m139_18)
  refine oSt st ?_
  have X := oExt0 K
  have E_x := E_x.ext X
  have F_value_x := F_value_x.ext X
  have F_coder_x := F_coder_x.ext X
  show oGo p e below _ (T.setTop (mkF m 21 #[.val (.int cc)] [(.ref b), (.ref x), (.ref x)]))
  have S_x := CR.safe lt_x S_x
  refine oSt (fun _ => XS.iconst A.here hx rfl (Jvm.hb hby d_jdk_42_m139_21)) ?_
  show oGo p e below _ (T.setTop (mkF m 22 #[.val (.int cc)] [(.int (0 : Int32)), (.ref b), (.ref x), (.ref x)]))
  obtain ⟨_, vm, T, h, L, A, K, CR, ⟨rfl, Q_x⟩, st⟩ := A.callN hx (y := (⟨"java/lang/String", "<init>", "([BB)V"⟩ : MethodName)) rfl (hw _ (List.mem_of_getElem? (i := 15) rfl)) (hw _ (List.mem_of_getElem? (i := 16) rfl)) (hw _ (List.mem_of_getElem? (i := 2) rfl)) (hw _ (List.mem_of_getElem? (i := 18) rfl)) (by decide) hEL (a := x) (argsL := [(.ref b), (.int (0 : Int32))]) (rest := [(.ref x)]) (own_bb l Z a0 hw hEL n0 _ A.oldn x b _ _ [cc] k_b E_x F_value_x F_coder_x n0_x (oPS hb oP0) (by simp) V_b) (W := 1) (by decide) (by decide) (by decide) (by decide) (oIn1 n0_x) (oIn1 (Or.inr s_x)) (oIn1 S_x) (g := (mkF m 22 #[.val (.int cc)] [(.int (0 : Int32)), (.ref b), (.ref x), (.ref x)])) rfl (by rw [hml]; rfl) (lenOf opd3 rfl) rfl (by show 2 * 0 + _ ≤ _; exact Nat.le_of_eq rfl) (Jvm.hb hby d_jdk_42_m139_22)
  refine oSt st ?_
  show oGo p e below _ (T.setTop (mkF m 25 #[.val (.int cc)] [(.ref x)]))
  exact A.leave hlk hEL (v := some (.ref x)) (fun h => by rw [hret] at h; cases h) (fun _ _ => ⟨x, rfl, Q_x⟩) (by decide) (by decide) (fun fs hr => retOut A.1 hx hret rfl (Or.inr (Or.inr (Or.inr (Or.inr ⟨rfl, rfl, rfl⟩)))) (Jvm.hb hby d_jdk_42_m139_25) hr)
def own_by (cs : List Int32) : List Value := (cs.map fun c => c.toInt8.toInt32).map Value.int
def own_buf (N : Nat) (cs : List Int32) : List Value := own_by cs ++ List.replicate (N - cs.length) (.int (0 : Int32))
def own_SB (Z : State) (h : Heap) (x t : Addr) (k : ClassId) (N : Nat) (cs : List Int32) : Prop :=
  (∀ c ∈ cs, ¬ c < 0 ∧ ¬ (255 : Int32) < c) ∧ cs.length ≤ N ∧ N ≤ 4000 ∧ Exa Z h x "java/lang/StringBuilder" ∧ Fld Z h x "java/lang/AbstractStringBuilder" "value" "[B" (.ref t) ∧ Fld Z h x "java/lang/AbstractStringBuilder" "coder" "B" (.int (0 : Int32)) ∧ Fld Z h x "java/lang/AbstractStringBuilder" "count" "I" (.int (Int32.ofNat cs.length)) ∧ Arv Z h t k .byte (Int32.ofNat N) (own_buf N cs) (.int (0 : Int32))
theorem own_SB.ext {Z : State} {h h' : Heap} {x t : Addr} {k : ClassId} {N : Nat} {cs : List Int32} (S : own_SB Z h x t k N cs) (E : Ext h h') : own_SB Z h' x t k N cs := by
  obtain ⟨r1, r2, r3, e1, e2, e3, e4, e5⟩ := S
  exact ⟨r1, r2, r3, e1.ext E, e2.ext E, e3.ext E, e4.ext E, e5.ext E⟩
theorem own_byL (cs : List Int32) : (own_by cs).length = cs.length := by simp [own_by]
theorem own_bufL {N : Nat} {cs : List Int32} (h : cs.length ≤ N) : (own_buf N cs).length = N := by simp [own_buf, own_byL]; omega
theorem own_bufA {N : Nat} {cs ds : List Int32} (h : cs.length + ds.length ≤ N) : (own_buf N cs).take cs.length ++ own_by ds ++ (own_buf N cs).drop (cs.length + ds.length) = own_buf N (cs ++ ds) := by
  have e1 : (own_buf N cs).take cs.length = own_by cs := by
    unfold own_buf
    rw [← own_byL cs, List.take_left]
  have e2 : (own_buf N cs).drop (cs.length + ds.length) = List.replicate (N - (cs ++ ds).length) (.int (0 : Int32)) := by
    unfold own_buf
    rw [← own_byL cs, ← List.drop_drop, List.drop_left, List.drop_replicate]
    congr 1
    simp [own_byL]; omega
  rw [e1, e2]
  simp [own_buf, own_by]
theorem own_bufT {N : Nat} {cs : List Int32} : (own_buf N cs).take cs.length = own_by cs := by
  unfold own_buf
  rw [← own_byL cs, List.take_left]
theorem own_buf0 (N : Nat) : own_buf N [] = List.replicate N (.int (0 : Int32)) := by simp [own_buf, own_by]
theorem own_n0 {n : Nat} (h : n ≤ 4000) : ¬ Int32.ofNat n < 0 := by
  rw [Int32.lt_iff_toInt_lt, Int32.toInt_ofNat_small (by omega)]
  have e : (0 : Int32).toInt = 0 := rfl
  omega
theorem own_shr0 (x : Int32) : x >>> ((0 : Int32) &&& 31) = x := by simp
theorem own_shl0 (x : Int32) : x <<< ((0 : Int32) &&& 31) = x := by simp
theorem own_addn {a b : Nat} (h : a + b ≤ 4000) : Int32.ofNat a + Int32.ofNat b = Int32.ofNat (a + b) := by
  apply Int32.toInt_inj.mp
  rw [Int32.toInt_add, Int32.toInt_ofNat_small (by omega), Int32.toInt_ofNat_small (by omega), Int32.toInt_ofNat_small (by omega), Int.bmod_eq_of_le (by omega) (by omega)]
  omega
theorem own_ec {M N : Nat} (h : M ≤ N) (hN : N ≤ 4000) : ¬ (0 : Int32) < Int32.ofNat M - Int32.ofNat N := by
  rw [Int32.lt_iff_toInt_lt, Int32.toInt_sub, Int32.toInt_ofNat_small (by omega), Int32.toInt_ofNat_small (by omega), Int.bmod_eq_of_le (by omega) (by omega)]
  have e : (0 : Int32).toInt = 0 := rfl
  omega
theorem own_usB {vs : List Value} {d : Value} {n : Nat} (hn : vs.length = n) : ((List.range n).map fun i => vs.getD (0 + i) d) = vs := by
  apply List.ext_getElem
  · simp [hn]
  · intro j h1 h2
    simp [List.getD_eq_getElem?_getD, h2]
theorem own_usT {vs : List Value} {d : Value} {n : Nat} (hn : n ≤ vs.length) : ((List.range n).map fun i => vs.getD (0 + i) d) = vs.take n := by
  apply List.ext_getElem
  · simp [hn]
  · intro j h1 h2
    simp at h1 h2
    simp [List.getD_eq_getElem?_getD, show j < vs.length by omega]
theorem d_jdk_68_m2_0 : decode jdk_68_method_2_code 0 = .ok (.aload_n 0, 1) := by decide +kernel
theorem d_jdk_68_m2_1 : decode jdk_68_method_2_code 1 = .ok (.invokespecial 3, 3) := by decide +kernel
theorem d_jdk_68_m2_4 : decode jdk_68_method_2_code 4 = .ok (.getstatic 18, 3) := by decide +kernel
theorem d_jdk_68_m2_7 : decode jdk_68_method_2_code 7 = .ok (.ifCond .eq 18, 3) := by decide +kernel
theorem d_jdk_68_m2_10 : decode jdk_68_method_2_code 10 = .ok (.aload_n 0, 1) := by decide +kernel
theorem d_jdk_68_m2_11 : decode jdk_68_method_2_code 11 = .ok (.iload_n 1, 1) := by decide +kernel
theorem d_jdk_68_m2_12 : decode jdk_68_method_2_code 12 = .ok (.newarray .byte, 2) := by decide +kernel
theorem d_jdk_68_m2_14 : decode jdk_68_method_2_code 14 = .ok (.putfield 15, 3) := by decide +kernel
theorem d_jdk_68_m2_17 : decode jdk_68_method_2_code 17 = .ok (.aload_n 0, 1) := by decide +kernel
theorem d_jdk_68_m2_18 : decode jdk_68_method_2_code 18 = .ok (.iconst 0, 1) := by decide +kernel
theorem d_jdk_68_m2_19 : decode jdk_68_method_2_code 19 = .ok (.putfield 22, 3) := by decide +kernel
theorem d_jdk_68_m2_22 : decode jdk_68_method_2_code 22 = .ok (.goto 16, 3) := by decide +kernel
theorem d_jdk_68_m2_25 : decode jdk_68_method_2_code 25 = .ok (.aload_n 0, 1) := by decide +kernel
theorem d_jdk_68_m2_26 : decode jdk_68_method_2_code 26 = .ok (.iload_n 1, 1) := by decide +kernel
theorem d_jdk_68_m2_27 : decode jdk_68_method_2_code 27 = .ok (.invokestatic 26, 3) := by decide +kernel
theorem d_jdk_68_m2_30 : decode jdk_68_method_2_code 30 = .ok (.putfield 15, 3) := by decide +kernel
theorem d_jdk_68_m2_33 : decode jdk_68_method_2_code 33 = .ok (.aload_n 0, 1) := by decide +kernel
theorem d_jdk_68_m2_34 : decode jdk_68_method_2_code 34 = .ok (.iconst 1, 1) := by decide +kernel
theorem d_jdk_68_m2_35 : decode jdk_68_method_2_code 35 = .ok (.putfield 22, 3) := by decide +kernel
theorem d_jdk_68_m2_38 : decode jdk_68_method_2_code 38 = .ok (.return_, 1) := by decide +kernel
theorem opn_own_asbI : plainFor (⟨"java/lang/AbstractStringBuilder", "<init>", "(I)V"⟩ : MethodName) = true := plainFor_of_name (by first | (simp [plainName, overriddenIn]; done) | decide +kernel)
set_option maxRecDepth 65536 in
set_option maxHeartbeats 40000000 in
theorem own_asbI (l : Launch) (Z : State) (a0 : Array Value) (hw : ∀ d ∈ tables_1, d.before a0 Z = true) (hEL : EW Z a0 consts_1) (n0 : Nat) (h : Heap) (hO : Old Z n0 h) (x : Addr) (v0 c0 : Value) (zc : Int32) (hcs : Sta Z Z.heap "java/lang/String" "COMPACT_STRINGS" "Z" (.int zc)) (hcz : ¬ zc = 0) (E_x : Exa Z h x "java/lang/StringBuilder") (F_v : Fld Z h x "java/lang/AbstractStringBuilder" "value" "[B" v0) (F_c : Fld Z h x "java/lang/AbstractStringBuilder" "coder" "B" c0) (F_n : Fld Z h x "java/lang/AbstractStringBuilder" "count" "I" (.int (0 : Int32))) (n0_x : n0 ≤ x) :
    oMet l Z consts_1 n0 (⟨"java/lang/AbstractStringBuilder", "<init>", "(I)V"⟩ : MethodName) jdk_68_method_2_code 2 none [] ({ frames := 1, cells := 1, slots := 16, locals := 12 } : Room) #[(.ref x), (.int (16 : Int32))] h [x] (fun v vm' h' => v = none ∧ ∃ t k, h.size ≤ t ∧ own_SB Z h' x t k 16 [] ∧ Safe Z consts_1 vm' h' t) := by
  refine oMet.of opn_own_asbI hO ?_
  intro p e s m below meth c T hx hby hml hret hnm hlk hh hsf A
  have hml : c.maxLocals = 2 := hml
  refine oCast (g' := mkF m 0 #[.val (.ref x), .val (.int (16 : Int32))] []) (by first | (simp [entryFrame, mkF, argsToLocals, Value.category]; done) | rfl) ?_
  show oGo p e below _ (T.setTop (mkF m 0 #[.val (.ref x), .val (.int (16 : Int32))] []))
  refine oSt (fun _ => XS.aloadN A.here hx rfl (Jvm.hb hby d_jdk_68_m2_0) rfl rfl) ?_
  show oGo p e below _ (T.setTop (mkF m 1 #[.val (.ref x), .val (.int (16 : Int32))] [(.ref x)]))
  obtain ⟨T, A, st⟩ := A.initO hx (hw _ (List.mem_of_getElem? (i := 85) rfl)) (hw _ (List.mem_of_getElem? (i := 20) rfl)) (hw _ (List.mem_of_getElem? (i := 21) rfl)) (g := (mkF m 1 #[.val (.ref x), .val (.int (16 : Int32))] [(.ref x)])) rfl (by rw [hml]; rfl) rfl (Jvm.hb hby d_jdk_68_m2_1) (by decide) (W := 0) (by show 2 * 0 + _ ≤ _; exact Nat.le_of_eq rfl) (by decide)
  refine oSt st ?_
  show oGo p e below _ (T.setTop (mkF m 4 #[.val (.ref x), .val (.int (16 : Int32))] []))
  obtain ⟨T, A, st⟩ := A.getS hx (host := "") (Or.inl (hw _ (List.mem_of_getElem? (i := 86) rfl))) Via.refl hcs (g := (mkF m 4 #[.val (.ref x), .val (.int (16 : Int32))] [])) rfl (Jvm.hb hby d_jdk_68_m2_4)
  refine oSt st ?_
  show oGo p e below _ (T.setTop (mkF m 7 #[.val (.ref x), .val (.int (16 : Int32))] [(.int zc)]))
  refine oSt (fun _ => XS.ifNo A.here hx rfl (Jvm.hb hby d_jdk_68_m2_7) rfl (Jvm.Free.XT.i0_eq_f hcz)) ?_
  show oGo p e below _ (T.setTop (mkF m 10 #[.val (.ref x), .val (.int (16 : Int32))] []))
  refine oSt (fun _ => XS.aloadN A.here hx rfl (Jvm.hb hby d_jdk_68_m2_10) rfl rfl) ?_
  show oGo p e below _ (T.setTop (mkF m 11 #[.val (.ref x), .val (.int (16 : Int32))] [(.ref x)]))
  refine oSt (fun _ => XS.iloadN A.here hx rfl (Jvm.hb hby d_jdk_68_m2_11) rfl) ?_
  show oGo p e below _ (T.setTop (mkF m 12 #[.val (.ref x), .val (.int (16 : Int32))] [(.int (16 : Int32)), (.ref x)]))
  obtain ⟨T, h, t, k_t, g_t, lt_t, n0_t, s_t, A, E, V_t, S_t, st⟩ := A.newP hx (hw _ (List.mem_of_getElem? (i := 14) rfl)) (g := (mkF m 12 #[.val (.ref x), .val (.int (16 : Int32))] [(.int (16 : Int32)), (.ref x)])) rfl (Jvm.hb hby d_jdk_68_m2_12) rfl (by decide) (cap := 16) (by decide) (by decide) (by decide) (by decide)
  refine oSt st ?_
  show oGo p e below _ (T.setTop (mkF m 14 #[.val (.ref x), .val (.int (16 : Int32))] [(.ref t), (.ref x)]))
  have V_t : Arv Z h t k_t .byte (16 : Int32) [(.int (0 : Int32)), (.int (0 : Int32)), (.int (0 : Int32)), (.int (0 : Int32)), (.int (0 : Int32)), (.int (0 : Int32)), (.int (0 : Int32)), (.int (0 : Int32)), (.int (0 : Int32)), (.int (0 : Int32)), (.int (0 : Int32)), (.int (0 : Int32)), (.int (0 : Int32)), (.int (0 : Int32)), (.int (0 : Int32)), (.int (0 : Int32))] (.int (0 : Int32)) := V_t.pad (pad_rep [] (.int (0 : Int32)) 16)
  have E_x := E_x.ext E
  have F_v := F_v.ext E
  have F_c := F_c.ext E
  have F_n := F_n.ext E
  have hne : x ≠ t := E_x.neArv V_t (hw _ (List.mem_of_getElem? (i := 74) rfl))
  have CH1 := A.ch
  have SX1 := (A.safeExa E_x (by decide) (by decide))
  obtain ⟨T, h, A, W, st⟩ := A.putF hx (host := "") (Or.inl (hw _ (List.mem_of_getElem? (i := 87) rfl))) Via.refl F_v E_x (Or.inl (hw _ (List.mem_of_getElem? (i := 88) rfl))) (hw _ (List.mem_of_getElem? (i := 74) rfl)) (ty := (.array .byte)) (by decide) rfl rfl n0_x (Or.inl (List.mem_cons_self ..)) (A.safeExa E_x (by decide) (by decide)) (g := (mkF m 14 #[.val (.ref x), .val (.int (16 : Int32))] [(.ref t), (.ref x)])) rfl rfl (Jvm.hb hby d_jdk_68_m2_14)
  refine oSt st ?_
  show oGo p e below _ (T.setTop (mkF m 17 #[.val (.ref x), .val (.int (16 : Int32))] []))
  have S_t := Safe.wr W SX1 CH1 S_t
  have V_t := V_t.other W (Ne.symm hne)
  have E_x := E_x.wr W
  have F_c := F_c.other W (Or.inr (slot_ne (Or.inl (hw _ (List.mem_of_getElem? (i := 90) rfl))) (Or.inl (hw _ (List.mem_of_getElem? (i := 88) rfl))) (by decide) (t := .byte) (t' := (.array .byte)) (by decide) (by decide)))
  have F_n := F_n.other W (Or.inr (slot_ne (Or.inl (hw _ (List.mem_of_getElem? (i := 115) rfl))) (Or.inl (hw _ (List.mem_of_getElem? (i := 88) rfl))) (by decide) (t := .int) (t' := (.array .byte)) (by decide) (by decide)))
  have F_v := F_v.same W
  refine oSt (fun _ => XS.aloadN A.here hx rfl (Jvm.hb hby d_jdk_68_m2_17) rfl rfl) ?_
  show oGo p e below _ (T.setTop (mkF m 18 #[.val (.ref x), .val (.int (16 : Int32))] [(.ref x)]))
  refine oSt (fun _ => XS.iconst A.here hx rfl (Jvm.hb hby d_jdk_68_m2_18)) ?_
  show oGo p e below _ (T.setTop (mkF m 19 #[.val (.ref x), .val (.int (16 : Int32))] [(.int (0 : Int32)), (.ref x)]))
  have CH1 := A.ch
  have SX1 := (A.safeExa E_x (by decide) (by decide))
  obtain ⟨T, h, A, W2, st⟩ := A.putF hx (host := "") (Or.inl (hw _ (List.mem_of_getElem? (i := 89) rfl))) Via.refl F_c E_x (Or.inl (hw _ (List.mem_of_getElem? (i := 90) rfl))) (hw _ (List.mem_of_getElem? (i := 74) rfl)) (ty := .byte) (by decide) rfl rfl n0_x (Or.inl (List.mem_cons_self ..)) (A.safeExa E_x (by decide) (by decide)) (g := (mkF m 19 #[.val (.ref x), .val (.int (16 : Int32))] [(.int (0 : Int32)), (.ref x)])) rfl rfl (Jvm.hb hby d_jdk_68_m2_19)
  refine oSt st ?_
  show oGo p e below _ (T.setTop (mkF m 22 #[.val (.ref x), .val (.int (16 : Int32))] []))
  have S_t := Safe.wr W2 SX1 CH1 S_t
  have V_t := V_t.other W2 (Ne.symm hne)
  have E_x := E_x.wr W2
  have F_v := F_v.other W2 (Or.inr (slot_ne (Or.inl (hw _ (List.mem_of_getElem? (i := 88) rfl))) (Or.inl (hw _ (List.mem_of_getElem? (i := 90) rfl))) (by decide) (t := (.array .byte)) (t' := .byte) (by decide) (by decide)))
  have F_n := F_n.other W2 (Or.inr (slot_ne (Or.inl (hw _ (List.mem_of_getElem? (i := 115) rfl))) (Or.inl (hw _ (List.mem_of_getElem? (i := 90) rfl))) (by decide) (t := .int) (t' := .byte) (by decide) (by decide)))
  have F_c := F_c.same W2
  refine oSt (fun _ => XS.goto A.here hx rfl (pc0 := 22) (pc' := 38) rfl (Jvm.hb hby d_jdk_68_m2_22) (by decide) (by decide)) ?_
  show oGo p e below _ (T.setTop (mkF m 38 #[.val (.ref x), .val (.int (16 : Int32))] []))
  exact A.leave hlk hEL (v := none) (fun _ => rfl) (fun _ C => ⟨rfl, t, k_t, Nat.le_of_eq g_t.symm, ⟨oP0, by decide, by decide, E_x, F_v, F_c, F_n, by rw [own_buf0]; exact V_t⟩, C.safe V_t.lt S_t⟩) (by decide) (by decide) (fun fs hr => A.1.returnOut hx hret (Jvm.hb hby d_jdk_68_m2_38) hr)
theorem d_jdk_67_m1_0 : decode jdk_67_method_1_code 0 = .ok (.aload_n 0, 1) := by decide +kernel
theorem d_jdk_67_m1_1 : decode jdk_67_method_1_code 1 = .ok (.bipush 16, 2) := by decide +kernel
theorem d_jdk_67_m1_3 : decode jdk_67_method_1_code 3 = .ok (.invokespecial 1, 3) := by decide +kernel
theorem d_jdk_67_m1_6 : decode jdk_67_method_1_code 6 = .ok (.return_, 1) := by decide +kernel
theorem opd4 : parseMethodDescriptor "(I)V" = some ⟨[.int], none⟩ := by decide +kernel
theorem opn_own_sbI : plainFor (⟨"java/lang/StringBuilder", "<init>", "()V"⟩ : MethodName) = true := plainFor_of_name (by first | (simp [plainName, overriddenIn]; done) | decide +kernel)
set_option maxRecDepth 65536 in
set_option maxHeartbeats 40000000 in
theorem own_sbI (l : Launch) (Z : State) (a0 : Array Value) (hw : ∀ d ∈ tables_1, d.before a0 Z = true) (hEL : EW Z a0 consts_1) (n0 : Nat) (h : Heap) (hO : Old Z n0 h) (x : Addr) (v0 c0 : Value) (zc : Int32) (hcs : Sta Z Z.heap "java/lang/String" "COMPACT_STRINGS" "Z" (.int zc)) (hcz : ¬ zc = 0) (E_x : Exa Z h x "java/lang/StringBuilder") (F_v : Fld Z h x "java/lang/AbstractStringBuilder" "value" "[B" v0) (F_c : Fld Z h x "java/lang/AbstractStringBuilder" "coder" "B" c0) (F_n : Fld Z h x "java/lang/AbstractStringBuilder" "count" "I" (.int (0 : Int32))) (n0_x : n0 ≤ x) :
    oMet l Z consts_1 n0 (⟨"java/lang/StringBuilder", "<init>", "()V"⟩ : MethodName) jdk_67_method_1_code 1 none [] ({ frames := 2, cells := 1, slots := 16, locals := 25 } : Room) #[(.ref x)] h [x] (fun v vm' h' => v = none ∧ ∃ t k, h.size ≤ t ∧ own_SB Z h' x t k 16 [] ∧ Safe Z consts_1 vm' h' t) := by
  refine oMet.of opn_own_sbI hO ?_
  intro p e s m below meth c T hx hby hml hret hnm hlk hh hsf A
  have hml : c.maxLocals = 1 := hml
  refine oCast (g' := mkF m 0 #[.val (.ref x)] []) (by first | (simp [entryFrame, mkF, argsToLocals, Value.category]; done) | rfl) ?_
  show oGo p e below _ (T.setTop (mkF m 0 #[.val (.ref x)] []))
  refine oSt (fun _ => XS.aloadN A.here hx rfl (Jvm.hb hby d_jdk_67_m1_0) rfl rfl) ?_
  show oGo p e below _ (T.setTop (mkF m 1 #[.val (.ref x)] [(.ref x)]))
  refine oSt (fun _ => XS.bipush A.here hx rfl (Jvm.hb hby d_jdk_67_m1_1)) ?_
  show oGo p e below _ (T.setTop (mkF m 3 #[.val (.ref x)] [(.int (16 : Int32)), (.ref x)]))
  obtain ⟨_, vm, T, h, L, A, K, CR, ⟨rfl, t, k, le_t, S, S_t⟩, st⟩ := A.callN hx (y := (⟨"java/lang/AbstractStringBuilder", "<init>", "(I)V"⟩ : MethodName)) rfl (hw _ (List.mem_of_getElem? (i := 79) rfl)) (hw _ (List.mem_of_getElem? (i := 80) rfl)) (hw _ (List.mem_of_getElem? (i := 83) rfl)) (hw _ (List.mem_of_getElem? (i := 84) rfl)) (by decide) hEL (a := x) (argsL := [(.int (16 : Int32))]) (rest := []) (own_asbI l Z a0 hw hEL n0 _ A.oldn x v0 c0 zc hcs hcz E_x F_v F_c F_n n0_x) (W := 0) (by decide) (by decide) (by decide) (by decide) (oIn1 n0_x) (oIn1 (Or.inl (List.mem_cons_self ..))) hsf (g := (mkF m 3 #[.val (.ref x)] [(.int (16 : Int32)), (.ref x)])) rfl (by rw [hml]; rfl) (lenOf opd4 rfl) rfl (by show 2 * 0 + _ ≤ _; exact Nat.le_of_eq rfl) (Jvm.hb hby d_jdk_67_m1_3)
  refine oSt st ?_
  show oGo p e below _ (T.setTop (mkF m 6 #[.val (.ref x)] []))
  exact A.leave hlk hEL (v := none) (fun _ => rfl) (fun _ C => ⟨rfl, t, k, le_t, S, C.safe S.2.2.2.2.2.2.2.lt S_t⟩) (by decide) (by decide) (fun fs hr => A.1.returnOut hx hret (Jvm.hb hby d_jdk_67_m1_6) hr)
theorem d_jdk_68_m9_0 : decode jdk_68_method_9_code 0 = .ok (.aload_n 0, 1) := by decide +kernel
theorem d_jdk_68_m9_1 : decode jdk_68_method_9_code 1 = .ok (.getfield 15, 3) := by decide +kernel
theorem d_jdk_68_m9_4 : decode jdk_68_method_9_code 4 = .ok (.arraylength, 1) := by decide +kernel
theorem d_jdk_68_m9_5 : decode jdk_68_method_9_code 5 = .ok (.aload_n 0, 1) := by decide +kernel
theorem d_jdk_68_m9_6 : decode jdk_68_method_9_code 6 = .ok (.getfield 22, 3) := by decide +kernel
theorem d_jdk_68_m9_9 : decode jdk_68_method_9_code 9 = .ok (.ishr, 1) := by decide +kernel
theorem d_jdk_68_m9_10 : decode jdk_68_method_9_code 10 = .ok (.istore_n 2, 1) := by decide +kernel
theorem d_jdk_68_m9_11 : decode jdk_68_method_9_code 11 = .ok (.iload_n 1, 1) := by decide +kernel
theorem d_jdk_68_m9_12 : decode jdk_68_method_9_code 12 = .ok (.iload_n 2, 1) := by decide +kernel
theorem d_jdk_68_m9_13 : decode jdk_68_method_9_code 13 = .ok (.isub, 1) := by decide +kernel
theorem d_jdk_68_m9_14 : decode jdk_68_method_9_code 14 = .ok (.ifCond .le 24, 3) := by decide +kernel
theorem d_jdk_68_m9_17 : decode jdk_68_method_9_code 17 = .ok (.aload_n 0, 1) := by decide +kernel
theorem d_jdk_68_m9_18 : decode jdk_68_method_9_code 18 = .ok (.aload_n 0, 1) := by decide +kernel
theorem d_jdk_68_m9_19 : decode jdk_68_method_9_code 19 = .ok (.getfield 15, 3) := by decide +kernel
theorem d_jdk_68_m9_22 : decode jdk_68_method_9_code 22 = .ok (.aload_n 0, 1) := by decide +kernel
theorem d_jdk_68_m9_23 : decode jdk_68_method_9_code 23 = .ok (.iload_n 1, 1) := by decide +kernel
theorem d_jdk_68_m9_24 : decode jdk_68_method_9_code 24 = .ok (.invokevirtual 104, 3) := by decide +kernel
theorem d_jdk_68_m9_27 : decode jdk_68_method_9_code 27 = .ok (.aload_n 0, 1) := by decide +kernel
theorem d_jdk_68_m9_28 : decode jdk_68_method_9_code 28 = .ok (.getfield 22, 3) := by decide +kernel
theorem d_jdk_68_m9_31 : decode jdk_68_method_9_code 31 = .ok (.ishl, 1) := by decide +kernel
theorem d_jdk_68_m9_32 : decode jdk_68_method_9_code 32 = .ok (.invokestatic 108, 3) := by decide +kernel
theorem d_jdk_68_m9_35 : decode jdk_68_method_9_code 35 = .ok (.putfield 15, 3) := by decide +kernel
theorem d_jdk_68_m9_38 : decode jdk_68_method_9_code 38 = .ok (.return_, 1) := by decide +kernel
theorem opn_own_ecap : plainFor (⟨"java/lang/AbstractStringBuilder", "ensureCapacityInternal", "(I)V"⟩ : MethodName) = true := plainFor_of_name (by first | (simp [plainName, overriddenIn]; done) | decide +kernel)
set_option maxRecDepth 65536 in
set_option maxHeartbeats 40000000 in
theorem own_ecap (l : Launch) (Z : State) (a0 : Array Value) (hw : ∀ d ∈ tables_1, d.before a0 Z = true) (hEL : EW Z a0 consts_1) (n0 : Nat) (h : Heap) (hO : Old Z n0 h) (x t : Addr) (k : ClassId) (N : Nat) (cs : List Int32) (M : Nat) (S : own_SB Z h x t k N cs) (hM : M ≤ N) :
    oMet l Z consts_1 n0 (⟨"java/lang/AbstractStringBuilder", "ensureCapacityInternal", "(I)V"⟩ : MethodName) jdk_68_method_9_code 3 none [] ({ frames := 0, cells := 0, slots := 0, locals := 0 } : Room) #[(.ref x), (.int (Int32.ofNat M))] h [] (fun v _ h' => h = h' ∧ v = none) := by
  refine oMet.of opn_own_ecap hO ?_
  intro p e s m below meth c T hx hby hml hret hnm hlk hh hsf A
  have hml : c.maxLocals = 3 := hml
  refine oCast (g' := mkF m 0 #[.val (.ref x), .val (.int (Int32.ofNat M)), .unset] []) (by first | (simp [entryFrame, mkF, argsToLocals, Value.category]; done) | rfl) ?_
  obtain ⟨b1, b2, b3, E_x, F_v, F_c, F_n, V_t⟩ := S
  show oGo p e below _ (T.setTop (mkF m 0 #[.val (.ref x), .val (.int (Int32.ofNat M)), .unset] []))
  refine oSt (fun _ => XS.aloadN A.here hx rfl (Jvm.hb hby d_jdk_68_m9_0) rfl rfl) ?_
  show oGo p e below _ (T.setTop (mkF m 1 #[.val (.ref x), .val (.int (Int32.ofNat M)), .unset] [(.ref x)]))
  obtain ⟨T, A, st⟩ := A.getF hx (host := "") (Or.inl (hw _ (List.mem_of_getElem? (i := 87) rfl))) Via.refl F_v (g := (mkF m 1 #[.val (.ref x), .val (.int (Int32.ofNat M)), .unset] [(.ref x)])) rfl rfl (Jvm.hb hby d_jdk_68_m9_1)
  refine oSt st ?_
  show oGo p e below _ (T.setTop (mkF m 4 #[.val (.ref x), .val (.int (Int32.ofNat M)), .unset] [(.ref t)]))
  refine oSt (A.len hx V_t (g := (mkF m 4 #[.val (.ref x), .val (.int (Int32.ofNat M)), .unset] [(.ref t)])) rfl rfl (Jvm.hb hby d_jdk_68_m9_4)) ?_
  show oGo p e below _ (T.setTop (mkF m 5 #[.val (.ref x), .val (.int (Int32.ofNat M)), .unset] [(.int (Int32.ofNat N))]))
  refine oSt (fun _ => XS.aloadN A.here hx rfl (Jvm.hb hby d_jdk_68_m9_5) rfl rfl) ?_
  show oGo p e below _ (T.setTop (mkF m 6 #[.val (.ref x), .val (.int (Int32.ofNat M)), .unset] [(.ref x), (.int (Int32.ofNat N))]))
  obtain ⟨T, A, st⟩ := A.getF hx (host := "") (Or.inl (hw _ (List.mem_of_getElem? (i := 89) rfl))) Via.refl F_c (g := (mkF m 6 #[.val (.ref x), .val (.int (Int32.ofNat M)), .unset] [(.ref x), (.int (Int32.ofNat N))])) rfl rfl (Jvm.hb hby d_jdk_68_m9_6)
  refine oSt st ?_
  show oGo p e below _ (T.setTop (mkF m 9 #[.val (.ref x), .val (.int (Int32.ofNat M)), .unset] [(.int (0 : Int32)), (.int (Int32.ofNat N))]))
  refine oSt (fun _ => XS.ishr A.here hx rfl (Jvm.hb hby d_jdk_68_m9_9) rfl) ?_
  show oGo p e below _ (T.setTop (mkF m 10 #[.val (.ref x), .val (.int (Int32.ofNat M)), .unset] [(.int ((Int32.ofNat N) >>> ((0 : Int32) &&& 31)))]))
  refine oSt (fun _ => XS.istoreN A.here hx rfl (Jvm.hb hby d_jdk_68_m9_10) rfl (l' := #[.val (.ref x), .val (.int (Int32.ofNat M)), .val (.int ((Int32.ofNat N) >>> ((0 : Int32) &&& 31)))]) rfl) ?_
  show oGo p e below _ (T.setTop (mkF m 11 #[.val (.ref x), .val (.int (Int32.ofNat M)), .val (.int ((Int32.ofNat N) >>> ((0 : Int32) &&& 31)))] []))
  refine oSt (fun _ => XS.iloadN A.here hx rfl (Jvm.hb hby d_jdk_68_m9_11) rfl) ?_
  show oGo p e below _ (T.setTop (mkF m 12 #[.val (.ref x), .val (.int (Int32.ofNat M)), .val (.int ((Int32.ofNat N) >>> ((0 : Int32) &&& 31)))] [(.int (Int32.ofNat M))]))
  refine oSt (fun _ => XS.iloadN A.here hx rfl (Jvm.hb hby d_jdk_68_m9_12) rfl) ?_
  show oGo p e below _ (T.setTop (mkF m 13 #[.val (.ref x), .val (.int (Int32.ofNat M)), .val (.int ((Int32.ofNat N) >>> ((0 : Int32) &&& 31)))] [(.int ((Int32.ofNat N) >>> ((0 : Int32) &&& 31))), (.int (Int32.ofNat M))]))
  refine oSt (fun _ => XS.isub A.here hx rfl (Jvm.hb hby d_jdk_68_m9_13) rfl) ?_
  show oGo p e below _ (T.setTop (mkF m 14 #[.val (.ref x), .val (.int (Int32.ofNat M)), .val (.int ((Int32.ofNat N) >>> ((0 : Int32) &&& 31)))] [(.int ((Int32.ofNat M) - ((Int32.ofNat N) >>> ((0 : Int32) &&& 31))))]))
  rw [own_shr0]
  show oGo p e below _ (T.setTop (mkF m 14 #[.val (.ref x), .val (.int (Int32.ofNat M)), .val (.int (Int32.ofNat N))] [(.int ((Int32.ofNat M) - (Int32.ofNat N)))]))
  refine oSt (fun _ => XS.ifYes A.here hx rfl (pc0 := 14) (pc' := 38) rfl (Jvm.hb hby d_jdk_68_m9_14) rfl (Jvm.Free.XT.i0_le_t (own_ec hM b3)) (by decide) (by decide)) ?_
  show oGo p e below _ (T.setTop (mkF m 38 #[.val (.ref x), .val (.int (Int32.ofNat M)), .val (.int (Int32.ofNat N))] []))
  exact A.leave hlk hEL (v := none) (fun _ => rfl) (fun _ _ => ⟨rfl, rfl⟩) (by decide) (by decide) (fun fs hr => A.1.returnOut hx hret (Jvm.hb hby d_jdk_68_m9_38) hr)
theorem d_jdk_42_m152_0 : decode jdk_42_method_152_code 0 = .ok (.getstatic 38, 3) := by decide +kernel
theorem d_jdk_42_m152_3 : decode jdk_42_method_152_code 3 = .ok (.ifCond .eq 10, 3) := by decide +kernel
theorem d_jdk_42_m152_6 : decode jdk_42_method_152_code 6 = .ok (.aload_n 0, 1) := by decide +kernel
theorem d_jdk_42_m152_7 : decode jdk_42_method_152_code 7 = .ok (.getfield 15, 3) := by decide +kernel
theorem d_jdk_42_m152_10 : decode jdk_42_method_152_code 10 = .ok (.goto 4, 3) := by decide +kernel
theorem d_jdk_42_m152_13 : decode jdk_42_method_152_code 13 = .ok (.iconst 1, 1) := by decide +kernel
theorem d_jdk_42_m152_14 : decode jdk_42_method_152_code 14 = .ok (.ireturn, 1) := by decide +kernel
theorem opn_own_cod : plainFor (⟨"java/lang/String", "coder", "()B"⟩ : MethodName) = true := plainFor_of_name (by first | (simp [plainName, overriddenIn]; done) | decide +kernel)
set_option maxRecDepth 65536 in
set_option maxHeartbeats 40000000 in
theorem own_cod (l : Launch) (Z : State) (a0 : Array Value) (hw : ∀ d ∈ tables_1, d.before a0 Z = true) (hEL : EW Z a0 consts_1) (n0 : Nat) (h : Heap) (hO : Old Z n0 h) (y : Addr) (ds : List Int32) (zc : Int32) (hcs : Sta Z Z.heap "java/lang/String" "COMPACT_STRINGS" "Z" (.int zc)) (hcz : ¬ zc = 0) (Q : oStr Z h y ds) :
    oMet l Z consts_1 n0 (⟨"java/lang/String", "coder", "()B"⟩ : MethodName) jdk_42_method_152_code 1 (some .byte) [] ({ frames := 0, cells := 0, slots := 0, locals := 0 } : Room) #[(.ref y)] h [] (fun v _ h' => h = h' ∧ v = some (.int 0)) := by
  refine oMet.of opn_own_cod hO ?_
  intro p e s m below meth c T hx hby hml hret hnm hlk hh hsf A
  have hml : c.maxLocals = 1 := hml
  refine oCast (g' := mkF m 0 #[.val (.ref y)] []) (by first | (simp [entryFrame, mkF, argsToLocals, Value.category]; done) | rfl) ?_
  obtain ⟨r1, r2, t, k, e1, e2, e3, e4⟩ := Q
  show oGo p e below _ (T.setTop (mkF m 0 #[.val (.ref y)] []))
  obtain ⟨T, A, st⟩ := A.getS hx (host := "") (Or.inl (hw _ (List.mem_of_getElem? (i := 4) rfl))) Via.refl hcs (g := (mkF m 0 #[.val (.ref y)] [])) rfl (Jvm.hb hby d_jdk_42_m152_0)
  refine oSt st ?_
  show oGo p e below _ (T.setTop (mkF m 3 #[.val (.ref y)] [(.int zc)]))
  refine oSt (fun _ => XS.ifNo A.here hx rfl (Jvm.hb hby d_jdk_42_m152_3) rfl (Jvm.Free.XT.i0_eq_f hcz)) ?_
  show oGo p e below _ (T.setTop (mkF m 6 #[.val (.ref y)] []))
  refine oSt (fun _ => XS.aloadN A.here hx rfl (Jvm.hb hby d_jdk_42_m152_6) rfl rfl) ?_
  show oGo p e below _ (T.setTop (mkF m 7 #[.val (.ref y)] [(.ref y)]))
  obtain ⟨T, A, st⟩ := A.getF hx (host := "") (Or.inl (hw _ (List.mem_of_getElem? (i := 24) rfl))) Via.refl e3 (g := (mkF m 7 #[.val (.ref y)] [(.ref y)])) rfl rfl (Jvm.hb hby d_jdk_42_m152_7)
  refine oSt st ?_
  show oGo p e below _ (T.setTop (mkF m 10 #[.val (.ref y)] [(.int (0 : Int32))]))
  refine oSt (fun _ => XS.goto A.here hx rfl (pc0 := 10) (pc' := 14) rfl (Jvm.hb hby d_jdk_42_m152_10) (by decide) (by decide)) ?_
  show oGo p e below _ (T.setTop (mkF m 14 #[.val (.ref y)] [(.int (0 : Int32))]))
  exact A.leave hlk hEL (v := some (.int (0 : Int32))) (fun h => by rw [hret] at h; cases h) (fun _ _ => ⟨rfl, rfl⟩) (by decide) (by decide) (fun fs hr => retN A.1 hx (t := .byte) hret (by simp) (Jvm.hb hby d_jdk_42_m152_14) hr)
theorem d_jdk_68_m71_0 : decode jdk_68_method_71_code 0 = .ok (.getstatic 18, 3) := by decide +kernel
theorem d_jdk_68_m71_3 : decode jdk_68_method_71_code 3 = .ok (.ifCond .eq 18, 3) := by decide +kernel
theorem d_jdk_68_m71_6 : decode jdk_68_method_71_code 6 = .ok (.aload_n 0, 1) := by decide +kernel
theorem d_jdk_68_m71_7 : decode jdk_68_method_71_code 7 = .ok (.getfield 22, 3) := by decide +kernel
theorem d_jdk_68_m71_10 : decode jdk_68_method_71_code 10 = .ok (.aload_n 1, 1) := by decide +kernel
theorem d_jdk_68_m71_11 : decode jdk_68_method_71_code 11 = .ok (.invokevirtual 40, 3) := by decide +kernel
theorem d_jdk_68_m71_14 : decode jdk_68_method_71_code 14 = .ok (.if_icmp .eq 7, 3) := by decide +kernel
theorem d_jdk_68_m71_17 : decode jdk_68_method_71_code 17 = .ok (.aload_n 0, 1) := by decide +kernel
theorem d_jdk_68_m71_18 : decode jdk_68_method_71_code 18 = .ok (.invokevirtual 195, 3) := by decide +kernel
theorem d_jdk_68_m71_21 : decode jdk_68_method_71_code 21 = .ok (.return_, 1) := by decide +kernel
theorem opd5 : parseMethodDescriptor "()B" = some ⟨[], some .byte⟩ := by decide +kernel
theorem opn_own_inf : plainFor (⟨"java/lang/AbstractStringBuilder", "inflateIfNeededFor", "(Ljava/lang/String;)V"⟩ : MethodName) = true := plainFor_of_name (by first | (simp [plainName, overriddenIn]; done) | decide +kernel)
set_option maxRecDepth 65536 in
set_option maxHeartbeats 40000000 in
theorem own_inf (l : Launch) (Z : State) (a0 : Array Value) (hw : ∀ d ∈ tables_1, d.before a0 Z = true) (hEL : EW Z a0 consts_1) (n0 : Nat) (h : Heap) (hO : Old Z n0 h) (x t : Addr) (k : ClassId) (N : Nat) (cs : List Int32) (y : Addr) (ds : List Int32) (zc : Int32) (hcs : Sta Z Z.heap "java/lang/String" "COMPACT_STRINGS" "Z" (.int zc)) (hcz : ¬ zc = 0) (S : own_SB Z h x t k N cs) (Q : oStr Z h y ds) :
    oMet l Z consts_1 n0 (⟨"java/lang/AbstractStringBuilder", "inflateIfNeededFor", "(Ljava/lang/String;)V"⟩ : MethodName) jdk_68_method_71_code 2 none [] ({ frames := 1, cells := 0, slots := 0, locals := 13 } : Room) #[(.ref x), (.ref y)] h [] (fun v _ h' => h = h' ∧ v = none) := by
  refine oMet.of opn_own_inf hO ?_
  intro p e s m below meth c T hx hby hml hret hnm hlk hh hsf A
  have hml : c.maxLocals = 2 := hml
  refine oCast (g' := mkF m 0 #[.val (.ref x), .val (.ref y)] []) (by first | (simp [entryFrame, mkF, argsToLocals, Value.category]; done) | rfl) ?_
  obtain ⟨b1, b2, b3, E_x, F_v, F_c, F_n, V_t⟩ := S
  show oGo p e below _ (T.setTop (mkF m 0 #[.val (.ref x), .val (.ref y)] []))
  obtain ⟨T, A, st⟩ := A.getS hx (host := "") (Or.inl (hw _ (List.mem_of_getElem? (i := 86) rfl))) Via.refl hcs (g := (mkF m 0 #[.val (.ref x), .val (.ref y)] [])) rfl (Jvm.hb hby d_jdk_68_m71_0)
  refine oSt st ?_
  show oGo p e below _ (T.setTop (mkF m 3 #[.val (.ref x), .val (.ref y)] [(.int zc)]))
  refine oSt (fun _ => XS.ifNo A.here hx rfl (Jvm.hb hby d_jdk_68_m71_3) rfl (Jvm.Free.XT.i0_eq_f hcz)) ?_
  show oGo p e below _ (T.setTop (mkF m 6 #[.val (.ref x), .val (.ref y)] []))
  refine oSt (fun _ => XS.aloadN A.here hx rfl (Jvm.hb hby d_jdk_68_m71_6) rfl rfl) ?_
  show oGo p e below _ (T.setTop (mkF m 7 #[.val (.ref x), .val (.ref y)] [(.ref x)]))
  obtain ⟨T, A, st⟩ := A.getF hx (host := "") (Or.inl (hw _ (List.mem_of_getElem? (i := 89) rfl))) Via.refl F_c (g := (mkF m 7 #[.val (.ref x), .val (.ref y)] [(.ref x)])) rfl rfl (Jvm.hb hby d_jdk_68_m71_7)
  refine oSt st ?_
  show oGo p e below _ (T.setTop (mkF m 10 #[.val (.ref x), .val (.ref y)] [(.int (0 : Int32))]))
  refine oSt (fun _ => XS.aloadN A.here hx rfl (Jvm.hb hby d_jdk_68_m71_10) rfl rfl) ?_
  show oGo p e below _ (T.setTop (mkF m 11 #[.val (.ref x), .val (.ref y)] [(.ref y), (.int (0 : Int32))]))
  obtain ⟨_, vm, T, h, L, A, K, CR, ⟨rfl, rfl⟩, st⟩ := A.callV hx (y := (⟨"java/lang/String", "coder", "()B"⟩ : MethodName)) (z := (⟨"java/lang/String", "coder", "()B"⟩ : MethodName)) (hw _ (List.mem_of_getElem? (i := 131) rfl)) (hw _ (List.mem_of_getElem? (i := 110) rfl)) (A.nf (hw _ (List.mem_of_getElem? (i := 112) rfl))) (hw _ (List.mem_of_getElem? (i := 112) rfl)) (hw _ (List.mem_of_getElem? (i := 111) rfl)) (hw _ (List.mem_of_getElem? (i := 2) rfl)) (hw _ (List.mem_of_getElem? (i := 113) rfl)) (by decide) hEL (a := y) (argsL := []) (rest := [(.int (0 : Int32))]) (own_cod l Z a0 hw hEL n0 _ A.oldn y ds zc hcs hcz Q) Q.exa (W := 1) (by decide) (by decide) (by decide) (by decide) all0 all0 all0 (g := (mkF m 11 #[.val (.ref x), .val (.ref y)] [(.ref y), (.int (0 : Int32))])) rfl (by rw [hml]; rfl) (lenOf opd5 rfl) rfl (by show 2 * 0 + _ ≤ _; exact Nat.le_of_eq rfl) (Jvm.hb hby d_jdk_68_m71_11)
  refine oSt st ?_
  have X := oExt0 K
  show oGo p e below _ (T.setTop (mkF m 14 #[.val (.ref x), .val (.ref y)] [(.int (0 : Int32)), (.int (0 : Int32))]))
  refine oSt (fun _ => XS.icmpYes A.here hx rfl (pc0 := 14) (pc' := 21) rfl (Jvm.hb hby d_jdk_68_m71_14) rfl (Jvm.Free.XT.ii_eq_t rfl) (by decide) (by decide)) ?_
  show oGo p e below _ (T.setTop (mkF m 21 #[.val (.ref x), .val (.ref y)] []))
  exact A.leave hlk hEL (v := none) (fun _ => rfl) (fun _ _ => ⟨rfl, rfl⟩) (by decide) (by decide) (fun fs hr => A.1.returnOut hx hret (Jvm.hb hby d_jdk_68_m71_21) hr)
theorem d_jdk_42_m147_0 : decode jdk_42_method_147_code 0 = .ok (.aload_n 0, 1) := by decide +kernel
theorem d_jdk_42_m147_1 : decode jdk_42_method_147_code 1 = .ok (.invokevirtual 335, 3) := by decide +kernel
theorem d_jdk_42_m147_4 : decode jdk_42_method_147_code 4 = .ok (.iload_n 3, 1) := by decide +kernel
theorem d_jdk_42_m147_5 : decode jdk_42_method_147_code 5 = .ok (.if_icmp .ne 23, 3) := by decide +kernel
theorem d_jdk_42_m147_8 : decode jdk_42_method_147_code 8 = .ok (.aload_n 0, 1) := by decide +kernel
theorem d_jdk_42_m147_9 : decode jdk_42_method_147_code 9 = .ok (.getfield 9, 3) := by decide +kernel
theorem d_jdk_42_m147_12 : decode jdk_42_method_147_code 12 = .ok (.iconst 0, 1) := by decide +kernel
theorem d_jdk_42_m147_13 : decode jdk_42_method_147_code 13 = .ok (.aload_n 1, 1) := by decide +kernel
theorem d_jdk_42_m147_14 : decode jdk_42_method_147_code 14 = .ok (.iload_n 2, 1) := by decide +kernel
theorem d_jdk_42_m147_15 : decode jdk_42_method_147_code 15 = .ok (.iload_n 3, 1) := by decide +kernel
theorem d_jdk_42_m147_16 : decode jdk_42_method_147_code 16 = .ok (.ishl, 1) := by decide +kernel
theorem d_jdk_42_m147_17 : decode jdk_42_method_147_code 17 = .ok (.aload_n 0, 1) := by decide +kernel
theorem d_jdk_42_m147_18 : decode jdk_42_method_147_code 18 = .ok (.getfield 9, 3) := by decide +kernel
theorem d_jdk_42_m147_21 : decode jdk_42_method_147_code 21 = .ok (.arraylength, 1) := by decide +kernel
theorem d_jdk_42_m147_22 : decode jdk_42_method_147_code 22 = .ok (.invokestatic 212, 3) := by decide +kernel
theorem d_jdk_42_m147_25 : decode jdk_42_method_147_code 25 = .ok (.goto 18, 3) := by decide +kernel
theorem d_jdk_42_m147_28 : decode jdk_42_method_147_code 28 = .ok (.aload_n 0, 1) := by decide +kernel
theorem d_jdk_42_m147_29 : decode jdk_42_method_147_code 29 = .ok (.getfield 9, 3) := by decide +kernel
theorem d_jdk_42_m147_32 : decode jdk_42_method_147_code 32 = .ok (.iconst 0, 1) := by decide +kernel
theorem d_jdk_42_m147_33 : decode jdk_42_method_147_code 33 = .ok (.aload_n 1, 1) := by decide +kernel
theorem d_jdk_42_m147_34 : decode jdk_42_method_147_code 34 = .ok (.iload_n 2, 1) := by decide +kernel
theorem d_jdk_42_m147_35 : decode jdk_42_method_147_code 35 = .ok (.aload_n 0, 1) := by decide +kernel
theorem d_jdk_42_m147_36 : decode jdk_42_method_147_code 36 = .ok (.getfield 9, 3) := by decide +kernel
theorem d_jdk_42_m147_39 : decode jdk_42_method_147_code 39 = .ok (.arraylength, 1) := by decide +kernel
theorem d_jdk_42_m147_40 : decode jdk_42_method_147_code 40 = .ok (.invokestatic 106, 3) := by decide +kernel
theorem d_jdk_42_m147_43 : decode jdk_42_method_147_code 43 = .ok (.return_, 1) := by decide +kernel
theorem opn_own_gb : plainFor (⟨"java/lang/String", "getBytes", "([BIB)V"⟩ : MethodName) = true := plainFor_of_name (by first | (simp [plainName, overriddenIn]; done) | decide +kernel)
set_option maxRecDepth 65536 in
set_option maxHeartbeats 40000000 in
theorem own_gb (l : Launch) (Z : State) (a0 : Array Value) (hw : ∀ d ∈ tables_1, d.before a0 Z = true) (hEL : EW Z a0 consts_1) (n0 : Nat) (h : Heap) (hO : Old Z n0 h) (y t : Addr) (k : ClassId) (N : Nat) (cs ds : List Int32) (zc : Int32) (hcs : Sta Z Z.heap "java/lang/String" "COMPACT_STRINGS" "Z" (.int zc)) (hcz : ¬ zc = 0) (Q : oStr Z h y ds) (V_t : Arv Z h t k .byte (Int32.ofNat N) (own_buf N cs) (.int (0 : Int32))) (hl : cs.length + ds.length ≤ N) (hN : N ≤ 4000) (n0_t : n0 ≤ t) :
    oMet l Z consts_1 n0 (⟨"java/lang/String", "getBytes", "([BIB)V"⟩ : MethodName) jdk_42_method_147_code 4 none [] ({ frames := 1, cells := 0, slots := 0, locals := 30 } : Room) #[(.ref y), (.ref t), (.int (Int32.ofNat cs.length)), (.int (0 : Int32))] h [t] (fun v _ h => v = none ∧ Arv Z h t k .byte (Int32.ofNat N) (own_buf N (cs ++ ds)) (.int (0 : Int32))) := by
  refine oMet.of opn_own_gb hO ?_
  intro p e s m below meth c T hx hby hml hret hnm hlk hh hsf A
  have hml : c.maxLocals = 4 := hml
  refine oCast (g' := mkF m 0 #[.val (.ref y), .val (.ref t), .val (.int (Int32.ofNat cs.length)), .val (.int (0 : Int32))] []) (by first | (simp [entryFrame, mkF, argsToLocals, Value.category]; done) | rfl) ?_
  have S_t := hsf t (List.mem_cons_self ..)
  obtain ⟨r1, r2, u, ku, e1, e2, e3, e4⟩ := id Q
  show oGo p e below _ (T.setTop (mkF m 0 #[.val (.ref y), .val (.ref t), .val (.int (Int32.ofNat cs.length)), .val (.int (0 : Int32))] []))
  refine oSt (fun _ => XS.aloadN A.here hx rfl (Jvm.hb hby d_jdk_42_m147_0) rfl rfl) ?_
  show oGo p e below _ (T.setTop (mkF m 1 #[.val (.ref y), .val (.ref t), .val (.int (Int32.ofNat cs.length)), .val (.int (0 : Int32))] [(.ref y)]))
  obtain ⟨_, vm, T, h, L, A, K, CR, ⟨rfl, rfl⟩, st⟩ := A.callV hx (y := (⟨"java/lang/String", "coder", "()B"⟩ : MethodName)) (z := (⟨"java/lang/String", "coder", "()B"⟩ : MethodName)) (hw _ (List.mem_of_getElem? (i := 109) rfl)) (hw _ (List.mem_of_getElem? (i := 110) rfl)) (A.nf (hw _ (List.mem_of_getElem? (i := 112) rfl))) (hw _ (List.mem_of_getElem? (i := 112) rfl)) (hw _ (List.mem_of_getElem? (i := 111) rfl)) (hw _ (List.mem_of_getElem? (i := 2) rfl)) (hw _ (List.mem_of_getElem? (i := 113) rfl)) (by decide) hEL (a := y) (argsL := []) (rest := []) (own_cod l Z a0 hw hEL n0 _ A.oldn y ds zc hcs hcz Q) Q.exa (W := 0) (by decide) (by decide) (by decide) (by decide) all0 all0 all0 (g := (mkF m 1 #[.val (.ref y), .val (.ref t), .val (.int (Int32.ofNat cs.length)), .val (.int (0 : Int32))] [(.ref y)])) rfl (by rw [hml]; rfl) (lenOf opd5 rfl) rfl (by show 2 * 0 + _ ≤ _; exact Nat.le_of_eq rfl) (Jvm.hb hby d_jdk_42_m147_1)
  refine oSt st ?_
  have X := oExt0 K
  show oGo p e below _ (T.setTop (mkF m 4 #[.val (.ref y), .val (.ref t), .val (.int (Int32.ofNat cs.length)), .val (.int (0 : Int32))] [(.int (0 : Int32))]))
  have S_t := CR.safe V_t.lt S_t
  refine oSt (fun _ => XS.iloadN A.here hx rfl (Jvm.hb hby d_jdk_42_m147_4) rfl) ?_
  show oGo p e below _ (T.setTop (mkF m 5 #[.val (.ref y), .val (.ref t), .val (.int (Int32.ofNat cs.length)), .val (.int (0 : Int32))] [(.int (0 : Int32)), (.int (0 : Int32))]))
  refine oSt (fun _ => XS.icmpNo A.here hx rfl (Jvm.hb hby d_jdk_42_m147_5) rfl (Jvm.Free.XT.ii_ne_f rfl)) ?_
  show oGo p e below _ (T.setTop (mkF m 8 #[.val (.ref y), .val (.ref t), .val (.int (Int32.ofNat cs.length)), .val (.int (0 : Int32))] []))
  refine oSt (fun _ => XS.aloadN A.here hx rfl (Jvm.hb hby d_jdk_42_m147_8) rfl rfl) ?_
  show oGo p e below _ (T.setTop (mkF m 9 #[.val (.ref y), .val (.ref t), .val (.int (Int32.ofNat cs.length)), .val (.int (0 : Int32))] [(.ref y)]))
  obtain ⟨T, A, st⟩ := A.getF hx (host := "") (Or.inl (hw _ (List.mem_of_getElem? (i := 22) rfl))) Via.refl e2 (g := (mkF m 9 #[.val (.ref y), .val (.ref t), .val (.int (Int32.ofNat cs.length)), .val (.int (0 : Int32))] [(.ref y)])) rfl rfl (Jvm.hb hby d_jdk_42_m147_9)
  refine oSt st ?_
  show oGo p e below _ (T.setTop (mkF m 12 #[.val (.ref y), .val (.ref t), .val (.int (Int32.ofNat cs.length)), .val (.int (0 : Int32))] [(.ref u)]))
  refine oSt (fun _ => XS.iconst A.here hx rfl (Jvm.hb hby d_jdk_42_m147_12)) ?_
  show oGo p e below _ (T.setTop (mkF m 13 #[.val (.ref y), .val (.ref t), .val (.int (Int32.ofNat cs.length)), .val (.int (0 : Int32))] [(.int (0 : Int32)), (.ref u)]))
  refine oSt (fun _ => XS.aloadN A.here hx rfl (Jvm.hb hby d_jdk_42_m147_13) rfl rfl) ?_
  show oGo p e below _ (T.setTop (mkF m 14 #[.val (.ref y), .val (.ref t), .val (.int (Int32.ofNat cs.length)), .val (.int (0 : Int32))] [(.ref t), (.int (0 : Int32)), (.ref u)]))
  refine oSt (fun _ => XS.iloadN A.here hx rfl (Jvm.hb hby d_jdk_42_m147_14) rfl) ?_
  show oGo p e below _ (T.setTop (mkF m 15 #[.val (.ref y), .val (.ref t), .val (.int (Int32.ofNat cs.length)), .val (.int (0 : Int32))] [(.int (Int32.ofNat cs.length)), (.ref t), (.int (0 : Int32)), (.ref u)]))
  refine oSt (fun _ => XS.iloadN A.here hx rfl (Jvm.hb hby d_jdk_42_m147_15) rfl) ?_
  show oGo p e below _ (T.setTop (mkF m 16 #[.val (.ref y), .val (.ref t), .val (.int (Int32.ofNat cs.length)), .val (.int (0 : Int32))] [(.int (0 : Int32)), (.int (Int32.ofNat cs.length)), (.ref t), (.int (0 : Int32)), (.ref u)]))
  refine oSt (fun _ => XS.ishl A.here hx rfl (Jvm.hb hby d_jdk_42_m147_16) rfl) ?_
  show oGo p e below _ (T.setTop (mkF m 17 #[.val (.ref y), .val (.ref t), .val (.int (Int32.ofNat cs.length)), .val (.int (0 : Int32))] [(.int ((Int32.ofNat cs.length) <<< ((0 : Int32) &&& 31))), (.ref t), (.int (0 : Int32)), (.ref u)]))
  rw [own_shl0]
  show oGo p e below _ (T.setTop (mkF m 17 #[.val (.ref y), .val (.ref t), .val (.int (Int32.ofNat cs.length)), .val (.int (0 : Int32))] [(.int (Int32.ofNat cs.length)), (.ref t), (.int (0 : Int32)), (.ref u)]))
  refine oSt (fun _ => XS.aloadN A.here hx rfl (Jvm.hb hby d_jdk_42_m147_17) rfl rfl) ?_
  show oGo p e below _ (T.setTop (mkF m 18 #[.val (.ref y), .val (.ref t), .val (.int (Int32.ofNat cs.length)), .val (.int (0 : Int32))] [(.ref y), (.int (Int32.ofNat cs.length)), (.ref t), (.int (0 : Int32)), (.ref u)]))
  obtain ⟨T, A, st⟩ := A.getF hx (host := "") (Or.inl (hw _ (List.mem_of_getElem? (i := 22) rfl))) Via.refl e2 (g := (mkF m 18 #[.val (.ref y), .val (.ref t), .val (.int (Int32.ofNat cs.length)), .val (.int (0 : Int32))] [(.ref y), (.int (Int32.ofNat cs.length)), (.ref t), (.int (0 : Int32)), (.ref u)])) rfl rfl (Jvm.hb hby d_jdk_42_m147_18)
  refine oSt st ?_
  show oGo p e below _ (T.setTop (mkF m 21 #[.val (.ref y), .val (.ref t), .val (.int (Int32.ofNat cs.length)), .val (.int (0 : Int32))] [(.ref u), (.int (Int32.ofNat cs.length)), (.ref t), (.int (0 : Int32)), (.ref u)]))
  refine oSt (A.len hx e4 (g := (mkF m 21 #[.val (.ref y), .val (.ref t), .val (.int (Int32.ofNat cs.length)), .val (.int (0 : Int32))] [(.ref u), (.int (Int32.ofNat cs.length)), (.ref t), (.int (0 : Int32)), (.ref u)])) rfl rfl (Jvm.hb hby d_jdk_42_m147_21)) ?_
  show oGo p e below _ (T.setTop (mkF m 22 #[.val (.ref y), .val (.ref t), .val (.int (Int32.ofNat cs.length)), .val (.int (0 : Int32))] [(.int (Int32.ofNat ds.length)), (.int (Int32.ofNat cs.length)), (.ref t), (.int (0 : Int32)), (.ref u)]))
  have z1 : (Int32.ofNat cs.length).toNatClampNeg = cs.length := own_n32 (by omega)
  have z2 : (Int32.ofNat ds.length).toNatClampNeg = ds.length := own_n32 (by omega)
  have z3 : (Int32.ofNat N).toNatClampNeg = N := own_n32 hN
  have g1 : ¬ Int32.ofNat cs.length < 0 := own_n0 (by omega)
  have g2 : ¬ Int32.ofNat ds.length < 0 := own_n0 (by omega)
  have hB := own_bufL (N := N) (cs := cs) (by omega)
  obtain ⟨T, h, L, A, K, V_t, st⟩ := A.cpy hx (hw _ (List.mem_of_getElem? (i := 137) rfl)) (hw _ (List.mem_of_getElem? (i := 140) rfl)) (hw _ (List.mem_of_getElem? (i := 138) rfl)) (hw _ (List.mem_of_getElem? (i := 139) rfl)) e4 V_t (us := (own_by ds)) (by decide) g1 g2 (by rw [z2]; show 0 + _ ≤ _; omega) (by rw [z1, z2, z3]; exact hl) (by rw [z2]; exact (own_usB (own_byL ds)).symm) (by rw [z1, z2, hB]; exact hl) n0_t (Or.inl (List.mem_cons_self ..)) S_t (g := (mkF m 22 #[.val (.ref y), .val (.ref t), .val (.int (Int32.ofNat cs.length)), .val (.int (0 : Int32))] [(.int (Int32.ofNat ds.length)), (.int (Int32.ofNat cs.length)), (.ref t), (.int (0 : Int32)), (.ref u)])) rfl (by rw [hml]; rfl) rfl (Jvm.hb hby d_jdk_42_m147_22) (by decide) (W := 0) (by show 2 * 0 + _ ≤ _; exact Nat.le_of_eq rfl) (by decide +kernel)
  refine oSt st ?_
  show oGo p e below _ (T.setTop (mkF m 25 #[.val (.ref y), .val (.ref t), .val (.int (Int32.ofNat cs.length)), .val (.int (0 : Int32))] []))
  rw [z1, z2, own_bufA hl] at V_t
  refine oSt (fun _ => XS.goto A.here hx rfl (pc0 := 25) (pc' := 43) rfl (Jvm.hb hby d_jdk_42_m147_25) (by decide) (by decide)) ?_
  show oGo p e below _ (T.setTop (mkF m 43 #[.val (.ref y), .val (.ref t), .val (.int (Int32.ofNat cs.length)), .val (.int (0 : Int32))] []))
  exact A.leave hlk hEL (v := none) (fun _ => rfl) (fun _ _ => ⟨rfl, V_t⟩) (by decide) (by decide) (fun fs hr => A.1.returnOut hx hret (Jvm.hb hby d_jdk_42_m147_43) hr)
theorem d_jdk_68_m73_0 : decode jdk_68_method_73_code 0 = .ok (.aload_n 0, 1) := by decide +kernel
theorem d_jdk_68_m73_1 : decode jdk_68_method_73_code 1 = .ok (.aload_n 2, 1) := by decide +kernel
theorem d_jdk_68_m73_2 : decode jdk_68_method_73_code 2 = .ok (.invokevirtual 397, 3) := by decide +kernel
theorem d_jdk_68_m73_5 : decode jdk_68_method_73_code 5 = .ok (.aload_n 2, 1) := by decide +kernel
theorem d_jdk_68_m73_6 : decode jdk_68_method_73_code 6 = .ok (.aload_n 0, 1) := by decide +kernel
theorem d_jdk_68_m73_7 : decode jdk_68_method_73_code 7 = .ok (.getfield 15, 3) := by decide +kernel
theorem d_jdk_68_m73_10 : decode jdk_68_method_73_code 10 = .ok (.iload_n 1, 1) := by decide +kernel
theorem d_jdk_68_m73_11 : decode jdk_68_method_73_code 11 = .ok (.aload_n 0, 1) := by decide +kernel
theorem d_jdk_68_m73_12 : decode jdk_68_method_73_code 12 = .ok (.getfield 22, 3) := by decide +kernel
theorem d_jdk_68_m73_15 : decode jdk_68_method_73_code 15 = .ok (.invokevirtual 399, 3) := by decide +kernel
theorem d_jdk_68_m73_18 : decode jdk_68_method_73_code 18 = .ok (.return_, 1) := by decide +kernel
theorem opd6 : parseMethodDescriptor "(Ljava/lang/String;)V" = some ⟨[(.object "java/lang/String")], none⟩ := by decide +kernel
theorem opd7 : parseMethodDescriptor "([BIB)V" = some ⟨[(.array .byte), .int, .byte], none⟩ := by decide +kernel
theorem opn_own_psa : plainFor (⟨"java/lang/AbstractStringBuilder", "putStringAt", "(ILjava/lang/String;)V"⟩ : MethodName) = true := plainFor_of_name (by first | (simp [plainName, overriddenIn]; done) | decide +kernel)
set_option maxRecDepth 65536 in
set_option maxHeartbeats 40000000 in
theorem own_psa (l : Launch) (Z : State) (a0 : Array Value) (hw : ∀ d ∈ tables_1, d.before a0 Z = true) (hEL : EW Z a0 consts_1) (n0 : Nat) (h : Heap) (hO : Old Z n0 h) (x t : Addr) (k : ClassId) (N : Nat) (cs : List Int32) (y : Addr) (ds : List Int32) (zc : Int32) (hcs : Sta Z Z.heap "java/lang/String" "COMPACT_STRINGS" "Z" (.int zc)) (hcz : ¬ zc = 0) (S : own_SB Z h x t k N cs) (Q : oStr Z h y ds) (hl : cs.length + ds.length ≤ N) (n0_t : n0 ≤ t) :
    oMet l Z consts_1 n0 (⟨"java/lang/AbstractStringBuilder", "putStringAt", "(ILjava/lang/String;)V"⟩ : MethodName) jdk_68_method_73_code 3 none [] ({ frames := 2, cells := 0, slots := 0, locals := 45 } : Room) #[(.ref x), (.int (Int32.ofNat cs.length)), (.ref y)] h [t] (fun v _ h => v = none ∧ Arv Z h t k .byte (Int32.ofNat N) (own_buf N (cs ++ ds)) (.int (0 : Int32))) := by
  refine oMet.of opn_own_psa hO ?_
  intro p e s m below meth c T hx hby hml hret hnm hlk hh hsf A
  have hml : c.maxLocals = 3 := hml
  refine oCast (g' := mkF m 0 #[.val (.ref x), .val (.int (Int32.ofNat cs.length)), .val (.ref y)] []) (by first | (simp [entryFrame, mkF, argsToLocals, Value.category]; done) | rfl) ?_
  have S_t := hsf t (List.mem_cons_self ..)
  obtain ⟨b1, b2, b3, E_x, F_v, F_c, F_n, V_t⟩ := id S
  show oGo p e below _ (T.setTop (mkF m 0 #[.val (.ref x), .val (.int (Int32.ofNat cs.length)), .val (.ref y)] []))
  refine oSt (fun _ => XS.aloadN A.here hx rfl (Jvm.hb hby d_jdk_68_m73_0) rfl rfl) ?_
  show oGo p e below _ (T.setTop (mkF m 1 #[.val (.ref x), .val (.int (Int32.ofNat cs.length)), .val (.ref y)] [(.ref x)]))
  refine oSt (fun _ => XS.aloadN A.here hx rfl (Jvm.hb hby d_jdk_68_m73_1) rfl rfl) ?_
  show oGo p e below _ (T.setTop (mkF m 2 #[.val (.ref x), .val (.int (Int32.ofNat cs.length)), .val (.ref y)] [(.ref y), (.ref x)]))
  obtain ⟨_, vm, T, h, L, A, K, CR, ⟨rfl, rfl⟩, st⟩ := A.callV hx (y := (⟨"java/lang/AbstractStringBuilder", "inflateIfNeededFor", "(Ljava/lang/String;)V"⟩ : MethodName)) (z := (⟨"java/lang/AbstractStringBuilder", "inflateIfNeededFor", "(Ljava/lang/String;)V"⟩ : MethodName)) (hw _ (List.mem_of_getElem? (i := 126) rfl)) (oDecl (hw _ (List.mem_of_getElem? (i := 127) rfl)) (hw _ (List.mem_of_getElem? (i := 130) rfl))) (A.nf (hw _ (List.mem_of_getElem? (i := 129) rfl))) (hw _ (List.mem_of_getElem? (i := 129) rfl)) (hw _ (List.mem_of_getElem? (i := 127) rfl)) (hw _ (List.mem_of_getElem? (i := 83) rfl)) (hw _ (List.mem_of_getElem? (i := 130) rfl)) (by decide) hEL (a := x) (argsL := [(.ref y)]) (rest := []) (own_inf l Z a0 hw hEL n0 _ A.oldn x t k N cs y ds zc hcs hcz S Q) E_x (W := 0) (by decide) (by decide) (by decide) (by decide) all0 all0 all0 (g := (mkF m 2 #[.val (.ref x), .val (.int (Int32.ofNat cs.length)), .val (.ref y)] [(.ref y), (.ref x)])) rfl (by rw [hml]; rfl) (lenOf opd6 rfl) rfl (by show 2 * 0 + _ ≤ _; exact Nat.le_of_eq rfl) (Jvm.hb hby d_jdk_68_m73_2)
  refine oSt st ?_
  have X := oExt0 K
  show oGo p e below _ (T.setTop (mkF m 5 #[.val (.ref x), .val (.int (Int32.ofNat cs.length)), .val (.ref y)] []))
  have S_t := CR.safe V_t.lt S_t
  refine oSt (fun _ => XS.aloadN A.here hx rfl (Jvm.hb hby d_jdk_68_m73_5) rfl rfl) ?_
  show oGo p e below _ (T.setTop (mkF m 6 #[.val (.ref x), .val (.int (Int32.ofNat cs.length)), .val (.ref y)] [(.ref y)]))
  refine oSt (fun _ => XS.aloadN A.here hx rfl (Jvm.hb hby d_jdk_68_m73_6) rfl rfl) ?_
  show oGo p e below _ (T.setTop (mkF m 7 #[.val (.ref x), .val (.int (Int32.ofNat cs.length)), .val (.ref y)] [(.ref x), (.ref y)]))
  obtain ⟨T, A, st⟩ := A.getF hx (host := "") (Or.inl (hw _ (List.mem_of_getElem? (i := 87) rfl))) Via.refl F_v (g := (mkF m 7 #[.val (.ref x), .val (.int (Int32.ofNat cs.length)), .val (.ref y)] [(.ref x), (.ref y)])) rfl rfl (Jvm.hb hby d_jdk_68_m73_7)
  refine oSt st ?_
  show oGo p e below _ (T.setTop (mkF m 10 #[.val (.ref x), .val (.int (Int32.ofNat cs.length)), .val (.ref y)] [(.ref t), (.ref y)]))
  refine oSt (fun _ => XS.iloadN A.here hx rfl (Jvm.hb hby d_jdk_68_m73_10) rfl) ?_
  show oGo p e below _ (T.setTop (mkF m 11 #[.val (.ref x), .val (.int (Int32.ofNat cs.length)), .val (.ref y)] [(.int (Int32.ofNat cs.length)), (.ref t), (.ref y)]))
  refine oSt (fun _ => XS.aloadN A.here hx rfl (Jvm.hb hby d_jdk_68_m73_11) rfl rfl) ?_
  show oGo p e below _ (T.setTop (mkF m 12 #[.val (.ref x), .val (.int (Int32.ofNat cs.length)), .val (.ref y)] [(.ref x), (.int (Int32.ofNat cs.length)), (.ref t), (.ref y)]))
  obtain ⟨T, A, st⟩ := A.getF hx (host := "") (Or.inl (hw _ (List.mem_of_getElem? (i := 89) rfl))) Via.refl F_c (g := (mkF m 12 #[.val (.ref x), .val (.int (Int32.ofNat cs.length)), .val (.ref y)] [(.ref x), (.int (Int32.ofNat cs.length)), (.ref t), (.ref y)])) rfl rfl (Jvm.hb hby d_jdk_68_m73_12)
  refine oSt st ?_
  show oGo p e below _ (T.setTop (mkF m 15 #[.val (.ref x), .val (.int (Int32.ofNat cs.length)), .val (.ref y)] [(.int (0 : Int32)), (.int (Int32.ofNat cs.length)), (.ref t), (.ref y)]))
  obtain ⟨_, vm, T, h, L, A, K, CR, ⟨rfl, V_t⟩, st⟩ := A.callV hx (y := (⟨"java/lang/String", "getBytes", "([BIB)V"⟩ : MethodName)) (z := (⟨"java/lang/String", "getBytes", "([BIB)V"⟩ : MethodName)) (hw _ (List.mem_of_getElem? (i := 132) rfl)) (hw _ (List.mem_of_getElem? (i := 133) rfl)) (A.nf (hw _ (List.mem_of_getElem? (i := 135) rfl))) (hw _ (List.mem_of_getElem? (i := 135) rfl)) (hw _ (List.mem_of_getElem? (i := 134) rfl)) (hw _ (List.mem_of_getElem? (i := 2) rfl)) (hw _ (List.mem_of_getElem? (i := 136) rfl)) (by decide) hEL (a := y) (argsL := [(.ref t), (.int (Int32.ofNat cs.length)), (.int (0 : Int32))]) (rest := []) (own_gb l Z a0 hw hEL n0 _ A.oldn y t k N cs ds zc hcs hcz Q V_t hl b3 n0_t) Q.exa (W := 0) (by decide) (by decide) (by decide) (by decide) (oIn1 n0_t) (oIn1 (Or.inl (List.mem_cons_self ..))) (oIn1 S_t) (g := (mkF m 15 #[.val (.ref x), .val (.int (Int32.ofNat cs.length)), .val (.ref y)] [(.int (0 : Int32)), (.int (Int32.ofNat cs.length)), (.ref t), (.ref y)])) rfl (by rw [hml]; rfl) (lenOf opd7 rfl) rfl (by show 2 * 0 + _ ≤ _; exact Nat.le_of_eq rfl) (Jvm.hb hby d_jdk_68_m73_15)
  refine oSt st ?_
  show oGo p e below _ (T.setTop (mkF m 18 #[.val (.ref x), .val (.int (Int32.ofNat cs.length)), .val (.ref y)] []))
  exact A.leave hlk hEL (v := none) (fun _ => rfl) (fun _ _ => ⟨rfl, V_t⟩) (by decide) (by decide) (fun fs hr => A.1.returnOut hx hret (Jvm.hb hby d_jdk_68_m73_18) hr)
theorem d_jdk_68_m22_0 : decode jdk_68_method_22_code 0 = .ok (.aload_n 1, 1) := by decide +kernel
theorem d_jdk_68_m22_1 : decode jdk_68_method_22_code 1 = .ok (.ifnonnull 8, 3) := by decide +kernel
theorem d_jdk_68_m22_4 : decode jdk_68_method_22_code 4 = .ok (.aload_n 0, 1) := by decide +kernel
theorem d_jdk_68_m22_5 : decode jdk_68_method_22_code 5 = .ok (.invokevirtual 204, 3) := by decide +kernel
theorem d_jdk_68_m22_8 : decode jdk_68_method_22_code 8 = .ok (.areturn, 1) := by decide +kernel
theorem d_jdk_68_m22_9 : decode jdk_68_method_22_code 9 = .ok (.aload_n 1, 1) := by decide +kernel
theorem d_jdk_68_m22_10 : decode jdk_68_method_22_code 10 = .ok (.invokevirtual 32, 3) := by decide +kernel
theorem d_jdk_68_m22_13 : decode jdk_68_method_22_code 13 = .ok (.istore_n 2, 1) := by decide +kernel
theorem d_jdk_68_m22_14 : decode jdk_68_method_22_code 14 = .ok (.aload_n 0, 1) := by decide +kernel
theorem d_jdk_68_m22_15 : decode jdk_68_method_22_code 15 = .ok (.aload_n 0, 1) := by decide +kernel
theorem d_jdk_68_m22_16 : decode jdk_68_method_22_code 16 = .ok (.getfield 79, 3) := by decide +kernel
theorem d_jdk_68_m22_19 : decode jdk_68_method_22_code 19 = .ok (.iload_n 2, 1) := by decide +kernel
theorem d_jdk_68_m22_20 : decode jdk_68_method_22_code 20 = .ok (.iadd, 1) := by decide +kernel
theorem d_jdk_68_m22_21 : decode jdk_68_method_22_code 21 = .ok (.invokevirtual 100, 3) := by decide +kernel
theorem d_jdk_68_m22_24 : decode jdk_68_method_22_code 24 = .ok (.aload_n 0, 1) := by decide +kernel
theorem d_jdk_68_m22_25 : decode jdk_68_method_22_code 25 = .ok (.aload_n 0, 1) := by decide +kernel
theorem d_jdk_68_m22_26 : decode jdk_68_method_22_code 26 = .ok (.getfield 79, 3) := by decide +kernel
theorem d_jdk_68_m22_29 : decode jdk_68_method_22_code 29 = .ok (.aload_n 1, 1) := by decide +kernel
theorem d_jdk_68_m22_30 : decode jdk_68_method_22_code 30 = .ok (.invokevirtual 208, 3) := by decide +kernel
theorem d_jdk_68_m22_33 : decode jdk_68_method_22_code 33 = .ok (.aload_n 0, 1) := by decide +kernel
theorem d_jdk_68_m22_34 : decode jdk_68_method_22_code 34 = .ok (.dup, 1) := by decide +kernel
theorem d_jdk_68_m22_35 : decode jdk_68_method_22_code 35 = .ok (.getfield 79, 3) := by decide +kernel
theorem d_jdk_68_m22_38 : decode jdk_68_method_22_code 38 = .ok (.iload_n 2, 1) := by decide +kernel
theorem d_jdk_68_m22_39 : decode jdk_68_method_22_code 39 = .ok (.iadd, 1) := by decide +kernel
theorem d_jdk_68_m22_40 : decode jdk_68_method_22_code 40 = .ok (.putfield 79, 3) := by decide +kernel
theorem d_jdk_68_m22_43 : decode jdk_68_method_22_code 43 = .ok (.aload_n 0, 1) := by decide +kernel
theorem d_jdk_68_m22_44 : decode jdk_68_method_22_code 44 = .ok (.areturn, 1) := by decide +kernel
theorem opd8 : parseMethodDescriptor "(ILjava/lang/String;)V" = some ⟨[.int, (.object "java/lang/String")], none⟩ := by decide +kernel
theorem opn_own_asbA : plainFor (⟨"java/lang/AbstractStringBuilder", "append", "(Ljava/lang/String;)Ljava/lang/AbstractStringBuilder;"⟩ : MethodName) = true := plainFor_of_name (by first | (simp [plainName, overriddenIn]; done) | decide +kernel)
set_option maxRecDepth 65536 in
set_option maxHeartbeats 40000000 in
theorem own_asbA (l : Launch) (Z : State) (a0 : Array Value) (hw : ∀ d ∈ tables_1, d.before a0 Z = true) (hEL : EW Z a0 consts_1) (n0 : Nat) (h : Heap) (hO : Old Z n0 h) (x t : Addr) (k : ClassId) (N : Nat) (cs : List Int32) (y : Addr) (ds : List Int32) (zc : Int32) (hcs : Sta Z Z.heap "java/lang/String" "COMPACT_STRINGS" "Z" (.int zc)) (hcz : ¬ zc = 0) (S : own_SB Z h x t k N cs) (Q : oStr Z h y ds) (hl : cs.length + ds.length ≤ N) (n0_x : n0 ≤ x) (n0_t : n0 ≤ t) :
    oMet l Z consts_1 n0 (⟨"java/lang/AbstractStringBuilder", "append", "(Ljava/lang/String;)Ljava/lang/AbstractStringBuilder;"⟩ : MethodName) jdk_68_method_22_code 3 (some (.object "java/lang/AbstractStringBuilder")) [] ({ frames := 3, cells := 0, slots := 0, locals := 60 } : Room) #[(.ref x), (.ref y)] h [x, t] (fun v _ h => v = some (.ref x) ∧ own_SB Z h x t k N (cs ++ ds)) := by
  refine oMet.of opn_own_asbA hO ?_
  intro p e s m below meth c T hx hby hml hret hnm hlk hh hsf A
  have hml : c.maxLocals = 3 := hml
  refine oCast (g' := mkF m 0 #[.val (.ref x), .val (.ref y), .unset] []) (by first | (simp [entryFrame, mkF, argsToLocals, Value.category]; done) | rfl) ?_
  have hln : ∀ d ∈ StrChars.Road.wordsLen, d.before a0 Z = true := fun d hd => hw d ((by decide +kernel : ∀ d ∈ StrChars.Road.wordsLen, d ∈ tables_1) d hd)
  have S_t := hsf t (List.mem_cons_of_mem _ (List.mem_cons_self ..))
  obtain ⟨b1, b2, b3, E_x, F_v, F_c, F_n, V_t⟩ := id S
  have hne : x ≠ t := E_x.neArv V_t (hw _ (List.mem_of_getElem? (i := 74) rfl))
  show oGo p e below _ (T.setTop (mkF m 0 #[.val (.ref x), .val (.ref y), .unset] []))
  refine oSt (fun _ => XS.aloadN A.here hx rfl (Jvm.hb hby d_jdk_68_m22_0) rfl rfl) ?_
  show oGo p e below _ (T.setTop (mkF m 1 #[.val (.ref x), .val (.ref y), .unset] [(.ref y)]))
  refine oSt (fun _ => XS.ifnonnullYes A.here hx rfl (pc0 := 1) (pc' := 9) rfl (Jvm.hb hby d_jdk_68_m22_1) rfl (by decide) (by decide)) ?_
  show oGo p e below _ (T.setTop (mkF m 9 #[.val (.ref x), .val (.ref y), .unset] []))
  refine oSt (fun _ => XS.aloadN A.here hx rfl (Jvm.hb hby d_jdk_68_m22_9) rfl rfl) ?_
  show oGo p e below _ (T.setTop (mkF m 10 #[.val (.ref x), .val (.ref y), .unset] [(.ref y)]))
  obtain ⟨T, A, st⟩ := A.sLen hx hln (hw _ (List.mem_of_getElem? (i := 10) rfl)) (hw _ (List.mem_of_getElem? (i := 104) rfl)) (hw _ (List.mem_of_getElem? (i := 105) rfl)) (hw _ (List.mem_of_getElem? (i := 107) rfl)) (hw _ (List.mem_of_getElem? (i := 106) rfl)) Q hcs hcz (W := 0) (by decide) (by decide) (by decide) (by decide) (g := (mkF m 10 #[.val (.ref x), .val (.ref y), .unset] [(.ref y)])) rfl (by rw [hml]; rfl) rfl (by show 2 * 0 + _ ≤ _; exact Nat.le_of_eq rfl) (Jvm.hb hby d_jdk_68_m22_10)
  refine oSt st ?_
  show oGo p e below _ (T.setTop (mkF m 13 #[.val (.ref x), .val (.ref y), .unset] [(.int (Int32.ofNat ds.length))]))
  refine oSt (fun _ => XS.istoreN A.here hx rfl (Jvm.hb hby d_jdk_68_m22_13) rfl (l' := #[.val (.ref x), .val (.ref y), .val (.int (Int32.ofNat ds.length))]) rfl) ?_
  show oGo p e below _ (T.setTop (mkF m 14 #[.val (.ref x), .val (.ref y), .val (.int (Int32.ofNat ds.length))] []))
  refine oSt (fun _ => XS.aloadN A.here hx rfl (Jvm.hb hby d_jdk_68_m22_14) rfl rfl) ?_
  show oGo p e below _ (T.setTop (mkF m 15 #[.val (.ref x), .val (.ref y), .val (.int (Int32.ofNat ds.length))] [(.ref x)]))
  refine oSt (fun _ => XS.aloadN A.here hx rfl (Jvm.hb hby d_jdk_68_m22_15) rfl rfl) ?_
  show oGo p e below _ (T.setTop (mkF m 16 #[.val (.ref x), .val (.ref y), .val (.int (Int32.ofNat ds.length))] [(.ref x), (.ref x)]))
  obtain ⟨T, A, st⟩ := A.getF hx (host := "") (Or.inl (hw _ (List.mem_of_getElem? (i := 114) rfl))) Via.refl F_n (g := (mkF m 16 #[.val (.ref x), .val (.ref y), .val (.int (Int32.ofNat ds.length))] [(.ref x), (.ref x)])) rfl rfl (Jvm.hb hby d_jdk_68_m22_16)
  refine oSt st ?_
  show oGo p e below _ (T.setTop (mkF m 19 #[.val (.ref x), .val (.ref y), .val (.int (Int32.ofNat ds.length))] [(.int (Int32.ofNat cs.length)), (.ref x)]))
  refine oSt (fun _ => XS.iloadN A.here hx rfl (Jvm.hb hby d_jdk_68_m22_19) rfl) ?_
  show oGo p e below _ (T.setTop (mkF m 20 #[.val (.ref x), .val (.ref y), .val (.int (Int32.ofNat ds.length))] [(.int (Int32.ofNat ds.length)), (.int (Int32.ofNat cs.length)), (.ref x)]))
  refine oSt (fun _ => XS.iadd A.here hx rfl (Jvm.hb hby d_jdk_68_m22_20) rfl) ?_
  show oGo p e below _ (T.setTop (mkF m 21 #[.val (.ref x), .val (.ref y), .val (.int (Int32.ofNat ds.length))] [(.int ((Int32.ofNat cs.length) + (Int32.ofNat ds.length))), (.ref x)]))
  rw [own_addn (by omega)]
  show oGo p e below _ (T.setTop (mkF m 21 #[.val (.ref x), .val (.ref y), .val (.int (Int32.ofNat ds.length))] [(.int (Int32.ofNat (cs.length + ds.length))), (.ref x)]))
  obtain ⟨_, vm, T, h, L, A, K, CR, ⟨rfl, rfl⟩, st⟩ := A.callV hx (y := (⟨"java/lang/AbstractStringBuilder", "ensureCapacityInternal", "(I)V"⟩ : MethodName)) (z := (⟨"java/lang/AbstractStringBuilder", "ensureCapacityInternal", "(I)V"⟩ : MethodName)) (hw _ (List.mem_of_getElem? (i := 116) rfl)) (oDecl (hw _ (List.mem_of_getElem? (i := 117) rfl)) (hw _ (List.mem_of_getElem? (i := 120) rfl))) (A.nf (hw _ (List.mem_of_getElem? (i := 119) rfl))) (hw _ (List.mem_of_getElem? (i := 119) rfl)) (hw _ (List.mem_of_getElem? (i := 117) rfl)) (hw _ (List.mem_of_getElem? (i := 83) rfl)) (hw _ (List.mem_of_getElem? (i := 120) rfl)) (by decide) hEL (a := x) (argsL := [(.int (Int32.ofNat (cs.length + ds.length)))]) (rest := []) (own_ecap l Z a0 hw hEL n0 _ A.oldn x t k N cs _ S hl) E_x (W := 0) (by decide) (by decide) (by decide) (by decide) all0 all0 all0 (g := (mkF m 21 #[.val (.ref x), .val (.ref y), .val (.int (Int32.ofNat ds.length))] [(.int (Int32.ofNat (cs.length + ds.length))), (.ref x)])) rfl (by rw [hml]; rfl) (lenOf opd4 rfl) rfl (by show 2 * 0 + _ ≤ _; exact Nat.le_of_eq rfl) (Jvm.hb hby d_jdk_68_m22_21)
  refine oSt st ?_
  have X := oExt0 K
  show oGo p e below _ (T.setTop (mkF m 24 #[.val (.ref x), .val (.ref y), .val (.int (Int32.ofNat ds.length))] []))
  have S_t := CR.safe V_t.lt S_t
  refine oSt (fun _ => XS.aloadN A.here hx rfl (Jvm.hb hby d_jdk_68_m22_24) rfl rfl) ?_
  show oGo p e below _ (T.setTop (mkF m 25 #[.val (.ref x), .val (.ref y), .val (.int (Int32.ofNat ds.length))] [(.ref x)]))
  refine oSt (fun _ => XS.aloadN A.here hx rfl (Jvm.hb hby d_jdk_68_m22_25) rfl rfl) ?_
  show oGo p e below _ (T.setTop (mkF m 26 #[.val (.ref x), .val (.ref y), .val (.int (Int32.ofNat ds.length))] [(.ref x), (.ref x)]))
  obtain ⟨T, A, st⟩ := A.getF hx (host := "") (Or.inl (hw _ (List.mem_of_getElem? (i := 114) rfl))) Via.refl F_n (g := (mkF m 26 #[.val (.ref x), .val (.ref y), .val (.int (Int32.ofNat ds.length))] [(.ref x), (.ref x)])) rfl rfl (Jvm.hb hby d_jdk_68_m22_26)
  refine oSt st ?_
  show oGo p e below _ (T.setTop (mkF m 29 #[.val (.ref x), .val (.ref y), .val (.int (Int32.ofNat ds.length))] [(.int (Int32.ofNat cs.length)), (.ref x)]))
  refine oSt (fun _ => XS.aloadN A.here hx rfl (Jvm.hb hby d_jdk_68_m22_29) rfl rfl) ?_
  show oGo p e below _ (T.setTop (mkF m 30 #[.val (.ref x), .val (.ref y), .val (.int (Int32.ofNat ds.length))] [(.ref y), (.int (Int32.ofNat cs.length)), (.ref x)]))
  obtain ⟨_, vm, T, h, L, A, K, CR, ⟨rfl, V_t⟩, st⟩ := A.callV hx (y := (⟨"java/lang/AbstractStringBuilder", "putStringAt", "(ILjava/lang/String;)V"⟩ : MethodName)) (z := (⟨"java/lang/AbstractStringBuilder", "putStringAt", "(ILjava/lang/String;)V"⟩ : MethodName)) (hw _ (List.mem_of_getElem? (i := 121) rfl)) (oDecl (hw _ (List.mem_of_getElem? (i := 122) rfl)) (hw _ (List.mem_of_getElem? (i := 125) rfl))) (A.nf (hw _ (List.mem_of_getElem? (i := 124) rfl))) (hw _ (List.mem_of_getElem? (i := 124) rfl)) (hw _ (List.mem_of_getElem? (i := 122) rfl)) (hw _ (List.mem_of_getElem? (i := 83) rfl)) (hw _ (List.mem_of_getElem? (i := 125) rfl)) (by decide) hEL (a := x) (argsL := [(.int (Int32.ofNat cs.length)), (.ref y)]) (rest := []) (own_psa l Z a0 hw hEL n0 _ A.oldn x t k N cs y ds zc hcs hcz S Q hl n0_t) E_x (W := 0) (by decide) (by decide) (by decide) (by decide) (oIn1 n0_t) (oIn1 (Or.inl (List.mem_cons_of_mem _ (List.mem_cons_self ..)))) (oIn1 S_t) (g := (mkF m 30 #[.val (.ref x), .val (.ref y), .val (.int (Int32.ofNat ds.length))] [(.ref y), (.int (Int32.ofNat cs.length)), (.ref x)])) rfl (by rw [hml]; rfl) (lenOf opd8 rfl) rfl (by show 2 * 0 + _ ≤ _; exact Nat.le_of_eq rfl) (Jvm.hb hby d_jdk_68_m22_30)
  refine oSt st ?_
  show oGo p e below _ (T.setTop (mkF m 33 #[.val (.ref x), .val (.ref y), .val (.int (Int32.ofNat ds.length))] []))
  have F_v := F_v.keep K (ninS hne nin0)
  have F_c := F_c.keep K (ninS hne nin0)
  have F_n := F_n.keep K (ninS hne nin0)
  have E_x := E_x.keep K
  refine oSt (fun _ => XS.aloadN A.here hx rfl (Jvm.hb hby d_jdk_68_m22_33) rfl rfl) ?_
  show oGo p e below _ (T.setTop (mkF m 34 #[.val (.ref x), .val (.ref y), .val (.int (Int32.ofNat ds.length))] [(.ref x)]))
  refine oSt (fun _ => XS.dup A.here hx rfl (Jvm.hb hby d_jdk_68_m22_34) rfl rfl) ?_
  show oGo p e below _ (T.setTop (mkF m 35 #[.val (.ref x), .val (.ref y), .val (.int (Int32.ofNat ds.length))] [(.ref x), (.ref x)]))
  obtain ⟨T, A, st⟩ := A.getF hx (host := "") (Or.inl (hw _ (List.mem_of_getElem? (i := 114) rfl))) Via.refl F_n (g := (mkF m 35 #[.val (.ref x), .val (.ref y), .val (.int (Int32.ofNat ds.length))] [(.ref x), (.ref x)])) rfl rfl (Jvm.hb hby d_jdk_68_m22_35)
  refine oSt st ?_
  show oGo p e below _ (T.setTop (mkF m 38 #[.val (.ref x), .val (.ref y), .val (.int (Int32.ofNat ds.length))] [(.int (Int32.ofNat cs.length)), (.ref x)]))
  refine oSt (fun _ => XS.iloadN A.here hx rfl (Jvm.hb hby d_jdk_68_m22_38) rfl) ?_
  show oGo p e below _ (T.setTop (mkF m 39 #[.val (.ref x), .val (.ref y), .val (.int (Int32.ofNat ds.length))] [(.int (Int32.ofNat ds.length)), (.int (Int32.ofNat cs.length)), (.ref x)]))
  refine oSt (fun _ => XS.iadd A.here hx rfl (Jvm.hb hby d_jdk_68_m22_39) rfl) ?_
  show oGo p e below _ (T.setTop (mkF m 40 #[.val (.ref x), .val (.ref y), .val (.int (Int32.ofNat ds.length))] [(.int ((Int32.ofNat cs.length) + (Int32.ofNat ds.length))), (.ref x)]))
  rw [own_addn (by omega)]
  show oGo p e below _ (T.setTop (mkF m 40 #[.val (.ref x), .val (.ref y), .val (.int (Int32.ofNat ds.length))] [(.int (Int32.ofNat (cs.length + ds.length))), (.ref x)]))
  obtain ⟨T, h, A, W, st⟩ := A.putF hx (host := "") (Or.inl (hw _ (List.mem_of_getElem? (i := 114) rfl))) Via.refl F_n E_x (Or.inl (hw _ (List.mem_of_getElem? (i := 115) rfl))) (hw _ (List.mem_of_getElem? (i := 74) rfl)) (ty := .int) (by decide) rfl rfl n0_x (Or.inl (List.mem_cons_self ..)) (A.safeExa E_x (by decide) (by decide)) (g := (mkF m 40 #[.val (.ref x), .val (.ref y), .val (.int (Int32.ofNat ds.length))] [(.int (Int32.ofNat (cs.length + ds.length))), (.ref x)])) rfl rfl (Jvm.hb hby d_jdk_68_m22_40)
  refine oSt st ?_
  show oGo p e below _ (T.setTop (mkF m 43 #[.val (.ref x), .val (.ref y), .val (.int (Int32.ofNat ds.length))] []))
  have V_t := V_t.other W (Ne.symm hne)
  have E_x := E_x.wr W
  have F_v := F_v.other W (Or.inr (slot_ne (Or.inl (hw _ (List.mem_of_getElem? (i := 88) rfl))) (Or.inl (hw _ (List.mem_of_getElem? (i := 115) rfl))) (by decide) (t := (.array .byte)) (t' := .int) (by decide) (by decide)))
  have F_c := F_c.other W (Or.inr (slot_ne (Or.inl (hw _ (List.mem_of_getElem? (i := 90) rfl))) (Or.inl (hw _ (List.mem_of_getElem? (i := 115) rfl))) (by decide) (t := .byte) (t' := .int) (by decide) (by decide)))
  have F_n := F_n.same W
  refine oSt (fun _ => XS.aloadN A.here hx rfl (Jvm.hb hby d_jdk_68_m22_43) rfl rfl) ?_
  show oGo p e below _ (T.setTop (mkF m 44 #[.val (.ref x), .val (.ref y), .val (.int (Int32.ofNat ds.length))] [(.ref x)]))
  exact A.leave hlk hEL (v := some (.ref x)) (fun h => by rw [hret] at h; cases h) (fun _ _ => ⟨rfl, fun c hc => (List.mem_append.mp hc).elim (b1 c) (Q.1 c), by simp; omega, b3, E_x, F_v, F_c, by rw [List.length_append]; exact F_n, V_t⟩) (by decide) (by decide) (fun fs hr => retOut A.1 hx hret rfl (Or.inr (Or.inr (Or.inr (Or.inr ⟨rfl, rfl, rfl⟩)))) (Jvm.hb hby d_jdk_68_m22_44) hr)
theorem d_jdk_67_m7_0 : decode jdk_67_method_7_code 0 = .ok (.aload_n 0, 1) := by decide +kernel
theorem d_jdk_67_m7_1 : decode jdk_67_method_7_code 1 = .ok (.aload_n 1, 1) := by decide +kernel
theorem d_jdk_67_m7_2 : decode jdk_67_method_7_code 2 = .ok (.invokespecial 29, 3) := by decide +kernel
theorem d_jdk_67_m7_5 : decode jdk_67_method_7_code 5 = .ok (.pop, 1) := by decide +kernel
theorem d_jdk_67_m7_6 : decode jdk_67_method_7_code 6 = .ok (.aload_n 0, 1) := by decide +kernel
theorem d_jdk_67_m7_7 : decode jdk_67_method_7_code 7 = .ok (.areturn, 1) := by decide +kernel
theorem opd9 : parseMethodDescriptor "(Ljava/lang/String;)Ljava/lang/AbstractStringBuilder;" = some ⟨[(.object "java/lang/String")], some (.object "java/lang/AbstractStringBuilder")⟩ := by decide +kernel
theorem opn_own_app : plainFor (⟨"java/lang/StringBuilder", "append", "(Ljava/lang/String;)Ljava/lang/StringBuilder;"⟩ : MethodName) = true := plainFor_of_name (by first | (simp [plainName, overriddenIn]; done) | decide +kernel)
set_option maxRecDepth 65536 in
set_option maxHeartbeats 40000000 in
theorem own_app (l : Launch) (Z : State) (a0 : Array Value) (hw : ∀ d ∈ tables_1, d.before a0 Z = true) (hEL : EW Z a0 consts_1) (n0 : Nat) (h : Heap) (hO : Old Z n0 h) (x t : Addr) (k : ClassId) (N : Nat) (cs : List Int32) (y : Addr) (ds : List Int32) (zc : Int32) (hcs : Sta Z Z.heap "java/lang/String" "COMPACT_STRINGS" "Z" (.int zc)) (hcz : ¬ zc = 0) (S : own_SB Z h x t k N cs) (Q : oStr Z h y ds) (hl : cs.length + ds.length ≤ N) (n0_x : n0 ≤ x) (n0_t : n0 ≤ t) :
    oMet l Z consts_1 n0 (⟨"java/lang/StringBuilder", "append", "(Ljava/lang/String;)Ljava/lang/StringBuilder;"⟩ : MethodName) jdk_67_method_7_code 2 (some (.object "java/lang/StringBuilder")) [] ({ frames := 4, cells := 0, slots := 0, locals := 74 } : Room) #[(.ref x), (.ref y)] h [x, t] (fun v _ h => v = some (.ref x) ∧ own_SB Z h x t k N (cs ++ ds)) := by
  refine oMet.of opn_own_app hO ?_
  intro p e s m below meth c T hx hby hml hret hnm hlk hh hsf A
  have hml : c.maxLocals = 2 := hml
  refine oCast (g' := mkF m 0 #[.val (.ref x), .val (.ref y)] []) (by first | (simp [entryFrame, mkF, argsToLocals, Value.category]; done) | rfl) ?_
  show oGo p e below _ (T.setTop (mkF m 0 #[.val (.ref x), .val (.ref y)] []))
  refine oSt (fun _ => XS.aloadN A.here hx rfl (Jvm.hb hby d_jdk_67_m7_0) rfl rfl) ?_
  show oGo p e below _ (T.setTop (mkF m 1 #[.val (.ref x), .val (.ref y)] [(.ref x)]))
  refine oSt (fun _ => XS.aloadN A.here hx rfl (Jvm.hb hby d_jdk_67_m7_1) rfl rfl) ?_
  show oGo p e below _ (T.setTop (mkF m 2 #[.val (.ref x), .val (.ref y)] [(.ref y), (.ref x)]))
  obtain ⟨_, vm, T, h, L, A, K, CR, ⟨rfl, S⟩, st⟩ := A.callU hx (y := (⟨"java/lang/AbstractStringBuilder", "append", "(Ljava/lang/String;)Ljava/lang/AbstractStringBuilder;"⟩ : MethodName)) (hw _ (List.mem_of_getElem? (i := 99) rfl)) (oSame (hw _ (List.mem_of_getElem? (i := 100) rfl)) (oNfZ (y' := (⟨"java/lang/AbstractStringBuilder", "ensureCapacityInternal", "(I)V"⟩ : MethodName)) (hw _ (List.mem_of_getElem? (i := 119) rfl)) rfl) (by decide)) (hw _ (List.mem_of_getElem? (i := 100) rfl)) (hw _ (List.mem_of_getElem? (i := 101) rfl)) (by decide) (hw _ (List.mem_of_getElem? (i := 83) rfl)) (hw _ (List.mem_of_getElem? (i := 103) rfl)) hEL (a := x) (argsL := [(.ref y)]) (rest := []) (own_asbA l Z a0 hw hEL n0 _ A.oldn x t k N cs y ds zc hcs hcz S Q hl n0_x n0_t) (Ins.self S.2.2.2.1) (W := 0) (by decide) (by decide) (by decide) (by decide) (allS n0_x (allS n0_t all0)) (allS (Or.inl (List.mem_cons_self ..)) (allS (Or.inl (List.mem_cons_of_mem _ (List.mem_cons_self ..))) all0)) hsf (g := (mkF m 2 #[.val (.ref x), .val (.ref y)] [(.ref y), (.ref x)])) rfl (by rw [hml]; rfl) (lenOf opd9 rfl) rfl (by show 2 * 0 + _ ≤ _; exact Nat.le_of_eq rfl) (Jvm.hb hby d_jdk_67_m7_2)
  refine oSt st ?_
  show oGo p e below _ (T.setTop (mkF m 5 #[.val (.ref x), .val (.ref y)] [(.ref x)]))
  refine oSt (fun _ => XS.pop A.here hx rfl (Jvm.hb hby d_jdk_67_m7_5) rfl rfl) ?_
  show oGo p e below _ (T.setTop (mkF m 6 #[.val (.ref x), .val (.ref y)] []))
  refine oSt (fun _ => XS.aloadN A.here hx rfl (Jvm.hb hby d_jdk_67_m7_6) rfl rfl) ?_
  show oGo p e below _ (T.setTop (mkF m 7 #[.val (.ref x), .val (.ref y)] [(.ref x)]))
  exact A.leave hlk hEL (v := some (.ref x)) (fun h => by rw [hret] at h; cases h) (fun _ _ => ⟨rfl, S⟩) (by decide) (by decide) (fun fs hr => retOut A.1 hx hret rfl (Or.inr (Or.inr (Or.inr (Or.inr ⟨rfl, rfl, rfl⟩)))) (Jvm.hb hby d_jdk_67_m7_7) hr)
theorem d_jdk_68_m64_0 : decode jdk_68_method_64_code 0 = .ok (.aload_n 0, 1) := by decide +kernel
theorem d_jdk_68_m64_1 : decode jdk_68_method_64_code 1 = .ok (.getfield 15, 3) := by decide +kernel
theorem d_jdk_68_m64_4 : decode jdk_68_method_64_code 4 = .ok (.areturn, 1) := by decide +kernel
theorem opn_own_gv : plainFor (⟨"java/lang/AbstractStringBuilder", "getValue", "()[B"⟩ : MethodName) = true := plainFor_of_name (by first | (simp [plainName, overriddenIn]; done) | decide +kernel)
set_option maxRecDepth 65536 in
set_option maxHeartbeats 40000000 in
theorem own_gv (l : Launch) (Z : State) (a0 : Array Value) (hw : ∀ d ∈ tables_1, d.before a0 Z = true) (hEL : EW Z a0 consts_1) (n0 : Nat) (h : Heap) (hO : Old Z n0 h) (x t : Addr) (k : ClassId) (N : Nat) (cs : List Int32) (S : own_SB Z h x t k N cs) :
    oMet l Z consts_1 n0 (⟨"java/lang/AbstractStringBuilder", "getValue", "()[B"⟩ : MethodName) jdk_68_method_64_code 1 (some (.array .byte)) [] ({ frames := 0, cells := 0, slots := 0, locals := 0 } : Room) #[(.ref x)] h [] (fun v _ h' => h = h' ∧ v = some (.ref t)) := by
  refine oMet.of opn_own_gv hO ?_
  intro p e s m below meth c T hx hby hml hret hnm hlk hh hsf A
  have hml : c.maxLocals = 1 := hml
  refine oCast (g' := mkF m 0 #[.val (.ref x)] []) (by first | (simp [entryFrame, mkF, argsToLocals, Value.category]; done) | rfl) ?_
  obtain ⟨b1, b2, b3, E_x, F_v, F_c, F_n, V_t⟩ := S
  show oGo p e below _ (T.setTop (mkF m 0 #[.val (.ref x)] []))
  refine oSt (fun _ => XS.aloadN A.here hx rfl (Jvm.hb hby d_jdk_68_m64_0) rfl rfl) ?_
  show oGo p e below _ (T.setTop (mkF m 1 #[.val (.ref x)] [(.ref x)]))
  obtain ⟨T, A, st⟩ := A.getF hx (host := "") (Or.inl (hw _ (List.mem_of_getElem? (i := 87) rfl))) Via.refl F_v (g := (mkF m 1 #[.val (.ref x)] [(.ref x)])) rfl rfl (Jvm.hb hby d_jdk_68_m64_1)
  refine oSt st ?_
  show oGo p e below _ (T.setTop (mkF m 4 #[.val (.ref x)] [(.ref t)]))
  exact A.leave hlk hEL (v := some (.ref t)) (fun h => by rw [hret] at h; cases h) (fun _ _ => ⟨rfl, rfl⟩) (by decide) (by decide) (fun fs hr => retOut A.1 hx hret rfl (Or.inr (Or.inr (Or.inr (Or.inr ⟨rfl, rfl, rfl⟩)))) (Jvm.hb hby d_jdk_68_m64_4) hr)
theorem d_jdk_68_m6_0 : decode jdk_68_method_6_code 0 = .ok (.aload_n 0, 1) := by decide +kernel
theorem d_jdk_68_m6_1 : decode jdk_68_method_6_code 1 = .ok (.getfield 79, 3) := by decide +kernel
theorem d_jdk_68_m6_4 : decode jdk_68_method_6_code 4 = .ok (.ireturn, 1) := by decide +kernel
theorem opn_own_asl : plainFor (⟨"java/lang/AbstractStringBuilder", "length", "()I"⟩ : MethodName) = true := plainFor_of_name (by first | (simp [plainName, overriddenIn]; done) | decide +kernel)
set_option maxRecDepth 65536 in
set_option maxHeartbeats 40000000 in
theorem own_asl (l : Launch) (Z : State) (a0 : Array Value) (hw : ∀ d ∈ tables_1, d.before a0 Z = true) (hEL : EW Z a0 consts_1) (n0 : Nat) (h : Heap) (hO : Old Z n0 h) (x t : Addr) (k : ClassId) (N : Nat) (cs : List Int32) (S : own_SB Z h x t k N cs) :
    oMet l Z consts_1 n0 (⟨"java/lang/AbstractStringBuilder", "length", "()I"⟩ : MethodName) jdk_68_method_6_code 1 (some .int) [] ({ frames := 0, cells := 0, slots := 0, locals := 0 } : Room) #[(.ref x)] h [] (fun v _ h' => h = h' ∧ v = some (.int (Int32.ofNat cs.length))) := by
  refine oMet.of opn_own_asl hO ?_
  intro p e s m below meth c T hx hby hml hret hnm hlk hh hsf A
  have hml : c.maxLocals = 1 := hml
  refine oCast (g' := mkF m 0 #[.val (.ref x)] []) (by first | (simp [entryFrame, mkF, argsToLocals, Value.category]; done) | rfl) ?_
  obtain ⟨b1, b2, b3, E_x, F_v, F_c, F_n, V_t⟩ := S
  show oGo p e below _ (T.setTop (mkF m 0 #[.val (.ref x)] []))
  refine oSt (fun _ => XS.aloadN A.here hx rfl (Jvm.hb hby d_jdk_68_m6_0) rfl rfl) ?_
  show oGo p e below _ (T.setTop (mkF m 1 #[.val (.ref x)] [(.ref x)]))
  obtain ⟨T, A, st⟩ := A.getF hx (host := "") (Or.inl (hw _ (List.mem_of_getElem? (i := 114) rfl))) Via.refl F_n (g := (mkF m 1 #[.val (.ref x)] [(.ref x)])) rfl rfl (Jvm.hb hby d_jdk_68_m6_1)
  refine oSt st ?_
  show oGo p e below _ (T.setTop (mkF m 4 #[.val (.ref x)] [(.int (Int32.ofNat cs.length))]))
  exact A.leave hlk hEL (v := some (.int (Int32.ofNat cs.length))) (fun h => by rw [hret] at h; cases h) (fun _ _ => ⟨rfl, rfl⟩) (by decide) (by decide) (fun fs hr => retOut A.1 hx hret rfl (Or.inl ⟨rfl, Or.inl rfl, _, rfl⟩) (Jvm.hb hby d_jdk_68_m6_4) hr)
theorem d_jdk_67_m93_0 : decode jdk_67_method_93_code 0 = .ok (.aload_n 0, 1) := by decide +kernel
theorem d_jdk_67_m93_1 : decode jdk_67_method_93_code 1 = .ok (.invokespecial 343, 3) := by decide +kernel
theorem d_jdk_67_m93_4 : decode jdk_67_method_93_code 4 = .ok (.ireturn, 1) := by decide +kernel
theorem opd10 : parseMethodDescriptor "()I" = some ⟨[], some .int⟩ := by decide +kernel
theorem opn_own_sbl : plainFor (⟨"java/lang/StringBuilder", "length", "()I"⟩ : MethodName) = true := plainFor_of_name (by first | (simp [plainName, overriddenIn]; done) | decide +kernel)
set_option maxRecDepth 65536 in
set_option maxHeartbeats 40000000 in
theorem own_sbl (l : Launch) (Z : State) (a0 : Array Value) (hw : ∀ d ∈ tables_1, d.before a0 Z = true) (hEL : EW Z a0 consts_1) (n0 : Nat) (h : Heap) (hO : Old Z n0 h) (x t : Addr) (k : ClassId) (N : Nat) (cs : List Int32) (S : own_SB Z h x t k N cs) :
    oMet l Z consts_1 n0 (⟨"java/lang/StringBuilder", "length", "()I"⟩ : MethodName) jdk_67_method_93_code 1 (some .int) [] ({ frames := 1, cells := 0, slots := 0, locals := 12 } : Room) #[(.ref x)] h [] (fun v _ h' => h = h' ∧ v = some (.int (Int32.ofNat cs.length))) := by
  refine oMet.of opn_own_sbl hO ?_
  intro p e s m below meth c T hx hby hml hret hnm hlk hh hsf A
  have hml : c.maxLocals = 1 := hml
  refine oCast (g' := mkF m 0 #[.val (.ref x)] []) (by first | (simp [entryFrame, mkF, argsToLocals, Value.category]; done) | rfl) ?_
  show oGo p e below _ (T.setTop (mkF m 0 #[.val (.ref x)] []))
  refine oSt (fun _ => XS.aloadN A.here hx rfl (Jvm.hb hby d_jdk_67_m93_0) rfl rfl) ?_
  show oGo p e below _ (T.setTop (mkF m 1 #[.val (.ref x)] [(.ref x)]))
  obtain ⟨_, vm, T, h, L, A, K, CR, ⟨rfl, rfl⟩, st⟩ := A.callU hx (y := (⟨"java/lang/AbstractStringBuilder", "length", "()I"⟩ : MethodName)) (hw _ (List.mem_of_getElem? (i := 192) rfl)) (oSame (hw _ (List.mem_of_getElem? (i := 188) rfl)) (oNfZ (y' := (⟨"java/lang/AbstractStringBuilder", "ensureCapacityInternal", "(I)V"⟩ : MethodName)) (hw _ (List.mem_of_getElem? (i := 119) rfl)) rfl) (by decide)) (hw _ (List.mem_of_getElem? (i := 188) rfl)) (hw _ (List.mem_of_getElem? (i := 101) rfl)) (by decide) (hw _ (List.mem_of_getElem? (i := 83) rfl)) (hw _ (List.mem_of_getElem? (i := 193) rfl)) hEL (a := x) (argsL := []) (rest := []) (own_asl l Z a0 hw hEL n0 _ A.oldn x t k N cs S) (Ins.self S.2.2.2.1) (W := 0) (by decide) (by decide) (by decide) (by decide) all0 all0 all0 (g := (mkF m 1 #[.val (.ref x)] [(.ref x)])) rfl (by rw [hml]; rfl) (lenOf opd10 rfl) rfl (by show 2 * 0 + _ ≤ _; exact Nat.le_of_eq rfl) (Jvm.hb hby d_jdk_67_m93_1)
  refine oSt st ?_
  have X := oExt0 K
  show oGo p e below _ (T.setTop (mkF m 4 #[.val (.ref x)] [(.int (Int32.ofNat cs.length))]))
  exact A.leave hlk hEL (v := some (.int (Int32.ofNat cs.length))) (fun h => by rw [hret] at h; cases h) (fun _ _ => ⟨rfl, rfl⟩) (by decide) (by decide) (fun fs hr => retOut A.1 hx hret rfl (Or.inl ⟨rfl, Or.inl rfl, _, rfl⟩) (Jvm.hb hby d_jdk_67_m93_4) hr)
theorem d_jdk_68_m68_0 : decode jdk_68_method_68_code 0 = .ok (.getstatic 18, 3) := by decide +kernel
theorem d_jdk_68_m68_3 : decode jdk_68_method_68_code 3 = .ok (.ifCond .eq 14, 3) := by decide +kernel
theorem d_jdk_68_m68_6 : decode jdk_68_method_68_code 6 = .ok (.aload_n 0, 1) := by decide +kernel
theorem d_jdk_68_m68_7 : decode jdk_68_method_68_code 7 = .ok (.getfield 22, 3) := by decide +kernel
theorem d_jdk_68_m68_10 : decode jdk_68_method_68_code 10 = .ok (.ifCond .ne 7, 3) := by decide +kernel
theorem d_jdk_68_m68_13 : decode jdk_68_method_68_code 13 = .ok (.iconst 1, 1) := by decide +kernel
theorem d_jdk_68_m68_14 : decode jdk_68_method_68_code 14 = .ok (.goto 4, 3) := by decide +kernel
theorem d_jdk_68_m68_17 : decode jdk_68_method_68_code 17 = .ok (.iconst 0, 1) := by decide +kernel
theorem d_jdk_68_m68_18 : decode jdk_68_method_68_code 18 = .ok (.ireturn, 1) := by decide +kernel
theorem opn_own_asi : plainFor (⟨"java/lang/AbstractStringBuilder", "isLatin1", "()Z"⟩ : MethodName) = true := plainFor_of_name (by first | (simp [plainName, overriddenIn]; done) | decide +kernel)
set_option maxRecDepth 65536 in
set_option maxHeartbeats 40000000 in
theorem own_asi (l : Launch) (Z : State) (a0 : Array Value) (hw : ∀ d ∈ tables_1, d.before a0 Z = true) (hEL : EW Z a0 consts_1) (n0 : Nat) (h : Heap) (hO : Old Z n0 h) (x t : Addr) (k : ClassId) (N : Nat) (cs : List Int32) (zc : Int32) (hcs : Sta Z Z.heap "java/lang/String" "COMPACT_STRINGS" "Z" (.int zc)) (hcz : ¬ zc = 0) (S : own_SB Z h x t k N cs) :
    oMet l Z consts_1 n0 (⟨"java/lang/AbstractStringBuilder", "isLatin1", "()Z"⟩ : MethodName) jdk_68_method_68_code 1 (some .boolean) [] ({ frames := 0, cells := 0, slots := 0, locals := 0 } : Room) #[(.ref x)] h [] (fun v _ h' => h = h' ∧ v = some (.int 1)) := by
  refine oMet.of opn_own_asi hO ?_
  intro p e s m below meth c T hx hby hml hret hnm hlk hh hsf A
  have hml : c.maxLocals = 1 := hml
  refine oCast (g' := mkF m 0 #[.val (.ref x)] []) (by first | (simp [entryFrame, mkF, argsToLocals, Value.category]; done) | rfl) ?_
  obtain ⟨b1, b2, b3, E_x, F_v, F_c, F_n, V_t⟩ := S
  show oGo p e below _ (T.setTop (mkF m 0 #[.val (.ref x)] []))
  obtain ⟨T, A, st⟩ := A.getS hx (host := "") (Or.inl (hw _ (List.mem_of_getElem? (i := 86) rfl))) Via.refl hcs (g := (mkF m 0 #[.val (.ref x)] [])) rfl (Jvm.hb hby d_jdk_68_m68_0)
  refine oSt st ?_
  show oGo p e below _ (T.setTop (mkF m 3 #[.val (.ref x)] [(.int zc)]))
  refine oSt (fun _ => XS.ifNo A.here hx rfl (Jvm.hb hby d_jdk_68_m68_3) rfl (Jvm.Free.XT.i0_eq_f hcz)) ?_
  show oGo p e below _ (T.setTop (mkF m 6 #[.val (.ref x)] []))
  refine oSt (fun _ => XS.aloadN A.here hx rfl (Jvm.hb hby d_jdk_68_m68_6) rfl rfl) ?_
  show oGo p e below _ (T.setTop (mkF m 7 #[.val (.ref x)] [(.ref x)]))
  obtain ⟨T, A, st⟩ := A.getF hx (host := "") (Or.inl (hw _ (List.mem_of_getElem? (i := 89) rfl))) Via.refl F_c (g := (mkF m 7 #[.val (.ref x)] [(.ref x)])) rfl rfl (Jvm.hb hby d_jdk_68_m68_7)
  refine oSt st ?_
  show oGo p e below _ (T.setTop (mkF m 10 #[.val (.ref x)] [(.int (0 : Int32))]))
  refine oSt (fun _ => XS.ifNo A.here hx rfl (Jvm.hb hby d_jdk_68_m68_10) rfl (Jvm.Free.XT.i0_ne_f rfl)) ?_
  show oGo p e below _ (T.setTop (mkF m 13 #[.val (.ref x)] []))
  refine oSt (fun _ => XS.iconst A.here hx rfl (Jvm.hb hby d_jdk_68_m68_13)) ?_
  show oGo p e below _ (T.setTop (mkF m 14 #[.val (.ref x)] [(.int (1 : Int32))]))
  refine oSt (fun _ => XS.goto A.here hx rfl (pc0 := 14) (pc' := 18) rfl (Jvm.hb hby d_jdk_68_m68_14) (by decide) (by decide)) ?_
  show oGo p e below _ (T.setTop (mkF m 18 #[.val (.ref x)] [(.int (1 : Int32))]))
  exact A.leave hlk hEL (v := some (.int (1 : Int32))) (fun h => by rw [hret] at h; cases h) (fun _ _ => ⟨rfl, rfl⟩) (by decide) (by decide) (fun fs hr => retN A.1 hx (t := .boolean) hret (by simp) (Jvm.hb hby d_jdk_68_m68_18) hr)
theorem d_jdk_29_m69_0 : decode jdk_29_method_69_code 0 = .ok (.iload_n 0, 1) := by decide +kernel
theorem d_jdk_29_m69_1 : decode jdk_29_method_69_code 1 = .ok (.iload_n 1, 1) := by decide +kernel
theorem d_jdk_29_m69_2 : decode jdk_29_method_69_code 2 = .ok (.if_icmp .gt 7, 3) := by decide +kernel
theorem d_jdk_29_m69_5 : decode jdk_29_method_69_code 5 = .ok (.iload_n 0, 1) := by decide +kernel
theorem d_jdk_29_m69_6 : decode jdk_29_method_69_code 6 = .ok (.goto 4, 3) := by decide +kernel
theorem d_jdk_29_m69_9 : decode jdk_29_method_69_code 9 = .ok (.iload_n 1, 1) := by decide +kernel
theorem d_jdk_29_m69_10 : decode jdk_29_method_69_code 10 = .ok (.ireturn, 1) := by decide +kernel
theorem opn_own_minB : plainFor (⟨"java/lang/Math", "min", "(II)I"⟩ : MethodName) = true := (Jvm.Free.JP.mathPlain rfl (by decide +kernel))
set_option maxRecDepth 65536 in
set_option maxHeartbeats 40000000 in
theorem own_minB (l : Launch) (Z : State) (a0 : Array Value) (hw : ∀ d ∈ tables_1, d.before a0 Z = true) (hEL : EW Z a0 consts_1) (n0 : Nat) (h : Heap) (hO : Old Z n0 h) (a b : Int32) (hab : b < a) :
    oMet l Z consts_1 n0 (⟨"java/lang/Math", "min", "(II)I"⟩ : MethodName) jdk_29_method_69_code 2 (some .int) [] ({ frames := 0, cells := 0, slots := 0, locals := 0 } : Room) #[(.int a), (.int b)] h [] (fun v _ h' => h = h' ∧ v = some (.int b)) := by
  refine oMet.of opn_own_minB hO ?_
  intro p e s m below meth c T hx hby hml hret hnm hlk hh hsf A
  have hml : c.maxLocals = 2 := hml
  refine oCast (g' := mkF m 0 #[.val (.int a), .val (.int b)] []) (by first | (simp [entryFrame, mkF, argsToLocals, Value.category]; done) | rfl) ?_
  show oGo p e below _ (T.setTop (mkF m 0 #[.val (.int a), .val (.int b)] []))
  refine oSt (fun _ => XS.iloadN A.here hx rfl (Jvm.hb hby d_jdk_29_m69_0) rfl) ?_
  show oGo p e below _ (T.setTop (mkF m 1 #[.val (.int a), .val (.int b)] [(.int a)]))
  refine oSt (fun _ => XS.iloadN A.here hx rfl (Jvm.hb hby d_jdk_29_m69_1) rfl) ?_
  show oGo p e below _ (T.setTop (mkF m 2 #[.val (.int a), .val (.int b)] [(.int b), (.int a)]))
  refine oSt (fun _ => XS.icmpYes A.here hx rfl (pc0 := 2) (pc' := 9) rfl (Jvm.hb hby d_jdk_29_m69_2) rfl (Jvm.Free.XT.ii_gt_t hab) (by decide) (by decide)) ?_
  show oGo p e below _ (T.setTop (mkF m 9 #[.val (.int a), .val (.int b)] []))
  refine oSt (fun _ => XS.iloadN A.here hx rfl (Jvm.hb hby d_jdk_29_m69_9) rfl) ?_
  show oGo p e below _ (T.setTop (mkF m 10 #[.val (.int a), .val (.int b)] [(.int b)]))
  exact A.leave hlk hEL (v := some (.int b)) (fun h => by rw [hret] at h; cases h) (fun _ _ => ⟨rfl, rfl⟩) (by decide) (by decide) (fun fs hr => retOut A.1 hx hret rfl (Or.inl ⟨rfl, Or.inl rfl, _, rfl⟩) (Jvm.hb hby d_jdk_29_m69_10) hr)
theorem d_jdk_65_m131_0 : decode jdk_65_method_131_code 0 = .ok (.iload_n 1, 1) := by decide +kernel
theorem d_jdk_65_m131_1 : decode jdk_65_method_131_code 1 = .ok (.iload_n 0, 1) := by decide +kernel
theorem d_jdk_65_m131_2 : decode jdk_65_method_131_code 2 = .ok (.if_icmp .ge 35, 3) := by decide +kernel
theorem d_jdk_65_m131_5 : decode jdk_65_method_131_code 5 = .ok (.new 43, 3) := by decide +kernel
theorem d_jdk_65_m131_8 : decode jdk_65_method_131_code 8 = .ok (.dup, 1) := by decide +kernel
theorem d_jdk_65_m131_9 : decode jdk_65_method_131_code 9 = .ok (.new 45, 3) := by decide +kernel
theorem d_jdk_65_m131_12 : decode jdk_65_method_131_code 12 = .ok (.dup, 1) := by decide +kernel
theorem d_jdk_65_m131_13 : decode jdk_65_method_131_code 13 = .ok (.invokespecial 47, 3) := by decide +kernel
theorem d_jdk_65_m131_16 : decode jdk_65_method_131_code 16 = .ok (.iload_n 0, 1) := by decide +kernel
theorem d_jdk_65_m131_17 : decode jdk_65_method_131_code 17 = .ok (.invokevirtual 54, 3) := by decide +kernel
theorem d_jdk_65_m131_20 : decode jdk_65_method_131_code 20 = .ok (.ldc_w 337, 3) := by decide +kernel
theorem d_jdk_65_m131_23 : decode jdk_65_method_131_code 23 = .ok (.invokevirtual 50, 3) := by decide +kernel
theorem d_jdk_65_m131_26 : decode jdk_65_method_131_code 26 = .ok (.iload_n 1, 1) := by decide +kernel
theorem d_jdk_65_m131_27 : decode jdk_65_method_131_code 27 = .ok (.invokevirtual 54, 3) := by decide +kernel
theorem d_jdk_65_m131_30 : decode jdk_65_method_131_code 30 = .ok (.invokevirtual 61, 3) := by decide +kernel
theorem d_jdk_65_m131_33 : decode jdk_65_method_131_code 33 = .ok (.invokespecial 65, 3) := by decide +kernel
theorem d_jdk_65_m131_36 : decode jdk_65_method_131_code 36 = .ok (.athrow, 1) := by decide +kernel
theorem d_jdk_65_m131_37 : decode jdk_65_method_131_code 37 = .ok (.return_, 1) := by decide +kernel
theorem opn_own_ckl : plainFor (⟨"java/util/Arrays", "checkLength", "(II)V"⟩ : MethodName) = true := plainFor_of_name (by first | (simp [plainName, overriddenIn]; done) | decide +kernel)
set_option maxRecDepth 65536 in
set_option maxHeartbeats 40000000 in
theorem own_ckl (l : Launch) (Z : State) (a0 : Array Value) (hw : ∀ d ∈ tables_1, d.before a0 Z = true) (hEL : EW Z a0 consts_1) (n0 : Nat) (h : Heap) (hO : Old Z n0 h) (b : Int32) (hb : ¬ b < 0) :
    oMet l Z consts_1 n0 (⟨"java/util/Arrays", "checkLength", "(II)V"⟩ : MethodName) jdk_65_method_131_code 2 none [] ({ frames := 0, cells := 0, slots := 0, locals := 0 } : Room) #[(.int (0 : Int32)), (.int b)] h [] (fun v _ h' => h = h' ∧ v = none) := by
  refine oMet.of opn_own_ckl hO ?_
  intro p e s m below meth c T hx hby hml hret hnm hlk hh hsf A
  have hml : c.maxLocals = 2 := hml
  refine oCast (g' := mkF m 0 #[.val (.int (0 : Int32)), .val (.int b)] []) (by first | (simp [entryFrame, mkF, argsToLocals, Value.category]; done) | rfl) ?_
  show oGo p e below _ (T.setTop (mkF m 0 #[.val (.int (0 : Int32)), .val (.int b)] []))
  refine oSt (fun _ => XS.iloadN A.here hx rfl (Jvm.hb hby d_jdk_65_m131_0) rfl) ?_
  show oGo p e below _ (T.setTop (mkF m 1 #[.val (.int (0 : Int32)), .val (.int b)] [(.int b)]))
  refine oSt (fun _ => XS.iloadN A.here hx rfl (Jvm.hb hby d_jdk_65_m131_1) rfl) ?_
  show oGo p e below _ (T.setTop (mkF m 2 #[.val (.int (0 : Int32)), .val (.int b)] [(.int (0 : Int32)), (.int b)]))
  refine oSt (fun _ => XS.icmpYes A.here hx rfl (pc0 := 2) (pc' := 37) rfl (Jvm.hb hby d_jdk_65_m131_2) rfl (Jvm.Free.XT.ii_ge_t hb) (by decide) (by decide)) ?_
  show oGo p e below _ (T.setTop (mkF m 37 #[.val (.int (0 : Int32)), .val (.int b)] []))
  exact A.leave hlk hEL (v := none) (fun _ => rfl) (fun _ _ => ⟨rfl, rfl⟩) (by decide) (by decide) (fun fs hr => A.1.returnOut hx hret (Jvm.hb hby d_jdk_65_m131_37) hr)
theorem d_jdk_65_m133_0 : decode jdk_65_method_133_code 0 = .ok (.iload_n 1, 1) := by decide +kernel
theorem d_jdk_65_m133_1 : decode jdk_65_method_133_code 1 = .ok (.iload_n 2, 1) := by decide +kernel
theorem d_jdk_65_m133_2 : decode jdk_65_method_133_code 2 = .ok (.invokestatic 343, 3) := by decide +kernel
theorem d_jdk_65_m133_5 : decode jdk_65_method_133_code 5 = .ok (.iload_n 2, 1) := by decide +kernel
theorem d_jdk_65_m133_6 : decode jdk_65_method_133_code 6 = .ok (.iload_n 1, 1) := by decide +kernel
theorem d_jdk_65_m133_7 : decode jdk_65_method_133_code 7 = .ok (.isub, 1) := by decide +kernel
theorem d_jdk_65_m133_8 : decode jdk_65_method_133_code 8 = .ok (.istore_n 3, 1) := by decide +kernel
theorem d_jdk_65_m133_9 : decode jdk_65_method_133_code 9 = .ok (.iload_n 3, 1) := by decide +kernel
theorem d_jdk_65_m133_10 : decode jdk_65_method_133_code 10 = .ok (.newarray .byte, 2) := by decide +kernel
theorem d_jdk_65_m133_12 : decode jdk_65_method_133_code 12 = .ok (.astore 4, 2) := by decide +kernel
theorem d_jdk_65_m133_14 : decode jdk_65_method_133_code 14 = .ok (.aload_n 0, 1) := by decide +kernel
theorem d_jdk_65_m133_15 : decode jdk_65_method_133_code 15 = .ok (.iload_n 1, 1) := by decide +kernel
theorem d_jdk_65_m133_16 : decode jdk_65_method_133_code 16 = .ok (.aload 4, 2) := by decide +kernel
theorem d_jdk_65_m133_18 : decode jdk_65_method_133_code 18 = .ok (.iconst 0, 1) := by decide +kernel
theorem d_jdk_65_m133_19 : decode jdk_65_method_133_code 19 = .ok (.aload_n 0, 1) := by decide +kernel
theorem d_jdk_65_m133_20 : decode jdk_65_method_133_code 20 = .ok (.arraylength, 1) := by decide +kernel
theorem d_jdk_65_m133_21 : decode jdk_65_method_133_code 21 = .ok (.iload_n 1, 1) := by decide +kernel
theorem d_jdk_65_m133_22 : decode jdk_65_method_133_code 22 = .ok (.isub, 1) := by decide +kernel
theorem d_jdk_65_m133_23 : decode jdk_65_method_133_code 23 = .ok (.iload_n 3, 1) := by decide +kernel
theorem d_jdk_65_m133_24 : decode jdk_65_method_133_code 24 = .ok (.invokestatic 304, 3) := by decide +kernel
theorem d_jdk_65_m133_27 : decode jdk_65_method_133_code 27 = .ok (.invokestatic 150, 3) := by decide +kernel
theorem d_jdk_65_m133_30 : decode jdk_65_method_133_code 30 = .ok (.aload 4, 2) := by decide +kernel
theorem d_jdk_65_m133_32 : decode jdk_65_method_133_code 32 = .ok (.areturn, 1) := by decide +kernel
theorem opd11 : parseMethodDescriptor "(II)V" = some ⟨[.int, .int], none⟩ := by decide +kernel
theorem opd12 : parseMethodDescriptor "(II)I" = some ⟨[.int, .int], some .int⟩ := by decide +kernel
theorem opn_own_cpb : plainFor (⟨"java/util/Arrays", "copyOfRangeByte", "([BII)[B"⟩ : MethodName) = true := plainFor_of_name (by first | (simp [plainName, overriddenIn]; done) | decide +kernel)
set_option maxRecDepth 65536 in
set_option maxHeartbeats 40000000 in
theorem own_cpb (l : Launch) (Z : State) (a0 : Array Value) (hw : ∀ d ∈ tables_1, d.before a0 Z = true) (hEL : EW Z a0 consts_1) (n0 : Nat) (h : Heap) (hO : Old Z n0 h) (t : Addr) (k : ClassId) (N i : Nat) (vs : List Value) (V : Arv Z h t k .byte (Int32.ofNat N) vs (.int (0 : Int32))) (hv : vs.length = N) (hi : i < N) (hN : N ≤ 4000) (hcap : i ≤ 52) :
    oMet l Z consts_1 n0 (⟨"java/util/Arrays", "copyOfRangeByte", "([BII)[B"⟩ : MethodName) jdk_65_method_133_code 5 (some (.array .byte)) [] ({ frames := 1, cells := 1, slots := 52, locals := 30 } : Room) #[(.ref t), (.int (0 : Int32)), (.int (Int32.ofNat i))] h [] (fun v _ h' => ∃ b k', v = some (.ref b) ∧ Arv Z h' b k' .byte (Int32.ofNat i) (vs.take i) (.int (0 : Int32))) := by
  refine oMet.of opn_own_cpb hO ?_
  intro p e s m below meth c T hx hby hml hret hnm hlk hh hsf A
  have hml : c.maxLocals = 5 := hml
  refine oCast (g' := mkF m 0 #[.val (.ref t), .val (.int (0 : Int32)), .val (.int (Int32.ofNat i)), .unset, .unset] []) (by first | (simp [entryFrame, mkF, argsToLocals, Value.category]; done) | rfl) ?_
  have hni := own_nl hi hN
  have e0 : ∀ x : Int32, x - 0 = x := fun x => by simp
  show oGo p e below _ (T.setTop (mkF m 0 #[.val (.ref t), .val (.int (0 : Int32)), .val (.int (Int32.ofNat i)), .unset, .unset] []))
  refine oSt (fun _ => XS.iloadN A.here hx rfl (Jvm.hb hby d_jdk_65_m133_0) rfl) ?_
  show oGo p e below _ (T.setTop (mkF m 1 #[.val (.ref t), .val (.int (0 : Int32)), .val (.int (Int32.ofNat i)), .unset, .unset] [(.int (0 : Int32))]))
  refine oSt (fun _ => XS.iloadN A.here hx rfl (Jvm.hb hby d_jdk_65_m133_1) rfl) ?_
  show oGo p e below _ (T.setTop (mkF m 2 #[.val (.ref t), .val (.int (0 : Int32)), .val (.int (Int32.ofNat i)), .unset, .unset] [(.int (Int32.ofNat i)), (.int (0 : Int32))]))
  obtain ⟨_, vm, T, h, L, A, K, CR, ⟨rfl, rfl⟩, st⟩ := A.callS hx (y := (⟨"java/util/Arrays", "checkLength", "(II)V"⟩ : MethodName)) (hw _ (List.mem_of_getElem? (i := 205) rfl)) (hw _ (List.mem_of_getElem? (i := 206) rfl)) (hw _ (List.mem_of_getElem? (i := 159) rfl)) (hw _ (List.mem_of_getElem? (i := 207) rfl)) (by decide) hEL (argsL := [(.int (0 : Int32)), (.int (Int32.ofNat i))]) (rest := []) (own_ckl l Z a0 hw hEL n0 _ A.oldn _ hni.1) (W := 0) (by decide) (by decide) (by decide) (by decide) all0 all0 all0 (g := (mkF m 2 #[.val (.ref t), .val (.int (0 : Int32)), .val (.int (Int32.ofNat i)), .unset, .unset] [(.int (Int32.ofNat i)), (.int (0 : Int32))])) rfl (by rw [hml]; rfl) (lenOf opd11 rfl) rfl (by show 2 * 0 + _ ≤ _; exact Nat.le_of_eq rfl) (Jvm.hb hby d_jdk_65_m133_2)
  refine oSt st ?_
  have X := oExt0 K
  show oGo p e below _ (T.setTop (mkF m 5 #[.val (.ref t), .val (.int (0 : Int32)), .val (.int (Int32.ofNat i)), .unset, .unset] []))
  refine oSt (fun _ => XS.iloadN A.here hx rfl (Jvm.hb hby d_jdk_65_m133_5) rfl) ?_
  show oGo p e below _ (T.setTop (mkF m 6 #[.val (.ref t), .val (.int (0 : Int32)), .val (.int (Int32.ofNat i)), .unset, .unset] [(.int (Int32.ofNat i))]))
  refine oSt (fun _ => XS.iloadN A.here hx rfl (Jvm.hb hby d_jdk_65_m133_6) rfl) ?_
  show oGo p e below _ (T.setTop (mkF m 7 #[.val (.ref t), .val (.int (0 : Int32)), .val (.int (Int32.ofNat i)), .unset, .unset] [(.int (0 : Int32)), (.int (Int32.ofNat i))]))
  refine oSt (fun _ => XS.isub A.here hx rfl (Jvm.hb hby d_jdk_65_m133_7) rfl) ?_
  show oGo p e below _ (T.setTop (mkF m 8 #[.val (.ref t), .val (.int (0 : Int32)), .val (.int (Int32.ofNat i)), .unset, .unset] [(.int ((Int32.ofNat i) - (0 : Int32)))]))
  refine oSt (fun _ => XS.istoreN A.here hx rfl (Jvm.hb hby d_jdk_65_m133_8) rfl (l' := #[.val (.ref t), .val (.int (0 : Int32)), .val (.int (Int32.ofNat i)), .val (.int ((Int32.ofNat i) - (0 : Int32))), .unset]) rfl) ?_
  show oGo p e below _ (T.setTop (mkF m 9 #[.val (.ref t), .val (.int (0 : Int32)), .val (.int (Int32.ofNat i)), .val (.int ((Int32.ofNat i) - (0 : Int32))), .unset] []))
  refine oSt (fun _ => XS.iloadN A.here hx rfl (Jvm.hb hby d_jdk_65_m133_9) rfl) ?_
  show oGo p e below _ (T.setTop (mkF m 10 #[.val (.ref t), .val (.int (0 : Int32)), .val (.int (Int32.ofNat i)), .val (.int ((Int32.ofNat i) - (0 : Int32))), .unset] [(.int ((Int32.ofNat i) - (0 : Int32)))]))
  rw [e0]
  show oGo p e below _ (T.setTop (mkF m 10 #[.val (.ref t), .val (.int (0 : Int32)), .val (.int (Int32.ofNat i)), .val (.int (Int32.ofNat i)), .unset] [(.int (Int32.ofNat i))]))
  obtain ⟨T, h, b, k_b, g_b, lt_b, n0_b, s_b, A, E, V_b, S_b, st⟩ := A.newP hx (hw _ (List.mem_of_getElem? (i := 14) rfl)) (g := (mkF m 10 #[.val (.ref t), .val (.int (0 : Int32)), .val (.int (Int32.ofNat i)), .val (.int (Int32.ofNat i)), .unset] [(.int (Int32.ofNat i))])) rfl (Jvm.hb hby d_jdk_65_m133_10) rfl hni.1 (cap := 52) (by rw [own_n32 (by omega)]; omega) (by decide) (by decide) (by decide)
  refine oSt st ?_
  show oGo p e below _ (T.setTop (mkF m 12 #[.val (.ref t), .val (.int (0 : Int32)), .val (.int (Int32.ofNat i)), .val (.int (Int32.ofNat i)), .unset] [(.ref b)]))
  have V := V.ext E
  have V_b : Arv Z h b k_b .byte (Int32.ofNat i) ([] ++ List.replicate i (.int (0 : Int32))) (.int (0 : Int32)) := V_b.pad (pad_rep [] (.int (0 : Int32)) i)
  refine oSt (fun _ => XS.astore A.here hx rfl (Jvm.hb hby d_jdk_65_m133_12) rfl rfl (l' := #[.val (.ref t), .val (.int (0 : Int32)), .val (.int (Int32.ofNat i)), .val (.int (Int32.ofNat i)), .val (.ref b)]) rfl) ?_
  show oGo p e below _ (T.setTop (mkF m 14 #[.val (.ref t), .val (.int (0 : Int32)), .val (.int (Int32.ofNat i)), .val (.int (Int32.ofNat i)), .val (.ref b)] []))
  refine oSt (fun _ => XS.aloadN A.here hx rfl (Jvm.hb hby d_jdk_65_m133_14) rfl rfl) ?_
  show oGo p e below _ (T.setTop (mkF m 15 #[.val (.ref t), .val (.int (0 : Int32)), .val (.int (Int32.ofNat i)), .val (.int (Int32.ofNat i)), .val (.ref b)] [(.ref t)]))
  refine oSt (fun _ => XS.iloadN A.here hx rfl (Jvm.hb hby d_jdk_65_m133_15) rfl) ?_
  show oGo p e below _ (T.setTop (mkF m 16 #[.val (.ref t), .val (.int (0 : Int32)), .val (.int (Int32.ofNat i)), .val (.int (Int32.ofNat i)), .val (.ref b)] [(.int (0 : Int32)), (.ref t)]))
  refine oSt (fun _ => XS.aload A.here hx rfl (Jvm.hb hby d_jdk_65_m133_16) rfl rfl) ?_
  show oGo p e below _ (T.setTop (mkF m 18 #[.val (.ref t), .val (.int (0 : Int32)), .val (.int (Int32.ofNat i)), .val (.int (Int32.ofNat i)), .val (.ref b)] [(.ref b), (.int (0 : Int32)), (.ref t)]))
  refine oSt (fun _ => XS.iconst A.here hx rfl (Jvm.hb hby d_jdk_65_m133_18)) ?_
  show oGo p e below _ (T.setTop (mkF m 19 #[.val (.ref t), .val (.int (0 : Int32)), .val (.int (Int32.ofNat i)), .val (.int (Int32.ofNat i)), .val (.ref b)] [(.int (0 : Int32)), (.ref b), (.int (0 : Int32)), (.ref t)]))
  refine oSt (fun _ => XS.aloadN A.here hx rfl (Jvm.hb hby d_jdk_65_m133_19) rfl rfl) ?_
  show oGo p e below _ (T.setTop (mkF m 20 #[.val (.ref t), .val (.int (0 : Int32)), .val (.int (Int32.ofNat i)), .val (.int (Int32.ofNat i)), .val (.ref b)] [(.ref t), (.int (0 : Int32)), (.ref b), (.int (0 : Int32)), (.ref t)]))
  refine oSt (A.len hx V (g := (mkF m 20 #[.val (.ref t), .val (.int (0 : Int32)), .val (.int (Int32.ofNat i)), .val (.int (Int32.ofNat i)), .val (.ref b)] [(.ref t), (.int (0 : Int32)), (.ref b), (.int (0 : Int32)), (.ref t)])) rfl rfl (Jvm.hb hby d_jdk_65_m133_20)) ?_
  show oGo p e below _ (T.setTop (mkF m 21 #[.val (.ref t), .val (.int (0 : Int32)), .val (.int (Int32.ofNat i)), .val (.int (Int32.ofNat i)), .val (.ref b)] [(.int (Int32.ofNat N)), (.int (0 : Int32)), (.ref b), (.int (0 : Int32)), (.ref t)]))
  refine oSt (fun _ => XS.iloadN A.here hx rfl (Jvm.hb hby d_jdk_65_m133_21) rfl) ?_
  show oGo p e below _ (T.setTop (mkF m 22 #[.val (.ref t), .val (.int (0 : Int32)), .val (.int (Int32.ofNat i)), .val (.int (Int32.ofNat i)), .val (.ref b)] [(.int (0 : Int32)), (.int (Int32.ofNat N)), (.int (0 : Int32)), (.ref b), (.int (0 : Int32)), (.ref t)]))
  refine oSt (fun _ => XS.isub A.here hx rfl (Jvm.hb hby d_jdk_65_m133_22) rfl) ?_
  show oGo p e below _ (T.setTop (mkF m 23 #[.val (.ref t), .val (.int (0 : Int32)), .val (.int (Int32.ofNat i)), .val (.int (Int32.ofNat i)), .val (.ref b)] [(.int ((Int32.ofNat N) - (0 : Int32))), (.int (0 : Int32)), (.ref b), (.int (0 : Int32)), (.ref t)]))
  refine oSt (fun _ => XS.iloadN A.here hx rfl (Jvm.hb hby d_jdk_65_m133_23) rfl) ?_
  show oGo p e below _ (T.setTop (mkF m 24 #[.val (.ref t), .val (.int (0 : Int32)), .val (.int (Int32.ofNat i)), .val (.int (Int32.ofNat i)), .val (.ref b)] [(.int (Int32.ofNat i)), (.int ((Int32.ofNat N) - (0 : Int32))), (.int (0 : Int32)), (.ref b), (.int (0 : Int32)), (.ref t)]))
  rw [e0]
  show oGo p e below _ (T.setTop (mkF m 24 #[.val (.ref t), .val (.int (0 : Int32)), .val (.int (Int32.ofNat i)), .val (.int (Int32.ofNat i)), .val (.ref b)] [(.int (Int32.ofNat i)), (.int (Int32.ofNat N)), (.int (0 : Int32)), (.ref b), (.int (0 : Int32)), (.ref t)]))
  obtain ⟨_, vm, T, h, L, A, K, CR, ⟨rfl, rfl⟩, st⟩ := A.callS hx (y := (⟨"java/lang/Math", "min", "(II)I"⟩ : MethodName)) (hw _ (List.mem_of_getElem? (i := 161) rfl)) (hw _ (List.mem_of_getElem? (i := 162) rfl)) (hw _ (List.mem_of_getElem? (i := 153) rfl)) (hw _ (List.mem_of_getElem? (i := 163) rfl)) (by decide) hEL (argsL := [(.int (Int32.ofNat N)), (.int (Int32.ofNat i))]) (rest := [(.int (0 : Int32)), (.ref b), (.int (0 : Int32)), (.ref t)]) (own_minB l Z a0 hw hEL n0 _ A.oldn _ _ hni.2) (W := 4) (by decide) (by decide) (by decide) (by decide) all0 all0 all0 (g := (mkF m 24 #[.val (.ref t), .val (.int (0 : Int32)), .val (.int (Int32.ofNat i)), .val (.int (Int32.ofNat i)), .val (.ref b)] [(.int (Int32.ofNat i)), (.int (Int32.ofNat N)), (.int (0 : Int32)), (.ref b), (.int (0 : Int32)), (.ref t)])) rfl (by rw [hml]; rfl) (lenOf opd12 rfl) rfl (by show 2 * 0 + _ ≤ _; exact Nat.le_of_eq rfl) (Jvm.hb hby d_jdk_65_m133_24)
  refine oSt st ?_
  have X := oExt0 K
  show oGo p e below _ (T.setTop (mkF m 27 #[.val (.ref t), .val (.int (0 : Int32)), .val (.int (Int32.ofNat i)), .val (.int (Int32.ofNat i)), .val (.ref b)] [(.int (Int32.ofNat i)), (.int (0 : Int32)), (.ref b), (.int (0 : Int32)), (.ref t)]))
  have S_b := CR.safe lt_b S_b
  have hz : (Int32.ofNat i).toNatClampNeg = i := own_n32 (by omega)
  obtain ⟨T, h, L, A, K, V_b, st⟩ := A.cpy hx (hw _ (List.mem_of_getElem? (i := 164) rfl)) (hw _ (List.mem_of_getElem? (i := 140) rfl)) (hw _ (List.mem_of_getElem? (i := 138) rfl)) (hw _ (List.mem_of_getElem? (i := 139) rfl)) V V_b (us := (vs.take i)) (by decide) (by decide) hni.1 (by rw [hz, own_n32 hN]; show 0 + i ≤ _; omega) (by rw [hz]; show 0 + i ≤ _; omega) (by rw [hz]; exact (own_usT (by omega)).symm) (by rw [hz]; show 0 + i ≤ _; simp) n0_b (Or.inr s_b) S_b (g := (mkF m 27 #[.val (.ref t), .val (.int (0 : Int32)), .val (.int (Int32.ofNat i)), .val (.int (Int32.ofNat i)), .val (.ref b)] [(.int (Int32.ofNat i)), (.int (0 : Int32)), (.ref b), (.int (0 : Int32)), (.ref t)])) rfl (by rw [hml]; rfl) rfl (Jvm.hb hby d_jdk_65_m133_27) (by decide) (W := 0) (by show 2 * 0 + _ ≤ _; exact Nat.le_of_eq rfl) (by decide +kernel)
  refine oSt st ?_
  show oGo p e below _ (T.setTop (mkF m 30 #[.val (.ref t), .val (.int (0 : Int32)), .val (.int (Int32.ofNat i)), .val (.int (Int32.ofNat i)), .val (.ref b)] []))
  refine oSt (fun _ => XS.aload A.here hx rfl (Jvm.hb hby d_jdk_65_m133_30) rfl rfl) ?_
  show oGo p e below _ (T.setTop (mkF m 32 #[.val (.ref t), .val (.int (0 : Int32)), .val (.int (Int32.ofNat i)), .val (.int (Int32.ofNat i)), .val (.ref b)] [(.ref b)]))
  rw [hz] at V_b
  exact A.leave hlk hEL (v := some (.ref b)) (fun h => by rw [hret] at h; cases h) (fun _ _ => ⟨b, k_b, rfl, by simpa using V_b⟩) (by decide) (by decide) (fun fs hr => retOut A.1 hx hret rfl (Or.inr (Or.inr (Or.inr (Or.inr ⟨rfl, rfl, rfl⟩)))) (Jvm.hb hby d_jdk_65_m133_32) hr)
theorem d_jdk_65_m132_0 : decode jdk_65_method_132_code 0 = .ok (.iload_n 1, 1) := by decide +kernel
theorem d_jdk_65_m132_1 : decode jdk_65_method_132_code 1 = .ok (.ifCond .ne 9, 3) := by decide +kernel
theorem d_jdk_65_m132_4 : decode jdk_65_method_132_code 4 = .ok (.iload_n 2, 1) := by decide +kernel
theorem d_jdk_65_m132_5 : decode jdk_65_method_132_code 5 = .ok (.aload_n 0, 1) := by decide +kernel
theorem d_jdk_65_m132_6 : decode jdk_65_method_132_code 6 = .ok (.arraylength, 1) := by decide +kernel
theorem d_jdk_65_m132_7 : decode jdk_65_method_132_code 7 = .ok (.if_icmp .eq 10, 3) := by decide +kernel
theorem d_jdk_65_m132_10 : decode jdk_65_method_132_code 10 = .ok (.aload_n 0, 1) := by decide +kernel
theorem d_jdk_65_m132_11 : decode jdk_65_method_132_code 11 = .ok (.iload_n 1, 1) := by decide +kernel
theorem d_jdk_65_m132_12 : decode jdk_65_method_132_code 12 = .ok (.iload_n 2, 1) := by decide +kernel
theorem d_jdk_65_m132_13 : decode jdk_65_method_132_code 13 = .ok (.invokestatic 339, 3) := by decide +kernel
theorem d_jdk_65_m132_16 : decode jdk_65_method_132_code 16 = .ok (.areturn, 1) := by decide +kernel
theorem d_jdk_65_m132_17 : decode jdk_65_method_132_code 17 = .ok (.aload_n 0, 1) := by decide +kernel
theorem d_jdk_65_m132_18 : decode jdk_65_method_132_code 18 = .ok (.invokevirtual 310, 3) := by decide +kernel
theorem d_jdk_65_m132_21 : decode jdk_65_method_132_code 21 = .ok (.checkcast 311, 3) := by decide +kernel
theorem d_jdk_65_m132_24 : decode jdk_65_method_132_code 24 = .ok (.areturn, 1) := by decide +kernel
theorem opd13 : parseMethodDescriptor "([BII)[B" = some ⟨[(.array .byte), .int, .int], some (.array .byte)⟩ := by decide +kernel
theorem opn_own_cpr : plainFor (⟨"java/util/Arrays", "copyOfRange", "([BII)[B"⟩ : MethodName) = true := plainFor_of_name (by first | (simp [plainName, overriddenIn]; done) | decide +kernel)
set_option maxRecDepth 65536 in
set_option maxHeartbeats 40000000 in
theorem own_cpr (l : Launch) (Z : State) (a0 : Array Value) (hw : ∀ d ∈ tables_1, d.before a0 Z = true) (hEL : EW Z a0 consts_1) (n0 : Nat) (h : Heap) (hO : Old Z n0 h) (t : Addr) (k : ClassId) (N i : Nat) (vs : List Value) (V : Arv Z h t k .byte (Int32.ofNat N) vs (.int (0 : Int32))) (hv : vs.length = N) (hi : i < N) (hN : N ≤ 4000) (hcap : i ≤ 52) :
    oMet l Z consts_1 n0 (⟨"java/util/Arrays", "copyOfRange", "([BII)[B"⟩ : MethodName) jdk_65_method_132_code 3 (some (.array .byte)) [] ({ frames := 2, cells := 1, slots := 52, locals := 46 } : Room) #[(.ref t), (.int (0 : Int32)), (.int (Int32.ofNat i))] h [] (fun v _ h' => ∃ b k', v = some (.ref b) ∧ Arv Z h' b k' .byte (Int32.ofNat i) (vs.take i) (.int (0 : Int32))) := by
  refine oMet.of opn_own_cpr hO ?_
  intro p e s m below meth c T hx hby hml hret hnm hlk hh hsf A
  have hml : c.maxLocals = 3 := hml
  refine oCast (g' := mkF m 0 #[.val (.ref t), .val (.int (0 : Int32)), .val (.int (Int32.ofNat i))] []) (by first | (simp [entryFrame, mkF, argsToLocals, Value.category]; done) | rfl) ?_
  have hni := own_nl hi hN
  show oGo p e below _ (T.setTop (mkF m 0 #[.val (.ref t), .val (.int (0 : Int32)), .val (.int (Int32.ofNat i))] []))
  refine oSt (fun _ => XS.iloadN A.here hx rfl (Jvm.hb hby d_jdk_65_m132_0) rfl) ?_
  show oGo p e below _ (T.setTop (mkF m 1 #[.val (.ref t), .val (.int (0 : Int32)), .val (.int (Int32.ofNat i))] [(.int (0 : Int32))]))
  refine oSt (fun _ => XS.ifNo A.here hx rfl (Jvm.hb hby d_jdk_65_m132_1) rfl (Jvm.Free.XT.i0_ne_f rfl)) ?_
  show oGo p e below _ (T.setTop (mkF m 4 #[.val (.ref t), .val (.int (0 : Int32)), .val (.int (Int32.ofNat i))] []))
  refine oSt (fun _ => XS.iloadN A.here hx rfl (Jvm.hb hby d_jdk_65_m132_4) rfl) ?_
  show oGo p e below _ (T.setTop (mkF m 5 #[.val (.ref t), .val (.int (0 : Int32)), .val (.int (Int32.ofNat i))] [(.int (Int32.ofNat i))]))
  refine oSt (fun _ => XS.aloadN A.here hx rfl (Jvm.hb hby d_jdk_65_m132_5) rfl rfl) ?_
  show oGo p e below _ (T.setTop (mkF m 6 #[.val (.ref t), .val (.int (0 : Int32)), .val (.int (Int32.ofNat i))] [(.ref t), (.int (Int32.ofNat i))]))
  refine oSt (A.len hx V (g := (mkF m 6 #[.val (.ref t), .val (.int (0 : Int32)), .val (.int (Int32.ofNat i))] [(.ref t), (.int (Int32.ofNat i))])) rfl rfl (Jvm.hb hby d_jdk_65_m132_6)) ?_
  show oGo p e below _ (T.setTop (mkF m 7 #[.val (.ref t), .val (.int (0 : Int32)), .val (.int (Int32.ofNat i))] [(.int (Int32.ofNat N)), (.int (Int32.ofNat i))]))
  refine oSt (fun _ => XS.icmpNo A.here hx rfl (Jvm.hb hby d_jdk_65_m132_7) rfl (Jvm.Free.XT.ii_eq_f (fun q => Int32.lt_irrefl (q ▸ hni.2)))) ?_
  show oGo p e below _ (T.setTop (mkF m 10 #[.val (.ref t), .val (.int (0 : Int32)), .val (.int (Int32.ofNat i))] []))
  refine oSt (fun _ => XS.aloadN A.here hx rfl (Jvm.hb hby d_jdk_65_m132_10) rfl rfl) ?_
  show oGo p e below _ (T.setTop (mkF m 11 #[.val (.ref t), .val (.int (0 : Int32)), .val (.int (Int32.ofNat i))] [(.ref t)]))
  refine oSt (fun _ => XS.iloadN A.here hx rfl (Jvm.hb hby d_jdk_65_m132_11) rfl) ?_
  show oGo p e below _ (T.setTop (mkF m 12 #[.val (.ref t), .val (.int (0 : Int32)), .val (.int (Int32.ofNat i))] [(.int (0 : Int32)), (.ref t)]))
  refine oSt (fun _ => XS.iloadN A.here hx rfl (Jvm.hb hby d_jdk_65_m132_12) rfl) ?_
  show oGo p e below _ (T.setTop (mkF m 13 #[.val (.ref t), .val (.int (0 : Int32)), .val (.int (Int32.ofNat i))] [(.int (Int32.ofNat i)), (.int (0 : Int32)), (.ref t)]))
  obtain ⟨_, vm, T, h, L, A, K, CR, ⟨b, k', rfl, V_b⟩, st⟩ := A.callS hx (y := (⟨"java/util/Arrays", "copyOfRangeByte", "([BII)[B"⟩ : MethodName)) (hw _ (List.mem_of_getElem? (i := 202) rfl)) (hw _ (List.mem_of_getElem? (i := 203) rfl)) (hw _ (List.mem_of_getElem? (i := 159) rfl)) (hw _ (List.mem_of_getElem? (i := 204) rfl)) (by decide) hEL (argsL := [(.ref t), (.int (0 : Int32)), (.int (Int32.ofNat i))]) (rest := []) (own_cpb l Z a0 hw hEL n0 _ A.oldn t k N i vs V hv hi hN hcap) (W := 0) (by decide) (by decide) (by decide) (by decide) all0 all0 all0 (g := (mkF m 13 #[.val (.ref t), .val (.int (0 : Int32)), .val (.int (Int32.ofNat i))] [(.int (Int32.ofNat i)), (.int (0 : Int32)), (.ref t)])) rfl (by rw [hml]; rfl) (lenOf opd13 rfl) rfl (by show 2 * 0 + _ ≤ _; exact Nat.le_of_eq rfl) (Jvm.hb hby d_jdk_65_m132_13)
  refine oSt st ?_
  have X := oExt0 K
  show oGo p e below _ (T.setTop (mkF m 16 #[.val (.ref t), .val (.int (0 : Int32)), .val (.int (Int32.ofNat i))] [(.ref b)]))
  exact A.leave hlk hEL (v := some (.ref b)) (fun h => by rw [hret] at h; cases h) (fun _ _ => ⟨b, k', rfl, V_b⟩) (by decide) (by decide) (fun fs hr => retOut A.1 hx hret rfl (Or.inr (Or.inr (Or.inr (Or.inr ⟨rfl, rfl, rfl⟩)))) (Jvm.hb hby d_jdk_65_m132_16) hr)
theorem d_jdk_42_m150_0 : decode jdk_42_method_150_code 0 = .ok (.aload_n 0, 1) := by decide +kernel
theorem d_jdk_42_m150_1 : decode jdk_42_method_150_code 1 = .ok (.invokespecial 1, 3) := by decide +kernel
theorem d_jdk_42_m150_4 : decode jdk_42_method_150_code 4 = .ok (.aload_n 1, 1) := by decide +kernel
theorem d_jdk_42_m150_5 : decode jdk_42_method_150_code 5 = .ok (.invokevirtual 552, 3) := by decide +kernel
theorem d_jdk_42_m150_8 : decode jdk_42_method_150_code 8 = .ok (.astore_n 3, 1) := by decide +kernel
theorem d_jdk_42_m150_9 : decode jdk_42_method_150_code 9 = .ok (.aload_n 1, 1) := by decide +kernel
theorem d_jdk_42_m150_10 : decode jdk_42_method_150_code 10 = .ok (.invokevirtual 549, 3) := by decide +kernel
theorem d_jdk_42_m150_13 : decode jdk_42_method_150_code 13 = .ok (.istore 4, 2) := by decide +kernel
theorem d_jdk_42_m150_15 : decode jdk_42_method_150_code 15 = .ok (.aload_n 1, 1) := by decide +kernel
theorem d_jdk_42_m150_16 : decode jdk_42_method_150_code 16 = .ok (.invokevirtual 1047, 3) := by decide +kernel
theorem d_jdk_42_m150_19 : decode jdk_42_method_150_code 19 = .ok (.ifCond .eq 22, 3) := by decide +kernel
theorem d_jdk_42_m150_22 : decode jdk_42_method_150_code 22 = .ok (.aload_n 0, 1) := by decide +kernel
theorem d_jdk_42_m150_23 : decode jdk_42_method_150_code 23 = .ok (.iconst 0, 1) := by decide +kernel
theorem d_jdk_42_m150_24 : decode jdk_42_method_150_code 24 = .ok (.putfield 15, 3) := by decide +kernel
theorem d_jdk_42_m150_27 : decode jdk_42_method_150_code 27 = .ok (.aload_n 0, 1) := by decide +kernel
theorem d_jdk_42_m150_28 : decode jdk_42_method_150_code 28 = .ok (.aload_n 3, 1) := by decide +kernel
theorem d_jdk_42_m150_29 : decode jdk_42_method_150_code 29 = .ok (.iconst 0, 1) := by decide +kernel
theorem d_jdk_42_m150_30 : decode jdk_42_method_150_code 30 = .ok (.iload 4, 2) := by decide +kernel
theorem d_jdk_42_m150_32 : decode jdk_42_method_150_code 32 = .ok (.invokestatic 54, 3) := by decide +kernel
theorem d_jdk_42_m150_35 : decode jdk_42_method_150_code 35 = .ok (.putfield 9, 3) := by decide +kernel
theorem d_jdk_42_m150_38 : decode jdk_42_method_150_code 38 = .ok (.goto 59, 3) := by decide +kernel
theorem d_jdk_42_m150_41 : decode jdk_42_method_150_code 41 = .ok (.getstatic 38, 3) := by decide +kernel
theorem d_jdk_42_m150_44 : decode jdk_42_method_150_code 44 = .ok (.ifCond .eq 35, 3) := by decide +kernel
theorem d_jdk_42_m150_47 : decode jdk_42_method_150_code 47 = .ok (.aload_n 1, 1) := by decide +kernel
theorem d_jdk_42_m150_48 : decode jdk_42_method_150_code 48 = .ok (.getfield 1048, 3) := by decide +kernel
theorem d_jdk_42_m150_51 : decode jdk_42_method_150_code 51 = .ok (.ifCond .eq 28, 3) := by decide +kernel
theorem d_jdk_42_m150_54 : decode jdk_42_method_150_code 54 = .ok (.aload_n 0, 1) := by decide +kernel
theorem d_jdk_42_m150_55 : decode jdk_42_method_150_code 55 = .ok (.aload_n 3, 1) := by decide +kernel
theorem d_jdk_42_m150_56 : decode jdk_42_method_150_code 56 = .ok (.iconst 0, 1) := by decide +kernel
theorem d_jdk_42_m150_57 : decode jdk_42_method_150_code 57 = .ok (.iload 4, 2) := by decide +kernel
theorem d_jdk_42_m150_59 : decode jdk_42_method_150_code 59 = .ok (.invokestatic 1051, 3) := by decide +kernel
theorem d_jdk_42_m150_62 : decode jdk_42_method_150_code 62 = .ok (.putfield 9, 3) := by decide +kernel
theorem d_jdk_42_m150_65 : decode jdk_42_method_150_code 65 = .ok (.aload_n 0, 1) := by decide +kernel
theorem d_jdk_42_m150_66 : decode jdk_42_method_150_code 66 = .ok (.aload_n 0, 1) := by decide +kernel
theorem d_jdk_42_m150_67 : decode jdk_42_method_150_code 67 = .ok (.getfield 9, 3) := by decide +kernel
theorem d_jdk_42_m150_70 : decode jdk_42_method_150_code 70 = .ok (.iload 4, 2) := by decide +kernel
theorem d_jdk_42_m150_72 : decode jdk_42_method_150_code 72 = .ok (.invokestatic 47, 3) := by decide +kernel
theorem d_jdk_42_m150_75 : decode jdk_42_method_150_code 75 = .ok (.putfield 15, 3) := by decide +kernel
theorem d_jdk_42_m150_78 : decode jdk_42_method_150_code 78 = .ok (.return_, 1) := by decide +kernel
theorem d_jdk_42_m150_79 : decode jdk_42_method_150_code 79 = .ok (.aload_n 0, 1) := by decide +kernel
theorem d_jdk_42_m150_80 : decode jdk_42_method_150_code 80 = .ok (.iconst 1, 1) := by decide +kernel
theorem d_jdk_42_m150_81 : decode jdk_42_method_150_code 81 = .ok (.putfield 15, 3) := by decide +kernel
theorem d_jdk_42_m150_84 : decode jdk_42_method_150_code 84 = .ok (.aload_n 0, 1) := by decide +kernel
theorem d_jdk_42_m150_85 : decode jdk_42_method_150_code 85 = .ok (.aload_n 3, 1) := by decide +kernel
theorem d_jdk_42_m150_86 : decode jdk_42_method_150_code 86 = .ok (.iconst 0, 1) := by decide +kernel
theorem d_jdk_42_m150_87 : decode jdk_42_method_150_code 87 = .ok (.iload 4, 2) := by decide +kernel
theorem d_jdk_42_m150_89 : decode jdk_42_method_150_code 89 = .ok (.iconst 1, 1) := by decide +kernel
theorem d_jdk_42_m150_90 : decode jdk_42_method_150_code 90 = .ok (.ishl, 1) := by decide +kernel
theorem d_jdk_42_m150_91 : decode jdk_42_method_150_code 91 = .ok (.invokestatic 54, 3) := by decide +kernel
theorem d_jdk_42_m150_94 : decode jdk_42_method_150_code 94 = .ok (.putfield 9, 3) := by decide +kernel
theorem d_jdk_42_m150_97 : decode jdk_42_method_150_code 97 = .ok (.return_, 1) := by decide +kernel
theorem opd14 : parseMethodDescriptor "()[B" = some ⟨[], some (.array .byte)⟩ := by decide +kernel
theorem opd15 : parseMethodDescriptor "()Z" = some ⟨[], some .boolean⟩ := by decide +kernel
theorem opn_own_sb2 : plainFor (⟨"java/lang/String", "<init>", "(Ljava/lang/AbstractStringBuilder;Ljava/lang/Void;)V"⟩ : MethodName) = true := plainFor_of_name (by first | (simp [plainName, overriddenIn]; done) | decide +kernel)
set_option maxRecDepth 65536 in
set_option maxHeartbeats 40000000 in
theorem own_sb2 (l : Launch) (Z : State) (a0 : Array Value) (hw : ∀ d ∈ tables_1, d.before a0 Z = true) (hEL : EW Z a0 consts_1) (n0 : Nat) (h : Heap) (hO : Old Z n0 h) (y : Addr) (v0 c0 : Value) (x t : Addr) (k : ClassId) (N : Nat) (cs : List Int32) (zc : Int32) (hcs : Sta Z Z.heap "java/lang/String" "COMPACT_STRINGS" "Z" (.int zc)) (hcz : ¬ zc = 0) (E_y : Exa Z h y "java/lang/String") (F_value_y : Fld Z h y "java/lang/String" "value" "[B" v0) (F_coder_y : Fld Z h y "java/lang/String" "coder" "B" c0) (n0_y : n0 ≤ y) (S : own_SB Z h x t k N cs) (hlt : cs.length < N) (hcap : cs.length ≤ 52) :
    oMet l Z consts_1 n0 (⟨"java/lang/String", "<init>", "(Ljava/lang/AbstractStringBuilder;Ljava/lang/Void;)V"⟩ : MethodName) jdk_42_method_150_code 5 none [] ({ frames := 3, cells := 1, slots := 52, locals := 62 } : Room) #[(.ref y), (.ref x), .null] h [y] (fun v _ h => v = none ∧ oStr Z h y cs) := by
  refine oMet.of opn_own_sb2 hO ?_
  intro p e s m below meth c T hx hby hml hret hnm hlk hh hsf A
  have hml : c.maxLocals = 5 := hml
  refine oCast (g' := mkF m 0 #[.val (.ref y), .val (.ref x), .val .null, .unset, .unset] []) (by first | (simp [entryFrame, mkF, argsToLocals, Value.category]; done) | rfl) ?_
  have S_y := hsf y (List.mem_cons_self ..)
  obtain ⟨b1, b2, b3, E_x, F_v, F_c, F_n, V_t⟩ := id S
  have hyx : y ≠ x := E_y.ne E_x (by decide)
  have hyt : y ≠ t := E_y.neArv V_t (hw _ (List.mem_of_getElem? (i := 10) rfl))
  show oGo p e below _ (T.setTop (mkF m 0 #[.val (.ref y), .val (.ref x), .val .null, .unset, .unset] []))
  refine oSt (fun _ => XS.aloadN A.here hx rfl (Jvm.hb hby d_jdk_42_m150_0) rfl rfl) ?_
  show oGo p e below _ (T.setTop (mkF m 1 #[.val (.ref y), .val (.ref x), .val .null, .unset, .unset] [(.ref y)]))
  obtain ⟨T, A, st⟩ := A.initO hx (hw _ (List.mem_of_getElem? (i := 19) rfl)) (hw _ (List.mem_of_getElem? (i := 20) rfl)) (hw _ (List.mem_of_getElem? (i := 21) rfl)) (g := (mkF m 1 #[.val (.ref y), .val (.ref x), .val .null, .unset, .unset] [(.ref y)])) rfl (by rw [hml]; rfl) rfl (Jvm.hb hby d_jdk_42_m150_1) (by decide) (W := 0) (by show 2 * 0 + _ ≤ _; exact Nat.le_of_eq rfl) (by decide)
  refine oSt st ?_
  show oGo p e below _ (T.setTop (mkF m 4 #[.val (.ref y), .val (.ref x), .val .null, .unset, .unset] []))
  refine oSt (fun _ => XS.aloadN A.here hx rfl (Jvm.hb hby d_jdk_42_m150_4) rfl rfl) ?_
  show oGo p e below _ (T.setTop (mkF m 5 #[.val (.ref y), .val (.ref x), .val .null, .unset, .unset] [(.ref x)]))
  obtain ⟨_, vm, T, h, L, A, K, CR, ⟨rfl, rfl⟩, st⟩ := A.callV hx (y := (⟨"java/lang/AbstractStringBuilder", "getValue", "()[B"⟩ : MethodName)) (z := (⟨"java/lang/AbstractStringBuilder", "getValue", "()[B"⟩ : MethodName)) (hw _ (List.mem_of_getElem? (i := 181) rfl)) (hw _ (List.mem_of_getElem? (i := 182) rfl)) (A.nf (hw _ (List.mem_of_getElem? (i := 184) rfl))) (hw _ (List.mem_of_getElem? (i := 184) rfl)) (hw _ (List.mem_of_getElem? (i := 183) rfl)) (hw _ (List.mem_of_getElem? (i := 83) rfl)) (hw _ (List.mem_of_getElem? (i := 185) rfl)) (by decide) hEL (a := x) (argsL := []) (rest := []) (own_gv l Z a0 hw hEL n0 _ A.oldn x t k N cs S) E_x (W := 0) (by decide) (by decide) (by decide) (by decide) all0 all0 all0 (g := (mkF m 5 #[.val (.ref y), .val (.ref x), .val .null, .unset, .unset] [(.ref x)])) rfl (by rw [hml]; rfl) (lenOf opd14 rfl) rfl (by show 2 * 0 + _ ≤ _; exact Nat.le_of_eq rfl) (Jvm.hb hby d_jdk_42_m150_5)
  refine oSt st ?_
  have X := oExt0 K
  show oGo p e below _ (T.setTop (mkF m 8 #[.val (.ref y), .val (.ref x), .val .null, .unset, .unset] [(.ref t)]))
  have S_y := CR.safe E_y.lt S_y
  refine oSt (fun _ => XS.astoreN A.here hx rfl (Jvm.hb hby d_jdk_42_m150_8) rfl rfl (l' := #[.val (.ref y), .val (.ref x), .val .null, .val (.ref t), .unset]) rfl) ?_
  show oGo p e below _ (T.setTop (mkF m 9 #[.val (.ref y), .val (.ref x), .val .null, .val (.ref t), .unset] []))
  refine oSt (fun _ => XS.aloadN A.here hx rfl (Jvm.hb hby d_jdk_42_m150_9) rfl rfl) ?_
  show oGo p e below _ (T.setTop (mkF m 10 #[.val (.ref y), .val (.ref x), .val .null, .val (.ref t), .unset] [(.ref x)]))
  obtain ⟨_, vm, T, h, L, A, K, CR, ⟨rfl, rfl⟩, st⟩ := A.callV hx (y := (⟨"java/lang/AbstractStringBuilder", "length", "()I"⟩ : MethodName)) (z := (⟨"java/lang/StringBuilder", "length", "()I"⟩ : MethodName)) (hw _ (List.mem_of_getElem? (i := 186) rfl)) (hw _ (List.mem_of_getElem? (i := 187) rfl)) (A.nf2 (y' := (⟨"java/lang/AbstractStringBuilder", "ensureCapacityInternal", "(I)V"⟩ : MethodName)) (hw _ (List.mem_of_getElem? (i := 119) rfl)) rfl) (hw _ (List.mem_of_getElem? (i := 189) rfl)) (hw _ (List.mem_of_getElem? (i := 190) rfl)) (hw _ (List.mem_of_getElem? (i := 75) rfl)) (hw _ (List.mem_of_getElem? (i := 191) rfl)) (by decide) hEL (a := x) (argsL := []) (rest := []) (own_sbl l Z a0 hw hEL n0 _ A.oldn x t k N cs S) E_x (W := 0) (by decide) (by decide) (by decide) (by decide) all0 all0 all0 (g := (mkF m 10 #[.val (.ref y), .val (.ref x), .val .null, .val (.ref t), .unset] [(.ref x)])) rfl (by rw [hml]; rfl) (lenOf opd10 rfl) rfl (by show 2 * 0 + _ ≤ _; exact Nat.le_of_eq rfl) (Jvm.hb hby d_jdk_42_m150_10)
  refine oSt st ?_
  have X := oExt0 K
  show oGo p e below _ (T.setTop (mkF m 13 #[.val (.ref y), .val (.ref x), .val .null, .val (.ref t), .unset] [(.int (Int32.ofNat cs.length))]))
  have S_y := CR.safe E_y.lt S_y
  refine oSt (fun _ => XS.istore A.here hx rfl (Jvm.hb hby d_jdk_42_m150_13) rfl (l' := #[.val (.ref y), .val (.ref x), .val .null, .val (.ref t), .val (.int (Int32.ofNat cs.length))]) rfl) ?_
  show oGo p e below _ (T.setTop (mkF m 15 #[.val (.ref y), .val (.ref x), .val .null, .val (.ref t), .val (.int (Int32.ofNat cs.length))] []))
  refine oSt (fun _ => XS.aloadN A.here hx rfl (Jvm.hb hby d_jdk_42_m150_15) rfl rfl) ?_
  show oGo p e below _ (T.setTop (mkF m 16 #[.val (.ref y), .val (.ref x), .val .null, .val (.ref t), .val (.int (Int32.ofNat cs.length))] [(.ref x)]))
  obtain ⟨_, vm, T, h, L, A, K, CR, ⟨rfl, rfl⟩, st⟩ := A.callV hx (y := (⟨"java/lang/AbstractStringBuilder", "isLatin1", "()Z"⟩ : MethodName)) (z := (⟨"java/lang/AbstractStringBuilder", "isLatin1", "()Z"⟩ : MethodName)) (hw _ (List.mem_of_getElem? (i := 194) rfl)) (hw _ (List.mem_of_getElem? (i := 195) rfl)) (A.nf (hw _ (List.mem_of_getElem? (i := 197) rfl))) (hw _ (List.mem_of_getElem? (i := 197) rfl)) (hw _ (List.mem_of_getElem? (i := 196) rfl)) (hw _ (List.mem_of_getElem? (i := 83) rfl)) (hw _ (List.mem_of_getElem? (i := 198) rfl)) (by decide) hEL (a := x) (argsL := []) (rest := []) (own_asi l Z a0 hw hEL n0 _ A.oldn x t k N cs zc hcs hcz S) E_x (W := 0) (by decide) (by decide) (by decide) (by decide) all0 all0 all0 (g := (mkF m 16 #[.val (.ref y), .val (.ref x), .val .null, .val (.ref t), .val (.int (Int32.ofNat cs.length))] [(.ref x)])) rfl (by rw [hml]; rfl) (lenOf opd15 rfl) rfl (by show 2 * 0 + _ ≤ _; exact Nat.le_of_eq rfl) (Jvm.hb hby d_jdk_42_m150_16)
  refine oSt st ?_
  have X := oExt0 K
  show oGo p e below _ (T.setTop (mkF m 19 #[.val (.ref y), .val (.ref x), .val .null, .val (.ref t), .val (.int (Int32.ofNat cs.length))] [(.int (1 : Int32))]))
  have S_y := CR.safe E_y.lt S_y
  refine oSt (fun _ => XS.ifNo A.here hx rfl (Jvm.hb hby d_jdk_42_m150_19) rfl (Jvm.Free.XT.i0_eq_f (by decide))) ?_
  show oGo p e below _ (T.setTop (mkF m 22 #[.val (.ref y), .val (.ref x), .val .null, .val (.ref t), .val (.int (Int32.ofNat cs.length))] []))
  refine oSt (fun _ => XS.aloadN A.here hx rfl (Jvm.hb hby d_jdk_42_m150_22) rfl rfl) ?_
  show oGo p e below _ (T.setTop (mkF m 23 #[.val (.ref y), .val (.ref x), .val .null, .val (.ref t), .val (.int (Int32.ofNat cs.length))] [(.ref y)]))
  refine oSt (fun _ => XS.iconst A.here hx rfl (Jvm.hb hby d_jdk_42_m150_23)) ?_
  show oGo p e below _ (T.setTop (mkF m 24 #[.val (.ref y), .val (.ref x), .val .null, .val (.ref t), .val (.int (Int32.ofNat cs.length))] [(.int (0 : Int32)), (.ref y)]))
  have CH := A.ch
  obtain ⟨T, h, A, W, st⟩ := A.putF hx (host := "") (Or.inl (hw _ (List.mem_of_getElem? (i := 24) rfl))) Via.refl F_coder_y E_y (Or.inr ⟨(hw _ (List.mem_of_getElem? (i := 25) rfl)), rfl, hnm⟩) (hw _ (List.mem_of_getElem? (i := 10) rfl)) (ty := .byte) (by decide) rfl rfl n0_y (Or.inl (List.mem_cons_self ..)) S_y (g := (mkF m 24 #[.val (.ref y), .val (.ref x), .val .null, .val (.ref t), .val (.int (Int32.ofNat cs.length))] [(.int (0 : Int32)), (.ref y)])) rfl rfl (Jvm.hb hby d_jdk_42_m150_24)
  refine oSt st ?_
  show oGo p e below _ (T.setTop (mkF m 27 #[.val (.ref y), .val (.ref x), .val .null, .val (.ref t), .val (.int (Int32.ofNat cs.length))] []))
  have V_t := V_t.other W (Ne.symm hyt)
  have E_y := E_y.wr W
  have S_y := Safe.wr W S_y CH S_y
  have F_value_y := F_value_y.other W (Or.inr (slot_ne (Or.inr (hw _ (List.mem_of_getElem? (i := 23) rfl))) (Or.inr (hw _ (List.mem_of_getElem? (i := 25) rfl))) (by decide) (t := (.array .byte)) (t' := .byte) (by decide) (by decide)))
  have F_coder_y := F_coder_y.same W
  refine oSt (fun _ => XS.aloadN A.here hx rfl (Jvm.hb hby d_jdk_42_m150_27) rfl rfl) ?_
  show oGo p e below _ (T.setTop (mkF m 28 #[.val (.ref y), .val (.ref x), .val .null, .val (.ref t), .val (.int (Int32.ofNat cs.length))] [(.ref y)]))
  refine oSt (fun _ => XS.aloadN A.here hx rfl (Jvm.hb hby d_jdk_42_m150_28) rfl rfl) ?_
  show oGo p e below _ (T.setTop (mkF m 29 #[.val (.ref y), .val (.ref x), .val .null, .val (.ref t), .val (.int (Int32.ofNat cs.length))] [(.ref t), (.ref y)]))
  refine oSt (fun _ => XS.iconst A.here hx rfl (Jvm.hb hby d_jdk_42_m150_29)) ?_
  show oGo p e below _ (T.setTop (mkF m 30 #[.val (.ref y), .val (.ref x), .val .null, .val (.ref t), .val (.int (Int32.ofNat cs.length))] [(.int (0 : Int32)), (.ref t), (.ref y)]))
  refine oSt (fun _ => XS.iload A.here hx rfl (Jvm.hb hby d_jdk_42_m150_30) rfl) ?_
  show oGo p e below _ (T.setTop (mkF m 32 #[.val (.ref y), .val (.ref x), .val .null, .val (.ref t), .val (.int (Int32.ofNat cs.length))] [(.int (Int32.ofNat cs.length)), (.int (0 : Int32)), (.ref t), (.ref y)]))
  have ly := E_y.lt
  obtain ⟨_, vm, T, h, L, A, K, CR, ⟨b, k', rfl, V_b⟩, st⟩ := A.callS hx (y := (⟨"java/util/Arrays", "copyOfRange", "([BII)[B"⟩ : MethodName)) (hw _ (List.mem_of_getElem? (i := 199) rfl)) (hw _ (List.mem_of_getElem? (i := 200) rfl)) (hw _ (List.mem_of_getElem? (i := 159) rfl)) (hw _ (List.mem_of_getElem? (i := 201) rfl)) (by decide) hEL (argsL := [(.ref t), (.int (0 : Int32)), (.int (Int32.ofNat cs.length))]) (rest := [(.ref y)]) (own_cpr l Z a0 hw hEL n0 _ A.oldn t k N cs.length (own_buf N cs) V_t (own_bufL b2) hlt b3 hcap) (W := 1) (by decide) (by decide) (by decide) (by decide) all0 all0 all0 (g := (mkF m 32 #[.val (.ref y), .val (.ref x), .val .null, .val (.ref t), .val (.int (Int32.ofNat cs.length))] [(.int (Int32.ofNat cs.length)), (.int (0 : Int32)), (.ref t), (.ref y)])) rfl (by rw [hml]; rfl) (lenOf opd13 rfl) rfl (by show 2 * 0 + _ ≤ _; exact Nat.le_of_eq rfl) (Jvm.hb hby d_jdk_42_m150_32)
  refine oSt st ?_
  have X := oExt0 K
  have E_y := E_y.ext X
  have F_value_y := F_value_y.ext X
  have F_coder_y := F_coder_y.ext X
  show oGo p e below _ (T.setTop (mkF m 35 #[.val (.ref y), .val (.ref x), .val .null, .val (.ref t), .val (.int (Int32.ofNat cs.length))] [(.ref b), (.ref y)]))
  have S_y := CR.safe ly S_y
  have hyb : y ≠ b := E_y.neArv V_b (hw _ (List.mem_of_getElem? (i := 10) rfl))
  obtain ⟨T, h, A, W2, st⟩ := A.putF hx (host := "") (Or.inl (hw _ (List.mem_of_getElem? (i := 22) rfl))) Via.refl F_value_y E_y (Or.inr ⟨(hw _ (List.mem_of_getElem? (i := 23) rfl)), rfl, hnm⟩) (hw _ (List.mem_of_getElem? (i := 10) rfl)) (ty := (.array .byte)) (by decide) rfl rfl n0_y (Or.inl (List.mem_cons_self ..)) S_y (g := (mkF m 35 #[.val (.ref y), .val (.ref x), .val .null, .val (.ref t), .val (.int (Int32.ofNat cs.length))] [(.ref b), (.ref y)])) rfl rfl (Jvm.hb hby d_jdk_42_m150_35)
  refine oSt st ?_
  show oGo p e below _ (T.setTop (mkF m 38 #[.val (.ref y), .val (.ref x), .val .null, .val (.ref t), .val (.int (Int32.ofNat cs.length))] []))
  have V_b := V_b.other W2 (Ne.symm hyb)
  have E_y := E_y.wr W2
  have F_coder_y := F_coder_y.other W2 (Or.inr (slot_ne (Or.inr (hw _ (List.mem_of_getElem? (i := 25) rfl))) (Or.inr (hw _ (List.mem_of_getElem? (i := 23) rfl))) (by decide) (t := .byte) (t' := (.array .byte)) (by decide) (by decide)))
  have F_value_y := F_value_y.same W2
  rw [own_bufT] at V_b
  refine oSt (fun _ => XS.goto A.here hx rfl (pc0 := 38) (pc' := 97) rfl (Jvm.hb hby d_jdk_42_m150_38) (by decide) (by decide)) ?_
  show oGo p e below _ (T.setTop (mkF m 97 #[.val (.ref y), .val (.ref x), .val .null, .val (.ref t), .val (.int (Int32.ofNat cs.length))] []))
  exact A.leave hlk hEL (v := none) (fun _ => rfl) (fun _ _ => ⟨rfl, b1, by omega, b, k', E_y, F_value_y, F_coder_y, V_b⟩) (by decide) (by decide) (fun fs hr => A.1.returnOut hx hret (Jvm.hb hby d_jdk_42_m150_97) hr)
theorem d_jdk_42_m53_0 : decode jdk_42_method_53_code 0 = .ok (.aload_n 0, 1) := by decide +kernel
theorem d_jdk_42_m53_1 : decode jdk_42_method_53_code 1 = .ok (.aload_n 1, 1) := by decide +kernel
theorem d_jdk_42_m53_2 : decode jdk_42_method_53_code 2 = .ok (.aconst_null, 1) := by decide +kernel
theorem d_jdk_42_m53_3 : decode jdk_42_method_53_code 3 = .ok (.invokespecial 489, 3) := by decide +kernel
theorem d_jdk_42_m53_6 : decode jdk_42_method_53_code 6 = .ok (.return_, 1) := by decide +kernel
theorem opd16 : parseMethodDescriptor "(Ljava/lang/AbstractStringBuilder;Ljava/lang/Void;)V" = some ⟨[(.object "java/lang/AbstractStringBuilder"), (.object "java/lang/Void")], none⟩ := by decide +kernel
theorem opn_own_sb1 : plainFor (⟨"java/lang/String", "<init>", "(Ljava/lang/StringBuilder;)V"⟩ : MethodName) = true := plainFor_of_name (by first | (simp [plainName, overriddenIn]; done) | decide +kernel)
set_option maxRecDepth 65536 in
set_option maxHeartbeats 40000000 in
theorem own_sb1 (l : Launch) (Z : State) (a0 : Array Value) (hw : ∀ d ∈ tables_1, d.before a0 Z = true) (hEL : EW Z a0 consts_1) (n0 : Nat) (h : Heap) (hO : Old Z n0 h) (y : Addr) (v0 c0 : Value) (x t : Addr) (k : ClassId) (N : Nat) (cs : List Int32) (zc : Int32) (hcs : Sta Z Z.heap "java/lang/String" "COMPACT_STRINGS" "Z" (.int zc)) (hcz : ¬ zc = 0) (E_y : Exa Z h y "java/lang/String") (F_value_y : Fld Z h y "java/lang/String" "value" "[B" v0) (F_coder_y : Fld Z h y "java/lang/String" "coder" "B" c0) (n0_y : n0 ≤ y) (S : own_SB Z h x t k N cs) (hlt : cs.length < N) (hcap : cs.length ≤ 52) :
    oMet l Z consts_1 n0 (⟨"java/lang/String", "<init>", "(Ljava/lang/StringBuilder;)V"⟩ : MethodName) jdk_42_method_53_code 2 none [] ({ frames := 4, cells := 1, slots := 52, locals := 78 } : Room) #[(.ref y), (.ref x)] h [y] (fun v _ h => v = none ∧ oStr Z h y cs) := by
  refine oMet.of opn_own_sb1 hO ?_
  intro p e s m below meth c T hx hby hml hret hnm hlk hh hsf A
  have hml : c.maxLocals = 2 := hml
  refine oCast (g' := mkF m 0 #[.val (.ref y), .val (.ref x)] []) (by first | (simp [entryFrame, mkF, argsToLocals, Value.category]; done) | rfl) ?_
  show oGo p e below _ (T.setTop (mkF m 0 #[.val (.ref y), .val (.ref x)] []))
  refine oSt (fun _ => XS.aloadN A.here hx rfl (Jvm.hb hby d_jdk_42_m53_0) rfl rfl) ?_
  show oGo p e below _ (T.setTop (mkF m 1 #[.val (.ref y), .val (.ref x)] [(.ref y)]))
  refine oSt (fun _ => XS.aloadN A.here hx rfl (Jvm.hb hby d_jdk_42_m53_1) rfl rfl) ?_
  show oGo p e below _ (T.setTop (mkF m 2 #[.val (.ref y), .val (.ref x)] [(.ref x), (.ref y)]))
  refine oSt (fun _ => XS.aconstNull A.here hx rfl (Jvm.hb hby d_jdk_42_m53_2)) ?_
  show oGo p e below _ (T.setTop (mkF m 3 #[.val (.ref y), .val (.ref x)] [.null, (.ref x), (.ref y)]))
  obtain ⟨_, vm, T, h, L, A, K, CR, ⟨rfl, Q⟩, st⟩ := A.callN hx (y := (⟨"java/lang/String", "<init>", "(Ljava/lang/AbstractStringBuilder;Ljava/lang/Void;)V"⟩ : MethodName)) rfl (hw _ (List.mem_of_getElem? (i := 178) rfl)) (hw _ (List.mem_of_getElem? (i := 179) rfl)) (hw _ (List.mem_of_getElem? (i := 2) rfl)) (hw _ (List.mem_of_getElem? (i := 180) rfl)) (by decide) hEL (a := y) (argsL := [(.ref x), .null]) (rest := []) (own_sb2 l Z a0 hw hEL n0 _ A.oldn y v0 c0 x t k N cs zc hcs hcz E_y F_value_y F_coder_y n0_y S hlt hcap) (W := 0) (by decide) (by decide) (by decide) (by decide) (oIn1 n0_y) (oIn1 (Or.inl (List.mem_cons_self ..))) hsf (g := (mkF m 3 #[.val (.ref y), .val (.ref x)] [.null, (.ref x), (.ref y)])) rfl (by rw [hml]; rfl) (lenOf opd16 rfl) rfl (by show 2 * 0 + _ ≤ _; exact Nat.le_of_eq rfl) (Jvm.hb hby d_jdk_42_m53_3)
  refine oSt st ?_
  show oGo p e below _ (T.setTop (mkF m 6 #[.val (.ref y), .val (.ref x)] []))
  exact A.leave hlk hEL (v := none) (fun _ => rfl) (fun _ _ => ⟨rfl, Q⟩) (by decide) (by decide) (fun fs hr => A.1.returnOut hx hret (Jvm.hb hby d_jdk_42_m53_6) hr)
theorem d_jdk_67_m42_0 : decode jdk_67_method_42_code 0 = .ok (.new 18, 3) := by decide +kernel
theorem d_jdk_67_m42_3 : decode jdk_67_method_42_code 3 = .ok (.dup, 1) := by decide +kernel
theorem d_jdk_67_m42_4 : decode jdk_67_method_42_code 4 = .ok (.aload_n 0, 1) := by decide +kernel
theorem d_jdk_67_m42_5 : decode jdk_67_method_42_code 5 = .ok (.invokespecial 137, 3) := by decide +kernel
theorem d_jdk_67_m42_8 : decode jdk_67_method_42_code 8 = .ok (.areturn, 1) := by decide +kernel
theorem opd17 : parseMethodDescriptor "(Ljava/lang/StringBuilder;)V" = some ⟨[(.object "java/lang/StringBuilder")], none⟩ := by decide +kernel
theorem opn_own_sts : plainFor (⟨"java/lang/StringBuilder", "toString", "()Ljava/lang/String;"⟩ : MethodName) = true := plainFor_of_name (by first | (simp [plainName, overriddenIn]; done) | decide +kernel)
set_option maxRecDepth 65536 in
set_option maxHeartbeats 40000000 in
theorem own_sts (l : Launch) (Z : State) (a0 : Array Value) (hw : ∀ d ∈ tables_1, d.before a0 Z = true) (hEL : EW Z a0 consts_1) (n0 : Nat) (h : Heap) (hO : Old Z n0 h) (x t : Addr) (k : ClassId) (N : Nat) (cs : List Int32) (zc : Int32) (hcs : Sta Z Z.heap "java/lang/String" "COMPACT_STRINGS" "Z" (.int zc)) (hcz : ¬ zc = 0) (S : own_SB Z h x t k N cs) (hlt : cs.length < N) (hcap : cs.length ≤ 52) :
    oMet l Z consts_1 n0 (⟨"java/lang/StringBuilder", "toString", "()Ljava/lang/String;"⟩ : MethodName) jdk_67_method_42_code 1 (some (.object "java/lang/String")) [] ({ frames := 5, cells := 2, slots := 56, locals := 92 } : Room) #[(.ref x)] h [] (fun v _ h => ∃ y, v = some (.ref y) ∧ oStr Z h y cs) := by
  refine oMet.of opn_own_sts hO ?_
  intro p e s m below meth c T hx hby hml hret hnm hlk hh hsf A
  have hml : c.maxLocals = 1 := hml
  refine oCast (g' := mkF m 0 #[.val (.ref x)] []) (by first | (simp [entryFrame, mkF, argsToLocals, Value.category]; done) | rfl) ?_
  show oGo p e below _ (T.setTop (mkF m 0 #[.val (.ref x)] []))
  obtain ⟨T, h, y, g_y, lt_y, n0_y, s_y, A, E, E_y, S_y, D_y, st⟩ := A.newO hx (hw _ (List.mem_of_getElem? (i := 174) rfl)) (hw _ (List.mem_of_getElem? (i := 10) rfl)) (hw _ (List.mem_of_getElem? (i := 2) rfl)) (g := (mkF m 0 #[.val (.ref x)] [])) rfl (Jvm.hb hby d_jdk_67_m42_0) (by decide) (by decide)
  refine oSt st ?_
  show oGo p e below _ (T.setTop (mkF m 3 #[.val (.ref x)] [(.ref y)]))
  have F_value_y : Fld Z h y "java/lang/String" "value" "[B" .null := D_y (Or.inr (hw _ (List.mem_of_getElem? (i := 23) rfl))) (ty := (.array .byte)) (by decide)
  have F_coder_y : Fld Z h y "java/lang/String" "coder" "B" (.int (0 : Int32)) := D_y (Or.inr (hw _ (List.mem_of_getElem? (i := 25) rfl))) (ty := .byte) (by decide)
  have S := S.ext E
  refine oSt (fun _ => XS.dup A.here hx rfl (Jvm.hb hby d_jdk_67_m42_3) rfl rfl) ?_
  show oGo p e below _ (T.setTop (mkF m 4 #[.val (.ref x)] [(.ref y), (.ref y)]))
  refine oSt (fun _ => XS.aloadN A.here hx rfl (Jvm.hb hby d_jdk_67_m42_4) rfl rfl) ?_
  show oGo p e below _ (T.setTop (mkF m 5 #[.val (.ref x)] [(.ref x), (.ref y), (.ref y)]))
  obtain ⟨_, vm, T, h, L, A, K, CR, ⟨rfl, Q⟩, st⟩ := A.callN hx (y := (⟨"java/lang/String", "<init>", "(Ljava/lang/StringBuilder;)V"⟩ : MethodName)) rfl (hw _ (List.mem_of_getElem? (i := 175) rfl)) (hw _ (List.mem_of_getElem? (i := 176) rfl)) (hw _ (List.mem_of_getElem? (i := 2) rfl)) (hw _ (List.mem_of_getElem? (i := 177) rfl)) (by decide) hEL (a := y) (argsL := [(.ref x)]) (rest := [(.ref y)]) (own_sb1 l Z a0 hw hEL n0 _ A.oldn y _ _ x t k N cs zc hcs hcz E_y F_value_y F_coder_y n0_y S hlt hcap) (W := 1) (by decide) (by decide) (by decide) (by decide) (oIn1 n0_y) (oIn1 (Or.inr s_y)) (oIn1 S_y) (g := (mkF m 5 #[.val (.ref x)] [(.ref x), (.ref y), (.ref y)])) rfl (by rw [hml]; rfl) (lenOf opd17 rfl) rfl (by show 2 * 0 + _ ≤ _; exact Nat.le_of_eq rfl) (Jvm.hb hby d_jdk_67_m42_5)
  refine oSt st ?_
  show oGo p e below _ (T.setTop (mkF m 8 #[.val (.ref x)] [(.ref y)]))
  exact A.leave hlk hEL (v := some (.ref y)) (fun h => by rw [hret] at h; cases h) (fun _ _ => ⟨y, rfl, Q⟩) (by decide) (by decide) (fun fs hr => retOut A.1 hx hret rfl (Or.inr (Or.inr (Or.inr (Or.inr ⟨rfl, rfl, rfl⟩)))) (Jvm.hb hby d_jdk_67_m42_8) hr)
def own_G (N : Nat) : Prop := N = 16 ∨ N = 34 ∨ N = 70
theorem own_frs {a t t' n : Nat} (h : t' = t ∨ n ≤ t') (h1 : a ≤ t) (h2 : a ≤ n) : a ≤ t' := by
  rcases h with rfl | h
  · exact h1
  · exact Nat.le_trans h2 h
theorem own_G.up {N M : Nat} (h : own_G N) (h1 : N < M) (h2 : M ≤ 52) (h3 : M ≤ N + 12) : own_G (2 * N + 2) ∧ M ≤ 2 * N + 2 ∧ 2 * N + 2 ≤ 70 ∧ M < 2 * N + 2 ∧ 16 ≤ N := by
  rcases h with rfl | rfl | rfl
  · refine ⟨Or.inr (Or.inl rfl), ?_⟩; omega
  · refine ⟨Or.inr (Or.inr rfl), ?_⟩; omega
  · omega
theorem own_ecg {M N : Nat} (h : N < M) (hM : M ≤ 4000) : (0 : Int32) < Int32.ofNat M - Int32.ofNat N := by
  rw [Int32.lt_iff_toInt_lt, Int32.toInt_sub, Int32.toInt_ofNat_small (by omega), Int32.toInt_ofNat_small (by omega), Int.bmod_eq_of_le (by omega) (by omega)]
  have e : (0 : Int32).toInt = 0 := rfl
  omega
theorem own_sbn {M N : Nat} (h : N ≤ M) (hM : M ≤ 4000) : Int32.ofNat M - Int32.ofNat N = Int32.ofNat (M - N) := by
  apply Int32.toInt_inj.mp
  rw [Int32.toInt_sub, Int32.toInt_ofNat_small (by omega), Int32.toInt_ofNat_small (by omega), Int32.toInt_ofNat_small (by omega), Int.bmod_eq_of_le (by omega) (by omega)]
  omega
theorem own_ltN {a b : Nat} (h : a < b) (hb : b ≤ 4000) : Int32.ofNat a < Int32.ofNat b := (own_nl h hb).2
theorem own_geN {a b : Nat} (h : a ≤ b) (hb : b ≤ 4000) : ¬ Int32.ofNat b < Int32.ofNat a := by
  rw [Int32.lt_iff_toInt_lt, Int32.toInt_ofNat_small (by omega), Int32.toInt_ofNat_small (by omega)]
  omega
theorem own_neN {a b : Nat} (h : a ≠ b) (ha : a ≤ 4000) (hb : b ≤ 4000) : ¬ Int32.ofNat a = Int32.ofNat b := fun q => h (by
  have q2 := congrArg Int32.toNatClampNeg q
  rw [own_n32 ha, own_n32 hb] at q2
  exact q2)
theorem own_bufG {N N2 : Nat} {cs : List Int32} (h : cs.length ≤ N) (h2 : N ≤ N2) : own_buf N cs ++ List.replicate (N2 - N) (.int (0 : Int32)) = own_buf N2 cs := by
  unfold own_buf
  rw [List.append_assoc, List.replicate_append_replicate]
  congr 2
  omega
theorem own_bufS {N : Nat} {cs : List Int32} {c : Int32} (h : cs.length < N) : (own_buf N cs).set cs.length (.int c.toInt8.toInt32) = own_buf N (cs ++ [c]) := by
  unfold own_buf
  obtain ⟨d, hd⟩ : ∃ d, N - cs.length = d + 1 := ⟨N - cs.length - 1, by omega⟩
  have e2 : N - (cs ++ [c]).length = d := by simp; omega
  rw [hd, e2, List.replicate_succ, ← own_byL cs, List.set_append_right _ _ (Nat.le_refl _), Nat.sub_self, List.set_cons_zero]
  simp [own_by]
theorem d_jdk_29_m65_0 : decode jdk_29_method_65_code 0 = .ok (.iload_n 0, 1) := by decide +kernel
theorem d_jdk_29_m65_1 : decode jdk_29_method_65_code 1 = .ok (.iload_n 1, 1) := by decide +kernel
theorem d_jdk_29_m65_2 : decode jdk_29_method_65_code 2 = .ok (.if_icmp .lt 7, 3) := by decide +kernel
theorem d_jdk_29_m65_5 : decode jdk_29_method_65_code 5 = .ok (.iload_n 0, 1) := by decide +kernel
theorem d_jdk_29_m65_6 : decode jdk_29_method_65_code 6 = .ok (.goto 4, 3) := by decide +kernel
theorem d_jdk_29_m65_9 : decode jdk_29_method_65_code 9 = .ok (.iload_n 1, 1) := by decide +kernel
theorem d_jdk_29_m65_10 : decode jdk_29_method_65_code 10 = .ok (.ireturn, 1) := by decide +kernel
theorem opn_own_maxB : plainFor (⟨"java/lang/Math", "max", "(II)I"⟩ : MethodName) = true := (Jvm.Free.JP.mathPlain rfl (by decide +kernel))
set_option maxRecDepth 65536 in
set_option maxHeartbeats 40000000 in
theorem own_maxB (l : Launch) (Z : State) (a0 : Array Value) (hw : ∀ d ∈ tables_1, d.before a0 Z = true) (hEL : EW Z a0 consts_1) (n0 : Nat) (h : Heap) (hO : Old Z n0 h) (a b : Int32) (hab : a < b) :
    oMet l Z consts_1 n0 (⟨"java/lang/Math", "max", "(II)I"⟩ : MethodName) jdk_29_method_65_code 2 (some .int) [] ({ frames := 0, cells := 0, slots := 0, locals := 0 } : Room) #[(.int a), (.int b)] h [] (fun v _ h' => h = h' ∧ v = some (.int b)) := by
  refine oMet.of opn_own_maxB hO ?_
  intro p e s m below meth c T hx hby hml hret hnm hlk hh hsf A
  have hml : c.maxLocals = 2 := hml
  refine oCast (g' := mkF m 0 #[.val (.int a), .val (.int b)] []) (by first | (simp [entryFrame, mkF, argsToLocals, Value.category]; done) | rfl) ?_
  show oGo p e below _ (T.setTop (mkF m 0 #[.val (.int a), .val (.int b)] []))
  refine oSt (fun _ => XS.iloadN A.here hx rfl (Jvm.hb hby d_jdk_29_m65_0) rfl) ?_
  show oGo p e below _ (T.setTop (mkF m 1 #[.val (.int a), .val (.int b)] [(.int a)]))
  refine oSt (fun _ => XS.iloadN A.here hx rfl (Jvm.hb hby d_jdk_29_m65_1) rfl) ?_
  show oGo p e below _ (T.setTop (mkF m 2 #[.val (.int a), .val (.int b)] [(.int b), (.int a)]))
  refine oSt (fun _ => XS.icmpYes A.here hx rfl (pc0 := 2) (pc' := 9) rfl (Jvm.hb hby d_jdk_29_m65_2) rfl (Jvm.Free.XT.ii_lt_t hab) (by decide) (by decide)) ?_
  show oGo p e below _ (T.setTop (mkF m 9 #[.val (.int a), .val (.int b)] []))
  refine oSt (fun _ => XS.iloadN A.here hx rfl (Jvm.hb hby d_jdk_29_m65_9) rfl) ?_
  show oGo p e below _ (T.setTop (mkF m 10 #[.val (.int a), .val (.int b)] [(.int b)]))
  exact A.leave hlk hEL (v := some (.int b)) (fun h => by rw [hret] at h; cases h) (fun _ _ => ⟨rfl, rfl⟩) (by decide) (by decide) (fun fs hr => retOut A.1 hx hret rfl (Or.inl ⟨rfl, Or.inl rfl, _, rfl⟩) (Jvm.hb hby d_jdk_29_m65_10) hr)
theorem opn_own_minA : plainFor (⟨"java/lang/Math", "min", "(II)I"⟩ : MethodName) = true := (Jvm.Free.JP.mathPlain rfl (by decide +kernel))
set_option maxRecDepth 65536 in
set_option maxHeartbeats 40000000 in
theorem own_minA (l : Launch) (Z : State) (a0 : Array Value) (hw : ∀ d ∈ tables_1, d.before a0 Z = true) (hEL : EW Z a0 consts_1) (n0 : Nat) (h : Heap) (hO : Old Z n0 h) (a b : Int32) (hab : ¬ b < a) :
    oMet l Z consts_1 n0 (⟨"java/lang/Math", "min", "(II)I"⟩ : MethodName) jdk_29_method_69_code 2 (some .int) [] ({ frames := 0, cells := 0, slots := 0, locals := 0 } : Room) #[(.int a), (.int b)] h [] (fun v _ h' => h = h' ∧ v = some (.int a)) := by
  refine oMet.of opn_own_minA hO ?_
  intro p e s m below meth c T hx hby hml hret hnm hlk hh hsf A
  have hml : c.maxLocals = 2 := hml
  refine oCast (g' := mkF m 0 #[.val (.int a), .val (.int b)] []) (by first | (simp [entryFrame, mkF, argsToLocals, Value.category]; done) | rfl) ?_
  show oGo p e below _ (T.setTop (mkF m 0 #[.val (.int a), .val (.int b)] []))
  refine oSt (fun _ => XS.iloadN A.here hx rfl (Jvm.hb hby d_jdk_29_m69_0) rfl) ?_
  show oGo p e below _ (T.setTop (mkF m 1 #[.val (.int a), .val (.int b)] [(.int a)]))
  refine oSt (fun _ => XS.iloadN A.here hx rfl (Jvm.hb hby d_jdk_29_m69_1) rfl) ?_
  show oGo p e below _ (T.setTop (mkF m 2 #[.val (.int a), .val (.int b)] [(.int b), (.int a)]))
  refine oSt (fun _ => XS.icmpNo A.here hx rfl (Jvm.hb hby d_jdk_29_m69_2) rfl (Jvm.Free.XT.ii_gt_f hab)) ?_
  show oGo p e below _ (T.setTop (mkF m 5 #[.val (.int a), .val (.int b)] []))
  refine oSt (fun _ => XS.iloadN A.here hx rfl (Jvm.hb hby d_jdk_29_m69_5) rfl) ?_
  show oGo p e below _ (T.setTop (mkF m 6 #[.val (.int a), .val (.int b)] [(.int a)]))
  refine oSt (fun _ => XS.goto A.here hx rfl (pc0 := 6) (pc' := 10) rfl (Jvm.hb hby d_jdk_29_m69_6) (by decide) (by decide)) ?_
  show oGo p e below _ (T.setTop (mkF m 10 #[.val (.int a), .val (.int b)] [(.int a)]))
  exact A.leave hlk hEL (v := some (.int a)) (fun h => by rw [hret] at h; cases h) (fun _ _ => ⟨rfl, rfl⟩) (by decide) (by decide) (fun fs hr => retOut A.1 hx hret rfl (Or.inl ⟨rfl, Or.inl rfl, _, rfl⟩) (Jvm.hb hby d_jdk_29_m69_10) hr)
theorem d_jdk_48_m27_0 : decode jdk_48_method_27_code 0 = .ok (.iload_n 0, 1) := by decide +kernel
theorem d_jdk_48_m27_1 : decode jdk_48_method_27_code 1 = .ok (.iload_n 1, 1) := by decide +kernel
theorem d_jdk_48_m27_2 : decode jdk_48_method_27_code 2 = .ok (.iload_n 2, 1) := by decide +kernel
theorem d_jdk_48_m27_3 : decode jdk_48_method_27_code 3 = .ok (.invokestatic 194, 3) := by decide +kernel
theorem d_jdk_48_m27_6 : decode jdk_48_method_27_code 6 = .ok (.iadd, 1) := by decide +kernel
theorem d_jdk_48_m27_7 : decode jdk_48_method_27_code 7 = .ok (.istore_n 3, 1) := by decide +kernel
theorem d_jdk_48_m27_8 : decode jdk_48_method_27_code 8 = .ok (.iconst 0, 1) := by decide +kernel
theorem d_jdk_48_m27_9 : decode jdk_48_method_27_code 9 = .ok (.iload_n 3, 1) := by decide +kernel
theorem d_jdk_48_m27_10 : decode jdk_48_method_27_code 10 = .ok (.if_icmp .ge 11, 3) := by decide +kernel
theorem d_jdk_48_m27_13 : decode jdk_48_method_27_code 13 = .ok (.iload_n 3, 1) := by decide +kernel
theorem d_jdk_48_m27_14 : decode jdk_48_method_27_code 14 = .ok (.ldc 200, 2) := by decide +kernel
theorem d_jdk_48_m27_16 : decode jdk_48_method_27_code 16 = .ok (.if_icmp .gt 5, 3) := by decide +kernel
theorem d_jdk_48_m27_19 : decode jdk_48_method_27_code 19 = .ok (.iload_n 3, 1) := by decide +kernel
theorem d_jdk_48_m27_20 : decode jdk_48_method_27_code 20 = .ok (.ireturn, 1) := by decide +kernel
theorem d_jdk_48_m27_21 : decode jdk_48_method_27_code 21 = .ok (.iload_n 0, 1) := by decide +kernel
theorem d_jdk_48_m27_22 : decode jdk_48_method_27_code 22 = .ok (.iload_n 1, 1) := by decide +kernel
theorem d_jdk_48_m27_23 : decode jdk_48_method_27_code 23 = .ok (.invokestatic 201, 3) := by decide +kernel
theorem d_jdk_48_m27_26 : decode jdk_48_method_27_code 26 = .ok (.ireturn, 1) := by decide +kernel
theorem opn_own_nwl : plainFor (⟨"jdk/internal/util/ArraysSupport", "newLength", "(III)I"⟩ : MethodName) = true := plainFor_of_name (by first | (simp [plainName, overriddenIn]; done) | decide +kernel)
set_option maxRecDepth 65536 in
set_option maxHeartbeats 40000000 in
theorem own_nwl (l : Launch) (Z : State) (a0 : Array Value) (hw : ∀ d ∈ tables_1, d.before a0 Z = true) (hEL : EW Z a0 consts_1) (n0 : Nat) (h : Heap) (hO : Old Z n0 h) (a g p_ z : Int32) (hg : g < p_) (hz : a + p_ = z) (h0 : (0 : Int32) < z) (h1 : ¬ (2147483639 : Int32) < z) :
    oMet l Z consts_1 n0 (⟨"jdk/internal/util/ArraysSupport", "newLength", "(III)I"⟩ : MethodName) jdk_48_method_27_code 4 (some .int) [] ({ frames := 1, cells := 0, slots := 0, locals := 14 } : Room) #[(.int a), (.int g), (.int p_)] h [] (fun v _ h' => h = h' ∧ v = some (.int z)) := by
  refine oMet.of opn_own_nwl hO ?_
  intro p e s m below meth c T hx hby hml hret hnm hlk hh hsf A
  have hml : c.maxLocals = 4 := hml
  refine oCast (g' := mkF m 0 #[.val (.int a), .val (.int g), .val (.int p_), .unset] []) (by first | (simp [entryFrame, mkF, argsToLocals, Value.category]; done) | rfl) ?_
  show oGo p e below _ (T.setTop (mkF m 0 #[.val (.int a), .val (.int g), .val (.int p_), .unset] []))
  refine oSt (fun _ => XS.iloadN A.here hx rfl (Jvm.hb hby d_jdk_48_m27_0) rfl) ?_
  show oGo p e below _ (T.setTop (mkF m 1 #[.val (.int a), .val (.int g), .val (.int p_), .unset] [(.int a)]))
  refine oSt (fun _ => XS.iloadN A.here hx rfl (Jvm.hb hby d_jdk_48_m27_1) rfl) ?_
  show oGo p e below _ (T.setTop (mkF m 2 #[.val (.int a), .val (.int g), .val (.int p_), .unset] [(.int g), (.int a)]))
  refine oSt (fun _ => XS.iloadN A.here hx rfl (Jvm.hb hby d_jdk_48_m27_2) rfl) ?_
  show oGo p e below _ (T.setTop (mkF m 3 #[.val (.int a), .val (.int g), .val (.int p_), .unset] [(.int p_), (.int g), (.int a)]))
  obtain ⟨_, vm, T, h, L, A, K, CR, ⟨rfl, rfl⟩, st⟩ := A.callS hx (y := (⟨"java/lang/Math", "max", "(II)I"⟩ : MethodName)) (hw _ (List.mem_of_getElem? (i := 151) rfl)) (hw _ (List.mem_of_getElem? (i := 152) rfl)) (hw _ (List.mem_of_getElem? (i := 153) rfl)) (hw _ (List.mem_of_getElem? (i := 154) rfl)) (by decide) hEL (argsL := [(.int g), (.int p_)]) (rest := [(.int a)]) (own_maxB l Z a0 hw hEL n0 _ A.oldn _ _ hg) (W := 1) (by decide) (by decide) (by decide) (by decide) all0 all0 all0 (g := (mkF m 3 #[.val (.int a), .val (.int g), .val (.int p_), .unset] [(.int p_), (.int g), (.int a)])) rfl (by rw [hml]; rfl) (lenOf opd12 rfl) rfl (by show 2 * 0 + _ ≤ _; exact Nat.le_of_eq rfl) (Jvm.hb hby d_jdk_48_m27_3)
  refine oSt st ?_
  have X := oExt0 K
  show oGo p e below _ (T.setTop (mkF m 6 #[.val (.int a), .val (.int g), .val (.int p_), .unset] [(.int p_), (.int a)]))
  refine oSt (fun _ => XS.iadd A.here hx rfl (Jvm.hb hby d_jdk_48_m27_6) rfl) ?_
  show oGo p e below _ (T.setTop (mkF m 7 #[.val (.int a), .val (.int g), .val (.int p_), .unset] [(.int (a + p_))]))
  refine oSt (fun _ => XS.istoreN A.here hx rfl (Jvm.hb hby d_jdk_48_m27_7) rfl (l' := #[.val (.int a), .val (.int g), .val (.int p_), .val (.int (a + p_))]) rfl) ?_
  show oGo p e below _ (T.setTop (mkF m 8 #[.val (.int a), .val (.int g), .val (.int p_), .val (.int (a + p_))] []))
  rw [hz]
  show oGo p e below _ (T.setTop (mkF m 8 #[.val (.int a), .val (.int g), .val (.int p_), .val (.int z)] []))
  refine oSt (fun _ => XS.iconst A.here hx rfl (Jvm.hb hby d_jdk_48_m27_8)) ?_
  show oGo p e below _ (T.setTop (mkF m 9 #[.val (.int a), .val (.int g), .val (.int p_), .val (.int z)] [(.int (0 : Int32))]))
  refine oSt (fun _ => XS.iloadN A.here hx rfl (Jvm.hb hby d_jdk_48_m27_9) rfl) ?_
  show oGo p e below _ (T.setTop (mkF m 10 #[.val (.int a), .val (.int g), .val (.int p_), .val (.int z)] [(.int z), (.int (0 : Int32))]))
  refine oSt (fun _ => XS.icmpNo A.here hx rfl (Jvm.hb hby d_jdk_48_m27_10) rfl (Jvm.Free.XT.ii_ge_f h0)) ?_
  show oGo p e below _ (T.setTop (mkF m 13 #[.val (.int a), .val (.int g), .val (.int p_), .val (.int z)] []))
  refine oSt (fun _ => XS.iloadN A.here hx rfl (Jvm.hb hby d_jdk_48_m27_13) rfl) ?_
  show oGo p e below _ (T.setTop (mkF m 14 #[.val (.int a), .val (.int g), .val (.int p_), .val (.int z)] [(.int z)]))
  refine oSt (A.ldcI hx (hw _ (List.mem_of_getElem? (i := 155) rfl)) (g := (mkF m 14 #[.val (.int a), .val (.int g), .val (.int p_), .val (.int z)] [(.int z)])) rfl (Jvm.hb hby d_jdk_48_m27_14)) ?_
  show oGo p e below _ (T.setTop (mkF m 16 #[.val (.int a), .val (.int g), .val (.int p_), .val (.int z)] [(.int (2147483639 : Int32)), (.int z)]))
  refine oSt (fun _ => XS.icmpNo A.here hx rfl (Jvm.hb hby d_jdk_48_m27_16) rfl (Jvm.Free.XT.ii_gt_f h1)) ?_
  show oGo p e below _ (T.setTop (mkF m 19 #[.val (.int a), .val (.int g), .val (.int p_), .val (.int z)] []))
  refine oSt (fun _ => XS.iloadN A.here hx rfl (Jvm.hb hby d_jdk_48_m27_19) rfl) ?_
  show oGo p e below _ (T.setTop (mkF m 20 #[.val (.int a), .val (.int g), .val (.int p_), .val (.int z)] [(.int z)]))
  exact A.leave hlk hEL (v := some (.int z)) (fun h => by rw [hret] at h; cases h) (fun _ _ => ⟨rfl, rfl⟩) (by decide) (by decide) (fun fs hr => retOut A.1 hx hret rfl (Or.inl ⟨rfl, Or.inl rfl, _, rfl⟩) (Jvm.hb hby d_jdk_48_m27_20) hr)
theorem d_jdk_68_m10_0 : decode jdk_68_method_10_code 0 = .ok (.aload_n 0, 1) := by decide +kernel
theorem d_jdk_68_m10_1 : decode jdk_68_method_10_code 1 = .ok (.getfield 15, 3) := by decide +kernel
theorem d_jdk_68_m10_4 : decode jdk_68_method_10_code 4 = .ok (.arraylength, 1) := by decide +kernel
theorem d_jdk_68_m10_5 : decode jdk_68_method_10_code 5 = .ok (.istore_n 2, 1) := by decide +kernel
theorem d_jdk_68_m10_6 : decode jdk_68_method_10_code 6 = .ok (.iload_n 1, 1) := by decide +kernel
theorem d_jdk_68_m10_7 : decode jdk_68_method_10_code 7 = .ok (.aload_n 0, 1) := by decide +kernel
theorem d_jdk_68_m10_8 : decode jdk_68_method_10_code 8 = .ok (.getfield 22, 3) := by decide +kernel
theorem d_jdk_68_m10_11 : decode jdk_68_method_10_code 11 = .ok (.ishl, 1) := by decide +kernel
theorem d_jdk_68_m10_12 : decode jdk_68_method_10_code 12 = .ok (.istore_n 3, 1) := by decide +kernel
theorem d_jdk_68_m10_13 : decode jdk_68_method_10_code 13 = .ok (.iload_n 3, 1) := by decide +kernel
theorem d_jdk_68_m10_14 : decode jdk_68_method_10_code 14 = .ok (.iload_n 2, 1) := by decide +kernel
theorem d_jdk_68_m10_15 : decode jdk_68_method_10_code 15 = .ok (.isub, 1) := by decide +kernel
theorem d_jdk_68_m10_16 : decode jdk_68_method_10_code 16 = .ok (.istore 4, 2) := by decide +kernel
theorem d_jdk_68_m10_18 : decode jdk_68_method_10_code 18 = .ok (.iload_n 2, 1) := by decide +kernel
theorem d_jdk_68_m10_19 : decode jdk_68_method_10_code 19 = .ok (.iload 4, 2) := by decide +kernel
theorem d_jdk_68_m10_21 : decode jdk_68_method_10_code 21 = .ok (.iload_n 2, 1) := by decide +kernel
theorem d_jdk_68_m10_22 : decode jdk_68_method_10_code 22 = .ok (.iconst 2, 1) := by decide +kernel
theorem d_jdk_68_m10_23 : decode jdk_68_method_10_code 23 = .ok (.aload_n 0, 1) := by decide +kernel
theorem d_jdk_68_m10_24 : decode jdk_68_method_10_code 24 = .ok (.getfield 22, 3) := by decide +kernel
theorem d_jdk_68_m10_27 : decode jdk_68_method_10_code 27 = .ok (.ishl, 1) := by decide +kernel
theorem d_jdk_68_m10_28 : decode jdk_68_method_10_code 28 = .ok (.iadd, 1) := by decide +kernel
theorem d_jdk_68_m10_29 : decode jdk_68_method_10_code 29 = .ok (.invokestatic 114, 3) := by decide +kernel
theorem d_jdk_68_m10_32 : decode jdk_68_method_10_code 32 = .ok (.istore 5, 2) := by decide +kernel
theorem d_jdk_68_m10_34 : decode jdk_68_method_10_code 34 = .ok (.iload 5, 2) := by decide +kernel
theorem d_jdk_68_m10_36 : decode jdk_68_method_10_code 36 = .ok (.ldc 39, 2) := by decide +kernel
theorem d_jdk_68_m10_38 : decode jdk_68_method_10_code 38 = .ok (.if_icmp .ne 13, 3) := by decide +kernel
theorem d_jdk_68_m10_41 : decode jdk_68_method_10_code 41 = .ok (.new 120, 3) := by decide +kernel
theorem d_jdk_68_m10_44 : decode jdk_68_method_10_code 44 = .ok (.dup, 1) := by decide +kernel
theorem d_jdk_68_m10_45 : decode jdk_68_method_10_code 45 = .ok (.ldc 122, 2) := by decide +kernel
theorem d_jdk_68_m10_47 : decode jdk_68_method_10_code 47 = .ok (.invokespecial 124, 3) := by decide +kernel
theorem d_jdk_68_m10_50 : decode jdk_68_method_10_code 50 = .ok (.athrow, 1) := by decide +kernel
theorem d_jdk_68_m10_51 : decode jdk_68_method_10_code 51 = .ok (.iload 5, 2) := by decide +kernel
theorem d_jdk_68_m10_53 : decode jdk_68_method_10_code 53 = .ok (.aload_n 0, 1) := by decide +kernel
theorem d_jdk_68_m10_54 : decode jdk_68_method_10_code 54 = .ok (.getfield 22, 3) := by decide +kernel
theorem d_jdk_68_m10_57 : decode jdk_68_method_10_code 57 = .ok (.ishr, 1) := by decide +kernel
theorem d_jdk_68_m10_58 : decode jdk_68_method_10_code 58 = .ok (.ireturn, 1) := by decide +kernel
theorem opd18 : parseMethodDescriptor "(III)I" = some ⟨[.int, .int, .int], some .int⟩ := by decide +kernel
theorem own_mx {n : Nat} (h : n ≤ 4000) : ¬ (2147483639 : Int32) < Int32.ofNat n := by
  rw [Int32.lt_iff_toInt_lt, Int32.toInt_ofNat_small (by omega)]
  have e : (2147483639 : Int32).toInt = 2147483639 := rfl
  omega
theorem own_mn {n : Nat} (h : n ≤ 4000) : ¬ Int32.ofNat n = (2147483647 : Int32) := fun q => by
  have q2 := congrArg Int32.toInt q
  rw [Int32.toInt_ofNat_small (by omega)] at q2
  have e : (2147483647 : Int32).toInt = 2147483647 := rfl
  omega
theorem opn_own_ncap : plainFor (⟨"java/lang/AbstractStringBuilder", "newCapacity", "(I)I"⟩ : MethodName) = true := plainFor_of_name (by first | (simp [plainName, overriddenIn]; done) | decide +kernel)
set_option maxRecDepth 65536 in
set_option maxHeartbeats 40000000 in
theorem own_ncap (l : Launch) (Z : State) (a0 : Array Value) (hw : ∀ d ∈ tables_1, d.before a0 Z = true) (hEL : EW Z a0 consts_1) (n0 : Nat) (h : Heap) (hO : Old Z n0 h) (x t : Addr) (k : ClassId) (N : Nat) (cs : List Int32) (M : Nat) (S : own_SB Z h x t k N cs) (h1 : N < M) (h2 : M < 2 * N + 2) (h3 : 2 * N + 2 ≤ 4000) :
    oMet l Z consts_1 n0 (⟨"java/lang/AbstractStringBuilder", "newCapacity", "(I)I"⟩ : MethodName) jdk_68_method_10_code 6 (some .int) [] ({ frames := 2, cells := 0, slots := 0, locals := 31 } : Room) #[(.ref x), (.int (Int32.ofNat M))] h [] (fun v _ h' => h = h' ∧ v = some (.int (Int32.ofNat (2 * N + 2)))) := by
  refine oMet.of opn_own_ncap hO ?_
  intro p e s m below meth c T hx hby hml hret hnm hlk hh hsf A
  have hml : c.maxLocals = 6 := hml
  refine oCast (g' := mkF m 0 #[.val (.ref x), .val (.int (Int32.ofNat M)), .unset, .unset, .unset, .unset] []) (by first | (simp [entryFrame, mkF, argsToLocals, Value.category]; done) | rfl) ?_
  obtain ⟨b1, b2, b3, E_x, F_v, F_c, F_n, V_t⟩ := S
  have hz : Int32.ofNat N + (Int32.ofNat N + (2 : Int32)) = Int32.ofNat (2 * N + 2) := by
    rw [show (2 : Int32) = Int32.ofNat 2 from rfl, own_addn (by omega), own_addn (by omega)]
    congr 1; omega
  have hg : Int32.ofNat M - Int32.ofNat N < Int32.ofNat N + (2 : Int32) := by
    rw [show (2 : Int32) = Int32.ofNat 2 from rfl, own_addn (by omega), own_sbn (by omega) (by omega)]
    exact own_ltN (by omega) (by omega)
  show oGo p e below _ (T.setTop (mkF m 0 #[.val (.ref x), .val (.int (Int32.ofNat M)), .unset, .unset, .unset, .unset] []))
  refine oSt (fun _ => XS.aloadN A.here hx rfl (Jvm.hb hby d_jdk_68_m10_0) rfl rfl) ?_
  show oGo p e below _ (T.setTop (mkF m 1 #[.val (.ref x), .val (.int (Int32.ofNat M)), .unset, .unset, .unset, .unset] [(.ref x)]))
  obtain ⟨T, A, st⟩ := A.getF hx (host := "") (Or.inl (hw _ (List.mem_of_getElem? (i := 87) rfl))) Via.refl F_v (g := (mkF m 1 #[.val (.ref x), .val (.int (Int32.ofNat M)), .unset, .unset, .unset, .unset] [(.ref x)])) rfl rfl (Jvm.hb hby d_jdk_68_m10_1)
  refine oSt st ?_
  show oGo p e below _ (T.setTop (mkF m 4 #[.val (.ref x), .val (.int (Int32.ofNat M)), .unset, .unset, .unset, .unset] [(.ref t)]))
  refine oSt (A.len hx V_t (g := (mkF m 4 #[.val (.ref x), .val (.int (Int32.ofNat M)), .unset, .unset, .unset, .unset] [(.ref t)])) rfl rfl (Jvm.hb hby d_jdk_68_m10_4)) ?_
  show oGo p e below _ (T.setTop (mkF m 5 #[.val (.ref x), .val (.int (Int32.ofNat M)), .unset, .unset, .unset, .unset] [(.int (Int32.ofNat N))]))
  refine oSt (fun _ => XS.istoreN A.here hx rfl (Jvm.hb hby d_jdk_68_m10_5) rfl (l' := #[.val (.ref x), .val (.int (Int32.ofNat M)), .val (.int (Int32.ofNat N)), .unset, .unset, .unset]) rfl) ?_
  show oGo p e below _ (T.setTop (mkF m 6 #[.val (.ref x), .val (.int (Int32.ofNat M)), .val (.int (Int32.ofNat N)), .unset, .unset, .unset] []))
  refine oSt (fun _ => XS.iloadN A.here hx rfl (Jvm.hb hby d_jdk_68_m10_6) rfl) ?_
  show oGo p e below _ (T.setTop (mkF m 7 #[.val (.ref x), .val (.int (Int32.ofNat M)), .val (.int (Int32.ofNat N)), .unset, .unset, .unset] [(.int (Int32.ofNat M))]))
  refine oSt (fun _ => XS.aloadN A.here hx rfl (Jvm.hb hby d_jdk_68_m10_7) rfl rfl) ?_
  show oGo p e below _ (T.setTop (mkF m 8 #[.val (.ref x), .val (.int (Int32.ofNat M)), .val (.int (Int32.ofNat N)), .unset, .unset, .unset] [(.ref x), (.int (Int32.ofNat M))]))
  obtain ⟨T, A, st⟩ := A.getF hx (host := "") (Or.inl (hw _ (List.mem_of_getElem? (i := 89) rfl))) Via.refl F_c (g := (mkF m 8 #[.val (.ref x), .val (.int (Int32.ofNat M)), .val (.int (Int32.ofNat N)), .unset, .unset, .unset] [(.ref x), (.int (Int32.ofNat M))])) rfl rfl (Jvm.hb hby d_jdk_68_m10_8)
  refine oSt st ?_
  show oGo p e below _ (T.setTop (mkF m 11 #[.val (.ref x), .val (.int (Int32.ofNat M)), .val (.int (Int32.ofNat N)), .unset, .unset, .unset] [(.int (0 : Int32)), (.int (Int32.ofNat M))]))
  refine oSt (fun _ => XS.ishl A.here hx rfl (Jvm.hb hby d_jdk_68_m10_11) rfl) ?_
  show oGo p e below _ (T.setTop (mkF m 12 #[.val (.ref x), .val (.int (Int32.ofNat M)), .val (.int (Int32.ofNat N)), .unset, .unset, .unset] [(.int ((Int32.ofNat M) <<< ((0 : Int32) &&& 31)))]))
  rw [own_shl0]
  show oGo p e below _ (T.setTop (mkF m 12 #[.val (.ref x), .val (.int (Int32.ofNat M)), .val (.int (Int32.ofNat N)), .unset, .unset, .unset] [(.int (Int32.ofNat M))]))
  refine oSt (fun _ => XS.istoreN A.here hx rfl (Jvm.hb hby d_jdk_68_m10_12) rfl (l' := #[.val (.ref x), .val (.int (Int32.ofNat M)), .val (.int (Int32.ofNat N)), .val (.int (Int32.ofNat M)), .unset, .unset]) rfl) ?_
  show oGo p e below _ (T.setTop (mkF m 13 #[.val (.ref x), .val (.int (Int32.ofNat M)), .val (.int (Int32.ofNat N)), .val (.int (Int32.ofNat M)), .unset, .unset] []))
  refine oSt (fun _ => XS.iloadN A.here hx rfl (Jvm.hb hby d_jdk_68_m10_13) rfl) ?_
  show oGo p e below _ (T.setTop (mkF m 14 #[.val (.ref x), .val (.int (Int32.ofNat M)), .val (.int (Int32.ofNat N)), .val (.int (Int32.ofNat M)), .unset, .unset] [(.int (Int32.ofNat M))]))
  refine oSt (fun _ => XS.iloadN A.here hx rfl (Jvm.hb hby d_jdk_68_m10_14) rfl) ?_
  show oGo p e below _ (T.setTop (mkF m 15 #[.val (.ref x), .val (.int (Int32.ofNat M)), .val (.int (Int32.ofNat N)), .val (.int (Int32.ofNat M)), .unset, .unset] [(.int (Int32.ofNat N)), (.int (Int32.ofNat M))]))
  refine oSt (fun _ => XS.isub A.here hx rfl (Jvm.hb hby d_jdk_68_m10_15) rfl) ?_
  show oGo p e below _ (T.setTop (mkF m 16 #[.val (.ref x), .val (.int (Int32.ofNat M)), .val (.int (Int32.ofNat N)), .val (.int (Int32.ofNat M)), .unset, .unset] [(.int ((Int32.ofNat M) - (Int32.ofNat N)))]))
  refine oSt (fun _ => XS.istore A.here hx rfl (Jvm.hb hby d_jdk_68_m10_16) rfl (l' := #[.val (.ref x), .val (.int (Int32.ofNat M)), .val (.int (Int32.ofNat N)), .val (.int (Int32.ofNat M)), .val (.int ((Int32.ofNat M) - (Int32.ofNat N))), .unset]) rfl) ?_
  show oGo p e below _ (T.setTop (mkF m 18 #[.val (.ref x), .val (.int (Int32.ofNat M)), .val (.int (Int32.ofNat N)), .val (.int (Int32.ofNat M)), .val (.int ((Int32.ofNat M) - (Int32.ofNat N))), .unset] []))
  refine oSt (fun _ => XS.iloadN A.here hx rfl (Jvm.hb hby d_jdk_68_m10_18) rfl) ?_
  show oGo p e below _ (T.setTop (mkF m 19 #[.val (.ref x), .val (.int (Int32.ofNat M)), .val (.int (Int32.ofNat N)), .val (.int (Int32.ofNat M)), .val (.int ((Int32.ofNat M) - (Int32.ofNat N))), .unset] [(.int (Int32.ofNat N))]))
  refine oSt (fun _ => XS.iload A.here hx rfl (Jvm.hb hby d_jdk_68_m10_19) rfl) ?_
  show oGo p e below _ (T.setTop (mkF m 21 #[.val (.ref x), .val (.int (Int32.ofNat M)), .val (.int (Int32.ofNat N)), .val (.int (Int32.ofNat M)), .val (.int ((Int32.ofNat M) - (Int32.ofNat N))), .unset] [(.int ((Int32.ofNat M) - (Int32.ofNat N))), (.int (Int32.ofNat N))]))
  refine oSt (fun _ => XS.iloadN A.here hx rfl (Jvm.hb hby d_jdk_68_m10_21) rfl) ?_
  show oGo p e below _ (T.setTop (mkF m 22 #[.val (.ref x), .val (.int (Int32.ofNat M)), .val (.int (Int32.ofNat N)), .val (.int (Int32.ofNat M)), .val (.int ((Int32.ofNat M) - (Int32.ofNat N))), .unset] [(.int (Int32.ofNat N)), (.int ((Int32.ofNat M) - (Int32.ofNat N))), (.int (Int32.ofNat N))]))
  refine oSt (fun _ => XS.iconst A.here hx rfl (Jvm.hb hby d_jdk_68_m10_22)) ?_
  show oGo p e below _ (T.setTop (mkF m 23 #[.val (.ref x), .val (.int (Int32.ofNat M)), .val (.int (Int32.ofNat N)), .val (.int (Int32.ofNat M)), .val (.int ((Int32.ofNat M) - (Int32.ofNat N))), .unset] [(.int (2 : Int32)), (.int (Int32.ofNat N)), (.int ((Int32.ofNat M) - (Int32.ofNat N))), (.int (Int32.ofNat N))]))
  refine oSt (fun _ => XS.aloadN A.here hx rfl (Jvm.hb hby d_jdk_68_m10_23) rfl rfl) ?_
  show oGo p e below _ (T.setTop (mkF m 24 #[.val (.ref x), .val (.int (Int32.ofNat M)), .val (.int (Int32.ofNat N)), .val (.int (Int32.ofNat M)), .val (.int ((Int32.ofNat M) - (Int32.ofNat N))), .unset] [(.ref x), (.int (2 : Int32)), (.int (Int32.ofNat N)), (.int ((Int32.ofNat M) - (Int32.ofNat N))), (.int (Int32.ofNat N))]))
  obtain ⟨T, A, st⟩ := A.getF hx (host := "") (Or.inl (hw _ (List.mem_of_getElem? (i := 89) rfl))) Via.refl F_c (g := (mkF m 24 #[.val (.ref x), .val (.int (Int32.ofNat M)), .val (.int (Int32.ofNat N)), .val (.int (Int32.ofNat M)), .val (.int ((Int32.ofNat M) - (Int32.ofNat N))), .unset] [(.ref x), (.int (2 : Int32)), (.int (Int32.ofNat N)), (.int ((Int32.ofNat M) - (Int32.ofNat N))), (.int (Int32.ofNat N))])) rfl rfl (Jvm.hb hby d_jdk_68_m10_24)
  refine oSt st ?_
  show oGo p e below _ (T.setTop (mkF m 27 #[.val (.ref x), .val (.int (Int32.ofNat M)), .val (.int (Int32.ofNat N)), .val (.int (Int32.ofNat M)), .val (.int ((Int32.ofNat M) - (Int32.ofNat N))), .unset] [(.int (0 : Int32)), (.int (2 : Int32)), (.int (Int32.ofNat N)), (.int ((Int32.ofNat M) - (Int32.ofNat N))), (.int (Int32.ofNat N))]))
  refine oSt (fun _ => XS.ishl A.here hx rfl (Jvm.hb hby d_jdk_68_m10_27) rfl) ?_
  show oGo p e below _ (T.setTop (mkF m 28 #[.val (.ref x), .val (.int (Int32.ofNat M)), .val (.int (Int32.ofNat N)), .val (.int (Int32.ofNat M)), .val (.int ((Int32.ofNat M) - (Int32.ofNat N))), .unset] [(.int ((2 : Int32) <<< ((0 : Int32) &&& 31))), (.int (Int32.ofNat N)), (.int ((Int32.ofNat M) - (Int32.ofNat N))), (.int (Int32.ofNat N))]))
  rw [own_shl0]
  show oGo p e below _ (T.setTop (mkF m 28 #[.val (.ref x), .val (.int (Int32.ofNat M)), .val (.int (Int32.ofNat N)), .val (.int (Int32.ofNat M)), .val (.int ((Int32.ofNat M) - (Int32.ofNat N))), .unset] [(.int (2 : Int32)), (.int (Int32.ofNat N)), (.int ((Int32.ofNat M) - (Int32.ofNat N))), (.int (Int32.ofNat N))]))
  refine oSt (fun _ => XS.iadd A.here hx rfl (Jvm.hb hby d_jdk_68_m10_28) rfl) ?_
  show oGo p e below _ (T.setTop (mkF m 29 #[.val (.ref x), .val (.int (Int32.ofNat M)), .val (.int (Int32.ofNat N)), .val (.int (Int32.ofNat M)), .val (.int ((Int32.ofNat M) - (Int32.ofNat N))), .unset] [(.int ((Int32.ofNat N) + (2 : Int32))), (.int ((Int32.ofNat M) - (Int32.ofNat N))), (.int (Int32.ofNat N))]))
  obtain ⟨_, vm, T, h, L, A, K, CR, ⟨rfl, rfl⟩, st⟩ := A.callS hx (y := (⟨"jdk/internal/util/ArraysSupport", "newLength", "(III)I"⟩ : MethodName)) (hw _ (List.mem_of_getElem? (i := 147) rfl)) (hw _ (List.mem_of_getElem? (i := 148) rfl)) (hw _ (List.mem_of_getElem? (i := 149) rfl)) (hw _ (List.mem_of_getElem? (i := 150) rfl)) (by decide) hEL (argsL := [(.int (Int32.ofNat N)), (.int ((Int32.ofNat M) - (Int32.ofNat N))), (.int ((Int32.ofNat N) + (2 : Int32)))]) (rest := []) (own_nwl l Z a0 hw hEL n0 _ A.oldn _ _ _ _ hg hz (show (0 : Int32) < Int32.ofNat (2 * N + 2) from own_ltN (a := 0) (by omega) h3) (own_mx h3)) (W := 0) (by decide) (by decide) (by decide) (by decide) all0 all0 all0 (g := (mkF m 29 #[.val (.ref x), .val (.int (Int32.ofNat M)), .val (.int (Int32.ofNat N)), .val (.int (Int32.ofNat M)), .val (.int ((Int32.ofNat M) - (Int32.ofNat N))), .unset] [(.int ((Int32.ofNat N) + (2 : Int32))), (.int ((Int32.ofNat M) - (Int32.ofNat N))), (.int (Int32.ofNat N))])) rfl (by rw [hml]; rfl) (lenOf opd18 rfl) rfl (by show 2 * 0 + _ ≤ _; exact Nat.le_of_eq rfl) (Jvm.hb hby d_jdk_68_m10_29)
  refine oSt st ?_
  have X := oExt0 K
  show oGo p e below _ (T.setTop (mkF m 32 #[.val (.ref x), .val (.int (Int32.ofNat M)), .val (.int (Int32.ofNat N)), .val (.int (Int32.ofNat M)), .val (.int ((Int32.ofNat M) - (Int32.ofNat N))), .unset] [(.int (Int32.ofNat (2 * N + 2)))]))
  refine oSt (fun _ => XS.istore A.here hx rfl (Jvm.hb hby d_jdk_68_m10_32) rfl (l' := #[.val (.ref x), .val (.int (Int32.ofNat M)), .val (.int (Int32.ofNat N)), .val (.int (Int32.ofNat M)), .val (.int ((Int32.ofNat M) - (Int32.ofNat N))), .val (.int (Int32.ofNat (2 * N + 2)))]) rfl) ?_
  show oGo p e below _ (T.setTop (mkF m 34 #[.val (.ref x), .val (.int (Int32.ofNat M)), .val (.int (Int32.ofNat N)), .val (.int (Int32.ofNat M)), .val (.int ((Int32.ofNat M) - (Int32.ofNat N))), .val (.int (Int32.ofNat (2 * N + 2)))] []))
  refine oSt (fun _ => XS.iload A.here hx rfl (Jvm.hb hby d_jdk_68_m10_34) rfl) ?_
  show oGo p e below _ (T.setTop (mkF m 36 #[.val (.ref x), .val (.int (Int32.ofNat M)), .val (.int (Int32.ofNat N)), .val (.int (Int32.ofNat M)), .val (.int ((Int32.ofNat M) - (Int32.ofNat N))), .val (.int (Int32.ofNat (2 * N + 2)))] [(.int (Int32.ofNat (2 * N + 2)))]))
  refine oSt (A.ldcI hx (hw _ (List.mem_of_getElem? (i := 156) rfl)) (g := (mkF m 36 #[.val (.ref x), .val (.int (Int32.ofNat M)), .val (.int (Int32.ofNat N)), .val (.int (Int32.ofNat M)), .val (.int ((Int32.ofNat M) - (Int32.ofNat N))), .val (.int (Int32.ofNat (2 * N + 2)))] [(.int (Int32.ofNat (2 * N + 2)))])) rfl (Jvm.hb hby d_jdk_68_m10_36)) ?_
  show oGo p e below _ (T.setTop (mkF m 38 #[.val (.ref x), .val (.int (Int32.ofNat M)), .val (.int (Int32.ofNat N)), .val (.int (Int32.ofNat M)), .val (.int ((Int32.ofNat M) - (Int32.ofNat N))), .val (.int (Int32.ofNat (2 * N + 2)))] [(.int (2147483647 : Int32)), (.int (Int32.ofNat (2 * N + 2)))]))
  refine oSt (fun _ => XS.icmpYes A.here hx rfl (pc0 := 38) (pc' := 51) rfl (Jvm.hb hby d_jdk_68_m10_38) rfl (Jvm.Free.XT.ii_ne_t (own_mn h3)) (by decide) (by decide)) ?_
  show oGo p e below _ (T.setTop (mkF m 51 #[.val (.ref x), .val (.int (Int32.ofNat M)), .val (.int (Int32.ofNat N)), .val (.int (Int32.ofNat M)), .val (.int ((Int32.ofNat M) - (Int32.ofNat N))), .val (.int (Int32.ofNat (2 * N + 2)))] []))
  refine oSt (fun _ => XS.iload A.here hx rfl (Jvm.hb hby d_jdk_68_m10_51) rfl) ?_
  show oGo p e below _ (T.setTop (mkF m 53 #[.val (.ref x), .val (.int (Int32.ofNat M)), .val (.int (Int32.ofNat N)), .val (.int (Int32.ofNat M)), .val (.int ((Int32.ofNat M) - (Int32.ofNat N))), .val (.int (Int32.ofNat (2 * N + 2)))] [(.int (Int32.ofNat (2 * N + 2)))]))
  refine oSt (fun _ => XS.aloadN A.here hx rfl (Jvm.hb hby d_jdk_68_m10_53) rfl rfl) ?_
  show oGo p e below _ (T.setTop (mkF m 54 #[.val (.ref x), .val (.int (Int32.ofNat M)), .val (.int (Int32.ofNat N)), .val (.int (Int32.ofNat M)), .val (.int ((Int32.ofNat M) - (Int32.ofNat N))), .val (.int (Int32.ofNat (2 * N + 2)))] [(.ref x), (.int (Int32.ofNat (2 * N + 2)))]))
  obtain ⟨T, A, st⟩ := A.getF hx (host := "") (Or.inl (hw _ (List.mem_of_getElem? (i := 89) rfl))) Via.refl F_c (g := (mkF m 54 #[.val (.ref x), .val (.int (Int32.ofNat M)), .val (.int (Int32.ofNat N)), .val (.int (Int32.ofNat M)), .val (.int ((Int32.ofNat M) - (Int32.ofNat N))), .val (.int (Int32.ofNat (2 * N + 2)))] [(.ref x), (.int (Int32.ofNat (2 * N + 2)))])) rfl rfl (Jvm.hb hby d_jdk_68_m10_54)
  refine oSt st ?_
  show oGo p e below _ (T.setTop (mkF m 57 #[.val (.ref x), .val (.int (Int32.ofNat M)), .val (.int (Int32.ofNat N)), .val (.int (Int32.ofNat M)), .val (.int ((Int32.ofNat M) - (Int32.ofNat N))), .val (.int (Int32.ofNat (2 * N + 2)))] [(.int (0 : Int32)), (.int (Int32.ofNat (2 * N + 2)))]))
  refine oSt (fun _ => XS.ishr A.here hx rfl (Jvm.hb hby d_jdk_68_m10_57) rfl) ?_
  show oGo p e below _ (T.setTop (mkF m 58 #[.val (.ref x), .val (.int (Int32.ofNat M)), .val (.int (Int32.ofNat N)), .val (.int (Int32.ofNat M)), .val (.int ((Int32.ofNat M) - (Int32.ofNat N))), .val (.int (Int32.ofNat (2 * N + 2)))] [(.int ((Int32.ofNat (2 * N + 2)) >>> ((0 : Int32) &&& 31)))]))
  rw [own_shr0]
  show oGo p e below _ (T.setTop (mkF m 58 #[.val (.ref x), .val (.int (Int32.ofNat M)), .val (.int (Int32.ofNat N)), .val (.int (Int32.ofNat M)), .val (.int ((Int32.ofNat M) - (Int32.ofNat N))), .val (.int (Int32.ofNat (2 * N + 2)))] [(.int (Int32.ofNat (2 * N + 2)))]))
  exact A.leave hlk hEL (v := some (.int (Int32.ofNat (2 * N + 2)))) (fun h => by rw [hret] at h; cases h) (fun _ _ => ⟨rfl, rfl⟩) (by decide) (by decide) (fun fs hr => retOut A.1 hx hret rfl (Or.inl ⟨rfl, Or.inl rfl, _, rfl⟩) (Jvm.hb hby d_jdk_68_m10_58) hr)
theorem d_jdk_65_m121_0 : decode jdk_65_method_121_code 0 = .ok (.iload_n 1, 1) := by decide +kernel
theorem d_jdk_65_m121_1 : decode jdk_65_method_121_code 1 = .ok (.aload_n 0, 1) := by decide +kernel
theorem d_jdk_65_m121_2 : decode jdk_65_method_121_code 2 = .ok (.arraylength, 1) := by decide +kernel
theorem d_jdk_65_m121_3 : decode jdk_65_method_121_code 3 = .ok (.if_icmp .ne 11, 3) := by decide +kernel
theorem d_jdk_65_m121_6 : decode jdk_65_method_121_code 6 = .ok (.aload_n 0, 1) := by decide +kernel
theorem d_jdk_65_m121_7 : decode jdk_65_method_121_code 7 = .ok (.invokevirtual 310, 3) := by decide +kernel
theorem d_jdk_65_m121_10 : decode jdk_65_method_121_code 10 = .ok (.checkcast 311, 3) := by decide +kernel
theorem d_jdk_65_m121_13 : decode jdk_65_method_121_code 13 = .ok (.areturn, 1) := by decide +kernel
theorem d_jdk_65_m121_14 : decode jdk_65_method_121_code 14 = .ok (.iload_n 1, 1) := by decide +kernel
theorem d_jdk_65_m121_15 : decode jdk_65_method_121_code 15 = .ok (.newarray .byte, 2) := by decide +kernel
theorem d_jdk_65_m121_17 : decode jdk_65_method_121_code 17 = .ok (.astore_n 2, 1) := by decide +kernel
theorem d_jdk_65_m121_18 : decode jdk_65_method_121_code 18 = .ok (.aload_n 0, 1) := by decide +kernel
theorem d_jdk_65_m121_19 : decode jdk_65_method_121_code 19 = .ok (.iconst 0, 1) := by decide +kernel
theorem d_jdk_65_m121_20 : decode jdk_65_method_121_code 20 = .ok (.aload_n 2, 1) := by decide +kernel
theorem d_jdk_65_m121_21 : decode jdk_65_method_121_code 21 = .ok (.iconst 0, 1) := by decide +kernel
theorem d_jdk_65_m121_22 : decode jdk_65_method_121_code 22 = .ok (.aload_n 0, 1) := by decide +kernel
theorem d_jdk_65_m121_23 : decode jdk_65_method_121_code 23 = .ok (.arraylength, 1) := by decide +kernel
theorem d_jdk_65_m121_24 : decode jdk_65_method_121_code 24 = .ok (.iload_n 1, 1) := by decide +kernel
theorem d_jdk_65_m121_25 : decode jdk_65_method_121_code 25 = .ok (.invokestatic 304, 3) := by decide +kernel
theorem d_jdk_65_m121_28 : decode jdk_65_method_121_code 28 = .ok (.invokestatic 150, 3) := by decide +kernel
theorem d_jdk_65_m121_31 : decode jdk_65_method_121_code 31 = .ok (.aload_n 2, 1) := by decide +kernel
theorem d_jdk_65_m121_32 : decode jdk_65_method_121_code 32 = .ok (.areturn, 1) := by decide +kernel
theorem opn_own_cpo : plainFor (⟨"java/util/Arrays", "copyOf", "([BI)[B"⟩ : MethodName) = true := plainFor_of_name (by first | (simp [plainName, overriddenIn]; done) | decide +kernel)
set_option maxRecDepth 65536 in
set_option maxHeartbeats 40000000 in
theorem own_cpo (l : Launch) (Z : State) (a0 : Array Value) (hw : ∀ d ∈ tables_1, d.before a0 Z = true) (hEL : EW Z a0 consts_1) (n0 : Nat) (h : Heap) (hO : Old Z n0 h) (t : Addr) (k : ClassId) (N N2 : Nat) (vs : List Value) (V : Arv Z h t k .byte (Int32.ofNat N) vs (.int (0 : Int32))) (hv : vs.length = N) (h1 : N < N2) (h2 : N2 ≤ 70) :
    oMet l Z consts_1 n0 (⟨"java/util/Arrays", "copyOf", "([BI)[B"⟩ : MethodName) jdk_65_method_121_code 3 (some (.array .byte)) [] ({ frames := 1, cells := 1, slots := 70, locals := 30 } : Room) #[(.ref t), (.int (Int32.ofNat N2))] h [] (fun v vm' h' => ∃ b k', v = some (.ref b) ∧ h.size ≤ b ∧ Arv Z h' b k' .byte (Int32.ofNat N2) (vs ++ List.replicate (N2 - N) (.int (0 : Int32))) (.int (0 : Int32)) ∧ Safe Z consts_1 vm' h' b) := by
  refine oMet.of opn_own_cpo hO ?_
  intro p e s m below meth c T hx hby hml hret hnm hlk hh hsf A
  have hml : c.maxLocals = 3 := hml
  refine oCast (g' := mkF m 0 #[.val (.ref t), .val (.int (Int32.ofNat N2)), .unset] []) (by first | (simp [entryFrame, mkF, argsToLocals, Value.category]; done) | rfl) ?_
  show oGo p e below _ (T.setTop (mkF m 0 #[.val (.ref t), .val (.int (Int32.ofNat N2)), .unset] []))
  refine oSt (fun _ => XS.iloadN A.here hx rfl (Jvm.hb hby d_jdk_65_m121_0) rfl) ?_
  show oGo p e below _ (T.setTop (mkF m 1 #[.val (.ref t), .val (.int (Int32.ofNat N2)), .unset] [(.int (Int32.ofNat N2))]))
  refine oSt (fun _ => XS.aloadN A.here hx rfl (Jvm.hb hby d_jdk_65_m121_1) rfl rfl) ?_
  show oGo p e below _ (T.setTop (mkF m 2 #[.val (.ref t), .val (.int (Int32.ofNat N2)), .unset] [(.ref t), (.int (Int32.ofNat N2))]))
  refine oSt (A.len hx V (g := (mkF m 2 #[.val (.ref t), .val (.int (Int32.ofNat N2)), .unset] [(.ref t), (.int (Int32.ofNat N2))])) rfl rfl (Jvm.hb hby d_jdk_65_m121_2)) ?_
  show oGo p e below _ (T.setTop (mkF m 3 #[.val (.ref t), .val (.int (Int32.ofNat N2)), .unset] [(.int (Int32.ofNat N)), (.int (Int32.ofNat N2))]))
  refine oSt (fun _ => XS.icmpYes A.here hx rfl (pc0 := 3) (pc' := 14) rfl (Jvm.hb hby d_jdk_65_m121_3) rfl (Jvm.Free.XT.ii_ne_t (own_neN (by omega) (by omega) (by omega))) (by decide) (by decide)) ?_
  show oGo p e below _ (T.setTop (mkF m 14 #[.val (.ref t), .val (.int (Int32.ofNat N2)), .unset] []))
  refine oSt (fun _ => XS.iloadN A.here hx rfl (Jvm.hb hby d_jdk_65_m121_14) rfl) ?_
  show oGo p e below _ (T.setTop (mkF m 15 #[.val (.ref t), .val (.int (Int32.ofNat N2)), .unset] [(.int (Int32.ofNat N2))]))
  obtain ⟨T, h, b, k_b, g_b, lt_b, n0_b, s_b, A, E, V_b, S_b, st⟩ := A.newP hx (hw _ (List.mem_of_getElem? (i := 14) rfl)) (g := (mkF m 15 #[.val (.ref t), .val (.int (Int32.ofNat N2)), .unset] [(.int (Int32.ofNat N2))])) rfl (Jvm.hb hby d_jdk_65_m121_15) rfl (own_n0 (by omega)) (cap := 70) (by rw [own_n32 (by omega)]; omega) (by decide) (by decide) (by decide)
  refine oSt st ?_
  show oGo p e below _ (T.setTop (mkF m 17 #[.val (.ref t), .val (.int (Int32.ofNat N2)), .unset] [(.ref b)]))
  have V := V.ext E
  have V_b : Arv Z h b k_b .byte (Int32.ofNat N2) ([] ++ List.replicate N2 (.int (0 : Int32))) (.int (0 : Int32)) := V_b.pad (pad_rep [] (.int (0 : Int32)) N2)
  refine oSt (fun _ => XS.astoreN A.here hx rfl (Jvm.hb hby d_jdk_65_m121_17) rfl rfl (l' := #[.val (.ref t), .val (.int (Int32.ofNat N2)), .val (.ref b)]) rfl) ?_
  show oGo p e below _ (T.setTop (mkF m 18 #[.val (.ref t), .val (.int (Int32.ofNat N2)), .val (.ref b)] []))
  refine oSt (fun _ => XS.aloadN A.here hx rfl (Jvm.hb hby d_jdk_65_m121_18) rfl rfl) ?_
  show oGo p e below _ (T.setTop (mkF m 19 #[.val (.ref t), .val (.int (Int32.ofNat N2)), .val (.ref b)] [(.ref t)]))
  refine oSt (fun _ => XS.iconst A.here hx rfl (Jvm.hb hby d_jdk_65_m121_19)) ?_
  show oGo p e below _ (T.setTop (mkF m 20 #[.val (.ref t), .val (.int (Int32.ofNat N2)), .val (.ref b)] [(.int (0 : Int32)), (.ref t)]))
  refine oSt (fun _ => XS.aloadN A.here hx rfl (Jvm.hb hby d_jdk_65_m121_20) rfl rfl) ?_
  show oGo p e below _ (T.setTop (mkF m 21 #[.val (.ref t), .val (.int (Int32.ofNat N2)), .val (.ref b)] [(.ref b), (.int (0 : Int32)), (.ref t)]))
  refine oSt (fun _ => XS.iconst A.here hx rfl (Jvm.hb hby d_jdk_65_m121_21)) ?_
  show oGo p e below _ (T.setTop (mkF m 22 #[.val (.ref t), .val (.int (Int32.ofNat N2)), .val (.ref b)] [(.int (0 : Int32)), (.ref b), (.int (0 : Int32)), (.ref t)]))
  refine oSt (fun _ => XS.aloadN A.here hx rfl (Jvm.hb hby d_jdk_65_m121_22) rfl rfl) ?_
  show oGo p e below _ (T.setTop (mkF m 23 #[.val (.ref t), .val (.int (Int32.ofNat N2)), .val (.ref b)] [(.ref t), (.int (0 : Int32)), (.ref b), (.int (0 : Int32)), (.ref t)]))
  refine oSt (A.len hx V (g := (mkF m 23 #[.val (.ref t), .val (.int (Int32.ofNat N2)), .val (.ref b)] [(.ref t), (.int (0 : Int32)), (.ref b), (.int (0 : Int32)), (.ref t)])) rfl rfl (Jvm.hb hby d_jdk_65_m121_23)) ?_
  show oGo p e below _ (T.setTop (mkF m 24 #[.val (.ref t), .val (.int (Int32.ofNat N2)), .val (.ref b)] [(.int (Int32.ofNat N)), (.int (0 : Int32)), (.ref b), (.int (0 : Int32)), (.ref t)]))
  refine oSt (fun _ => XS.iloadN A.here hx rfl (Jvm.hb hby d_jdk_65_m121_24) rfl) ?_
  show oGo p e below _ (T.setTop (mkF m 25 #[.val (.ref t), .val (.int (Int32.ofNat N2)), .val (.ref b)] [(.int (Int32.ofNat N2)), (.int (Int32.ofNat N)), (.int (0 : Int32)), (.ref b), (.int (0 : Int32)), (.ref t)]))
  obtain ⟨_, vm, T, h, L, A, K, CR, ⟨rfl, rfl⟩, st⟩ := A.callS hx (y := (⟨"java/lang/Math", "min", "(II)I"⟩ : MethodName)) (hw _ (List.mem_of_getElem? (i := 161) rfl)) (hw _ (List.mem_of_getElem? (i := 162) rfl)) (hw _ (List.mem_of_getElem? (i := 153) rfl)) (hw _ (List.mem_of_getElem? (i := 163) rfl)) (by decide) hEL (argsL := [(.int (Int32.ofNat N)), (.int (Int32.ofNat N2))]) (rest := [(.int (0 : Int32)), (.ref b), (.int (0 : Int32)), (.ref t)]) (own_minA l Z a0 hw hEL n0 _ A.oldn _ _ (own_geN (by omega) (by omega))) (W := 4) (by decide) (by decide) (by decide) (by decide) all0 all0 all0 (g := (mkF m 25 #[.val (.ref t), .val (.int (Int32.ofNat N2)), .val (.ref b)] [(.int (Int32.ofNat N2)), (.int (Int32.ofNat N)), (.int (0 : Int32)), (.ref b), (.int (0 : Int32)), (.ref t)])) rfl (by rw [hml]; rfl) (lenOf opd12 rfl) rfl (by show 2 * 0 + _ ≤ _; exact Nat.le_of_eq rfl) (Jvm.hb hby d_jdk_65_m121_25)
  refine oSt st ?_
  have X := oExt0 K
  show oGo p e below _ (T.setTop (mkF m 28 #[.val (.ref t), .val (.int (Int32.ofNat N2)), .val (.ref b)] [(.int (Int32.ofNat N)), (.int (0 : Int32)), (.ref b), (.int (0 : Int32)), (.ref t)]))
  have S_b := CR.safe lt_b S_b
  have hz : (Int32.ofNat N).toNatClampNeg = N := own_n32 (by omega)
  have hz2 : (Int32.ofNat N2).toNatClampNeg = N2 := own_n32 (by omega)
  have CHb := A.ch
  obtain ⟨T, h, L, A, K, V_b, st⟩ := A.cpy hx (hw _ (List.mem_of_getElem? (i := 164) rfl)) (hw _ (List.mem_of_getElem? (i := 140) rfl)) (hw _ (List.mem_of_getElem? (i := 138) rfl)) (hw _ (List.mem_of_getElem? (i := 139) rfl)) V V_b (us := vs) (by decide) (by decide) (own_n0 (by omega)) (by rw [hz]; show 0 + N ≤ _; omega) (by rw [hz, hz2]; show 0 + N ≤ _; omega) (by rw [hz]; exact (own_usB hv).symm) (by rw [hz]; show 0 + N ≤ _; simp; omega) n0_b (Or.inr s_b) S_b (g := (mkF m 28 #[.val (.ref t), .val (.int (Int32.ofNat N2)), .val (.ref b)] [(.int (Int32.ofNat N)), (.int (0 : Int32)), (.ref b), (.int (0 : Int32)), (.ref t)])) rfl (by rw [hml]; rfl) rfl (Jvm.hb hby d_jdk_65_m121_28) (by decide) (W := 0) (by show 2 * 0 + _ ≤ _; exact Nat.le_of_eq rfl) (by decide +kernel)
  refine oSt st ?_
  show oGo p e below _ (T.setTop (mkF m 31 #[.val (.ref t), .val (.int (Int32.ofNat N2)), .val (.ref b)] []))
  have S_b := Safe.keep K (oIn1 S_b) CHb S_b
  refine oSt (fun _ => XS.aloadN A.here hx rfl (Jvm.hb hby d_jdk_65_m121_31) rfl rfl) ?_
  show oGo p e below _ (T.setTop (mkF m 32 #[.val (.ref t), .val (.int (Int32.ofNat N2)), .val (.ref b)] [(.ref b)]))
  rw [hz] at V_b
  exact A.leave hlk hEL (v := some (.ref b)) (fun h => by rw [hret] at h; cases h) (fun _ C => ⟨b, k_b, rfl, Nat.le_of_eq g_b.symm, by simpa using V_b, C.safe V_b.lt S_b⟩) (by decide) (by decide) (fun fs hr => retOut A.1 hx hret rfl (Or.inr (Or.inr (Or.inr (Or.inr ⟨rfl, rfl, rfl⟩)))) (Jvm.hb hby d_jdk_65_m121_32) hr)
theorem opd19 : parseMethodDescriptor "(I)I" = some ⟨[.int], some .int⟩ := by decide +kernel
theorem opd20 : parseMethodDescriptor "([BI)[B" = some ⟨[(.array .byte), .int], some (.array .byte)⟩ := by decide +kernel
theorem opn_own_ecx : plainFor (⟨"java/lang/AbstractStringBuilder", "ensureCapacityInternal", "(I)V"⟩ : MethodName) = true := plainFor_of_name (by first | (simp [plainName, overriddenIn]; done) | decide +kernel)
set_option maxRecDepth 65536 in
set_option maxHeartbeats 40000000 in
theorem own_ecx (l : Launch) (Z : State) (a0 : Array Value) (hw : ∀ d ∈ tables_1, d.before a0 Z = true) (hEL : EW Z a0 consts_1) (n0 : Nat) (h : Heap) (hO : Old Z n0 h) (x t : Addr) (k : ClassId) (N : Nat) (cs : List Int32) (M : Nat) (S : own_SB Z h x t k N cs) (hG : own_G N) (n0_x : n0 ≤ x) (hM : M ≤ 52) (hM2 : M ≤ N + 12) :
    oMet l Z consts_1 n0 (⟨"java/lang/AbstractStringBuilder", "ensureCapacityInternal", "(I)V"⟩ : MethodName) jdk_68_method_9_code 3 none [] ({ frames := 3, cells := 1, slots := 70, locals := 52 } : Room) #[(.ref x), (.int (Int32.ofNat M))] h [x] (fun v vm' h' => v = none ∧ ∃ t' k' N', (t' = t ∨ (h.size ≤ t' ∧ Safe Z consts_1 vm' h' t')) ∧ own_G N' ∧ M ≤ N' ∧ own_SB Z h' x t' k' N' cs) := by
  refine oMet.of opn_own_ecx hO ?_
  intro p e s m below meth c T hx hby hml hret hnm hlk hh hsf A
  have hml : c.maxLocals = 3 := hml
  refine oCast (g' := mkF m 0 #[.val (.ref x), .val (.int (Int32.ofNat M)), .unset] []) (by first | (simp [entryFrame, mkF, argsToLocals, Value.category]; done) | rfl) ?_
  obtain ⟨b1, b2, b3, E_x, F_v, F_c, F_n, V_t⟩ := id S
  show oGo p e below _ (T.setTop (mkF m 0 #[.val (.ref x), .val (.int (Int32.ofNat M)), .unset] []))
  refine oSt (fun _ => XS.aloadN A.here hx rfl (Jvm.hb hby d_jdk_68_m9_0) rfl rfl) ?_
  show oGo p e below _ (T.setTop (mkF m 1 #[.val (.ref x), .val (.int (Int32.ofNat M)), .unset] [(.ref x)]))
  obtain ⟨T, A, st⟩ := A.getF hx (host := "") (Or.inl (hw _ (List.mem_of_getElem? (i := 87) rfl))) Via.refl F_v (g := (mkF m 1 #[.val (.ref x), .val (.int (Int32.ofNat M)), .unset] [(.ref x)])) rfl rfl (Jvm.hb hby d_jdk_68_m9_1)
  refine oSt st ?_
  show oGo p e below _ (T.setTop (mkF m 4 #[.val (.ref x), .val (.int (Int32.ofNat M)), .unset] [(.ref t)]))
  refine oSt (A.len hx V_t (g := (mkF m 4 #[.val (.ref x), .val (.int (Int32.ofNat M)), .unset] [(.ref t)])) rfl rfl (Jvm.hb hby d_jdk_68_m9_4)) ?_
  show oGo p e below _ (T.setTop (mkF m 5 #[.val (.ref x), .val (.int (Int32.ofNat M)), .unset] [(.int (Int32.ofNat N))]))
  refine oSt (fun _ => XS.aloadN A.here hx rfl (Jvm.hb hby d_jdk_68_m9_5) rfl rfl) ?_
  show oGo p e below _ (T.setTop (mkF m 6 #[.val (.ref x), .val (.int (Int32.ofNat M)), .unset] [(.ref x), (.int (Int32.ofNat N))]))
  obtain ⟨T, A, st⟩ := A.getF hx (host := "") (Or.inl (hw _ (List.mem_of_getElem? (i := 89) rfl))) Via.refl F_c (g := (mkF m 6 #[.val (.ref x), .val (.int (Int32.ofNat M)), .unset] [(.ref x), (.int (Int32.ofNat N))])) rfl rfl (Jvm.hb hby d_jdk_68_m9_6)
  refine oSt st ?_
  show oGo p e below _ (T.setTop (mkF m 9 #[.val (.ref x), .val (.int (Int32.ofNat M)), .unset] [(.int (0 : Int32)), (.int (Int32.ofNat N))]))
  refine oSt (fun _ => XS.ishr A.here hx rfl (Jvm.hb hby d_jdk_68_m9_9) rfl) ?_
  show oGo p e below _ (T.setTop (mkF m 10 #[.val (.ref x), .val (.int (Int32.ofNat M)), .unset] [(.int ((Int32.ofNat N) >>> ((0 : Int32) &&& 31)))]))
  refine oSt (fun _ => XS.istoreN A.here hx rfl (Jvm.hb hby d_jdk_68_m9_10) rfl (l' := #[.val (.ref x), .val (.int (Int32.ofNat M)), .val (.int ((Int32.ofNat N) >>> ((0 : Int32) &&& 31)))]) rfl) ?_
  show oGo p e below _ (T.setTop (mkF m 11 #[.val (.ref x), .val (.int (Int32.ofNat M)), .val (.int ((Int32.ofNat N) >>> ((0 : Int32) &&& 31)))] []))
  refine oSt (fun _ => XS.iloadN A.here hx rfl (Jvm.hb hby d_jdk_68_m9_11) rfl) ?_
  show oGo p e below _ (T.setTop (mkF m 12 #[.val (.ref x), .val (.int (Int32.ofNat M)), .val (.int ((Int32.ofNat N) >>> ((0 : Int32) &&& 31)))] [(.int (Int32.ofNat M))]))
  refine oSt (fun _ => XS.iloadN A.here hx rfl (Jvm.hb hby d_jdk_68_m9_12) rfl) ?_
  show oGo p e below _ (T.setTop (mkF m 13 #[.val (.ref x), .val (.int (Int32.ofNat M)), .val (.int ((Int32.ofNat N) >>> ((0 : Int32) &&& 31)))] [(.int ((Int32.ofNat N) >>> ((0 : Int32) &&& 31))), (.int (Int32.ofNat M))]))
  refine oSt (fun _ => XS.isub A.here hx rfl (Jvm.hb hby d_jdk_68_m9_13) rfl) ?_
  show oGo p e below _ (T.setTop (mkF m 14 #[.val (.ref x), .val (.int (Int32.ofNat M)), .val (.int ((Int32.ofNat N) >>> ((0 : Int32) &&& 31)))] [(.int ((Int32.ofNat M) - ((Int32.ofNat N) >>> ((0 : Int32) &&& 31))))]))
  rw [own_shr0]
  show oGo p e below _ (T.setTop (mkF m 14 #[.val (.ref x), .val (.int (Int32.ofNat M)), .val (.int (Int32.ofNat N))] [(.int ((Int32.ofNat M) - (Int32.ofNat N)))]))
  by_cases hq : M ≤ N
  · refine oSt (fun _ => XS.ifYes A.here hx rfl (pc0 := 14) (pc' := 38) rfl (Jvm.hb hby d_jdk_68_m9_14) rfl (Jvm.Free.XT.i0_le_t (own_ec hq b3)) (by decide) (by decide)) ?_
    show oGo p e below _ (T.setTop (mkF m 38 #[.val (.ref x), .val (.int (Int32.ofNat M)), .val (.int (Int32.ofNat N))] []))
    exact A.leave hlk hEL (v := none) (fun _ => rfl) (fun _ C => ⟨rfl, t, k, N, Or.inl rfl, hG, hq, S⟩) (by decide) (by decide) (fun fs hr => A.1.returnOut hx hret (Jvm.hb hby d_jdk_68_m9_38) hr)
  · obtain ⟨u1, u2, u3, u4, u5⟩ := hG.up (Nat.lt_of_not_le hq) hM hM2
    refine oSt (fun _ => XS.ifNo A.here hx rfl (Jvm.hb hby d_jdk_68_m9_14) rfl (Jvm.Free.XT.i0_le_f (own_ecg (by omega) (by omega)))) ?_
    show oGo p e below _ (T.setTop (mkF m 17 #[.val (.ref x), .val (.int (Int32.ofNat M)), .val (.int (Int32.ofNat N))] []))
    refine oSt (fun _ => XS.aloadN A.here hx rfl (Jvm.hb hby d_jdk_68_m9_17) rfl rfl) ?_
    show oGo p e below _ (T.setTop (mkF m 18 #[.val (.ref x), .val (.int (Int32.ofNat M)), .val (.int (Int32.ofNat N))] [(.ref x)]))
    refine oSt (fun _ => XS.aloadN A.here hx rfl (Jvm.hb hby d_jdk_68_m9_18) rfl rfl) ?_
    show oGo p e below _ (T.setTop (mkF m 19 #[.val (.ref x), .val (.int (Int32.ofNat M)), .val (.int (Int32.ofNat N))] [(.ref x), (.ref x)]))
    obtain ⟨T, A, st⟩ := A.getF hx (host := "") (Or.inl (hw _ (List.mem_of_getElem? (i := 87) rfl))) Via.refl F_v (g := (mkF m 19 #[.val (.ref x), .val (.int (Int32.ofNat M)), .val (.int (Int32.ofNat N))] [(.ref x), (.ref x)])) rfl rfl (Jvm.hb hby d_jdk_68_m9_19)
    refine oSt st ?_
    show oGo p e below _ (T.setTop (mkF m 22 #[.val (.ref x), .val (.int (Int32.ofNat M)), .val (.int (Int32.ofNat N))] [(.ref t), (.ref x)]))
    refine oSt (fun _ => XS.aloadN A.here hx rfl (Jvm.hb hby d_jdk_68_m9_22) rfl rfl) ?_
    show oGo p e below _ (T.setTop (mkF m 23 #[.val (.ref x), .val (.int (Int32.ofNat M)), .val (.int (Int32.ofNat N))] [(.ref x), (.ref t), (.ref x)]))
    refine oSt (fun _ => XS.iloadN A.here hx rfl (Jvm.hb hby d_jdk_68_m9_23) rfl) ?_
    show oGo p e below _ (T.setTop (mkF m 24 #[.val (.ref x), .val (.int (Int32.ofNat M)), .val (.int (Int32.ofNat N))] [(.int (Int32.ofNat M)), (.ref x), (.ref t), (.ref x)]))
    obtain ⟨_, vm, T, h, L, A, K, CR, ⟨rfl, rfl⟩, st⟩ := A.callV hx (y := (⟨"java/lang/AbstractStringBuilder", "newCapacity", "(I)I"⟩ : MethodName)) (z := (⟨"java/lang/AbstractStringBuilder", "newCapacity", "(I)I"⟩ : MethodName)) (hw _ (List.mem_of_getElem? (i := 142) rfl)) (oDecl (hw _ (List.mem_of_getElem? (i := 143) rfl)) (hw _ (List.mem_of_getElem? (i := 146) rfl))) (A.nf (hw _ (List.mem_of_getElem? (i := 145) rfl))) (hw _ (List.mem_of_getElem? (i := 145) rfl)) (hw _ (List.mem_of_getElem? (i := 143) rfl)) (hw _ (List.mem_of_getElem? (i := 83) rfl)) (hw _ (List.mem_of_getElem? (i := 146) rfl)) (by decide) hEL (a := x) (argsL := [(.int (Int32.ofNat M))]) (rest := [(.ref t), (.ref x)]) (own_ncap l Z a0 hw hEL n0 _ A.oldn x t k N cs _ S (by omega) u4 (by omega)) E_x (W := 2) (by decide) (by decide) (by decide) (by decide) all0 all0 all0 (g := (mkF m 24 #[.val (.ref x), .val (.int (Int32.ofNat M)), .val (.int (Int32.ofNat N))] [(.int (Int32.ofNat M)), (.ref x), (.ref t), (.ref x)])) rfl (by rw [hml]; rfl) (lenOf opd19 rfl) rfl (by show 2 * 0 + _ ≤ _; exact Nat.le_of_eq rfl) (Jvm.hb hby d_jdk_68_m9_24)
    refine oSt st ?_
    have X := oExt0 K
    show oGo p e below _ (T.setTop (mkF m 27 #[.val (.ref x), .val (.int (Int32.ofNat M)), .val (.int (Int32.ofNat N))] [(.int (Int32.ofNat (2 * N + 2))), (.ref t), (.ref x)]))
    refine oSt (fun _ => XS.aloadN A.here hx rfl (Jvm.hb hby d_jdk_68_m9_27) rfl rfl) ?_
    show oGo p e below _ (T.setTop (mkF m 28 #[.val (.ref x), .val (.int (Int32.ofNat M)), .val (.int (Int32.ofNat N))] [(.ref x), (.int (Int32.ofNat (2 * N + 2))), (.ref t), (.ref x)]))
    obtain ⟨T, A, st⟩ := A.getF hx (host := "") (Or.inl (hw _ (List.mem_of_getElem? (i := 89) rfl))) Via.refl F_c (g := (mkF m 28 #[.val (.ref x), .val (.int (Int32.ofNat M)), .val (.int (Int32.ofNat N))] [(.ref x), (.int (Int32.ofNat (2 * N + 2))), (.ref t), (.ref x)])) rfl rfl (Jvm.hb hby d_jdk_68_m9_28)
    refine oSt st ?_
    show oGo p e below _ (T.setTop (mkF m 31 #[.val (.ref x), .val (.int (Int32.ofNat M)), .val (.int (Int32.ofNat N))] [(.int (0 : Int32)), (.int (Int32.ofNat (2 * N + 2))), (.ref t), (.ref x)]))
    refine oSt (fun _ => XS.ishl A.here hx rfl (Jvm.hb hby d_jdk_68_m9_31) rfl) ?_
    show oGo p e below _ (T.setTop (mkF m 32 #[.val (.ref x), .val (.int (Int32.ofNat M)), .val (.int (Int32.ofNat N))] [(.int ((Int32.ofNat (2 * N + 2)) <<< ((0 : Int32) &&& 31))), (.ref t), (.ref x)]))
    rw [own_shl0]
    show oGo p e below _ (T.setTop (mkF m 32 #[.val (.ref x), .val (.int (Int32.ofNat M)), .val (.int (Int32.ofNat N))] [(.int (Int32.ofNat (2 * N + 2))), (.ref t), (.ref x)]))
    obtain ⟨_, vm, T, h, L, A, K, CR, ⟨b, kb, rfl, le_b, V_b, S_b⟩, st⟩ := A.callS hx (y := (⟨"java/util/Arrays", "copyOf", "([BI)[B"⟩ : MethodName)) (hw _ (List.mem_of_getElem? (i := 157) rfl)) (hw _ (List.mem_of_getElem? (i := 158) rfl)) (hw _ (List.mem_of_getElem? (i := 159) rfl)) (hw _ (List.mem_of_getElem? (i := 160) rfl)) (by decide) hEL (argsL := [(.ref t), (.int (Int32.ofNat (2 * N + 2)))]) (rest := [(.ref x)]) (own_cpo l Z a0 hw hEL n0 _ A.oldn t k N (2 * N + 2) (own_buf N cs) V_t (own_bufL b2) (by omega) u3) (W := 1) (by decide) (by decide) (by decide) (by decide) all0 all0 all0 (g := (mkF m 32 #[.val (.ref x), .val (.int (Int32.ofNat M)), .val (.int (Int32.ofNat N))] [(.int (Int32.ofNat (2 * N + 2))), (.ref t), (.ref x)])) rfl (by rw [hml]; rfl) (lenOf opd20 rfl) rfl (by show 2 * 0 + _ ≤ _; exact Nat.le_of_eq rfl) (Jvm.hb hby d_jdk_68_m9_32)
    refine oSt st ?_
    have X := oExt0 K
    have E_x := E_x.ext X
    have F_v := F_v.ext X
    have F_c := F_c.ext X
    have F_n := F_n.ext X
    show oGo p e below _ (T.setTop (mkF m 35 #[.val (.ref x), .val (.int (Int32.ofNat M)), .val (.int (Int32.ofNat N))] [(.ref b), (.ref x)]))
    rw [own_bufG b2 (by omega)] at V_b
    have hxb : x ≠ b := E_x.neArv V_b (hw _ (List.mem_of_getElem? (i := 74) rfl))
    have CH1 := A.ch
    have SX1 := A.safeExa E_x (by decide) (by decide)
    obtain ⟨T, h, A, W, st⟩ := A.putF hx (host := "") (Or.inl (hw _ (List.mem_of_getElem? (i := 87) rfl))) Via.refl F_v E_x (Or.inl (hw _ (List.mem_of_getElem? (i := 88) rfl))) (hw _ (List.mem_of_getElem? (i := 74) rfl)) (ty := (.array .byte)) (by decide) rfl rfl n0_x (Or.inl (List.mem_cons_self ..)) (A.safeExa E_x (by decide) (by decide)) (g := (mkF m 35 #[.val (.ref x), .val (.int (Int32.ofNat M)), .val (.int (Int32.ofNat N))] [(.ref b), (.ref x)])) rfl rfl (Jvm.hb hby d_jdk_68_m9_35)
    refine oSt st ?_
    show oGo p e below _ (T.setTop (mkF m 38 #[.val (.ref x), .val (.int (Int32.ofNat M)), .val (.int (Int32.ofNat N))] []))
    have S_b := Safe.wr W SX1 CH1 S_b
    have V_b := V_b.other W (Ne.symm hxb)
    have E_x := E_x.wr W
    have F_c := F_c.other W (Or.inr (slot_ne (Or.inl (hw _ (List.mem_of_getElem? (i := 90) rfl))) (Or.inl (hw _ (List.mem_of_getElem? (i := 88) rfl))) (by decide) (t := .byte) (t' := (.array .byte)) (by decide) (by decide)))
    have F_n := F_n.other W (Or.inr (slot_ne (Or.inl (hw _ (List.mem_of_getElem? (i := 115) rfl))) (Or.inl (hw _ (List.mem_of_getElem? (i := 88) rfl))) (by decide) (t := .int) (t' := (.array .byte)) (by decide) (by decide)))
    have F_v := F_v.same W
    exact A.leave hlk hEL (v := none) (fun _ => rfl) (fun _ C => ⟨rfl, b, kb, 2 * N + 2, Or.inr ⟨le_b, C.safe V_b.lt S_b⟩, u1, u2, b1, by omega, by omega, E_x, F_v, F_c, F_n, V_b⟩) (by decide) (by decide) (fun fs hr => A.1.returnOut hx hret (Jvm.hb hby d_jdk_68_m9_38) hr)
theorem opn_own_asbX : plainFor (⟨"java/lang/AbstractStringBuilder", "append", "(Ljava/lang/String;)Ljava/lang/AbstractStringBuilder;"⟩ : MethodName) = true := plainFor_of_name (by first | (simp [plainName, overriddenIn]; done) | decide +kernel)
set_option maxRecDepth 65536 in
set_option maxHeartbeats 40000000 in
theorem own_asbX (l : Launch) (Z : State) (a0 : Array Value) (hw : ∀ d ∈ tables_1, d.before a0 Z = true) (hEL : EW Z a0 consts_1) (n0 : Nat) (h : Heap) (hO : Old Z n0 h) (x t : Addr) (k : ClassId) (N : Nat) (cs : List Int32) (y : Addr) (ds : List Int32) (zc : Int32) (hcs : Sta Z Z.heap "java/lang/String" "COMPACT_STRINGS" "Z" (.int zc)) (hcz : ¬ zc = 0) (S : own_SB Z h x t k N cs) (hG : own_G N) (n0_x : n0 ≤ x) (n0_t : n0 ≤ t) (Q : oStr Z h y ds) (hM : cs.length + ds.length ≤ 52) (hd12 : ds.length ≤ 12) :
    oMet l Z consts_1 n0 (⟨"java/lang/AbstractStringBuilder", "append", "(Ljava/lang/String;)Ljava/lang/AbstractStringBuilder;"⟩ : MethodName) jdk_68_method_22_code 3 (some (.object "java/lang/AbstractStringBuilder")) [] ({ frames := 4, cells := 1, slots := 70, locals := 66 } : Room) #[(.ref x), (.ref y)] h [x, t] (fun v vm' h' => v = some (.ref x) ∧ ∃ t' k' N', (t' = t ∨ h.size ≤ t') ∧ own_G N' ∧ own_SB Z h' x t' k' N' (cs ++ ds) ∧ Safe Z consts_1 vm' h' t') := by
  refine oMet.of opn_own_asbX hO ?_
  intro p e s m below meth c T hx hby hml hret hnm hlk hh hsf A
  have hml : c.maxLocals = 3 := hml
  refine oCast (g' := mkF m 0 #[.val (.ref x), .val (.ref y), .unset] []) (by first | (simp [entryFrame, mkF, argsToLocals, Value.category]; done) | rfl) ?_
  have S_x := hsf x (List.mem_cons_self ..)
  have S_t := hsf t (List.mem_cons_of_mem _ (List.mem_cons_self ..))
  obtain ⟨b1, b2, b3, E_x, F_v, F_c, F_n, V_t⟩ := id S
  have hln : ∀ d ∈ StrChars.Road.wordsLen, d.before a0 Z = true := fun d hd => hw d ((by decide +kernel : ∀ d ∈ StrChars.Road.wordsLen, d ∈ tables_1) d hd)
  show oGo p e below _ (T.setTop (mkF m 0 #[.val (.ref x), .val (.ref y), .unset] []))
  refine oSt (fun _ => XS.aloadN A.here hx rfl (Jvm.hb hby d_jdk_68_m22_0) rfl rfl) ?_
  show oGo p e below _ (T.setTop (mkF m 1 #[.val (.ref x), .val (.ref y), .unset] [(.ref y)]))
  refine oSt (fun _ => XS.ifnonnullYes A.here hx rfl (pc0 := 1) (pc' := 9) rfl (Jvm.hb hby d_jdk_68_m22_1) rfl (by decide) (by decide)) ?_
  show oGo p e below _ (T.setTop (mkF m 9 #[.val (.ref x), .val (.ref y), .unset] []))
  refine oSt (fun _ => XS.aloadN A.here hx rfl (Jvm.hb hby d_jdk_68_m22_9) rfl rfl) ?_
  show oGo p e below _ (T.setTop (mkF m 10 #[.val (.ref x), .val (.ref y), .unset] [(.ref y)]))
  obtain ⟨T, A, st⟩ := A.sLen hx hln (hw _ (List.mem_of_getElem? (i := 10) rfl)) (hw _ (List.mem_of_getElem? (i := 104) rfl)) (hw _ (List.mem_of_getElem? (i := 105) rfl)) (hw _ (List.mem_of_getElem? (i := 107) rfl)) (hw _ (List.mem_of_getElem? (i := 106) rfl)) Q hcs hcz (W := 0) (by decide) (by decide) (by decide) (by decide) (g := (mkF m 10 #[.val (.ref x), .val (.ref y), .unset] [(.ref y)])) rfl (by rw [hml]; rfl) rfl (by show 2 * 0 + _ ≤ _; exact Nat.le_of_eq rfl) (Jvm.hb hby d_jdk_68_m22_10)
  refine oSt st ?_
  show oGo p e below _ (T.setTop (mkF m 13 #[.val (.ref x), .val (.ref y), .unset] [(.int (Int32.ofNat ds.length))]))
  refine oSt (fun _ => XS.istoreN A.here hx rfl (Jvm.hb hby d_jdk_68_m22_13) rfl (l' := #[.val (.ref x), .val (.ref y), .val (.int (Int32.ofNat ds.length))]) rfl) ?_
  show oGo p e below _ (T.setTop (mkF m 14 #[.val (.ref x), .val (.ref y), .val (.int (Int32.ofNat ds.length))] []))
  refine oSt (fun _ => XS.aloadN A.here hx rfl (Jvm.hb hby d_jdk_68_m22_14) rfl rfl) ?_
  show oGo p e below _ (T.setTop (mkF m 15 #[.val (.ref x), .val (.ref y), .val (.int (Int32.ofNat ds.length))] [(.ref x)]))
  refine oSt (fun _ => XS.aloadN A.here hx rfl (Jvm.hb hby d_jdk_68_m22_15) rfl rfl) ?_
  show oGo p e below _ (T.setTop (mkF m 16 #[.val (.ref x), .val (.ref y), .val (.int (Int32.ofNat ds.length))] [(.ref x), (.ref x)]))
  obtain ⟨T, A, st⟩ := A.getF hx (host := "") (Or.inl (hw _ (List.mem_of_getElem? (i := 114) rfl))) Via.refl F_n (g := (mkF m 16 #[.val (.ref x), .val (.ref y), .val (.int (Int32.ofNat ds.length))] [(.ref x), (.ref x)])) rfl rfl (Jvm.hb hby d_jdk_68_m22_16)
  refine oSt st ?_
  show oGo p e below _ (T.setTop (mkF m 19 #[.val (.ref x), .val (.ref y), .val (.int (Int32.ofNat ds.length))] [(.int (Int32.ofNat cs.length)), (.ref x)]))
  refine oSt (fun _ => XS.iloadN A.here hx rfl (Jvm.hb hby d_jdk_68_m22_19) rfl) ?_
  show oGo p e below _ (T.setTop (mkF m 20 #[.val (.ref x), .val (.ref y), .val (.int (Int32.ofNat ds.length))] [(.int (Int32.ofNat ds.length)), (.int (Int32.ofNat cs.length)), (.ref x)]))
  refine oSt (fun _ => XS.iadd A.here hx rfl (Jvm.hb hby d_jdk_68_m22_20) rfl) ?_
  show oGo p e below _ (T.setTop (mkF m 21 #[.val (.ref x), .val (.ref y), .val (.int (Int32.ofNat ds.length))] [(.int ((Int32.ofNat cs.length) + (Int32.ofNat ds.length))), (.ref x)]))
  rw [own_addn (by omega)]
  show oGo p e below _ (T.setTop (mkF m 21 #[.val (.ref x), .val (.ref y), .val (.int (Int32.ofNat ds.length))] [(.int (Int32.ofNat (cs.length + ds.length))), (.ref x)]))
  have lt_t := V_t.lt
  have E_x0 := E_x
  obtain ⟨_, vm, T, h, L, A, K, CR, ⟨rfl, t', k', N', ht, hG', hMN, S'⟩, st⟩ := A.callV hx (y := (⟨"java/lang/AbstractStringBuilder", "ensureCapacityInternal", "(I)V"⟩ : MethodName)) (z := (⟨"java/lang/AbstractStringBuilder", "ensureCapacityInternal", "(I)V"⟩ : MethodName)) (hw _ (List.mem_of_getElem? (i := 116) rfl)) (oDecl (hw _ (List.mem_of_getElem? (i := 117) rfl)) (hw _ (List.mem_of_getElem? (i := 120) rfl))) (A.nf (hw _ (List.mem_of_getElem? (i := 119) rfl))) (hw _ (List.mem_of_getElem? (i := 119) rfl)) (hw _ (List.mem_of_getElem? (i := 117) rfl)) (hw _ (List.mem_of_getElem? (i := 83) rfl)) (hw _ (List.mem_of_getElem? (i := 120) rfl)) (by decide) hEL (a := x) (argsL := [(.int (Int32.ofNat (cs.length + ds.length)))]) (rest := []) (own_ecx l Z a0 hw hEL n0 _ A.oldn x t k N cs _ S hG n0_x hM (by omega)) E_x (W := 0) (by decide) (by decide) (by decide) (by decide) (oIn1 n0_x) (oIn1 (Or.inl (List.mem_cons_self ..))) (oIn1 S_x) (g := (mkF m 21 #[.val (.ref x), .val (.ref y), .val (.int (Int32.ofNat ds.length))] [(.int (Int32.ofNat (cs.length + ds.length))), (.ref x)])) rfl (by rw [hml]; rfl) (lenOf opd4 rfl) rfl (by show 2 * 0 + _ ≤ _; exact Nat.le_of_eq rfl) (Jvm.hb hby d_jdk_68_m22_21)
  refine oSt st ?_
  show oGo p e below _ (T.setTop (mkF m 24 #[.val (.ref x), .val (.ref y), .val (.int (Int32.ofNat ds.length))] []))
  have S_t' : Safe Z consts_1 vm h t' := ht.elim (fun q => by rw [q]; exact CR.safe lt_t S_t) (fun q => q.2)
  have ht' := ht.imp id And.left
  have n0_t' : n0 ≤ t' := own_frs ht' n0_t (hO.1 ▸ hO.2.1)
  have q_t' : t' ∈ [x, t] ∨ s.heap.size ≤ t' := ht'.elim (fun q => Or.inl (q ▸ List.mem_cons_of_mem _ (List.mem_cons_self ..))) (fun q => Or.inr (hh ▸ q))
  obtain ⟨d1, d2, d3, E_x, F_v, F_c, F_n, V_t⟩ := id S'
  have hne : x ≠ t' := E_x.neArv V_t (hw _ (List.mem_of_getElem? (i := 74) rfl))
  have Q := own_strK Q K E_x0 (hw _ (List.mem_of_getElem? (i := 74) rfl))
  refine oSt (fun _ => XS.aloadN A.here hx rfl (Jvm.hb hby d_jdk_68_m22_24) rfl rfl) ?_
  show oGo p e below _ (T.setTop (mkF m 25 #[.val (.ref x), .val (.ref y), .val (.int (Int32.ofNat ds.length))] [(.ref x)]))
  refine oSt (fun _ => XS.aloadN A.here hx rfl (Jvm.hb hby d_jdk_68_m22_25) rfl rfl) ?_
  show oGo p e below _ (T.setTop (mkF m 26 #[.val (.ref x), .val (.ref y), .val (.int (Int32.ofNat ds.length))] [(.ref x), (.ref x)]))
  obtain ⟨T, A, st⟩ := A.getF hx (host := "") (Or.inl (hw _ (List.mem_of_getElem? (i := 114) rfl))) Via.refl F_n (g := (mkF m 26 #[.val (.ref x), .val (.ref y), .val (.int (Int32.ofNat ds.length))] [(.ref x), (.ref x)])) rfl rfl (Jvm.hb hby d_jdk_68_m22_26)
  refine oSt st ?_
  show oGo p e below _ (T.setTop (mkF m 29 #[.val (.ref x), .val (.ref y), .val (.int (Int32.ofNat ds.length))] [(.int (Int32.ofNat cs.length)), (.ref x)]))
  refine oSt (fun _ => XS.aloadN A.here hx rfl (Jvm.hb hby d_jdk_68_m22_29) rfl rfl) ?_
  show oGo p e below _ (T.setTop (mkF m 30 #[.val (.ref x), .val (.ref y), .val (.int (Int32.ofNat ds.length))] [(.ref y), (.int (Int32.ofNat cs.length)), (.ref x)]))
  have lt_t' := V_t.lt
  obtain ⟨_, vm, T, h, L, A, K, CR, ⟨rfl, V_t⟩, st⟩ := A.callV hx (y := (⟨"java/lang/AbstractStringBuilder", "putStringAt", "(ILjava/lang/String;)V"⟩ : MethodName)) (z := (⟨"java/lang/AbstractStringBuilder", "putStringAt", "(ILjava/lang/String;)V"⟩ : MethodName)) (hw _ (List.mem_of_getElem? (i := 121) rfl)) (oDecl (hw _ (List.mem_of_getElem? (i := 122) rfl)) (hw _ (List.mem_of_getElem? (i := 125) rfl))) (A.nf (hw _ (List.mem_of_getElem? (i := 124) rfl))) (hw _ (List.mem_of_getElem? (i := 124) rfl)) (hw _ (List.mem_of_getElem? (i := 122) rfl)) (hw _ (List.mem_of_getElem? (i := 83) rfl)) (hw _ (List.mem_of_getElem? (i := 125) rfl)) (by decide) hEL (a := x) (argsL := [(.int (Int32.ofNat cs.length)), (.ref y)]) (rest := []) (own_psa l Z a0 hw hEL n0 _ A.oldn x t' k' N' cs y ds zc hcs hcz S' Q hMN n0_t') E_x (W := 0) (by decide) (by decide) (by decide) (by decide) (oIn1 n0_t') (oIn1 q_t') (oIn1 S_t') (g := (mkF m 30 #[.val (.ref x), .val (.ref y), .val (.int (Int32.ofNat ds.length))] [(.ref y), (.int (Int32.ofNat cs.length)), (.ref x)])) rfl (by rw [hml]; rfl) (lenOf opd8 rfl) rfl (by show 2 * 0 + _ ≤ _; exact Nat.le_of_eq rfl) (Jvm.hb hby d_jdk_68_m22_30)
  refine oSt st ?_
  show oGo p e below _ (T.setTop (mkF m 33 #[.val (.ref x), .val (.ref y), .val (.int (Int32.ofNat ds.length))] []))
  have F_v := F_v.keep K (ninS hne nin0)
  have F_c := F_c.keep K (ninS hne nin0)
  have F_n := F_n.keep K (ninS hne nin0)
  have E_x := E_x.keep K
  have S_t' := CR.safe lt_t' S_t'
  refine oSt (fun _ => XS.aloadN A.here hx rfl (Jvm.hb hby d_jdk_68_m22_33) rfl rfl) ?_
  show oGo p e below _ (T.setTop (mkF m 34 #[.val (.ref x), .val (.ref y), .val (.int (Int32.ofNat ds.length))] [(.ref x)]))
  refine oSt (fun _ => XS.dup A.here hx rfl (Jvm.hb hby d_jdk_68_m22_34) rfl rfl) ?_
  show oGo p e below _ (T.setTop (mkF m 35 #[.val (.ref x), .val (.ref y), .val (.int (Int32.ofNat ds.length))] [(.ref x), (.ref x)]))
  obtain ⟨T, A, st⟩ := A.getF hx (host := "") (Or.inl (hw _ (List.mem_of_getElem? (i := 114) rfl))) Via.refl F_n (g := (mkF m 35 #[.val (.ref x), .val (.ref y), .val (.int (Int32.ofNat ds.length))] [(.ref x), (.ref x)])) rfl rfl (Jvm.hb hby d_jdk_68_m22_35)
  refine oSt st ?_
  show oGo p e below _ (T.setTop (mkF m 38 #[.val (.ref x), .val (.ref y), .val (.int (Int32.ofNat ds.length))] [(.int (Int32.ofNat cs.length)), (.ref x)]))
  refine oSt (fun _ => XS.iloadN A.here hx rfl (Jvm.hb hby d_jdk_68_m22_38) rfl) ?_
  show oGo p e below _ (T.setTop (mkF m 39 #[.val (.ref x), .val (.ref y), .val (.int (Int32.ofNat ds.length))] [(.int (Int32.ofNat ds.length)), (.int (Int32.ofNat cs.length)), (.ref x)]))
  refine oSt (fun _ => XS.iadd A.here hx rfl (Jvm.hb hby d_jdk_68_m22_39) rfl) ?_
  show oGo p e below _ (T.setTop (mkF m 40 #[.val (.ref x), .val (.ref y), .val (.int (Int32.ofNat ds.length))] [(.int ((Int32.ofNat cs.length) + (Int32.ofNat ds.length))), (.ref x)]))
  rw [own_addn (by omega)]
  show oGo p e below _ (T.setTop (mkF m 40 #[.val (.ref x), .val (.ref y), .val (.int (Int32.ofNat ds.length))] [(.int (Int32.ofNat (cs.length + ds.length))), (.ref x)]))
  have CH1 := A.ch
  have SX1 := A.safeExa E_x (by decide) (by decide)
  obtain ⟨T, h, A, W, st⟩ := A.putF hx (host := "") (Or.inl (hw _ (List.mem_of_getElem? (i := 114) rfl))) Via.refl F_n E_x (Or.inl (hw _ (List.mem_of_getElem? (i := 115) rfl))) (hw _ (List.mem_of_getElem? (i := 74) rfl)) (ty := .int) (by decide) rfl rfl n0_x (Or.inl (List.mem_cons_self ..)) (A.safeExa E_x (by decide) (by decide)) (g := (mkF m 40 #[.val (.ref x), .val (.ref y), .val (.int (Int32.ofNat ds.length))] [(.int (Int32.ofNat (cs.length + ds.length))), (.ref x)])) rfl rfl (Jvm.hb hby d_jdk_68_m22_40)
  refine oSt st ?_
  show oGo p e below _ (T.setTop (mkF m 43 #[.val (.ref x), .val (.ref y), .val (.int (Int32.ofNat ds.length))] []))
  have S_t' := Safe.wr W SX1 CH1 S_t'
  have V_t := V_t.other W (Ne.symm hne)
  have E_x := E_x.wr W
  have F_v := F_v.other W (Or.inr (slot_ne (Or.inl (hw _ (List.mem_of_getElem? (i := 88) rfl))) (Or.inl (hw _ (List.mem_of_getElem? (i := 115) rfl))) (by decide) (t := (.array .byte)) (t' := .int) (by decide) (by decide)))
  have F_c := F_c.other W (Or.inr (slot_ne (Or.inl (hw _ (List.mem_of_getElem? (i := 90) rfl))) (Or.inl (hw _ (List.mem_of_getElem? (i := 115) rfl))) (by decide) (t := .byte) (t' := .int) (by decide) (by decide)))
  have F_n := F_n.same W
  refine oSt (fun _ => XS.aloadN A.here hx rfl (Jvm.hb hby d_jdk_68_m22_43) rfl rfl) ?_
  show oGo p e below _ (T.setTop (mkF m 44 #[.val (.ref x), .val (.ref y), .val (.int (Int32.ofNat ds.length))] [(.ref x)]))
  exact A.leave hlk hEL (v := some (.ref x)) (fun h => by rw [hret] at h; cases h) (fun _ C => ⟨rfl, t', k', N', ht', hG', ⟨fun c hc => (List.mem_append.mp hc).elim (b1 c) (Q.1 c), by first | omega | (simp; done) | (simp; omega), d3, E_x, F_v, F_c, by rw [List.length_append]; exact F_n, V_t⟩, C.safe V_t.lt S_t'⟩) (by decide) (by decide) (fun fs hr => retOut A.1 hx hret rfl (Or.inr (Or.inr (Or.inr (Or.inr ⟨rfl, rfl, rfl⟩)))) (Jvm.hb hby d_jdk_68_m22_44) hr)
theorem opn_own_appX : plainFor (⟨"java/lang/StringBuilder", "append", "(Ljava/lang/String;)Ljava/lang/StringBuilder;"⟩ : MethodName) = true := plainFor_of_name (by first | (simp [plainName, overriddenIn]; done) | decide +kernel)
set_option maxRecDepth 65536 in
set_option maxHeartbeats 40000000 in
theorem own_appX (l : Launch) (Z : State) (a0 : Array Value) (hw : ∀ d ∈ tables_1, d.before a0 Z = true) (hEL : EW Z a0 consts_1) (n0 : Nat) (h : Heap) (hO : Old Z n0 h) (x t : Addr) (k : ClassId) (N : Nat) (cs : List Int32) (y : Addr) (ds : List Int32) (zc : Int32) (hcs : Sta Z Z.heap "java/lang/String" "COMPACT_STRINGS" "Z" (.int zc)) (hcz : ¬ zc = 0) (S : own_SB Z h x t k N cs) (hG : own_G N) (n0_x : n0 ≤ x) (n0_t : n0 ≤ t) (Q : oStr Z h y ds) (hM : cs.length + ds.length ≤ 52) (hd12 : ds.length ≤ 12) :
    oMet l Z consts_1 n0 (⟨"java/lang/StringBuilder", "append", "(Ljava/lang/String;)Ljava/lang/StringBuilder;"⟩ : MethodName) jdk_67_method_7_code 2 (some (.object "java/lang/StringBuilder")) [] ({ frames := 5, cells := 1, slots := 70, locals := 80 } : Room) #[(.ref x), (.ref y)] h [x, t] (fun v vm' h' => v = some (.ref x) ∧ ∃ t' k' N', (t' = t ∨ h.size ≤ t') ∧ own_G N' ∧ own_SB Z h' x t' k' N' (cs ++ ds) ∧ Safe Z consts_1 vm' h' t') := by
  refine oMet.of opn_own_appX hO ?_
  intro p e s m below meth c T hx hby hml hret hnm hlk hh hsf A
  have hml : c.maxLocals = 2 := hml
  refine oCast (g' := mkF m 0 #[.val (.ref x), .val (.ref y)] []) (by first | (simp [entryFrame, mkF, argsToLocals, Value.category]; done) | rfl) ?_
  show oGo p e below _ (T.setTop (mkF m 0 #[.val (.ref x), .val (.ref y)] []))
  refine oSt (fun _ => XS.aloadN A.here hx rfl (Jvm.hb hby d_jdk_67_m7_0) rfl rfl) ?_
  show oGo p e below _ (T.setTop (mkF m 1 #[.val (.ref x), .val (.ref y)] [(.ref x)]))
  refine oSt (fun _ => XS.aloadN A.here hx rfl (Jvm.hb hby d_jdk_67_m7_1) rfl rfl) ?_
  show oGo p e below _ (T.setTop (mkF m 2 #[.val (.ref x), .val (.ref y)] [(.ref y), (.ref x)]))
  obtain ⟨_, vm, T, h, L, A, K, CR, ⟨rfl, t', k', N', ht', hG', S', S_t'⟩, st⟩ := A.callU hx (y := (⟨"java/lang/AbstractStringBuilder", "append", "(Ljava/lang/String;)Ljava/lang/AbstractStringBuilder;"⟩ : MethodName)) (hw _ (List.mem_of_getElem? (i := 99) rfl)) (oSame (hw _ (List.mem_of_getElem? (i := 100) rfl)) (oNfZ (y' := (⟨"java/lang/AbstractStringBuilder", "ensureCapacityInternal", "(I)V"⟩ : MethodName)) (hw _ (List.mem_of_getElem? (i := 119) rfl)) rfl) (by decide)) (hw _ (List.mem_of_getElem? (i := 100) rfl)) (hw _ (List.mem_of_getElem? (i := 101) rfl)) (by decide) (hw _ (List.mem_of_getElem? (i := 83) rfl)) (hw _ (List.mem_of_getElem? (i := 103) rfl)) hEL (a := x) (argsL := [(.ref y)]) (rest := []) (own_asbX l Z a0 hw hEL n0 _ A.oldn x t k N cs y ds zc hcs hcz S hG n0_x n0_t Q hM hd12) (Ins.self S.2.2.2.1) (W := 0) (by decide) (by decide) (by decide) (by decide) (allS n0_x (allS n0_t all0)) (allS (Or.inl (List.mem_cons_self ..)) (allS (Or.inl (List.mem_cons_of_mem _ (List.mem_cons_self ..))) all0)) hsf (g := (mkF m 2 #[.val (.ref x), .val (.ref y)] [(.ref y), (.ref x)])) rfl (by rw [hml]; rfl) (lenOf opd9 rfl) rfl (by show 2 * 0 + _ ≤ _; exact Nat.le_of_eq rfl) (Jvm.hb hby d_jdk_67_m7_2)
  refine oSt st ?_
  show oGo p e below _ (T.setTop (mkF m 5 #[.val (.ref x), .val (.ref y)] [(.ref x)]))
  refine oSt (fun _ => XS.pop A.here hx rfl (Jvm.hb hby d_jdk_67_m7_5) rfl rfl) ?_
  show oGo p e below _ (T.setTop (mkF m 6 #[.val (.ref x), .val (.ref y)] []))
  refine oSt (fun _ => XS.aloadN A.here hx rfl (Jvm.hb hby d_jdk_67_m7_6) rfl rfl) ?_
  show oGo p e below _ (T.setTop (mkF m 7 #[.val (.ref x), .val (.ref y)] [(.ref x)]))
  exact A.leave hlk hEL (v := some (.ref x)) (fun h => by rw [hret] at h; cases h) (fun _ C => ⟨rfl, t', k', N', ht', hG', S', C.safe S'.2.2.2.2.2.2.2.lt S_t'⟩) (by decide) (by decide) (fun fs hr => retOut A.1 hx hret rfl (Or.inr (Or.inr (Or.inr (Or.inr ⟨rfl, rfl, rfl⟩)))) (Jvm.hb hby d_jdk_67_m7_7) hr)
theorem d_jdk_68_m26_0 : decode jdk_68_method_26_code 0 = .ok (.aload_n 0, 1) := by decide +kernel
theorem d_jdk_68_m26_1 : decode jdk_68_method_26_code 1 = .ok (.aload_n 0, 1) := by decide +kernel
theorem d_jdk_68_m26_2 : decode jdk_68_method_26_code 2 = .ok (.getfield 79, 3) := by decide +kernel
theorem d_jdk_68_m26_5 : decode jdk_68_method_26_code 5 = .ok (.iconst 4, 1) := by decide +kernel
theorem d_jdk_68_m26_6 : decode jdk_68_method_26_code 6 = .ok (.iadd, 1) := by decide +kernel
theorem d_jdk_68_m26_7 : decode jdk_68_method_26_code 7 = .ok (.invokevirtual 100, 3) := by decide +kernel
theorem d_jdk_68_m26_10 : decode jdk_68_method_26_code 10 = .ok (.aload_n 0, 1) := by decide +kernel
theorem d_jdk_68_m26_11 : decode jdk_68_method_26_code 11 = .ok (.getfield 79, 3) := by decide +kernel
theorem d_jdk_68_m26_14 : decode jdk_68_method_26_code 14 = .ok (.istore_n 1, 1) := by decide +kernel
theorem d_jdk_68_m26_15 : decode jdk_68_method_26_code 15 = .ok (.aload_n 0, 1) := by decide +kernel
theorem d_jdk_68_m26_16 : decode jdk_68_method_26_code 16 = .ok (.getfield 15, 3) := by decide +kernel
theorem d_jdk_68_m26_19 : decode jdk_68_method_26_code 19 = .ok (.astore_n 2, 1) := by decide +kernel
theorem d_jdk_68_m26_20 : decode jdk_68_method_26_code 20 = .ok (.aload_n 0, 1) := by decide +kernel
theorem d_jdk_68_m26_21 : decode jdk_68_method_26_code 21 = .ok (.invokevirtual 83, 3) := by decide +kernel
theorem d_jdk_68_m26_24 : decode jdk_68_method_26_code 24 = .ok (.ifCond .eq 38, 3) := by decide +kernel
theorem d_jdk_68_m26_27 : decode jdk_68_method_26_code 27 = .ok (.aload_n 2, 1) := by decide +kernel
theorem d_jdk_68_m26_28 : decode jdk_68_method_26_code 28 = .ok (.iload_n 1, 1) := by decide +kernel
theorem d_jdk_68_m26_29 : decode jdk_68_method_26_code 29 = .ok (.iinc 1 1, 3) := by decide +kernel
theorem d_jdk_68_m26_32 : decode jdk_68_method_26_code 32 = .ok (.bipush 110, 2) := by decide +kernel
theorem d_jdk_68_m26_34 : decode jdk_68_method_26_code 34 = .ok (.bastore, 1) := by decide +kernel
theorem d_jdk_68_m26_35 : decode jdk_68_method_26_code 35 = .ok (.aload_n 2, 1) := by decide +kernel
theorem d_jdk_68_m26_36 : decode jdk_68_method_26_code 36 = .ok (.iload_n 1, 1) := by decide +kernel
theorem d_jdk_68_m26_37 : decode jdk_68_method_26_code 37 = .ok (.iinc 1 1, 3) := by decide +kernel
theorem d_jdk_68_m26_40 : decode jdk_68_method_26_code 40 = .ok (.bipush 117, 2) := by decide +kernel
theorem d_jdk_68_m26_42 : decode jdk_68_method_26_code 42 = .ok (.bastore, 1) := by decide +kernel
theorem d_jdk_68_m26_43 : decode jdk_68_method_26_code 43 = .ok (.aload_n 2, 1) := by decide +kernel
theorem d_jdk_68_m26_44 : decode jdk_68_method_26_code 44 = .ok (.iload_n 1, 1) := by decide +kernel
theorem d_jdk_68_m26_45 : decode jdk_68_method_26_code 45 = .ok (.iinc 1 1, 3) := by decide +kernel
theorem d_jdk_68_m26_48 : decode jdk_68_method_26_code 48 = .ok (.bipush 108, 2) := by decide +kernel
theorem d_jdk_68_m26_50 : decode jdk_68_method_26_code 50 = .ok (.bastore, 1) := by decide +kernel
theorem d_jdk_68_m26_51 : decode jdk_68_method_26_code 51 = .ok (.aload_n 2, 1) := by decide +kernel
theorem d_jdk_68_m26_52 : decode jdk_68_method_26_code 52 = .ok (.iload_n 1, 1) := by decide +kernel
theorem d_jdk_68_m26_53 : decode jdk_68_method_26_code 53 = .ok (.iinc 1 1, 3) := by decide +kernel
theorem d_jdk_68_m26_56 : decode jdk_68_method_26_code 56 = .ok (.bipush 108, 2) := by decide +kernel
theorem d_jdk_68_m26_58 : decode jdk_68_method_26_code 58 = .ok (.bastore, 1) := by decide +kernel
theorem d_jdk_68_m26_59 : decode jdk_68_method_26_code 59 = .ok (.goto 17, 3) := by decide +kernel
theorem d_jdk_68_m26_62 : decode jdk_68_method_26_code 62 = .ok (.aload_n 2, 1) := by decide +kernel
theorem d_jdk_68_m26_63 : decode jdk_68_method_26_code 63 = .ok (.iload_n 1, 1) := by decide +kernel
theorem d_jdk_68_m26_64 : decode jdk_68_method_26_code 64 = .ok (.bipush 110, 2) := by decide +kernel
theorem d_jdk_68_m26_66 : decode jdk_68_method_26_code 66 = .ok (.bipush 117, 2) := by decide +kernel
theorem d_jdk_68_m26_68 : decode jdk_68_method_26_code 68 = .ok (.bipush 108, 2) := by decide +kernel
theorem d_jdk_68_m26_70 : decode jdk_68_method_26_code 70 = .ok (.bipush 108, 2) := by decide +kernel
theorem d_jdk_68_m26_72 : decode jdk_68_method_26_code 72 = .ok (.invokestatic 226, 3) := by decide +kernel
theorem d_jdk_68_m26_75 : decode jdk_68_method_26_code 75 = .ok (.istore_n 1, 1) := by decide +kernel
theorem d_jdk_68_m26_76 : decode jdk_68_method_26_code 76 = .ok (.aload_n 0, 1) := by decide +kernel
theorem d_jdk_68_m26_77 : decode jdk_68_method_26_code 77 = .ok (.iload_n 1, 1) := by decide +kernel
theorem d_jdk_68_m26_78 : decode jdk_68_method_26_code 78 = .ok (.putfield 79, 3) := by decide +kernel
theorem d_jdk_68_m26_81 : decode jdk_68_method_26_code 81 = .ok (.aload_n 0, 1) := by decide +kernel
theorem d_jdk_68_m26_82 : decode jdk_68_method_26_code 82 = .ok (.areturn, 1) := by decide +kernel
theorem opn_own_nul : plainFor (⟨"java/lang/AbstractStringBuilder", "appendNull", "()Ljava/lang/AbstractStringBuilder;"⟩ : MethodName) = true := plainFor_of_name (by first | (simp [plainName, overriddenIn]; done) | decide +kernel)
set_option maxRecDepth 65536 in
set_option maxHeartbeats 40000000 in
theorem own_nul (l : Launch) (Z : State) (a0 : Array Value) (hw : ∀ d ∈ tables_1, d.before a0 Z = true) (hEL : EW Z a0 consts_1) (n0 : Nat) (h : Heap) (hO : Old Z n0 h) (x t : Addr) (k : ClassId) (N : Nat) (cs : List Int32) (zc : Int32) (hcs : Sta Z Z.heap "java/lang/String" "COMPACT_STRINGS" "Z" (.int zc)) (hcz : ¬ zc = 0) (S : own_SB Z h x t k N cs) (hG : own_G N) (n0_x : n0 ≤ x) (n0_t : n0 ≤ t) (hM : cs.length + 4 ≤ 52) :
    oMet l Z consts_1 n0 (⟨"java/lang/AbstractStringBuilder", "appendNull", "()Ljava/lang/AbstractStringBuilder;"⟩ : MethodName) jdk_68_method_26_code 3 (some (.object "java/lang/AbstractStringBuilder")) [] ({ frames := 4, cells := 1, slots := 70, locals := 66 } : Room) #[(.ref x)] h [x, t] (fun v vm' h' => v = some (.ref x) ∧ ∃ t' k' N', (t' = t ∨ h.size ≤ t') ∧ own_G N' ∧ own_SB Z h' x t' k' N' (cs ++ ([110, 117, 108, 108] : List Int32)) ∧ Safe Z consts_1 vm' h' t') := by
  refine oMet.of opn_own_nul hO ?_
  intro p e s m below meth c T hx hby hml hret hnm hlk hh hsf A
  have hml : c.maxLocals = 3 := hml
  refine oCast (g' := mkF m 0 #[.val (.ref x), .unset, .unset] []) (by first | (simp [entryFrame, mkF, argsToLocals, Value.category]; done) | rfl) ?_
  have S_x := hsf x (List.mem_cons_self ..)
  have S_t := hsf t (List.mem_cons_of_mem _ (List.mem_cons_self ..))
  obtain ⟨b1, b2, b3, E_x, F_v, F_c, F_n, V_t⟩ := id S
  show oGo p e below _ (T.setTop (mkF m 0 #[.val (.ref x), .unset, .unset] []))
  refine oSt (fun _ => XS.aloadN A.here hx rfl (Jvm.hb hby d_jdk_68_m26_0) rfl rfl) ?_
  show oGo p e below _ (T.setTop (mkF m 1 #[.val (.ref x), .unset, .unset] [(.ref x)]))
  refine oSt (fun _ => XS.aloadN A.here hx rfl (Jvm.hb hby d_jdk_68_m26_1) rfl rfl) ?_
  show oGo p e below _ (T.setTop (mkF m 2 #[.val (.ref x), .unset, .unset] [(.ref x), (.ref x)]))
  obtain ⟨T, A, st⟩ := A.getF hx (host := "") (Or.inl (hw _ (List.mem_of_getElem? (i := 114) rfl))) Via.refl F_n (g := (mkF m 2 #[.val (.ref x), .unset, .unset] [(.ref x), (.ref x)])) rfl rfl (Jvm.hb hby d_jdk_68_m26_2)
  refine oSt st ?_
  show oGo p e below _ (T.setTop (mkF m 5 #[.val (.ref x), .unset, .unset] [(.int (Int32.ofNat cs.length)), (.ref x)]))
  refine oSt (fun _ => XS.iconst A.here hx rfl (Jvm.hb hby d_jdk_68_m26_5)) ?_
  show oGo p e below _ (T.setTop (mkF m 6 #[.val (.ref x), .unset, .unset] [(.int (4 : Int32)), (.int (Int32.ofNat cs.length)), (.ref x)]))
  refine oSt (fun _ => XS.iadd A.here hx rfl (Jvm.hb hby d_jdk_68_m26_6) rfl) ?_
  show oGo p e below _ (T.setTop (mkF m 7 #[.val (.ref x), .unset, .unset] [(.int ((Int32.ofNat cs.length) + (4 : Int32))), (.ref x)]))
  rw [show (4 : Int32) = Int32.ofNat 4 from rfl, own_addn (by omega)]
  show oGo p e below _ (T.setTop (mkF m 7 #[.val (.ref x), .unset, .unset] [(.int (Int32.ofNat (cs.length + 4))), (.ref x)]))
  have lt_t := V_t.lt
  have E_x0 := E_x
  obtain ⟨_, vm, T, h, L, A, K, CR, ⟨rfl, t', k', N', ht, hG', hMN, S'⟩, st⟩ := A.callV hx (y := (⟨"java/lang/AbstractStringBuilder", "ensureCapacityInternal", "(I)V"⟩ : MethodName)) (z := (⟨"java/lang/AbstractStringBuilder", "ensureCapacityInternal", "(I)V"⟩ : MethodName)) (hw _ (List.mem_of_getElem? (i := 116) rfl)) (oDecl (hw _ (List.mem_of_getElem? (i := 117) rfl)) (hw _ (List.mem_of_getElem? (i := 120) rfl))) (A.nf (hw _ (List.mem_of_getElem? (i := 119) rfl))) (hw _ (List.mem_of_getElem? (i := 119) rfl)) (hw _ (List.mem_of_getElem? (i := 117) rfl)) (hw _ (List.mem_of_getElem? (i := 83) rfl)) (hw _ (List.mem_of_getElem? (i := 120) rfl)) (by decide) hEL (a := x) (argsL := [(.int (Int32.ofNat (cs.length + 4)))]) (rest := []) (own_ecx l Z a0 hw hEL n0 _ A.oldn x t k N cs _ S hG n0_x hM (by omega)) E_x (W := 0) (by decide) (by decide) (by decide) (by decide) (oIn1 n0_x) (oIn1 (Or.inl (List.mem_cons_self ..))) (oIn1 S_x) (g := (mkF m 7 #[.val (.ref x), .unset, .unset] [(.int (Int32.ofNat (cs.length + 4))), (.ref x)])) rfl (by rw [hml]; rfl) (lenOf opd4 rfl) rfl (by show 2 * 0 + _ ≤ _; exact Nat.le_of_eq rfl) (Jvm.hb hby d_jdk_68_m26_7)
  refine oSt st ?_
  show oGo p e below _ (T.setTop (mkF m 10 #[.val (.ref x), .unset, .unset] []))
  have S_t' : Safe Z consts_1 vm h t' := ht.elim (fun q => by rw [q]; exact CR.safe lt_t S_t) (fun q => q.2)
  have ht' := ht.imp id And.left
  have n0_t' : n0 ≤ t' := own_frs ht' n0_t (hO.1 ▸ hO.2.1)
  have q_t' : t' ∈ [x, t] ∨ s.heap.size ≤ t' := ht'.elim (fun q => Or.inl (q ▸ List.mem_cons_of_mem _ (List.mem_cons_self ..))) (fun q => Or.inr (hh ▸ q))
  obtain ⟨d1, d2, d3, E_x, F_v, F_c, F_n, V_t⟩ := id S'
  have hne : x ≠ t' := E_x.neArv V_t (hw _ (List.mem_of_getElem? (i := 74) rfl))
  refine oSt (fun _ => XS.aloadN A.here hx rfl (Jvm.hb hby d_jdk_68_m26_10) rfl rfl) ?_
  show oGo p e below _ (T.setTop (mkF m 11 #[.val (.ref x), .unset, .unset] [(.ref x)]))
  obtain ⟨T, A, st⟩ := A.getF hx (host := "") (Or.inl (hw _ (List.mem_of_getElem? (i := 114) rfl))) Via.refl F_n (g := (mkF m 11 #[.val (.ref x), .unset, .unset] [(.ref x)])) rfl rfl (Jvm.hb hby d_jdk_68_m26_11)
  refine oSt st ?_
  show oGo p e below _ (T.setTop (mkF m 14 #[.val (.ref x), .unset, .unset] [(.int (Int32.ofNat cs.length))]))
  refine oSt (fun _ => XS.istoreN A.here hx rfl (Jvm.hb hby d_jdk_68_m26_14) rfl (l' := #[.val (.ref x), .val (.int (Int32.ofNat cs.length)), .unset]) rfl) ?_
  show oGo p e below _ (T.setTop (mkF m 15 #[.val (.ref x), .val (.int (Int32.ofNat cs.length)), .unset] []))
  refine oSt (fun _ => XS.aloadN A.here hx rfl (Jvm.hb hby d_jdk_68_m26_15) rfl rfl) ?_
  show oGo p e below _ (T.setTop (mkF m 16 #[.val (.ref x), .val (.int (Int32.ofNat cs.length)), .unset] [(.ref x)]))
  obtain ⟨T, A, st⟩ := A.getF hx (host := "") (Or.inl (hw _ (List.mem_of_getElem? (i := 87) rfl))) Via.refl F_v (g := (mkF m 16 #[.val (.ref x), .val (.int (Int32.ofNat cs.length)), .unset] [(.ref x)])) rfl rfl (Jvm.hb hby d_jdk_68_m26_16)
  refine oSt st ?_
  show oGo p e below _ (T.setTop (mkF m 19 #[.val (.ref x), .val (.int (Int32.ofNat cs.length)), .unset] [(.ref t')]))
  refine oSt (fun _ => XS.astoreN A.here hx rfl (Jvm.hb hby d_jdk_68_m26_19) rfl rfl (l' := #[.val (.ref x), .val (.int (Int32.ofNat cs.length)), .val (.ref t')]) rfl) ?_
  show oGo p e below _ (T.setTop (mkF m 20 #[.val (.ref x), .val (.int (Int32.ofNat cs.length)), .val (.ref t')] []))
  refine oSt (fun _ => XS.aloadN A.here hx rfl (Jvm.hb hby d_jdk_68_m26_20) rfl rfl) ?_
  show oGo p e below _ (T.setTop (mkF m 21 #[.val (.ref x), .val (.int (Int32.ofNat cs.length)), .val (.ref t')] [(.ref x)]))
  have lt_t' := V_t.lt
  obtain ⟨_, vm, T, h, L, A, K, CR, ⟨rfl, rfl⟩, st⟩ := A.callV hx (y := (⟨"java/lang/AbstractStringBuilder", "isLatin1", "()Z"⟩ : MethodName)) (z := (⟨"java/lang/AbstractStringBuilder", "isLatin1", "()Z"⟩ : MethodName)) (hw _ (List.mem_of_getElem? (i := 246) rfl)) (hw _ (List.mem_of_getElem? (i := 195) rfl)) (A.nf (hw _ (List.mem_of_getElem? (i := 197) rfl))) (hw _ (List.mem_of_getElem? (i := 197) rfl)) (hw _ (List.mem_of_getElem? (i := 196) rfl)) (hw _ (List.mem_of_getElem? (i := 83) rfl)) (hw _ (List.mem_of_getElem? (i := 198) rfl)) (by decide) hEL (a := x) (argsL := []) (rest := []) (own_asi l Z a0 hw hEL n0 _ A.oldn x t' k' N' cs zc hcs hcz S') E_x (W := 0) (by decide) (by decide) (by decide) (by decide) all0 all0 all0 (g := (mkF m 21 #[.val (.ref x), .val (.int (Int32.ofNat cs.length)), .val (.ref t')] [(.ref x)])) rfl (by rw [hml]; rfl) (lenOf opd15 rfl) rfl (by show 2 * 0 + _ ≤ _; exact Nat.le_of_eq rfl) (Jvm.hb hby d_jdk_68_m26_21)
  refine oSt st ?_
  have X := oExt0 K
  show oGo p e below _ (T.setTop (mkF m 24 #[.val (.ref x), .val (.int (Int32.ofNat cs.length)), .val (.ref t')] [(.int (1 : Int32))]))
  have S_t' := CR.safe lt_t' S_t'
  refine oSt (fun _ => XS.ifNo A.here hx rfl (Jvm.hb hby d_jdk_68_m26_24) rfl (Jvm.Free.XT.i0_eq_f (by decide))) ?_
  show oGo p e below _ (T.setTop (mkF m 27 #[.val (.ref x), .val (.int (Int32.ofNat cs.length)), .val (.ref t')] []))
  refine oSt (fun _ => XS.aloadN A.here hx rfl (Jvm.hb hby d_jdk_68_m26_27) rfl rfl) ?_
  show oGo p e below _ (T.setTop (mkF m 28 #[.val (.ref x), .val (.int (Int32.ofNat cs.length)), .val (.ref t')] [(.ref t')]))
  refine oSt (fun _ => XS.iloadN A.here hx rfl (Jvm.hb hby d_jdk_68_m26_28) rfl) ?_
  show oGo p e below _ (T.setTop (mkF m 29 #[.val (.ref x), .val (.int (Int32.ofNat cs.length)), .val (.ref t')] [(.int (Int32.ofNat cs.length)), (.ref t')]))
  refine oSt (fun _ => XS.iinc A.here hx rfl (Jvm.hb hby d_jdk_68_m26_29) rfl (l' := #[.val (.ref x), .val (.int ((Int32.ofNat cs.length) + (1 : Int32))), .val (.ref t')]) rfl) ?_
  show oGo p e below _ (T.setTop (mkF m 32 #[.val (.ref x), .val (.int ((Int32.ofNat cs.length) + (1 : Int32))), .val (.ref t')] [(.int (Int32.ofNat cs.length)), (.ref t')]))
  refine oSt (fun _ => XS.bipush A.here hx rfl (Jvm.hb hby d_jdk_68_m26_32)) ?_
  show oGo p e below _ (T.setTop (mkF m 34 #[.val (.ref x), .val (.int ((Int32.ofNat cs.length) + (1 : Int32))), .val (.ref t')] [(.int (110 : Int32)), (.int (Int32.ofNat cs.length)), (.ref t')]))
  rw [own_succ (by omega)]
  show oGo p e below _ (T.setTop (mkF m 34 #[.val (.ref x), .val (.int (Int32.ofNat (cs.length + 1))), .val (.ref t')] [(.int (110 : Int32)), (.int (Int32.ofNat cs.length)), (.ref t')]))
  have CH1 := A.ch
  have hB : (own_buf N' cs).length = N' := own_bufL (by first | omega | (simp; done) | (simp; omega))
  have hz : (Int32.ofNat cs.length).toNatClampNeg = (cs).length := (own_n32 (by omega)).trans (by first | rfl | simp)
  obtain ⟨T, h, A, W, V_t, st⟩ := A.stB hx V_t (cs).length hz (own_nl (by omega) (by omega)) (by rw [hB]; first | omega | (simp; omega)) n0_t' q_t' S_t' (g := (mkF m 34 #[.val (.ref x), .val (.int (Int32.ofNat (cs.length + 1))), .val (.ref t')] [(.int (110 : Int32)), (.int (Int32.ofNat cs.length)), (.ref t')])) rfl rfl (Jvm.hb hby d_jdk_68_m26_34)
  refine oSt st ?_
  show oGo p e below _ (T.setTop (mkF m 35 #[.val (.ref x), .val (.int (Int32.ofNat (cs.length + 1))), .val (.ref t')] []))
  rw [show nar .byte (110 : Int32) = (110 : Int32).toInt8.toInt32 from by decide, own_bufS (by first | omega | (simp; done) | (simp; omega))] at V_t
  have S_t' := Safe.wr W S_t' CH1 S_t'
  have E_x := E_x.wr W
  have F_v := F_v.other W (Or.inl hne)
  have F_c := F_c.other W (Or.inl hne)
  have F_n := F_n.other W (Or.inl hne)
  refine oSt (fun _ => XS.aloadN A.here hx rfl (Jvm.hb hby d_jdk_68_m26_35) rfl rfl) ?_
  show oGo p e below _ (T.setTop (mkF m 36 #[.val (.ref x), .val (.int (Int32.ofNat (cs.length + 1))), .val (.ref t')] [(.ref t')]))
  refine oSt (fun _ => XS.iloadN A.here hx rfl (Jvm.hb hby d_jdk_68_m26_36) rfl) ?_
  show oGo p e below _ (T.setTop (mkF m 37 #[.val (.ref x), .val (.int (Int32.ofNat (cs.length + 1))), .val (.ref t')] [(.int (Int32.ofNat (cs.length + 1))), (.ref t')]))
  refine oSt (fun _ => XS.iinc A.here hx rfl (Jvm.hb hby d_jdk_68_m26_37) rfl (l' := #[.val (.ref x), .val (.int ((Int32.ofNat (cs.length + 1)) + (1 : Int32))), .val (.ref t')]) rfl) ?_
  show oGo p e below _ (T.setTop (mkF m 40 #[.val (.ref x), .val (.int ((Int32.ofNat (cs.length + 1)) + (1 : Int32))), .val (.ref t')] [(.int (Int32.ofNat (cs.length + 1))), (.ref t')]))
  refine oSt (fun _ => XS.bipush A.here hx rfl (Jvm.hb hby d_jdk_68_m26_40)) ?_
  show oGo p e below _ (T.setTop (mkF m 42 #[.val (.ref x), .val (.int ((Int32.ofNat (cs.length + 1)) + (1 : Int32))), .val (.ref t')] [(.int (117 : Int32)), (.int (Int32.ofNat (cs.length + 1))), (.ref t')]))
  rw [own_succ (by omega)]
  show oGo p e below _ (T.setTop (mkF m 42 #[.val (.ref x), .val (.int (Int32.ofNat (cs.length + 2))), .val (.ref t')] [(.int (117 : Int32)), (.int (Int32.ofNat (cs.length + 1))), (.ref t')]))
  have CH1 := A.ch
  have hB : (own_buf N' (cs ++ [110])).length = N' := own_bufL (by first | omega | (simp; done) | (simp; omega))
  have hz : (Int32.ofNat (cs.length + 1)).toNatClampNeg = ((cs ++ [110])).length := (own_n32 (by omega)).trans (by first | rfl | simp)
  obtain ⟨T, h, A, W, V_t, st⟩ := A.stB hx V_t ((cs ++ [110])).length hz (own_nl (by omega) (by omega)) (by rw [hB]; first | omega | (simp; omega)) n0_t' q_t' S_t' (g := (mkF m 42 #[.val (.ref x), .val (.int (Int32.ofNat (cs.length + 2))), .val (.ref t')] [(.int (117 : Int32)), (.int (Int32.ofNat (cs.length + 1))), (.ref t')])) rfl rfl (Jvm.hb hby d_jdk_68_m26_42)
  refine oSt st ?_
  show oGo p e below _ (T.setTop (mkF m 43 #[.val (.ref x), .val (.int (Int32.ofNat (cs.length + 2))), .val (.ref t')] []))
  rw [show nar .byte (117 : Int32) = (117 : Int32).toInt8.toInt32 from by decide, own_bufS (by first | omega | (simp; done) | (simp; omega))] at V_t
  have S_t' := Safe.wr W S_t' CH1 S_t'
  have E_x := E_x.wr W
  have F_v := F_v.other W (Or.inl hne)
  have F_c := F_c.other W (Or.inl hne)
  have F_n := F_n.other W (Or.inl hne)
  refine oSt (fun _ => XS.aloadN A.here hx rfl (Jvm.hb hby d_jdk_68_m26_43) rfl rfl) ?_
  show oGo p e below _ (T.setTop (mkF m 44 #[.val (.ref x), .val (.int (Int32.ofNat (cs.length + 2))), .val (.ref t')] [(.ref t')]))
  refine oSt (fun _ => XS.iloadN A.here hx rfl (Jvm.hb hby d_jdk_68_m26_44) rfl) ?_
  show oGo p e below _ (T.setTop (mkF m 45 #[.val (.ref x), .val (.int (Int32.ofNat (cs.length + 2))), .val (.ref t')] [(.int (Int32.ofNat (cs.length + 2))), (.ref t')]))
  refine oSt (fun _ => XS.iinc A.here hx rfl (Jvm.hb hby d_jdk_68_m26_45) rfl (l' := #[.val (.ref x), .val (.int ((Int32.ofNat (cs.length + 2)) + (1 : Int32))), .val (.ref t')]) rfl) ?_
  show oGo p e below _ (T.setTop (mkF m 48 #[.val (.ref x), .val (.int ((Int32.ofNat (cs.length + 2)) + (1 : Int32))), .val (.ref t')] [(.int (Int32.ofNat (cs.length + 2))), (.ref t')]))
  refine oSt (fun _ => XS.bipush A.here hx rfl (Jvm.hb hby d_jdk_68_m26_48)) ?_
  show oGo p e below _ (T.setTop (mkF m 50 #[.val (.ref x), .val (.int ((Int32.ofNat (cs.length + 2)) + (1 : Int32))), .val (.ref t')] [(.int (108 : Int32)), (.int (Int32.ofNat (cs.length + 2))), (.ref t')]))
  rw [own_succ (by omega)]
  show oGo p e below _ (T.setTop (mkF m 50 #[.val (.ref x), .val (.int (Int32.ofNat (cs.length + 3))), .val (.ref t')] [(.int (108 : Int32)), (.int (Int32.ofNat (cs.length + 2))), (.ref t')]))
  have CH1 := A.ch
  have hB : (own_buf N' ((cs ++ [110]) ++ [117])).length = N' := own_bufL (by first | omega | (simp; done) | (simp; omega))
  have hz : (Int32.ofNat (cs.length + 2)).toNatClampNeg = (((cs ++ [110]) ++ [117])).length := (own_n32 (by omega)).trans (by first | rfl | simp)
  obtain ⟨T, h, A, W, V_t, st⟩ := A.stB hx V_t (((cs ++ [110]) ++ [117])).length hz (own_nl (by omega) (by omega)) (by rw [hB]; first | omega | (simp; omega)) n0_t' q_t' S_t' (g := (mkF m 50 #[.val (.ref x), .val (.int (Int32.ofNat (cs.length + 3))), .val (.ref t')] [(.int (108 : Int32)), (.int (Int32.ofNat (cs.length + 2))), (.ref t')])) rfl rfl (Jvm.hb hby d_jdk_68_m26_50)
  refine oSt st ?_
  show oGo p e below _ (T.setTop (mkF m 51 #[.val (.ref x), .val (.int (Int32.ofNat (cs.length + 3))), .val (.ref t')] []))
  rw [show nar .byte (108 : Int32) = (108 : Int32).toInt8.toInt32 from by decide, own_bufS (by first | omega | (simp; done) | (simp; omega))] at V_t
  have S_t' := Safe.wr W S_t' CH1 S_t'
  have E_x := E_x.wr W
  have F_v := F_v.other W (Or.inl hne)
  have F_c := F_c.other W (Or.inl hne)
  have F_n := F_n.other W (Or.inl hne)
  refine oSt (fun _ => XS.aloadN A.here hx rfl (Jvm.hb hby d_jdk_68_m26_51) rfl rfl) ?_
  show oGo p e below _ (T.setTop (mkF m 52 #[.val (.ref x), .val (.int (Int32.ofNat (cs.length + 3))), .val (.ref t')] [(.ref t')]))
  refine oSt (fun _ => XS.iloadN A.here hx rfl (Jvm.hb hby d_jdk_68_m26_52) rfl) ?_
  show oGo p e below _ (T.setTop (mkF m 53 #[.val (.ref x), .val (.int (Int32.ofNat (cs.length + 3))), .val (.ref t')] [(.int (Int32.ofNat (cs.length + 3))), (.ref t')]))
  refine oSt (fun _ => XS.iinc A.here hx rfl (Jvm.hb hby d_jdk_68_m26_53) rfl (l' := #[.val (.ref x), .val (.int ((Int32.ofNat (cs.length + 3)) + (1 : Int32))), .val (.ref t')]) rfl) ?_
  show oGo p e below _ (T.setTop (mkF m 56 #[.val (.ref x), .val (.int ((Int32.ofNat (cs.length + 3)) + (1 : Int32))), .val (.ref t')] [(.int (Int32.ofNat (cs.length + 3))), (.ref t')]))
  refine oSt (fun _ => XS.bipush A.here hx rfl (Jvm.hb hby d_jdk_68_m26_56)) ?_
  show oGo p e below _ (T.setTop (mkF m 58 #[.val (.ref x), .val (.int ((Int32.ofNat (cs.length + 3)) + (1 : Int32))), .val (.ref t')] [(.int (108 : Int32)), (.int (Int32.ofNat (cs.length + 3))), (.ref t')]))
  rw [own_succ (by omega)]
  show oGo p e below _ (T.setTop (mkF m 58 #[.val (.ref x), .val (.int (Int32.ofNat (cs.length + 4))), .val (.ref t')] [(.int (108 : Int32)), (.int (Int32.ofNat (cs.length + 3))), (.ref t')]))
  have CH1 := A.ch
  have hB : (own_buf N' (((cs ++ [110]) ++ [117]) ++ [108])).length = N' := own_bufL (by first | omega | (simp; done) | (simp; omega))
  have hz : (Int32.ofNat (cs.length + 3)).toNatClampNeg = ((((cs ++ [110]) ++ [117]) ++ [108])).length := (own_n32 (by omega)).trans (by first | rfl | simp)
  obtain ⟨T, h, A, W, V_t, st⟩ := A.stB hx V_t ((((cs ++ [110]) ++ [117]) ++ [108])).length hz (own_nl (by omega) (by omega)) (by rw [hB]; first | omega | (simp; omega)) n0_t' q_t' S_t' (g := (mkF m 58 #[.val (.ref x), .val (.int (Int32.ofNat (cs.length + 4))), .val (.ref t')] [(.int (108 : Int32)), (.int (Int32.ofNat (cs.length + 3))), (.ref t')])) rfl rfl (Jvm.hb hby d_jdk_68_m26_58)
  refine oSt st ?_
  show oGo p e below _ (T.setTop (mkF m 59 #[.val (.ref x), .val (.int (Int32.ofNat (cs.length + 4))), .val (.ref t')] []))
  rw [show nar .byte (108 : Int32) = (108 : Int32).toInt8.toInt32 from by decide, own_bufS (by first | omega | (simp; done) | (simp; omega))] at V_t
  have S_t' := Safe.wr W S_t' CH1 S_t'
  have E_x := E_x.wr W
  have F_v := F_v.other W (Or.inl hne)
  have F_c := F_c.other W (Or.inl hne)
  have F_n := F_n.other W (Or.inl hne)
  have V_t : Arv Z h t' k' .byte (Int32.ofNat N') (own_buf N' (cs ++ ([110, 117, 108, 108] : List Int32))) (.int (0 : Int32)) := by
    have e : ((((cs ++ [110]) ++ [117]) ++ [108]) ++ [108]) = cs ++ ([110, 117, 108, 108] : List Int32) := by simp
    rw [e] at V_t
    exact V_t
  refine oSt (fun _ => XS.goto A.here hx rfl (pc0 := 59) (pc' := 76) rfl (Jvm.hb hby d_jdk_68_m26_59) (by decide) (by decide)) ?_
  show oGo p e below _ (T.setTop (mkF m 76 #[.val (.ref x), .val (.int (Int32.ofNat (cs.length + 4))), .val (.ref t')] []))
  refine oSt (fun _ => XS.aloadN A.here hx rfl (Jvm.hb hby d_jdk_68_m26_76) rfl rfl) ?_
  show oGo p e below _ (T.setTop (mkF m 77 #[.val (.ref x), .val (.int (Int32.ofNat (cs.length + 4))), .val (.ref t')] [(.ref x)]))
  refine oSt (fun _ => XS.iloadN A.here hx rfl (Jvm.hb hby d_jdk_68_m26_77) rfl) ?_
  show oGo p e below _ (T.setTop (mkF m 78 #[.val (.ref x), .val (.int (Int32.ofNat (cs.length + 4))), .val (.ref t')] [(.int (Int32.ofNat (cs.length + 4))), (.ref x)]))
  have CH1 := A.ch
  have SX1 := A.safeExa E_x (by decide) (by decide)
  obtain ⟨T, h, A, W, st⟩ := A.putF hx (host := "") (Or.inl (hw _ (List.mem_of_getElem? (i := 114) rfl))) Via.refl F_n E_x (Or.inl (hw _ (List.mem_of_getElem? (i := 115) rfl))) (hw _ (List.mem_of_getElem? (i := 74) rfl)) (ty := .int) (by decide) rfl rfl n0_x (Or.inl (List.mem_cons_self ..)) (A.safeExa E_x (by decide) (by decide)) (g := (mkF m 78 #[.val (.ref x), .val (.int (Int32.ofNat (cs.length + 4))), .val (.ref t')] [(.int (Int32.ofNat (cs.length + 4))), (.ref x)])) rfl rfl (Jvm.hb hby d_jdk_68_m26_78)
  refine oSt st ?_
  show oGo p e below _ (T.setTop (mkF m 81 #[.val (.ref x), .val (.int (Int32.ofNat (cs.length + 4))), .val (.ref t')] []))
  have S_t' := Safe.wr W SX1 CH1 S_t'
  have V_t := V_t.other W (Ne.symm hne)
  have E_x := E_x.wr W
  have F_v := F_v.other W (Or.inr (slot_ne (Or.inl (hw _ (List.mem_of_getElem? (i := 88) rfl))) (Or.inl (hw _ (List.mem_of_getElem? (i := 115) rfl))) (by decide) (t := (.array .byte)) (t' := .int) (by decide) (by decide)))
  have F_c := F_c.other W (Or.inr (slot_ne (Or.inl (hw _ (List.mem_of_getElem? (i := 90) rfl))) (Or.inl (hw _ (List.mem_of_getElem? (i := 115) rfl))) (by decide) (t := .byte) (t' := .int) (by decide) (by decide)))
  have F_n := F_n.same W
  refine oSt (fun _ => XS.aloadN A.here hx rfl (Jvm.hb hby d_jdk_68_m26_81) rfl rfl) ?_
  show oGo p e below _ (T.setTop (mkF m 82 #[.val (.ref x), .val (.int (Int32.ofNat (cs.length + 4))), .val (.ref t')] [(.ref x)]))
  exact A.leave hlk hEL (v := some (.ref x)) (fun h => by rw [hret] at h; cases h) (fun _ C => ⟨rfl, t', k', N', ht', hG', ⟨fun c hc => (List.mem_append.mp hc).elim (b1 c) ((oPS (by decide) (oPS (by decide) (oPS (by decide) (oPS (by decide) oP0)))) c), by first | omega | (simp; done) | (simp; omega), d3, E_x, F_v, F_c, by rw [List.length_append]; exact F_n, V_t⟩, C.safe V_t.lt S_t'⟩) (by decide) (by decide) (fun fs hr => retOut A.1 hx hret rfl (Or.inr (Or.inr (Or.inr (Or.inr ⟨rfl, rfl, rfl⟩)))) (Jvm.hb hby d_jdk_68_m26_82) hr)
theorem opd21 : parseMethodDescriptor "()Ljava/lang/AbstractStringBuilder;" = some ⟨[], some (.object "java/lang/AbstractStringBuilder")⟩ := by decide +kernel
theorem opn_own_asbN : plainFor (⟨"java/lang/AbstractStringBuilder", "append", "(Ljava/lang/String;)Ljava/lang/AbstractStringBuilder;"⟩ : MethodName) = true := plainFor_of_name (by first | (simp [plainName, overriddenIn]; done) | decide +kernel)
set_option maxRecDepth 65536 in
set_option maxHeartbeats 40000000 in
theorem own_asbN (l : Launch) (Z : State) (a0 : Array Value) (hw : ∀ d ∈ tables_1, d.before a0 Z = true) (hEL : EW Z a0 consts_1) (n0 : Nat) (h : Heap) (hO : Old Z n0 h) (x t : Addr) (k : ClassId) (N : Nat) (cs : List Int32) (zc : Int32) (hcs : Sta Z Z.heap "java/lang/String" "COMPACT_STRINGS" "Z" (.int zc)) (hcz : ¬ zc = 0) (S : own_SB Z h x t k N cs) (hG : own_G N) (n0_x : n0 ≤ x) (n0_t : n0 ≤ t) (hM : cs.length + 4 ≤ 52) :
    oMet l Z consts_1 n0 (⟨"java/lang/AbstractStringBuilder", "append", "(Ljava/lang/String;)Ljava/lang/AbstractStringBuilder;"⟩ : MethodName) jdk_68_method_22_code 3 (some (.object "java/lang/AbstractStringBuilder")) [] ({ frames := 5, cells := 1, slots := 70, locals := 80 } : Room) #[(.ref x), .null] h [x, t] (fun v vm' h' => v = some (.ref x) ∧ ∃ t' k' N', (t' = t ∨ h.size ≤ t') ∧ own_G N' ∧ own_SB Z h' x t' k' N' (cs ++ ([110, 117, 108, 108] : List Int32)) ∧ Safe Z consts_1 vm' h' t') := by
  refine oMet.of opn_own_asbN hO ?_
  intro p e s m below meth c T hx hby hml hret hnm hlk hh hsf A
  have hml : c.maxLocals = 3 := hml
  refine oCast (g' := mkF m 0 #[.val (.ref x), .val .null, .unset] []) (by first | (simp [entryFrame, mkF, argsToLocals, Value.category]; done) | rfl) ?_
  show oGo p e below _ (T.setTop (mkF m 0 #[.val (.ref x), .val .null, .unset] []))
  refine oSt (fun _ => XS.aloadN A.here hx rfl (Jvm.hb hby d_jdk_68_m22_0) rfl rfl) ?_
  show oGo p e below _ (T.setTop (mkF m 1 #[.val (.ref x), .val .null, .unset] [.null]))
  refine oSt (fun _ => XS.ifnonnullNo A.here hx rfl (Jvm.hb hby d_jdk_68_m22_1) rfl) ?_
  show oGo p e below _ (T.setTop (mkF m 4 #[.val (.ref x), .val .null, .unset] []))
  refine oSt (fun _ => XS.aloadN A.here hx rfl (Jvm.hb hby d_jdk_68_m22_4) rfl rfl) ?_
  show oGo p e below _ (T.setTop (mkF m 5 #[.val (.ref x), .val .null, .unset] [(.ref x)]))
  obtain ⟨_, vm, T, h, L, A, K, CR, ⟨rfl, t', k', N', ht', hG', S', S_t'⟩, st⟩ := A.callV hx (y := (⟨"java/lang/AbstractStringBuilder", "appendNull", "()Ljava/lang/AbstractStringBuilder;"⟩ : MethodName)) (z := (⟨"java/lang/AbstractStringBuilder", "appendNull", "()Ljava/lang/AbstractStringBuilder;"⟩ : MethodName)) (hw _ (List.mem_of_getElem? (i := 241) rfl)) (oDecl (hw _ (List.mem_of_getElem? (i := 242) rfl)) (hw _ (List.mem_of_getElem? (i := 245) rfl))) (A.nf (hw _ (List.mem_of_getElem? (i := 244) rfl))) (hw _ (List.mem_of_getElem? (i := 244) rfl)) (hw _ (List.mem_of_getElem? (i := 242) rfl)) (hw _ (List.mem_of_getElem? (i := 83) rfl)) (hw _ (List.mem_of_getElem? (i := 245) rfl)) (by decide) hEL (a := x) (argsL := []) (rest := []) (own_nul l Z a0 hw hEL n0 _ A.oldn x t k N cs zc hcs hcz S hG n0_x n0_t hM) S.2.2.2.1 (W := 0) (by decide) (by decide) (by decide) (by decide) (allS n0_x (allS n0_t all0)) (allS (Or.inl (List.mem_cons_self ..)) (allS (Or.inl (List.mem_cons_of_mem _ (List.mem_cons_self ..))) all0)) hsf (g := (mkF m 5 #[.val (.ref x), .val .null, .unset] [(.ref x)])) rfl (by rw [hml]; rfl) (lenOf opd21 rfl) rfl (by show 2 * 0 + _ ≤ _; exact Nat.le_of_eq rfl) (Jvm.hb hby d_jdk_68_m22_5)
  refine oSt st ?_
  show oGo p e below _ (T.setTop (mkF m 8 #[.val (.ref x), .val .null, .unset] [(.ref x)]))
  exact A.leave hlk hEL (v := some (.ref x)) (fun h => by rw [hret] at h; cases h) (fun _ C => ⟨rfl, t', k', N', ht', hG', S', C.safe S'.2.2.2.2.2.2.2.lt S_t'⟩) (by decide) (by decide) (fun fs hr => retOut A.1 hx hret rfl (Or.inr (Or.inr (Or.inr (Or.inr ⟨rfl, rfl, rfl⟩)))) (Jvm.hb hby d_jdk_68_m22_8) hr)
theorem opn_own_appN : plainFor (⟨"java/lang/StringBuilder", "append", "(Ljava/lang/String;)Ljava/lang/StringBuilder;"⟩ : MethodName) = true := plainFor_of_name (by first | (simp [plainName, overriddenIn]; done) | decide +kernel)
set_option maxRecDepth 65536 in
set_option maxHeartbeats 40000000 in
theorem own_appN (l : Launch) (Z : State) (a0 : Array Value) (hw : ∀ d ∈ tables_1, d.before a0 Z = true) (hEL : EW Z a0 consts_1) (n0 : Nat) (h : Heap) (hO : Old Z n0 h) (x t : Addr) (k : ClassId) (N : Nat) (cs : List Int32) (zc : Int32) (hcs : Sta Z Z.heap "java/lang/String" "COMPACT_STRINGS" "Z" (.int zc)) (hcz : ¬ zc = 0) (S : own_SB Z h x t k N cs) (hG : own_G N) (n0_x : n0 ≤ x) (n0_t : n0 ≤ t) (hM : cs.length + 4 ≤ 52) :
    oMet l Z consts_1 n0 (⟨"java/lang/StringBuilder", "append", "(Ljava/lang/String;)Ljava/lang/StringBuilder;"⟩ : MethodName) jdk_67_method_7_code 2 (some (.object "java/lang/StringBuilder")) [] ({ frames := 6, cells := 1, slots := 70, locals := 94 } : Room) #[(.ref x), .null] h [x, t] (fun v vm' h' => v = some (.ref x) ∧ ∃ t' k' N', (t' = t ∨ h.size ≤ t') ∧ own_G N' ∧ own_SB Z h' x t' k' N' (cs ++ ([110, 117, 108, 108] : List Int32)) ∧ Safe Z consts_1 vm' h' t') := by
  refine oMet.of opn_own_appN hO ?_
  intro p e s m below meth c T hx hby hml hret hnm hlk hh hsf A
  have hml : c.maxLocals = 2 := hml
  refine oCast (g' := mkF m 0 #[.val (.ref x), .val .null] []) (by first | (simp [entryFrame, mkF, argsToLocals, Value.category]; done) | rfl) ?_
  show oGo p e below _ (T.setTop (mkF m 0 #[.val (.ref x), .val .null] []))
  refine oSt (fun _ => XS.aloadN A.here hx rfl (Jvm.hb hby d_jdk_67_m7_0) rfl rfl) ?_
  show oGo p e below _ (T.setTop (mkF m 1 #[.val (.ref x), .val .null] [(.ref x)]))
  refine oSt (fun _ => XS.aloadN A.here hx rfl (Jvm.hb hby d_jdk_67_m7_1) rfl rfl) ?_
  show oGo p e below _ (T.setTop (mkF m 2 #[.val (.ref x), .val .null] [.null, (.ref x)]))
  obtain ⟨_, vm, T, h, L, A, K, CR, ⟨rfl, t', k', N', ht', hG', S', S_t'⟩, st⟩ := A.callU hx (y := (⟨"java/lang/AbstractStringBuilder", "append", "(Ljava/lang/String;)Ljava/lang/AbstractStringBuilder;"⟩ : MethodName)) (hw _ (List.mem_of_getElem? (i := 99) rfl)) (oSame (hw _ (List.mem_of_getElem? (i := 100) rfl)) (oNfZ (y' := (⟨"java/lang/AbstractStringBuilder", "ensureCapacityInternal", "(I)V"⟩ : MethodName)) (hw _ (List.mem_of_getElem? (i := 119) rfl)) rfl) (by decide)) (hw _ (List.mem_of_getElem? (i := 100) rfl)) (hw _ (List.mem_of_getElem? (i := 101) rfl)) (by decide) (hw _ (List.mem_of_getElem? (i := 83) rfl)) (hw _ (List.mem_of_getElem? (i := 103) rfl)) hEL (a := x) (argsL := [.null]) (rest := []) (own_asbN l Z a0 hw hEL n0 _ A.oldn x t k N cs zc hcs hcz S hG n0_x n0_t hM) (Ins.self S.2.2.2.1) (W := 0) (by decide) (by decide) (by decide) (by decide) (allS n0_x (allS n0_t all0)) (allS (Or.inl (List.mem_cons_self ..)) (allS (Or.inl (List.mem_cons_of_mem _ (List.mem_cons_self ..))) all0)) hsf (g := (mkF m 2 #[.val (.ref x), .val .null] [.null, (.ref x)])) rfl (by rw [hml]; rfl) (lenOf opd9 rfl) rfl (by show 2 * 0 + _ ≤ _; exact Nat.le_of_eq rfl) (Jvm.hb hby d_jdk_67_m7_2)
  refine oSt st ?_
  show oGo p e below _ (T.setTop (mkF m 5 #[.val (.ref x), .val .null] [(.ref x)]))
  refine oSt (fun _ => XS.pop A.here hx rfl (Jvm.hb hby d_jdk_67_m7_5) rfl rfl) ?_
  show oGo p e below _ (T.setTop (mkF m 6 #[.val (.ref x), .val .null] []))
  refine oSt (fun _ => XS.aloadN A.here hx rfl (Jvm.hb hby d_jdk_67_m7_6) rfl rfl) ?_
  show oGo p e below _ (T.setTop (mkF m 7 #[.val (.ref x), .val .null] [(.ref x)]))
  exact A.leave hlk hEL (v := some (.ref x)) (fun h => by rw [hret] at h; cases h) (fun _ C => ⟨rfl, t', k', N', ht', hG', S', C.safe S'.2.2.2.2.2.2.2.lt S_t'⟩) (by decide) (by decide) (fun fs hr => retOut A.1 hx hret rfl (Or.inr (Or.inr (Or.inr (Or.inr ⟨rfl, rfl, rfl⟩)))) (Jvm.hb hby d_jdk_67_m7_7) hr)
theorem d_m4_0 : decode method_4_code 0 = .ok (.iload_n 1, 1) := by decide +kernel
theorem d_m4_1 : decode method_4_code 1 = .ok (.ifCond .eq 5, 3) := by decide +kernel
theorem d_m4_4 : decode method_4_code 4 = .ok (.aconst_null, 1) := by decide +kernel
theorem d_m4_5 : decode method_4_code 5 = .ok (.areturn, 1) := by decide +kernel
theorem d_m4_6 : decode method_4_code 6 = .ok (.iload_n 2, 1) := by decide +kernel
theorem d_m4_7 : decode method_4_code 7 = .ok (.ifCond .eq 14, 3) := by decide +kernel
theorem d_m4_10 : decode method_4_code 10 = .ok (.new 8, 3) := by decide +kernel
theorem d_m4_13 : decode method_4_code 13 = .ok (.dup, 1) := by decide +kernel
theorem d_m4_14 : decode method_4_code 14 = .ok (.iconst 0, 1) := by decide +kernel
theorem d_m4_15 : decode method_4_code 15 = .ok (.newarray .char, 2) := by decide +kernel
theorem d_m4_17 : decode method_4_code 17 = .ok (.invokespecial 23, 3) := by decide +kernel
theorem d_m4_20 : decode method_4_code 20 = .ok (.areturn, 1) := by decide +kernel
theorem d_m4_21 : decode method_4_code 21 = .ok (.iconst 2, 1) := by decide +kernel
theorem d_m4_22 : decode method_4_code 22 = .ok (.newarray .char, 2) := by decide +kernel
theorem d_m4_24 : decode method_4_code 24 = .ok (.astore_n 3, 1) := by decide +kernel
theorem d_m4_25 : decode method_4_code 25 = .ok (.aload_n 3, 1) := by decide +kernel
theorem d_m4_26 : decode method_4_code 26 = .ok (.iconst 0, 1) := by decide +kernel
theorem d_m4_27 : decode method_4_code 27 = .ok (.iload_n 0, 1) := by decide +kernel
theorem d_m4_28 : decode method_4_code 28 = .ok (.sipush 255, 3) := by decide +kernel
theorem d_m4_31 : decode method_4_code 31 = .ok (.iand, 1) := by decide +kernel
theorem d_m4_32 : decode method_4_code 32 = .ok (.i2c, 1) := by decide +kernel
theorem d_m4_33 : decode method_4_code 33 = .ok (.castore, 1) := by decide +kernel
theorem d_m4_34 : decode method_4_code 34 = .ok (.aload_n 3, 1) := by decide +kernel
theorem d_m4_35 : decode method_4_code 35 = .ok (.iconst 1, 1) := by decide +kernel
theorem d_m4_36 : decode method_4_code 36 = .ok (.iload_n 0, 1) := by decide +kernel
theorem d_m4_37 : decode method_4_code 37 = .ok (.bipush 8, 2) := by decide +kernel
theorem d_m4_39 : decode method_4_code 39 = .ok (.iushr, 1) := by decide +kernel
theorem d_m4_40 : decode method_4_code 40 = .ok (.sipush 255, 3) := by decide +kernel
theorem d_m4_43 : decode method_4_code 43 = .ok (.iand, 1) := by decide +kernel
theorem d_m4_44 : decode method_4_code 44 = .ok (.i2c, 1) := by decide +kernel
theorem d_m4_45 : decode method_4_code 45 = .ok (.castore, 1) := by decide +kernel
theorem d_m4_46 : decode method_4_code 46 = .ok (.new 8, 3) := by decide +kernel
theorem d_m4_49 : decode method_4_code 49 = .ok (.dup, 1) := by decide +kernel
theorem d_m4_50 : decode method_4_code 50 = .ok (.aload_n 3, 1) := by decide +kernel
theorem d_m4_51 : decode method_4_code 51 = .ok (.invokespecial 23, 3) := by decide +kernel
theorem d_m4_54 : decode method_4_code 54 = .ok (.areturn, 1) := by decide +kernel
theorem opd22 : parseMethodDescriptor "([C)V" = some ⟨[(.array .char)], none⟩ := by decide +kernel
theorem opn_own_drw : plainFor (⟨"com/example/stallwright/stallwright/store/CustomerToStringPinLaw", "drawn", "(IZZ)Ljava/lang/String;"⟩ : MethodName) = true := plainFor_of_name (by first | (simp [plainName, overriddenIn]; done) | decide +kernel)
set_option maxRecDepth 65536 in
set_option maxHeartbeats 40000000 in
theorem own_drw (l : Launch) (Z : State) (a0 : Array Value) (hw : ∀ d ∈ tables_1, d.before a0 Z = true) (hEL : EW Z a0 consts_1) (n0 : Nat) (h : Heap) (hO : Old Z n0 h) (x_ nl em : Int32) (zc : Int32) (hcs : Sta Z Z.heap "java/lang/String" "COMPACT_STRINGS" "Z" (.int zc)) (hcz : ¬ zc = 0) :
    oMet l Z consts_1 n0 (⟨"com/example/stallwright/stallwright/store/CustomerToStringPinLaw", "drawn", "(IZZ)Ljava/lang/String;"⟩ : MethodName) method_4_code 4 (some (.object "java/lang/String")) [] ({ frames := 4, cells := 4, slots := 8, locals := 66 } : Room) #[(.int x_), (.int nl), (.int em)] h [] (fun v _ h => ∃ r w, v = some r ∧ own_W r w ∧ (w = ([110, 111, 110, 101] : List Int32) ↔ ¬ nl = 0)) := by
  refine oMet.of opn_own_drw hO ?_
  intro p e s m below meth c T hx hby hml hret hnm hlk hh hsf A
  have hml : c.maxLocals = 4 := hml
  refine oCast (g' := mkF m 0 #[.val (.int x_), .val (.int nl), .val (.int em), .unset] []) (by first | (simp [entryFrame, mkF, argsToLocals, Value.category]; done) | rfl) ?_
  have hws : ∀ d ∈ StrChars.Road.words, d.before a0 Z = true := fun d hd => hw d ((by decide +kernel : ∀ d ∈ StrChars.Road.words, d ∈ tables_1) d hd)
  show oGo p e below _ (T.setTop (mkF m 0 #[.val (.int x_), .val (.int nl), .val (.int em), .unset] []))
  refine oSt (fun _ => XS.iloadN A.here hx rfl (Jvm.hb hby d_m4_0) rfl) ?_
  show oGo p e below _ (T.setTop (mkF m 1 #[.val (.int x_), .val (.int nl), .val (.int em), .unset] [(.int nl)]))
  by_cases c0 : nl = 0
  · refine oSt (fun _ => XS.ifYes A.here hx rfl (pc0 := 1) (pc' := 6) rfl (Jvm.hb hby d_m4_1) rfl (Jvm.Free.XT.i0_eq_t c0) (by decide) (by decide)) ?_
    show oGo p e below _ (T.setTop (mkF m 6 #[.val (.int x_), .val (.int nl), .val (.int em), .unset] []))
    refine oSt (fun _ => XS.iloadN A.here hx rfl (Jvm.hb hby d_m4_6) rfl) ?_
    show oGo p e below _ (T.setTop (mkF m 7 #[.val (.int x_), .val (.int nl), .val (.int em), .unset] [(.int em)]))
    have hno : (([103, 105, 118, 101, 110] : List Int32) = ([110, 111, 110, 101] : List Int32) ↔ ¬ nl = 0) := ⟨fun q => absurd q (by decide), fun q => absurd c0 q⟩
    by_cases c1 : em = 0
    · refine oSt (fun _ => XS.ifYes A.here hx rfl (pc0 := 7) (pc' := 21) rfl (Jvm.hb hby d_m4_7) rfl (Jvm.Free.XT.i0_eq_t c1) (by decide) (by decide)) ?_
      show oGo p e below _ (T.setTop (mkF m 21 #[.val (.int x_), .val (.int nl), .val (.int em), .unset] []))
      refine oSt (fun _ => XS.iconst A.here hx rfl (Jvm.hb hby d_m4_21)) ?_
      show oGo p e below _ (T.setTop (mkF m 22 #[.val (.int x_), .val (.int nl), .val (.int em), .unset] [(.int (2 : Int32))]))
      obtain ⟨T, h, b, k_b, g_b, lt_b, n0_b, s_b, A, E, V_b, S_b, st⟩ := A.newP hx (hw _ (List.mem_of_getElem? (i := 30) rfl)) (g := (mkF m 22 #[.val (.int x_), .val (.int nl), .val (.int em), .unset] [(.int (2 : Int32))])) rfl (Jvm.hb hby d_m4_22) rfl (by decide) (cap := 2) (by decide) (by decide) (by decide) (by decide)
      refine oSt st ?_
      show oGo p e below _ (T.setTop (mkF m 24 #[.val (.int x_), .val (.int nl), .val (.int em), .unset] [(.ref b)]))
      have V_b : Arv Z h b k_b .char (2 : Int32) [(.int (0 : Int32)), (.int (0 : Int32))] (.int (0 : Int32)) := V_b.pad (pad_rep [] (.int (0 : Int32)) 2)
      refine oSt (fun _ => XS.astoreN A.here hx rfl (Jvm.hb hby d_m4_24) rfl rfl (l' := #[.val (.int x_), .val (.int nl), .val (.int em), .val (.ref b)]) rfl) ?_
      show oGo p e below _ (T.setTop (mkF m 25 #[.val (.int x_), .val (.int nl), .val (.int em), .val (.ref b)] []))
      refine oSt (fun _ => XS.aloadN A.here hx rfl (Jvm.hb hby d_m4_25) rfl rfl) ?_
      show oGo p e below _ (T.setTop (mkF m 26 #[.val (.int x_), .val (.int nl), .val (.int em), .val (.ref b)] [(.ref b)]))
      refine oSt (fun _ => XS.iconst A.here hx rfl (Jvm.hb hby d_m4_26)) ?_
      show oGo p e below _ (T.setTop (mkF m 27 #[.val (.int x_), .val (.int nl), .val (.int em), .val (.ref b)] [(.int (0 : Int32)), (.ref b)]))
      refine oSt (fun _ => XS.iloadN A.here hx rfl (Jvm.hb hby d_m4_27) rfl) ?_
      show oGo p e below _ (T.setTop (mkF m 28 #[.val (.int x_), .val (.int nl), .val (.int em), .val (.ref b)] [(.int x_), (.int (0 : Int32)), (.ref b)]))
      refine oSt (fun _ => XS.sipush A.here hx rfl (Jvm.hb hby d_m4_28)) ?_
      show oGo p e below _ (T.setTop (mkF m 31 #[.val (.int x_), .val (.int nl), .val (.int em), .val (.ref b)] [(.int (255 : Int32)), (.int x_), (.int (0 : Int32)), (.ref b)]))
      refine oSt (fun _ => XS.iand A.here hx rfl (Jvm.hb hby d_m4_31) rfl) ?_
      show oGo p e below _ (T.setTop (mkF m 32 #[.val (.int x_), .val (.int nl), .val (.int em), .val (.ref b)] [(.int (x_ &&& (255 : Int32))), (.int (0 : Int32)), (.ref b)]))
      refine oSt (fun _ => XS.i2c A.here hx rfl (Jvm.hb hby d_m4_32) rfl) ?_
      show oGo p e below _ (T.setTop (mkF m 33 #[.val (.int x_), .val (.int nl), .val (.int em), .val (.ref b)] [(.int ((x_ &&& (255 : Int32)).toUInt32.toUInt16.toUInt32.toInt32)), (.int (0 : Int32)), (.ref b)]))
      have h_k0 := oCh x_
      generalize ((x_ &&& (255 : Int32)).toUInt32.toUInt16.toUInt32.toInt32) = k0 at h_k0 ⊢
      show oGo p e below _ (T.setTop (mkF m 33 #[.val (.int x_), .val (.int nl), .val (.int em), .val (.ref b)] [(.int k0), (.int (0 : Int32)), (.ref b)]))
      obtain ⟨T, h, A, W, V_b, st⟩ := A.stC hx V_b 0 rfl ⟨by decide, by decide⟩ (by simp) n0_b (Or.inr s_b) (g := (mkF m 33 #[.val (.int x_), .val (.int nl), .val (.int em), .val (.ref b)] [(.int k0), (.int (0 : Int32)), (.ref b)])) rfl rfl (Jvm.hb hby d_m4_33)
      refine oSt st ?_
      show oGo p e below _ (T.setTop (mkF m 34 #[.val (.int x_), .val (.int nl), .val (.int em), .val (.ref b)] []))
      rw [oNar h_k0] at V_b
      have V_b : Arv Z h b k_b .char (2 : Int32) [(.int k0), (.int (0 : Int32))] (.int (0 : Int32)) := V_b
      refine oSt (fun _ => XS.aloadN A.here hx rfl (Jvm.hb hby d_m4_34) rfl rfl) ?_
      show oGo p e below _ (T.setTop (mkF m 35 #[.val (.int x_), .val (.int nl), .val (.int em), .val (.ref b)] [(.ref b)]))
      refine oSt (fun _ => XS.iconst A.here hx rfl (Jvm.hb hby d_m4_35)) ?_
      show oGo p e below _ (T.setTop (mkF m 36 #[.val (.int x_), .val (.int nl), .val (.int em), .val (.ref b)] [(.int (1 : Int32)), (.ref b)]))
      refine oSt (fun _ => XS.iloadN A.here hx rfl (Jvm.hb hby d_m4_36) rfl) ?_
      show oGo p e below _ (T.setTop (mkF m 37 #[.val (.int x_), .val (.int nl), .val (.int em), .val (.ref b)] [(.int x_), (.int (1 : Int32)), (.ref b)]))
      refine oSt (fun _ => XS.bipush A.here hx rfl (Jvm.hb hby d_m4_37)) ?_
      show oGo p e below _ (T.setTop (mkF m 39 #[.val (.int x_), .val (.int nl), .val (.int em), .val (.ref b)] [(.int (8 : Int32)), (.int x_), (.int (1 : Int32)), (.ref b)]))
      refine oSt (fun _ => XS.iushr A.here hx rfl (Jvm.hb hby d_m4_39) rfl) ?_
      show oGo p e below _ (T.setTop (mkF m 40 #[.val (.int x_), .val (.int nl), .val (.int em), .val (.ref b)] [(.int ((x_.toUInt32 >>> ((8 : Int32) &&& 31).toUInt32).toInt32)), (.int (1 : Int32)), (.ref b)]))
      refine oSt (fun _ => XS.sipush A.here hx rfl (Jvm.hb hby d_m4_40)) ?_
      show oGo p e below _ (T.setTop (mkF m 43 #[.val (.int x_), .val (.int nl), .val (.int em), .val (.ref b)] [(.int (255 : Int32)), (.int ((x_.toUInt32 >>> ((8 : Int32) &&& 31).toUInt32).toInt32)), (.int (1 : Int32)), (.ref b)]))
      refine oSt (fun _ => XS.iand A.here hx rfl (Jvm.hb hby d_m4_43) rfl) ?_
      show oGo p e below _ (T.setTop (mkF m 44 #[.val (.int x_), .val (.int nl), .val (.int em), .val (.ref b)] [(.int (((x_.toUInt32 >>> ((8 : Int32) &&& 31).toUInt32).toInt32) &&& (255 : Int32))), (.int (1 : Int32)), (.ref b)]))
      refine oSt (fun _ => XS.i2c A.here hx rfl (Jvm.hb hby d_m4_44) rfl) ?_
      show oGo p e below _ (T.setTop (mkF m 45 #[.val (.int x_), .val (.int nl), .val (.int em), .val (.ref b)] [(.int ((((x_.toUInt32 >>> ((8 : Int32) &&& 31).toUInt32).toInt32) &&& (255 : Int32)).toUInt32.toUInt16.toUInt32.toInt32)), (.int (1 : Int32)), (.ref b)]))
      have h_k1 := oCh ((x_.toUInt32 >>> ((8 : Int32) &&& 31).toUInt32).toInt32)
      generalize ((((x_.toUInt32 >>> ((8 : Int32) &&& 31).toUInt32).toInt32) &&& (255 : Int32)).toUInt32.toUInt16.toUInt32.toInt32) = k1 at h_k1 ⊢
      show oGo p e below _ (T.setTop (mkF m 45 #[.val (.int x_), .val (.int nl), .val (.int em), .val (.ref b)] [(.int k1), (.int (1 : Int32)), (.ref b)]))
      obtain ⟨T, h, A, W, V_b, st⟩ := A.stC hx V_b 1 rfl ⟨by decide, by decide⟩ (by simp) n0_b (Or.inr s_b) (g := (mkF m 45 #[.val (.int x_), .val (.int nl), .val (.int em), .val (.ref b)] [(.int k1), (.int (1 : Int32)), (.ref b)])) rfl rfl (Jvm.hb hby d_m4_45)
      refine oSt st ?_
      show oGo p e below _ (T.setTop (mkF m 46 #[.val (.int x_), .val (.int nl), .val (.int em), .val (.ref b)] []))
      rw [oNar h_k1] at V_b
      have V_b : Arv Z h b k_b .char (2 : Int32) [(.int k0), (.int k1)] (.int (0 : Int32)) := V_b
      obtain ⟨T, h, x, g_x, lt_x, n0_x, s_x, A, E, E_x, S_x, D_x, st⟩ := A.newO hx (hw _ (List.mem_of_getElem? (i := 31) rfl)) (hw _ (List.mem_of_getElem? (i := 10) rfl)) (hw _ (List.mem_of_getElem? (i := 2) rfl)) (g := (mkF m 46 #[.val (.int x_), .val (.int nl), .val (.int em), .val (.ref b)] [])) rfl (Jvm.hb hby d_m4_46) (by decide) (by decide)
      refine oSt st ?_
      show oGo p e below _ (T.setTop (mkF m 49 #[.val (.int x_), .val (.int nl), .val (.int em), .val (.ref b)] [(.ref x)]))
      have F_value_x : Fld Z h x "java/lang/String" "value" "[B" .null := D_x (Or.inr (hw _ (List.mem_of_getElem? (i := 23) rfl))) (ty := (.array .byte)) (by decide)
      have F_coder_x : Fld Z h x "java/lang/String" "coder" "B" (.int (0 : Int32)) := D_x (Or.inr (hw _ (List.mem_of_getElem? (i := 25) rfl))) (ty := .byte) (by decide)
      have V_b := V_b.ext E
      refine oSt (fun _ => XS.dup A.here hx rfl (Jvm.hb hby d_m4_49) rfl rfl) ?_
      show oGo p e below _ (T.setTop (mkF m 50 #[.val (.int x_), .val (.int nl), .val (.int em), .val (.ref b)] [(.ref x), (.ref x)]))
      refine oSt (fun _ => XS.aloadN A.here hx rfl (Jvm.hb hby d_m4_50) rfl rfl) ?_
      show oGo p e below _ (T.setTop (mkF m 51 #[.val (.int x_), .val (.int nl), .val (.int em), .val (.ref b)] [(.ref b), (.ref x), (.ref x)]))
      obtain ⟨T, h, L, A, K, Q_x, st⟩ := A.sNew hx hws (hw _ (List.mem_of_getElem? (i := 10) rfl)) (hw _ (List.mem_of_getElem? (i := 32) rfl)) (hw _ (List.mem_of_getElem? (i := 33) rfl)) (hw _ (List.mem_of_getElem? (i := 34) rfl)) E_x F_value_x F_coder_x (cs := ([k0, k1] : List Int32)) V_b hcs hcz (n := 2) rfl rfl (by decide) (by decide) (oPS h_k0 (oPS h_k1 oP0)) n0_x (Or.inr s_x) S_x (W := 1) (by decide) (by decide) (by decide) (by decide) (g := (mkF m 51 #[.val (.int x_), .val (.int nl), .val (.int em), .val (.ref b)] [(.ref b), (.ref x), (.ref x)])) rfl (by rw [hml]; rfl) rfl (by show 2 * 0 + _ ≤ _; exact Nat.le_of_eq rfl) (Jvm.hb hby d_m4_51)
      refine oSt st ?_
      show oGo p e below _ (T.setTop (mkF m 54 #[.val (.int x_), .val (.int nl), .val (.int em), .val (.ref b)] [(.ref x)]))
      exact A.leave hlk hEL (v := some (.ref x)) (fun h => by rw [hret] at h; cases h) (fun _ _ => ⟨_, _, rfl, Or.inr ⟨x, rfl, rfl⟩, hno⟩) (by decide) (by decide) (fun fs hr => retOut A.1 hx hret rfl (Or.inr (Or.inr (Or.inr (Or.inr ⟨rfl, rfl, rfl⟩)))) (Jvm.hb hby d_m4_54) hr)
    · refine oSt (fun _ => XS.ifNo A.here hx rfl (Jvm.hb hby d_m4_7) rfl (Jvm.Free.XT.i0_eq_f c1)) ?_
      show oGo p e below _ (T.setTop (mkF m 10 #[.val (.int x_), .val (.int nl), .val (.int em), .unset] []))
      have EB := oExtR h
      obtain ⟨T, h, x, g_x, lt_x, n0_x, s_x, A, E, E_x, S_x, D_x, st⟩ := A.newO hx (hw _ (List.mem_of_getElem? (i := 31) rfl)) (hw _ (List.mem_of_getElem? (i := 10) rfl)) (hw _ (List.mem_of_getElem? (i := 2) rfl)) (g := (mkF m 10 #[.val (.int x_), .val (.int nl), .val (.int em), .unset] [])) rfl (Jvm.hb hby d_m4_10) (by decide) (by decide)
      refine oSt st ?_
      show oGo p e below _ (T.setTop (mkF m 13 #[.val (.int x_), .val (.int nl), .val (.int em), .unset] [(.ref x)]))
      have hEB_x := Nat.le_trans EB.1 (Nat.le_of_eq g_x.symm)
      have EB := oExtT EB E
      have F_value_x : Fld Z h x "java/lang/String" "value" "[B" .null := D_x (Or.inr (hw _ (List.mem_of_getElem? (i := 23) rfl))) (ty := (.array .byte)) (by decide)
      have F_coder_x : Fld Z h x "java/lang/String" "coder" "B" (.int (0 : Int32)) := D_x (Or.inr (hw _ (List.mem_of_getElem? (i := 25) rfl))) (ty := .byte) (by decide)
      refine oSt (fun _ => XS.dup A.here hx rfl (Jvm.hb hby d_m4_13) rfl rfl) ?_
      show oGo p e below _ (T.setTop (mkF m 14 #[.val (.int x_), .val (.int nl), .val (.int em), .unset] [(.ref x), (.ref x)]))
      refine oSt (fun _ => XS.iconst A.here hx rfl (Jvm.hb hby d_m4_14)) ?_
      show oGo p e below _ (T.setTop (mkF m 15 #[.val (.int x_), .val (.int nl), .val (.int em), .unset] [(.int (0 : Int32)), (.ref x), (.ref x)]))
      have CH_x := A.ch
      have EC := oExtR h
      obtain ⟨T, h, b, k_b, g_b, lt_b, n0_b, s_b, A, E, V_b, S_b, st⟩ := A.newP hx (hw _ (List.mem_of_getElem? (i := 30) rfl)) (g := (mkF m 15 #[.val (.int x_), .val (.int nl), .val (.int em), .unset] [(.int (0 : Int32)), (.ref x), (.ref x)])) rfl (Jvm.hb hby d_m4_15) rfl (by decide) (cap := 0) (by decide) (by decide) (by decide) (by decide)
      refine oSt st ?_
      show oGo p e below _ (T.setTop (mkF m 17 #[.val (.int x_), .val (.int nl), .val (.int em), .unset] [(.ref b), (.ref x), (.ref x)]))
      have hEB_b := Nat.le_trans EB.1 (Nat.le_of_eq g_b.symm)
      have EB := oExtT EB E
      have hEC_b := Nat.le_trans EC.1 (Nat.le_of_eq g_b.symm)
      have EC := oExtT EC E
      have E_x := E_x.ext EC
      have F_value_x := F_value_x.ext EC
      have F_coder_x := F_coder_x.ext EC
      have S_x := S_x.ext EC CH_x
      have lt_x : x < h.size := E_x.lt
      obtain ⟨_, vm, T, h, L, A, K, CR, ⟨rfl, Q_x⟩, st⟩ := A.callN hx (y := (⟨"java/lang/String", "<init>", "([C)V"⟩ : MethodName)) rfl (hw _ (List.mem_of_getElem? (i := 32) rfl)) (hw _ (List.mem_of_getElem? (i := 33) rfl)) (hw _ (List.mem_of_getElem? (i := 2) rfl)) (hw _ (List.mem_of_getElem? (i := 34) rfl)) (by decide) hEL (a := x) (argsL := [(.ref b)]) (rest := [(.ref x)]) (own_E1 l Z a0 hw hEL n0 h A.oldn x b .null (.int (0 : Int32)) E_x F_value_x F_coder_x n0_x lt_x k_b V_b) (W := 1) (by decide) (by decide) (by decide) (by decide) (oIn1 n0_x) (oIn1 (Or.inr s_x)) (oIn1 S_x) (g := (mkF m 17 #[.val (.int x_), .val (.int nl), .val (.int em), .unset] [(.ref b), (.ref x), (.ref x)])) rfl (by rw [hml]; rfl) (lenOf opd22 rfl) rfl (by show 2 * 0 + _ ≤ _; exact Nat.le_of_eq rfl) (Jvm.hb hby d_m4_17)
      refine oSt st ?_
      show oGo p e below _ (T.setTop (mkF m 20 #[.val (.int x_), .val (.int nl), .val (.int em), .unset] [(.ref x)]))
      have EB := oExtK EB K (oIn1 hEB_x)
      exact A.leave hlk hEL (v := some (.ref x)) (fun h => by rw [hret] at h; cases h) (fun _ _ => ⟨_, _, rfl, Or.inr ⟨x, rfl, rfl⟩, hno⟩) (by decide) (by decide) (fun fs hr => retOut A.1 hx hret rfl (Or.inr (Or.inr (Or.inr (Or.inr ⟨rfl, rfl, rfl⟩)))) (Jvm.hb hby d_m4_20) hr)
  · refine oSt (fun _ => XS.ifNo A.here hx rfl (Jvm.hb hby d_m4_1) rfl (Jvm.Free.XT.i0_eq_f c0)) ?_
    show oGo p e below _ (T.setTop (mkF m 4 #[.val (.int x_), .val (.int nl), .val (.int em), .unset] []))
    refine oSt (fun _ => XS.aconstNull A.here hx rfl (Jvm.hb hby d_m4_4)) ?_
    show oGo p e below _ (T.setTop (mkF m 5 #[.val (.int x_), .val (.int nl), .val (.int em), .unset] [.null]))
    exact A.leave hlk hEL (v := some .null) (fun h => by rw [hret] at h; cases h) (fun _ _ => ⟨_, _, rfl, Or.inl ⟨rfl, rfl⟩, ⟨fun _ => c0, fun _ => rfl⟩⟩) (by decide) (by decide) (fun fs hr => retOut A.1 hx hret rfl (Or.inr (Or.inr (Or.inr (Or.inr ⟨rfl, rfl, rfl⟩)))) (Jvm.hb hby d_m4_5) hr)
theorem d_jdk_30_m1_0 : decode jdk_30_method_1_code 0 = .ok (.aload_n 0, 1) := by decide +kernel
theorem d_jdk_30_m1_1 : decode jdk_30_method_1_code 1 = .ok (.invokespecial 1, 3) := by decide +kernel
theorem d_jdk_30_m1_4 : decode jdk_30_method_1_code 4 = .ok (.return_, 1) := by decide +kernel
theorem opn_own_rec : plainFor (⟨"java/lang/Record", "<init>", "()V"⟩ : MethodName) = true := plainFor_of_name (by first | (simp [plainName, overriddenIn]; done) | decide +kernel)
set_option maxRecDepth 65536 in
set_option maxHeartbeats 40000000 in
theorem own_rec (l : Launch) (Z : State) (a0 : Array Value) (hw : ∀ d ∈ tables_1, d.before a0 Z = true) (hEL : EW Z a0 consts_1) (n0 : Nat) (h : Heap) (hO : Old Z n0 h) (x : Addr) :
    oMet l Z consts_1 n0 (⟨"java/lang/Record", "<init>", "()V"⟩ : MethodName) jdk_30_method_1_code 1 none [] ({ frames := 1, cells := 0, slots := 0, locals := 12 } : Room) #[(.ref x)] h [] (fun v _ h' => h = h' ∧ v = none) := by
  refine oMet.of opn_own_rec hO ?_
  intro p e s m below meth c T hx hby hml hret hnm hlk hh hsf A
  have hml : c.maxLocals = 1 := hml
  refine oCast (g' := mkF m 0 #[.val (.ref x)] []) (by first | (simp [entryFrame, mkF, argsToLocals, Value.category]; done) | rfl) ?_
  show oGo p e below _ (T.setTop (mkF m 0 #[.val (.ref x)] []))
  refine oSt (fun _ => XS.aloadN A.here hx rfl (Jvm.hb hby d_jdk_30_m1_0) rfl rfl) ?_
  show oGo p e below _ (T.setTop (mkF m 1 #[.val (.ref x)] [(.ref x)]))
  obtain ⟨T, A, st⟩ := A.initO hx (hw _ (List.mem_of_getElem? (i := 59) rfl)) (hw _ (List.mem_of_getElem? (i := 20) rfl)) (hw _ (List.mem_of_getElem? (i := 21) rfl)) (g := (mkF m 1 #[.val (.ref x)] [(.ref x)])) rfl (by rw [hml]; rfl) rfl (Jvm.hb hby d_jdk_30_m1_1) (by decide) (W := 0) (by show 2 * 0 + _ ≤ _; exact Nat.le_of_eq rfl) (by decide)
  refine oSt st ?_
  show oGo p e below _ (T.setTop (mkF m 4 #[.val (.ref x)] []))
  exact A.leave hlk hEL (v := none) (fun _ => rfl) (fun _ _ => ⟨rfl, rfl⟩) (by decide) (by decide) (fun fs hr => A.1.returnOut hx hret (Jvm.hb hby d_jdk_30_m1_4) hr)
theorem d_prog_25_m1_0 : decode prog_25_method_1_code 0 = .ok (.aload_n 0, 1) := by decide +kernel
theorem d_prog_25_m1_1 : decode prog_25_method_1_code 1 = .ok (.invokespecial 1, 3) := by decide +kernel
theorem d_prog_25_m1_4 : decode prog_25_method_1_code 4 = .ok (.aload_n 0, 1) := by decide +kernel
theorem d_prog_25_m1_5 : decode prog_25_method_1_code 5 = .ok (.aload_n 1, 1) := by decide +kernel
theorem d_prog_25_m1_6 : decode prog_25_method_1_code 6 = .ok (.putfield 7, 3) := by decide +kernel
theorem d_prog_25_m1_9 : decode prog_25_method_1_code 9 = .ok (.aload_n 0, 1) := by decide +kernel
theorem d_prog_25_m1_10 : decode prog_25_method_1_code 10 = .ok (.aload_n 2, 1) := by decide +kernel
theorem d_prog_25_m1_11 : decode prog_25_method_1_code 11 = .ok (.putfield 13, 3) := by decide +kernel
theorem d_prog_25_m1_14 : decode prog_25_method_1_code 14 = .ok (.aload_n 0, 1) := by decide +kernel
theorem d_prog_25_m1_15 : decode prog_25_method_1_code 15 = .ok (.aload_n 3, 1) := by decide +kernel
theorem d_prog_25_m1_16 : decode prog_25_method_1_code 16 = .ok (.putfield 16, 3) := by decide +kernel
theorem d_prog_25_m1_19 : decode prog_25_method_1_code 19 = .ok (.aload_n 0, 1) := by decide +kernel
theorem d_prog_25_m1_20 : decode prog_25_method_1_code 20 = .ok (.aload 4, 2) := by decide +kernel
theorem d_prog_25_m1_22 : decode prog_25_method_1_code 22 = .ok (.putfield 19, 3) := by decide +kernel
theorem d_prog_25_m1_25 : decode prog_25_method_1_code 25 = .ok (.return_, 1) := by decide +kernel
theorem opd23 : parseMethodDescriptor "()V" = some ⟨[], none⟩ := by decide +kernel
theorem opn_own_cus : plainFor (⟨"com/example/stallwright/stallwright/store/Customer", "<init>", "(Ljava/lang/String;Ljava/lang/String;Ljava/lang/String;Ljava/lang/String;)V"⟩ : MethodName) = true := plainFor_of_name (by first | (simp [plainName, overriddenIn]; done) | decide +kernel)
set_option maxRecDepth 65536 in
set_option maxHeartbeats 40000000 in
theorem own_cus (l : Launch) (Z : State) (a0 : Array Value) (hw : ∀ d ∈ tables_1, d.before a0 Z = true) (hEL : EW Z a0 consts_1) (n0 : Nat) (h : Heap) (hO : Old Z n0 h) (c_ : Addr) (vi vn vb ve z0 z1 z2 z3 : Value) (E_c : Exa Z h c_ "com/example/stallwright/stallwright/store/Customer") (F_id : Fld Z h c_ "com/example/stallwright/stallwright/store/Customer" "id" "Ljava/lang/String;" z0) (F_name : Fld Z h c_ "com/example/stallwright/stallwright/store/Customer" "name" "Ljava/lang/String;" z1) (F_mobile : Fld Z h c_ "com/example/stallwright/stallwright/store/Customer" "mobile" "Ljava/lang/String;" z2) (F_email : Fld Z h c_ "com/example/stallwright/stallwright/store/Customer" "email" "Ljava/lang/String;" z3) (n0_c : n0 ≤ c_) (r_vi : vi.isRef = true) (r_vn : vn.isRef = true) (r_vb : vb.isRef = true) (r_ve : ve.isRef = true) :
    oMet l Z consts_1 n0 (⟨"com/example/stallwright/stallwright/store/Customer", "<init>", "(Ljava/lang/String;Ljava/lang/String;Ljava/lang/String;Ljava/lang/String;)V"⟩ : MethodName) prog_25_method_1_code 5 none [] ({ frames := 2, cells := 0, slots := 0, locals := 24 } : Room) #[(.ref c_), vi, vn, vb, ve] h [c_] (fun v _ h => v = none ∧ Exa Z h c_ "com/example/stallwright/stallwright/store/Customer" ∧ Fld Z h c_ "com/example/stallwright/stallwright/store/Customer" "id" "Ljava/lang/String;" vi ∧ Fld Z h c_ "com/example/stallwright/stallwright/store/Customer" "name" "Ljava/lang/String;" vn ∧ Fld Z h c_ "com/example/stallwright/stallwright/store/Customer" "mobile" "Ljava/lang/String;" vb ∧ Fld Z h c_ "com/example/stallwright/stallwright/store/Customer" "email" "Ljava/lang/String;" ve) := by
  refine oMet.of opn_own_cus hO ?_
  intro p e s m below meth c T hx hby hml hret hnm hlk hh hsf A
  have hml : c.maxLocals = 5 := hml
  refine oCast (g' := mkF m 0 #[.val (.ref c_), .val vi, .val vn, .val vb, .val ve] []) (by rcases ref_cases r_vi with rfl | ⟨a1, rfl⟩ <;> rcases ref_cases r_vn with rfl | ⟨a2, rfl⟩ <;> rcases ref_cases r_vb with rfl | ⟨a3, rfl⟩ <;> rcases ref_cases r_ve with rfl | ⟨a4, rfl⟩ <;> first | (simp [entryFrame, mkF, argsToLocals, Value.category]; done) | rfl) ?_
  show oGo p e below _ (T.setTop (mkF m 0 #[.val (.ref c_), .val vi, .val vn, .val vb, .val ve] []))
  refine oSt (fun _ => XS.aloadN A.here hx rfl (Jvm.hb hby d_prog_25_m1_0) rfl rfl) ?_
  show oGo p e below _ (T.setTop (mkF m 1 #[.val (.ref c_), .val vi, .val vn, .val vb, .val ve] [(.ref c_)]))
  obtain ⟨_, vm, T, h, L, A, K, CR, ⟨rfl, rfl⟩, st⟩ := A.callN hx (y := (⟨"java/lang/Record", "<init>", "()V"⟩ : MethodName)) rfl (hw _ (List.mem_of_getElem? (i := 54) rfl)) (hw _ (List.mem_of_getElem? (i := 55) rfl)) (hw _ (List.mem_of_getElem? (i := 57) rfl)) (hw _ (List.mem_of_getElem? (i := 58) rfl)) (by decide) hEL (a := c_) (argsL := []) (rest := []) (own_rec l Z a0 hw hEL n0 _ A.oldn c_) (W := 0) (by decide) (by decide) (by decide) (by decide) all0 all0 all0 (g := (mkF m 1 #[.val (.ref c_), .val vi, .val vn, .val vb, .val ve] [(.ref c_)])) rfl (by rw [hml]; rfl) (lenOf opd23 rfl) rfl (by show 2 * 0 + _ ≤ _; exact Nat.le_of_eq rfl) (Jvm.hb hby d_prog_25_m1_1)
  refine oSt st ?_
  have X := oExt0 K
  show oGo p e below _ (T.setTop (mkF m 4 #[.val (.ref c_), .val vi, .val vn, .val vb, .val ve] []))
  refine oSt (fun _ => XS.aloadN A.here hx rfl (Jvm.hb hby d_prog_25_m1_4) rfl rfl) ?_
  show oGo p e below _ (T.setTop (mkF m 5 #[.val (.ref c_), .val vi, .val vn, .val vb, .val ve] [(.ref c_)]))
  refine oSt (fun _ => XS.aloadN A.here hx rfl (Jvm.hb hby d_prog_25_m1_5) rfl r_vi) ?_
  show oGo p e below _ (T.setTop (mkF m 6 #[.val (.ref c_), .val vi, .val vn, .val vb, .val ve] [vi, (.ref c_)]))
  obtain ⟨T, h, A, W, st⟩ := A.putF hx (host := "") (Or.inl (hw _ (List.mem_of_getElem? (i := 60) rfl))) Via.refl F_id E_c (Or.inr ⟨(hw _ (List.mem_of_getElem? (i := 61) rfl)), rfl, hnm⟩) (hw _ (List.mem_of_getElem? (i := 49) rfl)) (ty := (.object "java/lang/String")) (by decide) (own_nrw r_vi) (own_fts r_vi) n0_c (Or.inl (List.mem_cons_self ..)) (A.safeExa E_c (by decide) (by decide)) (g := (mkF m 6 #[.val (.ref c_), .val vi, .val vn, .val vb, .val ve] [vi, (.ref c_)])) rfl rfl (Jvm.hb hby d_prog_25_m1_6)
  refine oSt st ?_
  show oGo p e below _ (T.setTop (mkF m 9 #[.val (.ref c_), .val vi, .val vn, .val vb, .val ve] []))
  have E_c := E_c.wr W
  have F_id := F_id.same W
  have F_name := F_name.other W (Or.inr (slot_ne (Or.inr (hw _ (List.mem_of_getElem? (i := 63) rfl))) (Or.inr (hw _ (List.mem_of_getElem? (i := 61) rfl))) (by decide) (t := (.object "java/lang/String")) (t' := (.object "java/lang/String")) (by decide) (by decide)))
  have F_mobile := F_mobile.other W (Or.inr (slot_ne (Or.inr (hw _ (List.mem_of_getElem? (i := 65) rfl))) (Or.inr (hw _ (List.mem_of_getElem? (i := 61) rfl))) (by decide) (t := (.object "java/lang/String")) (t' := (.object "java/lang/String")) (by decide) (by decide)))
  have F_email := F_email.other W (Or.inr (slot_ne (Or.inr (hw _ (List.mem_of_getElem? (i := 67) rfl))) (Or.inr (hw _ (List.mem_of_getElem? (i := 61) rfl))) (by decide) (t := (.object "java/lang/String")) (t' := (.object "java/lang/String")) (by decide) (by decide)))
  refine oSt (fun _ => XS.aloadN A.here hx rfl (Jvm.hb hby d_prog_25_m1_9) rfl rfl) ?_
  show oGo p e below _ (T.setTop (mkF m 10 #[.val (.ref c_), .val vi, .val vn, .val vb, .val ve] [(.ref c_)]))
  refine oSt (fun _ => XS.aloadN A.here hx rfl (Jvm.hb hby d_prog_25_m1_10) rfl r_vn) ?_
  show oGo p e below _ (T.setTop (mkF m 11 #[.val (.ref c_), .val vi, .val vn, .val vb, .val ve] [vn, (.ref c_)]))
  obtain ⟨T, h, A, W, st⟩ := A.putF hx (host := "") (Or.inl (hw _ (List.mem_of_getElem? (i := 62) rfl))) Via.refl F_name E_c (Or.inr ⟨(hw _ (List.mem_of_getElem? (i := 63) rfl)), rfl, hnm⟩) (hw _ (List.mem_of_getElem? (i := 49) rfl)) (ty := (.object "java/lang/String")) (by decide) (own_nrw r_vn) (own_fts r_vn) n0_c (Or.inl (List.mem_cons_self ..)) (A.safeExa E_c (by decide) (by decide)) (g := (mkF m 11 #[.val (.ref c_), .val vi, .val vn, .val vb, .val ve] [vn, (.ref c_)])) rfl rfl (Jvm.hb hby d_prog_25_m1_11)
  refine oSt st ?_
  show oGo p e below _ (T.setTop (mkF m 14 #[.val (.ref c_), .val vi, .val vn, .val vb, .val ve] []))
  have E_c := E_c.wr W
  have F_id := F_id.other W (Or.inr (slot_ne (Or.inr (hw _ (List.mem_of_getElem? (i := 61) rfl))) (Or.inr (hw _ (List.mem_of_getElem? (i := 63) rfl))) (by decide) (t := (.object "java/lang/String")) (t' := (.object "java/lang/String")) (by decide) (by decide)))
  have F_name := F_name.same W
  have F_mobile := F_mobile.other W (Or.inr (slot_ne (Or.inr (hw _ (List.mem_of_getElem? (i := 65) rfl))) (Or.inr (hw _ (List.mem_of_getElem? (i := 63) rfl))) (by decide) (t := (.object "java/lang/String")) (t' := (.object "java/lang/String")) (by decide) (by decide)))
  have F_email := F_email.other W (Or.inr (slot_ne (Or.inr (hw _ (List.mem_of_getElem? (i := 67) rfl))) (Or.inr (hw _ (List.mem_of_getElem? (i := 63) rfl))) (by decide) (t := (.object "java/lang/String")) (t' := (.object "java/lang/String")) (by decide) (by decide)))
  refine oSt (fun _ => XS.aloadN A.here hx rfl (Jvm.hb hby d_prog_25_m1_14) rfl rfl) ?_
  show oGo p e below _ (T.setTop (mkF m 15 #[.val (.ref c_), .val vi, .val vn, .val vb, .val ve] [(.ref c_)]))
  refine oSt (fun _ => XS.aloadN A.here hx rfl (Jvm.hb hby d_prog_25_m1_15) rfl r_vb) ?_
  show oGo p e below _ (T.setTop (mkF m 16 #[.val (.ref c_), .val vi, .val vn, .val vb, .val ve] [vb, (.ref c_)]))
  obtain ⟨T, h, A, W, st⟩ := A.putF hx (host := "") (Or.inl (hw _ (List.mem_of_getElem? (i := 64) rfl))) Via.refl F_mobile E_c (Or.inr ⟨(hw _ (List.mem_of_getElem? (i := 65) rfl)), rfl, hnm⟩) (hw _ (List.mem_of_getElem? (i := 49) rfl)) (ty := (.object "java/lang/String")) (by decide) (own_nrw r_vb) (own_fts r_vb) n0_c (Or.inl (List.mem_cons_self ..)) (A.safeExa E_c (by decide) (by decide)) (g := (mkF m 16 #[.val (.ref c_), .val vi, .val vn, .val vb, .val ve] [vb, (.ref c_)])) rfl rfl (Jvm.hb hby d_prog_25_m1_16)
  refine oSt st ?_
  show oGo p e below _ (T.setTop (mkF m 19 #[.val (.ref c_), .val vi, .val vn, .val vb, .val ve] []))
  have E_c := E_c.wr W
  have F_id := F_id.other W (Or.inr (slot_ne (Or.inr (hw _ (List.mem_of_getElem? (i := 61) rfl))) (Or.inr (hw _ (List.mem_of_getElem? (i := 65) rfl))) (by decide) (t := (.object "java/lang/String")) (t' := (.object "java/lang/String")) (by decide) (by decide)))
  have F_name := F_name.other W (Or.inr (slot_ne (Or.inr (hw _ (List.mem_of_getElem? (i := 63) rfl))) (Or.inr (hw _ (List.mem_of_getElem? (i := 65) rfl))) (by decide) (t := (.object "java/lang/String")) (t' := (.object "java/lang/String")) (by decide) (by decide)))
  have F_mobile := F_mobile.same W
  have F_email := F_email.other W (Or.inr (slot_ne (Or.inr (hw _ (List.mem_of_getElem? (i := 67) rfl))) (Or.inr (hw _ (List.mem_of_getElem? (i := 65) rfl))) (by decide) (t := (.object "java/lang/String")) (t' := (.object "java/lang/String")) (by decide) (by decide)))
  refine oSt (fun _ => XS.aloadN A.here hx rfl (Jvm.hb hby d_prog_25_m1_19) rfl rfl) ?_
  show oGo p e below _ (T.setTop (mkF m 20 #[.val (.ref c_), .val vi, .val vn, .val vb, .val ve] [(.ref c_)]))
  refine oSt (fun _ => XS.aload A.here hx rfl (Jvm.hb hby d_prog_25_m1_20) rfl r_ve) ?_
  show oGo p e below _ (T.setTop (mkF m 22 #[.val (.ref c_), .val vi, .val vn, .val vb, .val ve] [ve, (.ref c_)]))
  obtain ⟨T, h, A, W, st⟩ := A.putF hx (host := "") (Or.inl (hw _ (List.mem_of_getElem? (i := 66) rfl))) Via.refl F_email E_c (Or.inr ⟨(hw _ (List.mem_of_getElem? (i := 67) rfl)), rfl, hnm⟩) (hw _ (List.mem_of_getElem? (i := 49) rfl)) (ty := (.object "java/lang/String")) (by decide) (own_nrw r_ve) (own_fts r_ve) n0_c (Or.inl (List.mem_cons_self ..)) (A.safeExa E_c (by decide) (by decide)) (g := (mkF m 22 #[.val (.ref c_), .val vi, .val vn, .val vb, .val ve] [ve, (.ref c_)])) rfl rfl (Jvm.hb hby d_prog_25_m1_22)
  refine oSt st ?_
  show oGo p e below _ (T.setTop (mkF m 25 #[.val (.ref c_), .val vi, .val vn, .val vb, .val ve] []))
  have E_c := E_c.wr W
  have F_id := F_id.other W (Or.inr (slot_ne (Or.inr (hw _ (List.mem_of_getElem? (i := 61) rfl))) (Or.inr (hw _ (List.mem_of_getElem? (i := 67) rfl))) (by decide) (t := (.object "java/lang/String")) (t' := (.object "java/lang/String")) (by decide) (by decide)))
  have F_name := F_name.other W (Or.inr (slot_ne (Or.inr (hw _ (List.mem_of_getElem? (i := 63) rfl))) (Or.inr (hw _ (List.mem_of_getElem? (i := 67) rfl))) (by decide) (t := (.object "java/lang/String")) (t' := (.object "java/lang/String")) (by decide) (by decide)))
  have F_mobile := F_mobile.other W (Or.inr (slot_ne (Or.inr (hw _ (List.mem_of_getElem? (i := 65) rfl))) (Or.inr (hw _ (List.mem_of_getElem? (i := 67) rfl))) (by decide) (t := (.object "java/lang/String")) (t' := (.object "java/lang/String")) (by decide) (by decide)))
  have F_email := F_email.same W
  exact A.leave hlk hEL (v := none) (fun _ => rfl) (fun _ _ => ⟨rfl, E_c, F_id, F_name, F_mobile, F_email⟩) (by decide) (by decide) (fun fs hr => A.1.returnOut hx hret (Jvm.hb hby d_prog_25_m1_25) hr)
theorem d_prog_25_m2_0 : decode prog_25_method_2_code 0 = .ok (.new 22, 3) := by decide +kernel
theorem d_prog_25_m2_3 : decode prog_25_method_2_code 3 = .ok (.dup, 1) := by decide +kernel
theorem d_prog_25_m2_4 : decode prog_25_method_2_code 4 = .ok (.invokespecial 24, 3) := by decide +kernel
theorem d_prog_25_m2_7 : decode prog_25_method_2_code 7 = .ok (.ldc 25, 2) := by decide +kernel
theorem d_prog_25_m2_9 : decode prog_25_method_2_code 9 = .ok (.invokevirtual 27, 3) := by decide +kernel
theorem d_prog_25_m2_12 : decode prog_25_method_2_code 12 = .ok (.aload_n 0, 1) := by decide +kernel
theorem d_prog_25_m2_13 : decode prog_25_method_2_code 13 = .ok (.getfield 7, 3) := by decide +kernel
theorem d_prog_25_m2_16 : decode prog_25_method_2_code 16 = .ok (.invokevirtual 27, 3) := by decide +kernel
theorem d_prog_25_m2_19 : decode prog_25_method_2_code 19 = .ok (.ldc 31, 2) := by decide +kernel
theorem d_prog_25_m2_21 : decode prog_25_method_2_code 21 = .ok (.invokevirtual 27, 3) := by decide +kernel
theorem d_prog_25_m2_24 : decode prog_25_method_2_code 24 = .ok (.aload_n 0, 1) := by decide +kernel
theorem d_prog_25_m2_25 : decode prog_25_method_2_code 25 = .ok (.getfield 13, 3) := by decide +kernel
theorem d_prog_25_m2_28 : decode prog_25_method_2_code 28 = .ok (.invokevirtual 27, 3) := by decide +kernel
theorem d_prog_25_m2_31 : decode prog_25_method_2_code 31 = .ok (.ldc 33, 2) := by decide +kernel
theorem d_prog_25_m2_33 : decode prog_25_method_2_code 33 = .ok (.invokevirtual 27, 3) := by decide +kernel
theorem d_prog_25_m2_36 : decode prog_25_method_2_code 36 = .ok (.aload_n 0, 1) := by decide +kernel
theorem d_prog_25_m2_37 : decode prog_25_method_2_code 37 = .ok (.getfield 16, 3) := by decide +kernel
theorem d_prog_25_m2_40 : decode prog_25_method_2_code 40 = .ok (.ifnonnull 8, 3) := by decide +kernel
theorem d_prog_25_m2_43 : decode prog_25_method_2_code 43 = .ok (.ldc 35, 2) := by decide +kernel
theorem d_prog_25_m2_45 : decode prog_25_method_2_code 45 = .ok (.goto 5, 3) := by decide +kernel
theorem d_prog_25_m2_48 : decode prog_25_method_2_code 48 = .ok (.ldc 37, 2) := by decide +kernel
theorem d_prog_25_m2_50 : decode prog_25_method_2_code 50 = .ok (.invokevirtual 27, 3) := by decide +kernel
theorem d_prog_25_m2_53 : decode prog_25_method_2_code 53 = .ok (.ldc 39, 2) := by decide +kernel
theorem d_prog_25_m2_55 : decode prog_25_method_2_code 55 = .ok (.invokevirtual 27, 3) := by decide +kernel
theorem d_prog_25_m2_58 : decode prog_25_method_2_code 58 = .ok (.aload_n 0, 1) := by decide +kernel
theorem d_prog_25_m2_59 : decode prog_25_method_2_code 59 = .ok (.getfield 19, 3) := by decide +kernel
theorem d_prog_25_m2_62 : decode prog_25_method_2_code 62 = .ok (.ifnonnull 8, 3) := by decide +kernel
theorem d_prog_25_m2_65 : decode prog_25_method_2_code 65 = .ok (.ldc 35, 2) := by decide +kernel
theorem d_prog_25_m2_67 : decode prog_25_method_2_code 67 = .ok (.goto 5, 3) := by decide +kernel
theorem d_prog_25_m2_70 : decode prog_25_method_2_code 70 = .ok (.ldc 37, 2) := by decide +kernel
theorem d_prog_25_m2_72 : decode prog_25_method_2_code 72 = .ok (.invokevirtual 27, 3) := by decide +kernel
theorem d_prog_25_m2_75 : decode prog_25_method_2_code 75 = .ok (.ldc 41, 2) := by decide +kernel
theorem d_prog_25_m2_77 : decode prog_25_method_2_code 77 = .ok (.invokevirtual 27, 3) := by decide +kernel
theorem d_prog_25_m2_80 : decode prog_25_method_2_code 80 = .ok (.invokevirtual 43, 3) := by decide +kernel
theorem d_prog_25_m2_83 : decode prog_25_method_2_code 83 = .ok (.areturn, 1) := by decide +kernel
theorem opd24 : parseMethodDescriptor "(Ljava/lang/String;)Ljava/lang/StringBuilder;" = some ⟨[(.object "java/lang/String")], some (.object "java/lang/StringBuilder")⟩ := by decide +kernel
theorem opd25 : parseMethodDescriptor "()Ljava/lang/String;" = some ⟨[], some (.object "java/lang/String")⟩ := by decide +kernel
theorem opn_own_tsS : plainFor (⟨"com/example/stallwright/stallwright/store/Customer", "toString", "()Ljava/lang/String;"⟩ : MethodName) = true := plainFor_of_name (by first | (simp [plainName, overriddenIn]; done) | decide +kernel)
set_option maxRecDepth 65536 in
set_option maxHeartbeats 40000000 in
theorem own_tsS (l : Launch) (Z : State) (a0 : Array Value) (hw : ∀ d ∈ tables_1, d.before a0 Z = true) (hEL : EW Z a0 consts_1) (n0 : Nat) (h : Heap) (hO : Old Z n0 h) (c_ ai an : Addr) (vb ve : Value) (i_ n_ : Int32) (mw ew : List Int32) (zc : Int32) (hcs : Sta Z Z.heap "java/lang/String" "COMPACT_STRINGS" "Z" (.int zc)) (hcz : ¬ zc = 0) (E_c : Exa Z h c_ "com/example/stallwright/stallwright/store/Customer") (F_id : Fld Z h c_ "com/example/stallwright/stallwright/store/Customer" "id" "Ljava/lang/String;" (.ref ai)) (F_name : Fld Z h c_ "com/example/stallwright/stallwright/store/Customer" "name" "Ljava/lang/String;" (.ref an)) (F_mobile : Fld Z h c_ "com/example/stallwright/stallwright/store/Customer" "mobile" "Ljava/lang/String;" vb) (F_email : Fld Z h c_ "com/example/stallwright/stallwright/store/Customer" "email" "Ljava/lang/String;" ve) (Qi : oStr Z h ai [i_]) (hb : own_W vb mw) (he : own_W ve ew) (Qn : oStr Z h an [n_]) :
    oMet l Z consts_1 n0 (⟨"com/example/stallwright/stallwright/store/Customer", "toString", "()Ljava/lang/String;"⟩ : MethodName) prog_25_method_2_code 1 (some (.object "java/lang/String")) [] ({ frames := 7, cells := 40, slots := 1400, locals := 107 } : Room) #[(.ref c_)] h [] (fun v _ h => ∃ r, v = some (.ref r) ∧ oStr Z h r (([67, 117, 115, 116, 111, 109, 101, 114, 91, 105, 100, 61] : List Int32) ++ [i_] ++ ([44, 32, 110, 97, 109, 101, 61] : List Int32) ++ [n_] ++ ([44, 32, 109, 111, 98, 105, 108, 101, 61] : List Int32) ++ mw ++ ([44, 32, 101, 109, 97, 105, 108, 61] : List Int32) ++ ew ++ ([93] : List Int32))) := by
  refine oMet.of opn_own_tsS hO ?_
  intro p e s m below meth c T hx hby hml hret hnm hlk hh hsf A
  have hml : c.maxLocals = 1 := hml
  refine oCast (g' := mkF m 0 #[.val (.ref c_)] []) (by first | (simp [entryFrame, mkF, argsToLocals, Value.category]; done) | rfl) ?_
  have hlit : ∀ d ∈ Bundle.stringAtoms, d.before a0 Z = true := fun d hd => hw d ((by decide +kernel : ∀ d ∈ Bundle.stringAtoms, d ∈ tables_1) d hd)
  have lb := hb.len
  have le_ := he.len
  show oGo p e below _ (T.setTop (mkF m 0 #[.val (.ref c_)] []))
  obtain ⟨B0, rfl⟩ : ∃ B0 : Heap, B0 = h := ⟨_, rfl⟩
  have EB := oExtR B0
  obtain ⟨T, h, x, g_x, lt_x, n0_x, s_x, A, E, E_x, S_x, D_x, st⟩ := A.newO hx (hw _ (List.mem_of_getElem? (i := 73) rfl)) (hw _ (List.mem_of_getElem? (i := 74) rfl)) (hw _ (List.mem_of_getElem? (i := 75) rfl)) (g := (mkF m 0 #[.val (.ref c_)] [])) rfl (Jvm.hb hby d_prog_25_m2_0) (by decide) (by decide)
  refine oSt st ?_
  show oGo p e below _ (T.setTop (mkF m 3 #[.val (.ref c_)] [(.ref x)]))
  have hEB_x := Nat.le_trans EB.1 (Nat.le_of_eq g_x.symm)
  have EB := oExtT EB E
  have F_value_x : Fld Z h x "java/lang/AbstractStringBuilder" "value" "[B" .null := D_x (Or.inl (hw _ (List.mem_of_getElem? (i := 88) rfl))) (ty := (.array .byte)) (by decide)
  have F_coder_x : Fld Z h x "java/lang/AbstractStringBuilder" "coder" "B" (.int (0 : Int32)) := D_x (Or.inl (hw _ (List.mem_of_getElem? (i := 90) rfl))) (ty := .byte) (by decide)
  have F_count_x : Fld Z h x "java/lang/AbstractStringBuilder" "count" "I" (.int (0 : Int32)) := D_x (Or.inl (hw _ (List.mem_of_getElem? (i := 115) rfl))) (ty := .int) (by decide)
  refine oSt (fun _ => XS.dup A.here hx rfl (Jvm.hb hby d_prog_25_m2_3) rfl rfl) ?_
  show oGo p e below _ (T.setTop (mkF m 4 #[.val (.ref c_)] [(.ref x), (.ref x)]))
  obtain ⟨_, vm, T, h, L, A, K, CR, ⟨rfl, t, k, le_t, S, S_t⟩, st⟩ := A.callN hx (y := (⟨"java/lang/StringBuilder", "<init>", "()V"⟩ : MethodName)) rfl (hw _ (List.mem_of_getElem? (i := 76) rfl)) (hw _ (List.mem_of_getElem? (i := 77) rfl)) (hw _ (List.mem_of_getElem? (i := 75) rfl)) (hw _ (List.mem_of_getElem? (i := 78) rfl)) (by decide) hEL (a := x) (argsL := []) (rest := [(.ref x)]) (own_sbI l Z a0 hw hEL n0 _ A.oldn x _ _ zc hcs hcz E_x F_value_x F_coder_x F_count_x n0_x) (W := 1) (by decide) (by decide) (by decide) (by decide) (oIn1 n0_x) (oIn1 (Or.inr s_x)) (oIn1 S_x) (g := (mkF m 4 #[.val (.ref c_)] [(.ref x), (.ref x)])) rfl (by rw [hml]; rfl) (lenOf opd23 rfl) rfl (by show 2 * 0 + _ ≤ _; exact Nat.le_of_eq rfl) (Jvm.hb hby d_prog_25_m2_4)
  refine oSt st ?_
  show oGo p e below _ (T.setTop (mkF m 7 #[.val (.ref c_)] [(.ref x)]))
  have EB := oExtK EB K (oIn1 hEB_x)
  have xt : x ≤ t := Nat.le_trans (Nat.le_of_lt lt_x) le_t
  have s_t : s.heap.size ≤ t := Nat.le_trans s_x xt
  have n0_t : n0 ≤ t := Nat.le_trans n0_x xt
  have hEB_t := Nat.le_trans hEB_x xt
  obtain ⟨N, hG⟩ : ∃ N, own_G N ∧ N = 16 := ⟨16, Or.inl rfl, rfl⟩
  rw [← hG.2] at S
  have hG := hG.1
  obtain ⟨t0, et⟩ : ∃ t0, t0 = t := ⟨_, rfl⟩
  obtain ⟨k0, ek⟩ : ∃ k0, k0 = k := ⟨_, rfl⟩
  obtain ⟨N0, eN⟩ : ∃ N0, N0 = N := ⟨_, rfl⟩
  subst et ek eN
  have lt_t := S.2.2.2.2.2.2.2.lt
  obtain ⟨l0, T, h, bb, kb, A, X, CR, E_l0, C_l0, V_l0, K_l0, ne_l0, Li, st⟩ := A.ldcS hx (hw _ (List.mem_of_getElem? (i := 91) rfl)) hlit hEL (List.mem_of_getElem? (i := 0) rfl) (vs := (([67, 117, 115, 116, 111, 109, 101, 114, 91, 105, 100, 61] : List Int32).map fun c => c.toInt8.toInt32).map Value.int) (z := Int32.ofNat ([67, 117, 115, 116, 111, 109, 101, 114, 91, 105, 100, 61] : List Int32).length) ⟨by decide +kernel, by decide +kernel⟩ (by decide +kernel) (by decide +kernel) (g := (mkF m 7 #[.val (.ref c_)] [(.ref x)])) rfl (Jvm.hb hby d_prog_25_m2_7) (n := 48) (by decide +kernel) (by decide) (by decide) (by decide)
  refine oSt st ?_
  show oGo p e below _ (T.setTop (mkF m 9 #[.val (.ref c_)] [(.ref l0), (.ref x)]))
  have Q_l0 : oStr Z h l0 ([67, 117, 115, 116, 111, 109, 101, 114, 91, 105, 100, 61] : List Int32) := ⟨(oPS (by decide) (oPS (by decide) (oPS (by decide) (oPS (by decide) (oPS (by decide) (oPS (by decide) (oPS (by decide) (oPS (by decide) (oPS (by decide) (oPS (by decide) (oPS (by decide) (oPS (by decide) oP0)))))))))))), by decide, bb, kb, E_l0, V_l0, C_l0, K_l0⟩
  have EB := oExtT EB X
  have S := S.ext X
  have S_t := CR.safe lt_t S_t
  have S_x := A.safeExa S.2.2.2.1 (by decide) (by decide)
  have szT := A.sle
  have szE := EB.1
  have szN := A.n0le
  obtain ⟨_, vm, T, h, L, A, K, CR, ⟨rfl, t1, k1, N1, ht, hG, S, S_t⟩, st⟩ := A.callV hx (y := (⟨"java/lang/StringBuilder", "append", "(Ljava/lang/String;)Ljava/lang/StringBuilder;"⟩ : MethodName)) (z := (⟨"java/lang/StringBuilder", "append", "(Ljava/lang/String;)Ljava/lang/StringBuilder;"⟩ : MethodName)) (hw _ (List.mem_of_getElem? (i := 94) rfl)) (hw _ (List.mem_of_getElem? (i := 95) rfl)) (A.nf (hw _ (List.mem_of_getElem? (i := 97) rfl))) (hw _ (List.mem_of_getElem? (i := 97) rfl)) (hw _ (List.mem_of_getElem? (i := 96) rfl)) (hw _ (List.mem_of_getElem? (i := 75) rfl)) (hw _ (List.mem_of_getElem? (i := 98) rfl)) (by decide) hEL (a := x) (argsL := [(.ref l0)]) (rest := []) (own_appX l Z a0 hw hEL n0 _ A.oldn x t0 k0 N0 [] l0 ([67, 117, 115, 116, 111, 109, 101, 114, 91, 105, 100, 61] : List Int32) zc hcs hcz S hG n0_x n0_t Q_l0 (by first | omega | (simp; done) | (simp; omega)) (by first | omega | (simp; done) | (simp; omega))) S.2.2.2.1 (W := 0) (by decide) (by decide) (by decide) (by decide) (allS n0_x (allS n0_t all0)) (allS (Or.inr s_x) (allS (Or.inr s_t) all0)) (allS S_x (allS S_t all0)) (g := (mkF m 9 #[.val (.ref c_)] [(.ref l0), (.ref x)])) rfl (by rw [hml]; rfl) (lenOf opd24 rfl) rfl (by show 2 * 0 + _ ≤ _; exact Nat.le_of_eq rfl) (Jvm.hb hby d_prog_25_m2_9)
  refine oSt st ?_
  show oGo p e below _ (T.setTop (mkF m 12 #[.val (.ref c_)] [(.ref x)]))
  have EB := oExtK EB K (allS hEB_x (allS hEB_t all0))
  have s_t := own_frs ht s_t szT
  have n0_t := own_frs ht n0_t szN
  have hEB_t := own_frs ht hEB_t szE
  rw [List.nil_append] at S
  refine oSt (fun _ => XS.aloadN A.here hx rfl (Jvm.hb hby d_prog_25_m2_12) rfl rfl) ?_
  show oGo p e below _ (T.setTop (mkF m 13 #[.val (.ref c_)] [(.ref c_), (.ref x)]))
  obtain ⟨T, A, st⟩ := A.getF hx (host := "") (Or.inl (hw _ (List.mem_of_getElem? (i := 60) rfl))) Via.refl (F_id.ext EB) (g := (mkF m 13 #[.val (.ref c_)] [(.ref c_), (.ref x)])) rfl rfl (Jvm.hb hby d_prog_25_m2_13)
  refine oSt st ?_
  show oGo p e below _ (T.setTop (mkF m 16 #[.val (.ref c_)] [(.ref ai), (.ref x)]))
  have S_x := A.safeExa S.2.2.2.1 (by decide) (by decide)
  have szT := A.sle
  have szE := EB.1
  have szN := A.n0le
  obtain ⟨_, vm, T, h, L, A, K, CR, ⟨rfl, t2, k2, N2, ht, hG, S, S_t⟩, st⟩ := A.callV hx (y := (⟨"java/lang/StringBuilder", "append", "(Ljava/lang/String;)Ljava/lang/StringBuilder;"⟩ : MethodName)) (z := (⟨"java/lang/StringBuilder", "append", "(Ljava/lang/String;)Ljava/lang/StringBuilder;"⟩ : MethodName)) (hw _ (List.mem_of_getElem? (i := 94) rfl)) (hw _ (List.mem_of_getElem? (i := 95) rfl)) (A.nf (hw _ (List.mem_of_getElem? (i := 97) rfl))) (hw _ (List.mem_of_getElem? (i := 97) rfl)) (hw _ (List.mem_of_getElem? (i := 96) rfl)) (hw _ (List.mem_of_getElem? (i := 75) rfl)) (hw _ (List.mem_of_getElem? (i := 98) rfl)) (by decide) hEL (a := x) (argsL := [(.ref ai)]) (rest := []) (own_appX l Z a0 hw hEL n0 _ A.oldn x t1 k1 N1 ([67, 117, 115, 116, 111, 109, 101, 114, 91, 105, 100, 61] : List Int32) ai [i_] zc hcs hcz S hG n0_x n0_t (Qi.ext EB) (by first | omega | (simp; done) | (simp; omega)) (by first | omega | (simp; done) | (simp; omega))) S.2.2.2.1 (W := 0) (by decide) (by decide) (by decide) (by decide) (allS n0_x (allS n0_t all0)) (allS (Or.inr s_x) (allS (Or.inr s_t) all0)) (allS S_x (allS S_t all0)) (g := (mkF m 16 #[.val (.ref c_)] [(.ref ai), (.ref x)])) rfl (by rw [hml]; rfl) (lenOf opd24 rfl) rfl (by show 2 * 0 + _ ≤ _; exact Nat.le_of_eq rfl) (Jvm.hb hby d_prog_25_m2_16)
  refine oSt st ?_
  show oGo p e below _ (T.setTop (mkF m 19 #[.val (.ref c_)] [(.ref x)]))
  have EB := oExtK EB K (allS hEB_x (allS hEB_t all0))
  have s_t := own_frs ht s_t szT
  have n0_t := own_frs ht n0_t szN
  have hEB_t := own_frs ht hEB_t szE
  have lt_t := S.2.2.2.2.2.2.2.lt
  obtain ⟨l1, T, h, bb, kb, A, X, CR, E_l1, C_l1, V_l1, K_l1, ne_l1, Li, st⟩ := A.ldcS hx (hw _ (List.mem_of_getElem? (i := 141) rfl)) hlit hEL (List.mem_of_getElem? (i := 1) rfl) (vs := (([44, 32, 110, 97, 109, 101, 61] : List Int32).map fun c => c.toInt8.toInt32).map Value.int) (z := Int32.ofNat ([44, 32, 110, 97, 109, 101, 61] : List Int32).length) ⟨by decide +kernel, by decide +kernel⟩ (by decide +kernel) (by decide +kernel) (g := (mkF m 19 #[.val (.ref c_)] [(.ref x)])) rfl (Jvm.hb hby d_prog_25_m2_19) (n := 28) (by decide +kernel) (by decide) (by decide) (by decide)
  refine oSt st ?_
  show oGo p e below _ (T.setTop (mkF m 21 #[.val (.ref c_)] [(.ref l1), (.ref x)]))
  have Q_l1 : oStr Z h l1 ([44, 32, 110, 97, 109, 101, 61] : List Int32) := ⟨(oPS (by decide) (oPS (by decide) (oPS (by decide) (oPS (by decide) (oPS (by decide) (oPS (by decide) (oPS (by decide) oP0))))))), by decide, bb, kb, E_l1, V_l1, C_l1, K_l1⟩
  have EB := oExtT EB X
  have S := S.ext X
  have S_t := CR.safe lt_t S_t
  have S_x := A.safeExa S.2.2.2.1 (by decide) (by decide)
  have szT := A.sle
  have szE := EB.1
  have szN := A.n0le
  obtain ⟨_, vm, T, h, L, A, K, CR, ⟨rfl, t3, k3, N3, ht, hG, S, S_t⟩, st⟩ := A.callV hx (y := (⟨"java/lang/StringBuilder", "append", "(Ljava/lang/String;)Ljava/lang/StringBuilder;"⟩ : MethodName)) (z := (⟨"java/lang/StringBuilder", "append", "(Ljava/lang/String;)Ljava/lang/StringBuilder;"⟩ : MethodName)) (hw _ (List.mem_of_getElem? (i := 94) rfl)) (hw _ (List.mem_of_getElem? (i := 95) rfl)) (A.nf (hw _ (List.mem_of_getElem? (i := 97) rfl))) (hw _ (List.mem_of_getElem? (i := 97) rfl)) (hw _ (List.mem_of_getElem? (i := 96) rfl)) (hw _ (List.mem_of_getElem? (i := 75) rfl)) (hw _ (List.mem_of_getElem? (i := 98) rfl)) (by decide) hEL (a := x) (argsL := [(.ref l1)]) (rest := []) (own_appX l Z a0 hw hEL n0 _ A.oldn x t2 k2 N2 (([67, 117, 115, 116, 111, 109, 101, 114, 91, 105, 100, 61] : List Int32) ++ [i_]) l1 ([44, 32, 110, 97, 109, 101, 61] : List Int32) zc hcs hcz S hG n0_x n0_t Q_l1 (by first | omega | (simp; done) | (simp; omega)) (by first | omega | (simp; done) | (simp; omega))) S.2.2.2.1 (W := 0) (by decide) (by decide) (by decide) (by decide) (allS n0_x (allS n0_t all0)) (allS (Or.inr s_x) (allS (Or.inr s_t) all0)) (allS S_x (allS S_t all0)) (g := (mkF m 21 #[.val (.ref c_)] [(.ref l1), (.ref x)])) rfl (by rw [hml]; rfl) (lenOf opd24 rfl) rfl (by show 2 * 0 + _ ≤ _; exact Nat.le_of_eq rfl) (Jvm.hb hby d_prog_25_m2_21)
  refine oSt st ?_
  show oGo p e below _ (T.setTop (mkF m 24 #[.val (.ref c_)] [(.ref x)]))
  have EB := oExtK EB K (allS hEB_x (allS hEB_t all0))
  have s_t := own_frs ht s_t szT
  have n0_t := own_frs ht n0_t szN
  have hEB_t := own_frs ht hEB_t szE
  refine oSt (fun _ => XS.aloadN A.here hx rfl (Jvm.hb hby d_prog_25_m2_24) rfl rfl) ?_
  show oGo p e below _ (T.setTop (mkF m 25 #[.val (.ref c_)] [(.ref c_), (.ref x)]))
  obtain ⟨T, A, st⟩ := A.getF hx (host := "") (Or.inl (hw _ (List.mem_of_getElem? (i := 62) rfl))) Via.refl (F_name.ext EB) (g := (mkF m 25 #[.val (.ref c_)] [(.ref c_), (.ref x)])) rfl rfl (Jvm.hb hby d_prog_25_m2_25)
  refine oSt st ?_
  show oGo p e below _ (T.setTop (mkF m 28 #[.val (.ref c_)] [(.ref an), (.ref x)]))
  have S_x := A.safeExa S.2.2.2.1 (by decide) (by decide)
  have szT := A.sle
  have szE := EB.1
  have szN := A.n0le
  obtain ⟨_, vm, T, h, L, A, K, CR, ⟨rfl, t4, k4, N4, ht, hG, S, S_t⟩, st⟩ := A.callV hx (y := (⟨"java/lang/StringBuilder", "append", "(Ljava/lang/String;)Ljava/lang/StringBuilder;"⟩ : MethodName)) (z := (⟨"java/lang/StringBuilder", "append", "(Ljava/lang/String;)Ljava/lang/StringBuilder;"⟩ : MethodName)) (hw _ (List.mem_of_getElem? (i := 94) rfl)) (hw _ (List.mem_of_getElem? (i := 95) rfl)) (A.nf (hw _ (List.mem_of_getElem? (i := 97) rfl))) (hw _ (List.mem_of_getElem? (i := 97) rfl)) (hw _ (List.mem_of_getElem? (i := 96) rfl)) (hw _ (List.mem_of_getElem? (i := 75) rfl)) (hw _ (List.mem_of_getElem? (i := 98) rfl)) (by decide) hEL (a := x) (argsL := [(.ref an)]) (rest := []) (own_appX l Z a0 hw hEL n0 _ A.oldn x t3 k3 N3 (([67, 117, 115, 116, 111, 109, 101, 114, 91, 105, 100, 61] : List Int32) ++ [i_] ++ ([44, 32, 110, 97, 109, 101, 61] : List Int32)) an [n_] zc hcs hcz S hG n0_x n0_t (Qn.ext EB) (by first | omega | (simp; done) | (simp; omega)) (by first | omega | (simp; done) | (simp; omega))) S.2.2.2.1 (W := 0) (by decide) (by decide) (by decide) (by decide) (allS n0_x (allS n0_t all0)) (allS (Or.inr s_x) (allS (Or.inr s_t) all0)) (allS S_x (allS S_t all0)) (g := (mkF m 28 #[.val (.ref c_)] [(.ref an), (.ref x)])) rfl (by rw [hml]; rfl) (lenOf opd24 rfl) rfl (by show 2 * 0 + _ ≤ _; exact Nat.le_of_eq rfl) (Jvm.hb hby d_prog_25_m2_28)
  refine oSt st ?_
  show oGo p e below _ (T.setTop (mkF m 31 #[.val (.ref c_)] [(.ref x)]))
  have EB := oExtK EB K (allS hEB_x (allS hEB_t all0))
  have s_t := own_frs ht s_t szT
  have n0_t := own_frs ht n0_t szN
  have hEB_t := own_frs ht hEB_t szE
  have lt_t := S.2.2.2.2.2.2.2.lt
  obtain ⟨l2, T, h, bb, kb, A, X, CR, E_l2, C_l2, V_l2, K_l2, ne_l2, Li, st⟩ := A.ldcS hx (hw _ (List.mem_of_getElem? (i := 165) rfl)) hlit hEL (List.mem_of_getElem? (i := 2) rfl) (vs := (([44, 32, 109, 111, 98, 105, 108, 101, 61] : List Int32).map fun c => c.toInt8.toInt32).map Value.int) (z := Int32.ofNat ([44, 32, 109, 111, 98, 105, 108, 101, 61] : List Int32).length) ⟨by decide +kernel, by decide +kernel⟩ (by decide +kernel) (by decide +kernel) (g := (mkF m 31 #[.val (.ref c_)] [(.ref x)])) rfl (Jvm.hb hby d_prog_25_m2_31) (n := 36) (by decide +kernel) (by decide) (by decide) (by decide)
  refine oSt st ?_
  show oGo p e below _ (T.setTop (mkF m 33 #[.val (.ref c_)] [(.ref l2), (.ref x)]))
  have Q_l2 : oStr Z h l2 ([44, 32, 109, 111, 98, 105, 108, 101, 61] : List Int32) := ⟨(oPS (by decide) (oPS (by decide) (oPS (by decide) (oPS (by decide) (oPS (by decide) (oPS (by decide) (oPS (by decide) (oPS (by decide) (oPS (by decide) oP0))))))))), by decide, bb, kb, E_l2, V_l2, C_l2, K_l2⟩
  have EB := oExtT EB X
  have S := S.ext X
  have S_t := CR.safe lt_t S_t
  have S_x := A.safeExa S.2.2.2.1 (by decide) (by decide)
  have szT := A.sle
  have szE := EB.1
  have szN := A.n0le
  obtain ⟨_, vm, T, h, L, A, K, CR, ⟨rfl, t5, k5, N5, ht, hG, S, S_t⟩, st⟩ := A.callV hx (y := (⟨"java/lang/StringBuilder", "append", "(Ljava/lang/String;)Ljava/lang/StringBuilder;"⟩ : MethodName)) (z := (⟨"java/lang/StringBuilder", "append", "(Ljava/lang/String;)Ljava/lang/StringBuilder;"⟩ : MethodName)) (hw _ (List.mem_of_getElem? (i := 94) rfl)) (hw _ (List.mem_of_getElem? (i := 95) rfl)) (A.nf (hw _ (List.mem_of_getElem? (i := 97) rfl))) (hw _ (List.mem_of_getElem? (i := 97) rfl)) (hw _ (List.mem_of_getElem? (i := 96) rfl)) (hw _ (List.mem_of_getElem? (i := 75) rfl)) (hw _ (List.mem_of_getElem? (i := 98) rfl)) (by decide) hEL (a := x) (argsL := [(.ref l2)]) (rest := []) (own_appX l Z a0 hw hEL n0 _ A.oldn x t4 k4 N4 (([67, 117, 115, 116, 111, 109, 101, 114, 91, 105, 100, 61] : List Int32) ++ [i_] ++ ([44, 32, 110, 97, 109, 101, 61] : List Int32) ++ [n_]) l2 ([44, 32, 109, 111, 98, 105, 108, 101, 61] : List Int32) zc hcs hcz S hG n0_x n0_t Q_l2 (by first | omega | (simp; done) | (simp; omega)) (by first | omega | (simp; done) | (simp; omega))) S.2.2.2.1 (W := 0) (by decide) (by decide) (by decide) (by decide) (allS n0_x (allS n0_t all0)) (allS (Or.inr s_x) (allS (Or.inr s_t) all0)) (allS S_x (allS S_t all0)) (g := (mkF m 33 #[.val (.ref c_)] [(.ref l2), (.ref x)])) rfl (by rw [hml]; rfl) (lenOf opd24 rfl) rfl (by show 2 * 0 + _ ≤ _; exact Nat.le_of_eq rfl) (Jvm.hb hby d_prog_25_m2_33)
  refine oSt st ?_
  show oGo p e below _ (T.setTop (mkF m 36 #[.val (.ref c_)] [(.ref x)]))
  have EB := oExtK EB K (allS hEB_x (allS hEB_t all0))
  have s_t := own_frs ht s_t szT
  have n0_t := own_frs ht n0_t szN
  have hEB_t := own_frs ht hEB_t szE
  refine oSt (fun _ => XS.aloadN A.here hx rfl (Jvm.hb hby d_prog_25_m2_36) rfl rfl) ?_
  show oGo p e below _ (T.setTop (mkF m 37 #[.val (.ref c_)] [(.ref c_), (.ref x)]))
  obtain ⟨T, A, st⟩ := A.getF hx (host := "") (Or.inl (hw _ (List.mem_of_getElem? (i := 64) rfl))) Via.refl (F_mobile.ext EB) (g := (mkF m 37 #[.val (.ref c_)] [(.ref c_), (.ref x)])) rfl rfl (Jvm.hb hby d_prog_25_m2_37)
  refine oSt st ?_
  show oGo p e below _ (T.setTop (mkF m 40 #[.val (.ref c_)] [vb, (.ref x)]))
  have J50 : ∀ (vm : Vm) (T : State) (h : Heap) (locs : List Loc) (lw : Addr), oA l Z consts_1 n0 p e ({ frames := 7, cells := 40, slots := 1400, locals := 107 } : Room) s m #[(.ref c_)] below meth c "com/example/stallwright/stallwright/store/Customer" [] vm T h locs 15 518 → oStr Z h lw mw → own_SB Z h x t5 k5 N5 (([67, 117, 115, 116, 111, 109, 101, 114, 91, 105, 100, 61] : List Int32) ++ [i_] ++ ([44, 32, 110, 97, 109, 101, 61] : List Int32) ++ [n_] ++ ([44, 32, 109, 111, 98, 105, 108, 101, 61] : List Int32)) → Safe Z consts_1 vm h t5 → Ext B0 h → oGo p e below (oEnd Z consts_1 n0 ({ frames := 7, cells := 40, slots := 1400, locals := 107 } : Room) s [] (fun v _ h => ∃ r, v = some (.ref r) ∧ oStr Z h r (([67, 117, 115, 116, 111, 109, 101, 114, 91, 105, 100, 61] : List Int32) ++ [i_] ++ ([44, 32, 110, 97, 109, 101, 61] : List Int32) ++ [n_] ++ ([44, 32, 109, 111, 98, 105, 108, 101, 61] : List Int32) ++ mw ++ ([44, 32, 101, 109, 97, 105, 108, 61] : List Int32) ++ ew ++ ([93] : List Int32)))) (T.setTop (mkF m 50 #[.val (.ref c_)] [(.ref lw), (.ref x)])) := by
    intro vm T h locs lw A Q_lw S S_t EB
    show oGo p e below _ (T.setTop (mkF m 50 #[.val (.ref c_)] [(.ref lw), (.ref x)]))
    have S_x := A.safeExa S.2.2.2.1 (by decide) (by decide)
    have szT := A.sle
    have szE := EB.1
    have szN := A.n0le
    obtain ⟨_, vm, T, h, L, A, K, CR, ⟨rfl, t6, k6, N6, ht, hG, S, S_t⟩, st⟩ := A.callV hx (y := (⟨"java/lang/StringBuilder", "append", "(Ljava/lang/String;)Ljava/lang/StringBuilder;"⟩ : MethodName)) (z := (⟨"java/lang/StringBuilder", "append", "(Ljava/lang/String;)Ljava/lang/StringBuilder;"⟩ : MethodName)) (hw _ (List.mem_of_getElem? (i := 94) rfl)) (hw _ (List.mem_of_getElem? (i := 95) rfl)) (A.nf (hw _ (List.mem_of_getElem? (i := 97) rfl))) (hw _ (List.mem_of_getElem? (i := 97) rfl)) (hw _ (List.mem_of_getElem? (i := 96) rfl)) (hw _ (List.mem_of_getElem? (i := 75) rfl)) (hw _ (List.mem_of_getElem? (i := 98) rfl)) (by decide) hEL (a := x) (argsL := [(.ref lw)]) (rest := []) (own_appX l Z a0 hw hEL n0 _ A.oldn x t5 k5 N5 (([67, 117, 115, 116, 111, 109, 101, 114, 91, 105, 100, 61] : List Int32) ++ [i_] ++ ([44, 32, 110, 97, 109, 101, 61] : List Int32) ++ [n_] ++ ([44, 32, 109, 111, 98, 105, 108, 101, 61] : List Int32)) lw mw zc hcs hcz S hG n0_x n0_t Q_lw (by first | omega | (simp; done) | (simp; omega)) (by first | omega | (simp; done) | (simp; omega))) S.2.2.2.1 (W := 0) (by decide) (by decide) (by decide) (by decide) (allS n0_x (allS n0_t all0)) (allS (Or.inr s_x) (allS (Or.inr s_t) all0)) (allS S_x (allS S_t all0)) (g := (mkF m 50 #[.val (.ref c_)] [(.ref lw), (.ref x)])) rfl (by rw [hml]; rfl) (lenOf opd24 rfl) rfl (by show 2 * 0 + _ ≤ _; exact Nat.le_of_eq rfl) (Jvm.hb hby d_prog_25_m2_50)
    refine oSt st ?_
    show oGo p e below _ (T.setTop (mkF m 53 #[.val (.ref c_)] [(.ref x)]))
    have EB := oExtK EB K (allS hEB_x (allS hEB_t all0))
    have s_t := own_frs ht s_t szT
    have n0_t := own_frs ht n0_t szN
    have hEB_t := own_frs ht hEB_t szE
    have lt_t := S.2.2.2.2.2.2.2.lt
    obtain ⟨l3, T, h, bb, kb, A, X, CR, E_l3, C_l3, V_l3, K_l3, ne_l3, Li, st⟩ := A.ldcS hx (hw _ (List.mem_of_getElem? (i := 167) rfl)) hlit hEL (List.mem_of_getElem? (i := 5) rfl) (vs := (([44, 32, 101, 109, 97, 105, 108, 61] : List Int32).map fun c => c.toInt8.toInt32).map Value.int) (z := Int32.ofNat ([44, 32, 101, 109, 97, 105, 108, 61] : List Int32).length) ⟨by decide +kernel, by decide +kernel⟩ (by decide +kernel) (by decide +kernel) (g := (mkF m 53 #[.val (.ref c_)] [(.ref x)])) rfl (Jvm.hb hby d_prog_25_m2_53) (n := 32) (by decide +kernel) (by decide) (by decide) (by decide)
    refine oSt st ?_
    show oGo p e below _ (T.setTop (mkF m 55 #[.val (.ref c_)] [(.ref l3), (.ref x)]))
    have Q_l3 : oStr Z h l3 ([44, 32, 101, 109, 97, 105, 108, 61] : List Int32) := ⟨(oPS (by decide) (oPS (by decide) (oPS (by decide) (oPS (by decide) (oPS (by decide) (oPS (by decide) (oPS (by decide) (oPS (by decide) oP0)))))))), by decide, bb, kb, E_l3, V_l3, C_l3, K_l3⟩
    have EB := oExtT EB X
    have S := S.ext X
    have S_t := CR.safe lt_t S_t
    have S_x := A.safeExa S.2.2.2.1 (by decide) (by decide)
    have szT := A.sle
    have szE := EB.1
    have szN := A.n0le
    obtain ⟨_, vm, T, h, L, A, K, CR, ⟨rfl, t7, k7, N7, ht, hG, S, S_t⟩, st⟩ := A.callV hx (y := (⟨"java/lang/StringBuilder", "append", "(Ljava/lang/String;)Ljava/lang/StringBuilder;"⟩ : MethodName)) (z := (⟨"java/lang/StringBuilder", "append", "(Ljava/lang/String;)Ljava/lang/StringBuilder;"⟩ : MethodName)) (hw _ (List.mem_of_getElem? (i := 94) rfl)) (hw _ (List.mem_of_getElem? (i := 95) rfl)) (A.nf (hw _ (List.mem_of_getElem? (i := 97) rfl))) (hw _ (List.mem_of_getElem? (i := 97) rfl)) (hw _ (List.mem_of_getElem? (i := 96) rfl)) (hw _ (List.mem_of_getElem? (i := 75) rfl)) (hw _ (List.mem_of_getElem? (i := 98) rfl)) (by decide) hEL (a := x) (argsL := [(.ref l3)]) (rest := []) (own_appX l Z a0 hw hEL n0 _ A.oldn x t6 k6 N6 ((([67, 117, 115, 116, 111, 109, 101, 114, 91, 105, 100, 61] : List Int32) ++ [i_] ++ ([44, 32, 110, 97, 109, 101, 61] : List Int32) ++ [n_] ++ ([44, 32, 109, 111, 98, 105, 108, 101, 61] : List Int32)) ++ mw) l3 ([44, 32, 101, 109, 97, 105, 108, 61] : List Int32) zc hcs hcz S hG n0_x n0_t Q_l3 (by first | omega | (simp; done) | (simp; omega)) (by first | omega | (simp; done) | (simp; omega))) S.2.2.2.1 (W := 0) (by decide) (by decide) (by decide) (by decide) (allS n0_x (allS n0_t all0)) (allS (Or.inr s_x) (allS (Or.inr s_t) all0)) (allS S_x (allS S_t all0)) (g := (mkF m 55 #[.val (.ref c_)] [(.ref l3), (.ref x)])) rfl (by rw [hml]; rfl) (lenOf opd24 rfl) rfl (by show 2 * 0 + _ ≤ _; exact Nat.le_of_eq rfl) (Jvm.hb hby d_prog_25_m2_55)
    refine oSt st ?_
    show oGo p e below _ (T.setTop (mkF m 58 #[.val (.ref c_)] [(.ref x)]))
    have EB := oExtK EB K (allS hEB_x (allS hEB_t all0))
    have s_t := own_frs ht s_t szT
    have n0_t := own_frs ht n0_t szN
    have hEB_t := own_frs ht hEB_t szE
    refine oSt (fun _ => XS.aloadN A.here hx rfl (Jvm.hb hby d_prog_25_m2_58) rfl rfl) ?_
    show oGo p e below _ (T.setTop (mkF m 59 #[.val (.ref c_)] [(.ref c_), (.ref x)]))
    obtain ⟨T, A, st⟩ := A.getF hx (host := "") (Or.inl (hw _ (List.mem_of_getElem? (i := 66) rfl))) Via.refl (F_email.ext EB) (g := (mkF m 59 #[.val (.ref c_)] [(.ref c_), (.ref x)])) rfl rfl (Jvm.hb hby d_prog_25_m2_59)
    refine oSt st ?_
    show oGo p e below _ (T.setTop (mkF m 62 #[.val (.ref c_)] [ve, (.ref x)]))
    have J72 : ∀ (vm : Vm) (T : State) (h : Heap) (locs : List Loc) (lw : Addr), oA l Z consts_1 n0 p e ({ frames := 7, cells := 40, slots := 1400, locals := 107 } : Room) s m #[(.ref c_)] below meth c "com/example/stallwright/stallwright/store/Customer" [] vm T h locs 21 718 → oStr Z h lw ew → own_SB Z h x t7 k7 N7 ((([67, 117, 115, 116, 111, 109, 101, 114, 91, 105, 100, 61] : List Int32) ++ [i_] ++ ([44, 32, 110, 97, 109, 101, 61] : List Int32) ++ [n_] ++ ([44, 32, 109, 111, 98, 105, 108, 101, 61] : List Int32)) ++ mw ++ ([44, 32, 101, 109, 97, 105, 108, 61] : List Int32)) → Safe Z consts_1 vm h t7 → Ext B0 h → oGo p e below (oEnd Z consts_1 n0 ({ frames := 7, cells := 40, slots := 1400, locals := 107 } : Room) s [] (fun v _ h => ∃ r, v = some (.ref r) ∧ oStr Z h r (([67, 117, 115, 116, 111, 109, 101, 114, 91, 105, 100, 61] : List Int32) ++ [i_] ++ ([44, 32, 110, 97, 109, 101, 61] : List Int32) ++ [n_] ++ ([44, 32, 109, 111, 98, 105, 108, 101, 61] : List Int32) ++ mw ++ ([44, 32, 101, 109, 97, 105, 108, 61] : List Int32) ++ ew ++ ([93] : List Int32)))) (T.setTop (mkF m 72 #[.val (.ref c_)] [(.ref lw), (.ref x)])) := by
      intro vm T h locs lw A Q_lw S S_t EB
      show oGo p e below _ (T.setTop (mkF m 72 #[.val (.ref c_)] [(.ref lw), (.ref x)]))
      have S_x := A.safeExa S.2.2.2.1 (by decide) (by decide)
      have szT := A.sle
      have szE := EB.1
      have szN := A.n0le
      obtain ⟨_, vm, T, h, L, A, K, CR, ⟨rfl, t8, k8, N8, ht, hG, S, S_t⟩, st⟩ := A.callV hx (y := (⟨"java/lang/StringBuilder", "append", "(Ljava/lang/String;)Ljava/lang/StringBuilder;"⟩ : MethodName)) (z := (⟨"java/lang/StringBuilder", "append", "(Ljava/lang/String;)Ljava/lang/StringBuilder;"⟩ : MethodName)) (hw _ (List.mem_of_getElem? (i := 94) rfl)) (hw _ (List.mem_of_getElem? (i := 95) rfl)) (A.nf (hw _ (List.mem_of_getElem? (i := 97) rfl))) (hw _ (List.mem_of_getElem? (i := 97) rfl)) (hw _ (List.mem_of_getElem? (i := 96) rfl)) (hw _ (List.mem_of_getElem? (i := 75) rfl)) (hw _ (List.mem_of_getElem? (i := 98) rfl)) (by decide) hEL (a := x) (argsL := [(.ref lw)]) (rest := []) (own_appX l Z a0 hw hEL n0 _ A.oldn x t7 k7 N7 ((([67, 117, 115, 116, 111, 109, 101, 114, 91, 105, 100, 61] : List Int32) ++ [i_] ++ ([44, 32, 110, 97, 109, 101, 61] : List Int32) ++ [n_] ++ ([44, 32, 109, 111, 98, 105, 108, 101, 61] : List Int32)) ++ mw ++ ([44, 32, 101, 109, 97, 105, 108, 61] : List Int32)) lw ew zc hcs hcz S hG n0_x n0_t Q_lw (by first | omega | (simp; done) | (simp; omega)) (by first | omega | (simp; done) | (simp; omega))) S.2.2.2.1 (W := 0) (by decide) (by decide) (by decide) (by decide) (allS n0_x (allS n0_t all0)) (allS (Or.inr s_x) (allS (Or.inr s_t) all0)) (allS S_x (allS S_t all0)) (g := (mkF m 72 #[.val (.ref c_)] [(.ref lw), (.ref x)])) rfl (by rw [hml]; rfl) (lenOf opd24 rfl) rfl (by show 2 * 0 + _ ≤ _; exact Nat.le_of_eq rfl) (Jvm.hb hby d_prog_25_m2_72)
      refine oSt st ?_
      show oGo p e below _ (T.setTop (mkF m 75 #[.val (.ref c_)] [(.ref x)]))
      have EB := oExtK EB K (allS hEB_x (allS hEB_t all0))
      have s_t := own_frs ht s_t szT
      have n0_t := own_frs ht n0_t szN
      have hEB_t := own_frs ht hEB_t szE
      have lt_t := S.2.2.2.2.2.2.2.lt
      obtain ⟨l4, T, h, bb, kb, A, X, CR, E_l4, C_l4, V_l4, K_l4, ne_l4, Li, st⟩ := A.ldcS hx (hw _ (List.mem_of_getElem? (i := 168) rfl)) hlit hEL (List.mem_of_getElem? (i := 6) rfl) (vs := (([93] : List Int32).map fun c => c.toInt8.toInt32).map Value.int) (z := Int32.ofNat ([93] : List Int32).length) ⟨by decide +kernel, by decide +kernel⟩ (by decide +kernel) (by decide +kernel) (g := (mkF m 75 #[.val (.ref c_)] [(.ref x)])) rfl (Jvm.hb hby d_prog_25_m2_75) (n := 4) (by decide +kernel) (by decide) (by decide) (by decide)
      refine oSt st ?_
      show oGo p e below _ (T.setTop (mkF m 77 #[.val (.ref c_)] [(.ref l4), (.ref x)]))
      have Q_l4 : oStr Z h l4 ([93] : List Int32) := ⟨(oPS (by decide) oP0), by decide, bb, kb, E_l4, V_l4, C_l4, K_l4⟩
      have EB := oExtT EB X
      have S := S.ext X
      have S_t := CR.safe lt_t S_t
      have S_x := A.safeExa S.2.2.2.1 (by decide) (by decide)
      have szT := A.sle
      have szE := EB.1
      have szN := A.n0le
      obtain ⟨_, vm, T, h, L, A, K, CR, ⟨rfl, t9, k9, N9, ht, hG, S, S_t⟩, st⟩ := A.callV hx (y := (⟨"java/lang/StringBuilder", "append", "(Ljava/lang/String;)Ljava/lang/StringBuilder;"⟩ : MethodName)) (z := (⟨"java/lang/StringBuilder", "append", "(Ljava/lang/String;)Ljava/lang/StringBuilder;"⟩ : MethodName)) (hw _ (List.mem_of_getElem? (i := 94) rfl)) (hw _ (List.mem_of_getElem? (i := 95) rfl)) (A.nf (hw _ (List.mem_of_getElem? (i := 97) rfl))) (hw _ (List.mem_of_getElem? (i := 97) rfl)) (hw _ (List.mem_of_getElem? (i := 96) rfl)) (hw _ (List.mem_of_getElem? (i := 75) rfl)) (hw _ (List.mem_of_getElem? (i := 98) rfl)) (by decide) hEL (a := x) (argsL := [(.ref l4)]) (rest := []) (own_appX l Z a0 hw hEL n0 _ A.oldn x t8 k8 N8 ((([67, 117, 115, 116, 111, 109, 101, 114, 91, 105, 100, 61] : List Int32) ++ [i_] ++ ([44, 32, 110, 97, 109, 101, 61] : List Int32) ++ [n_] ++ ([44, 32, 109, 111, 98, 105, 108, 101, 61] : List Int32)) ++ mw ++ ([44, 32, 101, 109, 97, 105, 108, 61] : List Int32) ++ ew) l4 ([93] : List Int32) zc hcs hcz S hG n0_x n0_t Q_l4 (by first | omega | (simp; done) | (simp; omega)) (by first | omega | (simp; done) | (simp; omega))) S.2.2.2.1 (W := 0) (by decide) (by decide) (by decide) (by decide) (allS n0_x (allS n0_t all0)) (allS (Or.inr s_x) (allS (Or.inr s_t) all0)) (allS S_x (allS S_t all0)) (g := (mkF m 77 #[.val (.ref c_)] [(.ref l4), (.ref x)])) rfl (by rw [hml]; rfl) (lenOf opd24 rfl) rfl (by show 2 * 0 + _ ≤ _; exact Nat.le_of_eq rfl) (Jvm.hb hby d_prog_25_m2_77)
      refine oSt st ?_
      show oGo p e below _ (T.setTop (mkF m 80 #[.val (.ref c_)] [(.ref x)]))
      have EB := oExtK EB K (allS hEB_x (allS hEB_t all0))
      have s_t := own_frs ht s_t szT
      have n0_t := own_frs ht n0_t szN
      have hEB_t := own_frs ht hEB_t szE
      have hne : ((([67, 117, 115, 116, 111, 109, 101, 114, 91, 105, 100, 61] : List Int32) ++ [i_] ++ ([44, 32, 110, 97, 109, 101, 61] : List Int32) ++ [n_] ++ ([44, 32, 109, 111, 98, 105, 108, 101, 61] : List Int32)) ++ mw ++ ([44, 32, 101, 109, 97, 105, 108, 61] : List Int32) ++ ew ++ ([93] : List Int32)).length ≠ N9 := by
        simp
        rcases hG with q | q | q <;> omega
      obtain ⟨_, vm, T, h, L, A, K, CR, ⟨r, rfl, Q_r⟩, st⟩ := A.callV hx (y := (⟨"java/lang/StringBuilder", "toString", "()Ljava/lang/String;"⟩ : MethodName)) (z := (⟨"java/lang/StringBuilder", "toString", "()Ljava/lang/String;"⟩ : MethodName)) (hw _ (List.mem_of_getElem? (i := 169) rfl)) (hw _ (List.mem_of_getElem? (i := 170) rfl)) (A.nf (hw _ (List.mem_of_getElem? (i := 172) rfl))) (hw _ (List.mem_of_getElem? (i := 172) rfl)) (hw _ (List.mem_of_getElem? (i := 171) rfl)) (hw _ (List.mem_of_getElem? (i := 75) rfl)) (hw _ (List.mem_of_getElem? (i := 173) rfl)) (by decide) hEL (a := x) (argsL := []) (rest := []) (own_sts l Z a0 hw hEL n0 _ A.oldn x t9 k9 N9 ((([67, 117, 115, 116, 111, 109, 101, 114, 91, 105, 100, 61] : List Int32) ++ [i_] ++ ([44, 32, 110, 97, 109, 101, 61] : List Int32) ++ [n_] ++ ([44, 32, 109, 111, 98, 105, 108, 101, 61] : List Int32)) ++ mw ++ ([44, 32, 101, 109, 97, 105, 108, 61] : List Int32) ++ ew ++ ([93] : List Int32)) zc hcs hcz S (Nat.lt_of_le_of_ne S.2.1 hne) (by first | omega | (simp; done) | (simp; omega))) S.2.2.2.1 (W := 0) (by decide) (by decide) (by decide) (by decide) all0 all0 all0 (g := (mkF m 80 #[.val (.ref c_)] [(.ref x)])) rfl (by rw [hml]; rfl) (lenOf opd25 rfl) rfl (by show 2 * 0 + _ ≤ _; exact Nat.le_of_eq rfl) (Jvm.hb hby d_prog_25_m2_80)
      refine oSt st ?_
      have X := oExt0 K
      show oGo p e below _ (T.setTop (mkF m 83 #[.val (.ref c_)] [(.ref r)]))
      exact A.leave hlk hEL (v := some (.ref r)) (fun h => by rw [hret] at h; cases h) (fun _ _ => ⟨r, rfl, Q_r⟩) (by decide) (by decide) (fun fs hr => retOut A.1 hx hret rfl (Or.inr (Or.inr (Or.inr (Or.inr ⟨rfl, rfl, rfl⟩)))) (Jvm.hb hby d_prog_25_m2_83) hr)
    rcases he with ⟨rfl, rfl⟩ | ⟨av, rfl, rfl⟩
    · show oGo p e below _ (T.setTop (mkF m 62 #[.val (.ref c_)] [.null, (.ref x)]))
      refine oSt (fun _ => XS.ifnonnullNo A.here hx rfl (Jvm.hb hby d_prog_25_m2_62) rfl) ?_
      show oGo p e below _ (T.setTop (mkF m 65 #[.val (.ref c_)] [(.ref x)]))
      have lt_t := S.2.2.2.2.2.2.2.lt
      obtain ⟨lw, T, h, bb, kb, A, X, CR, E_lw, C_lw, V_lw, K_lw, ne_lw, Li, st⟩ := A.ldcS hx (hw _ (List.mem_of_getElem? (i := 247) rfl)) hlit hEL (List.mem_of_getElem? (i := 3) rfl) (vs := (([110, 111, 110, 101] : List Int32).map fun c => c.toInt8.toInt32).map Value.int) (z := Int32.ofNat ([110, 111, 110, 101] : List Int32).length) ⟨by decide +kernel, by decide +kernel⟩ (by decide +kernel) (by decide +kernel) (g := (mkF m 65 #[.val (.ref c_)] [(.ref x)])) rfl (Jvm.hb hby d_prog_25_m2_65) (n := 16) (by decide +kernel) (by decide) (by decide) (by decide)
      refine oSt st ?_
      show oGo p e below _ (T.setTop (mkF m 67 #[.val (.ref c_)] [(.ref lw), (.ref x)]))
      have Q_lw : oStr Z h lw ([110, 111, 110, 101] : List Int32) := ⟨(oPS (by decide) (oPS (by decide) (oPS (by decide) (oPS (by decide) oP0)))), by decide, bb, kb, E_lw, V_lw, C_lw, K_lw⟩
      have EB := oExtT EB X
      have S := S.ext X
      have S_t := CR.safe lt_t S_t
      refine oSt (fun _ => XS.goto A.here hx rfl (pc0 := 67) (pc' := 72) rfl (Jvm.hb hby d_prog_25_m2_67) (by decide) (by decide)) ?_
      show oGo p e below _ (T.setTop (mkF m 72 #[.val (.ref c_)] [(.ref lw), (.ref x)]))
      exact J72 _ _ _ _ _ (A.mono (by decide) (by decide)) Q_lw S S_t EB
    · show oGo p e below _ (T.setTop (mkF m 62 #[.val (.ref c_)] [(.ref av), (.ref x)]))
      refine oSt (fun _ => XS.ifnonnullYes A.here hx rfl (pc0 := 62) (pc' := 70) rfl (Jvm.hb hby d_prog_25_m2_62) rfl (by decide) (by decide)) ?_
      show oGo p e below _ (T.setTop (mkF m 70 #[.val (.ref c_)] [(.ref x)]))
      have lt_t := S.2.2.2.2.2.2.2.lt
      obtain ⟨lw, T, h, bb, kb, A, X, CR, E_lw, C_lw, V_lw, K_lw, ne_lw, Li, st⟩ := A.ldcS hx (hw _ (List.mem_of_getElem? (i := 166) rfl)) hlit hEL (List.mem_of_getElem? (i := 4) rfl) (vs := (([103, 105, 118, 101, 110] : List Int32).map fun c => c.toInt8.toInt32).map Value.int) (z := Int32.ofNat ([103, 105, 118, 101, 110] : List Int32).length) ⟨by decide +kernel, by decide +kernel⟩ (by decide +kernel) (by decide +kernel) (g := (mkF m 70 #[.val (.ref c_)] [(.ref x)])) rfl (Jvm.hb hby d_prog_25_m2_70) (n := 20) (by decide +kernel) (by decide) (by decide) (by decide)
      refine oSt st ?_
      show oGo p e below _ (T.setTop (mkF m 72 #[.val (.ref c_)] [(.ref lw), (.ref x)]))
      have Q_lw : oStr Z h lw ([103, 105, 118, 101, 110] : List Int32) := ⟨(oPS (by decide) (oPS (by decide) (oPS (by decide) (oPS (by decide) (oPS (by decide) oP0))))), by decide, bb, kb, E_lw, V_lw, C_lw, K_lw⟩
      have EB := oExtT EB X
      have S := S.ext X
      have S_t := CR.safe lt_t S_t
      exact J72 _ _ _ _ _ (A.mono (by decide) (by decide)) Q_lw S S_t EB
  rcases hb with ⟨rfl, rfl⟩ | ⟨av, rfl, rfl⟩
  · show oGo p e below _ (T.setTop (mkF m 40 #[.val (.ref c_)] [.null, (.ref x)]))
    refine oSt (fun _ => XS.ifnonnullNo A.here hx rfl (Jvm.hb hby d_prog_25_m2_40) rfl) ?_
    show oGo p e below _ (T.setTop (mkF m 43 #[.val (.ref c_)] [(.ref x)]))
    have lt_t := S.2.2.2.2.2.2.2.lt
    obtain ⟨lw, T, h, bb, kb, A, X, CR, E_lw, C_lw, V_lw, K_lw, ne_lw, Li, st⟩ := A.ldcS hx (hw _ (List.mem_of_getElem? (i := 247) rfl)) hlit hEL (List.mem_of_getElem? (i := 3) rfl) (vs := (([110, 111, 110, 101] : List Int32).map fun c => c.toInt8.toInt32).map Value.int) (z := Int32.ofNat ([110, 111, 110, 101] : List Int32).length) ⟨by decide +kernel, by decide +kernel⟩ (by decide +kernel) (by decide +kernel) (g := (mkF m 43 #[.val (.ref c_)] [(.ref x)])) rfl (Jvm.hb hby d_prog_25_m2_43) (n := 16) (by decide +kernel) (by decide) (by decide) (by decide)
    refine oSt st ?_
    show oGo p e below _ (T.setTop (mkF m 45 #[.val (.ref c_)] [(.ref lw), (.ref x)]))
    have Q_lw : oStr Z h lw ([110, 111, 110, 101] : List Int32) := ⟨(oPS (by decide) (oPS (by decide) (oPS (by decide) (oPS (by decide) oP0)))), by decide, bb, kb, E_lw, V_lw, C_lw, K_lw⟩
    have EB := oExtT EB X
    have S := S.ext X
    have S_t := CR.safe lt_t S_t
    refine oSt (fun _ => XS.goto A.here hx rfl (pc0 := 45) (pc' := 50) rfl (Jvm.hb hby d_prog_25_m2_45) (by decide) (by decide)) ?_
    show oGo p e below _ (T.setTop (mkF m 50 #[.val (.ref c_)] [(.ref lw), (.ref x)]))
    exact J50 _ _ _ _ _ (A.mono (by decide) (by decide)) Q_lw S S_t EB
  · show oGo p e below _ (T.setTop (mkF m 40 #[.val (.ref c_)] [(.ref av), (.ref x)]))
    refine oSt (fun _ => XS.ifnonnullYes A.here hx rfl (pc0 := 40) (pc' := 48) rfl (Jvm.hb hby d_prog_25_m2_40) rfl (by decide) (by decide)) ?_
    show oGo p e below _ (T.setTop (mkF m 48 #[.val (.ref c_)] [(.ref x)]))
    have lt_t := S.2.2.2.2.2.2.2.lt
    obtain ⟨lw, T, h, bb, kb, A, X, CR, E_lw, C_lw, V_lw, K_lw, ne_lw, Li, st⟩ := A.ldcS hx (hw _ (List.mem_of_getElem? (i := 166) rfl)) hlit hEL (List.mem_of_getElem? (i := 4) rfl) (vs := (([103, 105, 118, 101, 110] : List Int32).map fun c => c.toInt8.toInt32).map Value.int) (z := Int32.ofNat ([103, 105, 118, 101, 110] : List Int32).length) ⟨by decide +kernel, by decide +kernel⟩ (by decide +kernel) (by decide +kernel) (g := (mkF m 48 #[.val (.ref c_)] [(.ref x)])) rfl (Jvm.hb hby d_prog_25_m2_48) (n := 20) (by decide +kernel) (by decide) (by decide) (by decide)
    refine oSt st ?_
    show oGo p e below _ (T.setTop (mkF m 50 #[.val (.ref c_)] [(.ref lw), (.ref x)]))
    have Q_lw : oStr Z h lw ([103, 105, 118, 101, 110] : List Int32) := ⟨(oPS (by decide) (oPS (by decide) (oPS (by decide) (oPS (by decide) (oPS (by decide) oP0))))), by decide, bb, kb, E_lw, V_lw, C_lw, K_lw⟩
    have EB := oExtT EB X
    have S := S.ext X
    have S_t := CR.safe lt_t S_t
    exact J50 _ _ _ _ _ (A.mono (by decide) (by decide)) Q_lw S S_t EB
theorem opn_own_tsN : plainFor (⟨"com/example/stallwright/stallwright/store/Customer", "toString", "()Ljava/lang/String;"⟩ : MethodName) = true := plainFor_of_name (by first | (simp [plainName, overriddenIn]; done) | decide +kernel)
set_option maxRecDepth 65536 in
set_option maxHeartbeats 40000000 in
theorem own_tsN (l : Launch) (Z : State) (a0 : Array Value) (hw : ∀ d ∈ tables_1, d.before a0 Z = true) (hEL : EW Z a0 consts_1) (n0 : Nat) (h : Heap) (hO : Old Z n0 h) (c_ ai an : Addr) (vb ve : Value) (i_ n_ : Int32) (mw ew : List Int32) (zc : Int32) (hcs : Sta Z Z.heap "java/lang/String" "COMPACT_STRINGS" "Z" (.int zc)) (hcz : ¬ zc = 0) (E_c : Exa Z h c_ "com/example/stallwright/stallwright/store/Customer") (F_id : Fld Z h c_ "com/example/stallwright/stallwright/store/Customer" "id" "Ljava/lang/String;" (.ref ai)) (F_name : Fld Z h c_ "com/example/stallwright/stallwright/store/Customer" "name" "Ljava/lang/String;" .null) (F_mobile : Fld Z h c_ "com/example/stallwright/stallwright/store/Customer" "mobile" "Ljava/lang/String;" vb) (F_email : Fld Z h c_ "com/example/stallwright/stallwright/store/Customer" "email" "Ljava/lang/String;" ve) (Qi : oStr Z h ai [i_]) (hb : own_W vb mw) (he : own_W ve ew) :
    oMet l Z consts_1 n0 (⟨"com/example/stallwright/stallwright/store/Customer", "toString", "()Ljava/lang/String;"⟩ : MethodName) prog_25_method_2_code 1 (some (.object "java/lang/String")) [] ({ frames := 7, cells := 40, slots := 1400, locals := 107 } : Room) #[(.ref c_)] h [] (fun v _ h => ∃ r, v = some (.ref r) ∧ oStr Z h r (([67, 117, 115, 116, 111, 109, 101, 114, 91, 105, 100, 61] : List Int32) ++ [i_] ++ ([44, 32, 110, 97, 109, 101, 61] : List Int32) ++ ([110, 117, 108, 108] : List Int32) ++ ([44, 32, 109, 111, 98, 105, 108, 101, 61] : List Int32) ++ mw ++ ([44, 32, 101, 109, 97, 105, 108, 61] : List Int32) ++ ew ++ ([93] : List Int32))) := by
  refine oMet.of opn_own_tsN hO ?_
  intro p e s m below meth c T hx hby hml hret hnm hlk hh hsf A
  have hml : c.maxLocals = 1 := hml
  refine oCast (g' := mkF m 0 #[.val (.ref c_)] []) (by first | (simp [entryFrame, mkF, argsToLocals, Value.category]; done) | rfl) ?_
  have hlit : ∀ d ∈ Bundle.stringAtoms, d.before a0 Z = true := fun d hd => hw d ((by decide +kernel : ∀ d ∈ Bundle.stringAtoms, d ∈ tables_1) d hd)
  have lb := hb.len
  have le_ := he.len
  show oGo p e below _ (T.setTop (mkF m 0 #[.val (.ref c_)] []))
  obtain ⟨B0, rfl⟩ : ∃ B0 : Heap, B0 = h := ⟨_, rfl⟩
  have EB := oExtR B0
  obtain ⟨T, h, x, g_x, lt_x, n0_x, s_x, A, E, E_x, S_x, D_x, st⟩ := A.newO hx (hw _ (List.mem_of_getElem? (i := 73) rfl)) (hw _ (List.mem_of_getElem? (i := 74) rfl)) (hw _ (List.mem_of_getElem? (i := 75) rfl)) (g := (mkF m 0 #[.val (.ref c_)] [])) rfl (Jvm.hb hby d_prog_25_m2_0) (by decide) (by decide)
  refine oSt st ?_
  show oGo p e below _ (T.setTop (mkF m 3 #[.val (.ref c_)] [(.ref x)]))
  have hEB_x := Nat.le_trans EB.1 (Nat.le_of_eq g_x.symm)
  have EB := oExtT EB E
  have F_value_x : Fld Z h x "java/lang/AbstractStringBuilder" "value" "[B" .null := D_x (Or.inl (hw _ (List.mem_of_getElem? (i := 88) rfl))) (ty := (.array .byte)) (by decide)
  have F_coder_x : Fld Z h x "java/lang/AbstractStringBuilder" "coder" "B" (.int (0 : Int32)) := D_x (Or.inl (hw _ (List.mem_of_getElem? (i := 90) rfl))) (ty := .byte) (by decide)
  have F_count_x : Fld Z h x "java/lang/AbstractStringBuilder" "count" "I" (.int (0 : Int32)) := D_x (Or.inl (hw _ (List.mem_of_getElem? (i := 115) rfl))) (ty := .int) (by decide)
  refine oSt (fun _ => XS.dup A.here hx rfl (Jvm.hb hby d_prog_25_m2_3) rfl rfl) ?_
  show oGo p e below _ (T.setTop (mkF m 4 #[.val (.ref c_)] [(.ref x), (.ref x)]))
  obtain ⟨_, vm, T, h, L, A, K, CR, ⟨rfl, t, k, le_t, S, S_t⟩, st⟩ := A.callN hx (y := (⟨"java/lang/StringBuilder", "<init>", "()V"⟩ : MethodName)) rfl (hw _ (List.mem_of_getElem? (i := 76) rfl)) (hw _ (List.mem_of_getElem? (i := 77) rfl)) (hw _ (List.mem_of_getElem? (i := 75) rfl)) (hw _ (List.mem_of_getElem? (i := 78) rfl)) (by decide) hEL (a := x) (argsL := []) (rest := [(.ref x)]) (own_sbI l Z a0 hw hEL n0 _ A.oldn x _ _ zc hcs hcz E_x F_value_x F_coder_x F_count_x n0_x) (W := 1) (by decide) (by decide) (by decide) (by decide) (oIn1 n0_x) (oIn1 (Or.inr s_x)) (oIn1 S_x) (g := (mkF m 4 #[.val (.ref c_)] [(.ref x), (.ref x)])) rfl (by rw [hml]; rfl) (lenOf opd23 rfl) rfl (by show 2 * 0 + _ ≤ _; exact Nat.le_of_eq rfl) (Jvm.hb hby d_prog_25_m2_4)
  refine oSt st ?_
  show oGo p e below _ (T.setTop (mkF m 7 #[.val (.ref c_)] [(.ref x)]))
  have EB := oExtK EB K (oIn1 hEB_x)
  have xt : x ≤ t := Nat.le_trans (Nat.le_of_lt lt_x) le_t
  have s_t : s.heap.size ≤ t := Nat.le_trans s_x xt
  have n0_t : n0 ≤ t := Nat.le_trans n0_x xt
  have hEB_t := Nat.le_trans hEB_x xt
  obtain ⟨N, hG⟩ : ∃ N, own_G N ∧ N = 16 := ⟨16, Or.inl rfl, rfl⟩
  rw [← hG.2] at S
  have hG := hG.1
  obtain ⟨t0, et⟩ : ∃ t0, t0 = t := ⟨_, rfl⟩
  obtain ⟨k0, ek⟩ : ∃ k0, k0 = k := ⟨_, rfl⟩
  obtain ⟨N0, eN⟩ : ∃ N0, N0 = N := ⟨_, rfl⟩
  subst et ek eN
  have lt_t := S.2.2.2.2.2.2.2.lt
  obtain ⟨l0, T, h, bb, kb, A, X, CR, E_l0, C_l0, V_l0, K_l0, ne_l0, Li, st⟩ := A.ldcS hx (hw _ (List.mem_of_getElem? (i := 91) rfl)) hlit hEL (List.mem_of_getElem? (i := 0) rfl) (vs := (([67, 117, 115, 116, 111, 109, 101, 114, 91, 105, 100, 61] : List Int32).map fun c => c.toInt8.toInt32).map Value.int) (z := Int32.ofNat ([67, 117, 115, 116, 111, 109, 101, 114, 91, 105, 100, 61] : List Int32).length) ⟨by decide +kernel, by decide +kernel⟩ (by decide +kernel) (by decide +kernel) (g := (mkF m 7 #[.val (.ref c_)] [(.ref x)])) rfl (Jvm.hb hby d_prog_25_m2_7) (n := 48) (by decide +kernel) (by decide) (by decide) (by decide)
  refine oSt st ?_
  show oGo p e below _ (T.setTop (mkF m 9 #[.val (.ref c_)] [(.ref l0), (.ref x)]))
  have Q_l0 : oStr Z h l0 ([67, 117, 115, 116, 111, 109, 101, 114, 91, 105, 100, 61] : List Int32) := ⟨(oPS (by decide) (oPS (by decide) (oPS (by decide) (oPS (by decide) (oPS (by decide) (oPS (by decide) (oPS (by decide) (oPS (by decide) (oPS (by decide) (oPS (by decide) (oPS (by decide) (oPS (by decide) oP0)))))))))))), by decide, bb, kb, E_l0, V_l0, C_l0, K_l0⟩
  have EB := oExtT EB X
  have S := S.ext X
  have S_t := CR.safe lt_t S_t
  have S_x := A.safeExa S.2.2.2.1 (by decide) (by decide)
  have szT := A.sle
  have szE := EB.1
  have szN := A.n0le
  obtain ⟨_, vm, T, h, L, A, K, CR, ⟨rfl, t1, k1, N1, ht, hG, S, S_t⟩, st⟩ := A.callV hx (y := (⟨"java/lang/StringBuilder", "append", "(Ljava/lang/String;)Ljava/lang/StringBuilder;"⟩ : MethodName)) (z := (⟨"java/lang/StringBuilder", "append", "(Ljava/lang/String;)Ljava/lang/StringBuilder;"⟩ : MethodName)) (hw _ (List.mem_of_getElem? (i := 94) rfl)) (hw _ (List.mem_of_getElem? (i := 95) rfl)) (A.nf (hw _ (List.mem_of_getElem? (i := 97) rfl))) (hw _ (List.mem_of_getElem? (i := 97) rfl)) (hw _ (List.mem_of_getElem? (i := 96) rfl)) (hw _ (List.mem_of_getElem? (i := 75) rfl)) (hw _ (List.mem_of_getElem? (i := 98) rfl)) (by decide) hEL (a := x) (argsL := [(.ref l0)]) (rest := []) (own_appX l Z a0 hw hEL n0 _ A.oldn x t0 k0 N0 [] l0 ([67, 117, 115, 116, 111, 109, 101, 114, 91, 105, 100, 61] : List Int32) zc hcs hcz S hG n0_x n0_t Q_l0 (by first | omega | (simp; done) | (simp; omega)) (by first | omega | (simp; done) | (simp; omega))) S.2.2.2.1 (W := 0) (by decide) (by decide) (by decide) (by decide) (allS n0_x (allS n0_t all0)) (allS (Or.inr s_x) (allS (Or.inr s_t) all0)) (allS S_x (allS S_t all0)) (g := (mkF m 9 #[.val (.ref c_)] [(.ref l0), (.ref x)])) rfl (by rw [hml]; rfl) (lenOf opd24 rfl) rfl (by show 2 * 0 + _ ≤ _; exact Nat.le_of_eq rfl) (Jvm.hb hby d_prog_25_m2_9)
  refine oSt st ?_
  show oGo p e below _ (T.setTop (mkF m 12 #[.val (.ref c_)] [(.ref x)]))
  have EB := oExtK EB K (allS hEB_x (allS hEB_t all0))
  have s_t := own_frs ht s_t szT
  have n0_t := own_frs ht n0_t szN
  have hEB_t := own_frs ht hEB_t szE
  rw [List.nil_append] at S
  refine oSt (fun _ => XS.aloadN A.here hx rfl (Jvm.hb hby d_prog_25_m2_12) rfl rfl) ?_
  show oGo p e below _ (T.setTop (mkF m 13 #[.val (.ref c_)] [(.ref c_), (.ref x)]))
  obtain ⟨T, A, st⟩ := A.getF hx (host := "") (Or.inl (hw _ (List.mem_of_getElem? (i := 60) rfl))) Via.refl (F_id.ext EB) (g := (mkF m 13 #[.val (.ref c_)] [(.ref c_), (.ref x)])) rfl rfl (Jvm.hb hby d_prog_25_m2_13)
  refine oSt st ?_
  show oGo p e below _ (T.setTop (mkF m 16 #[.val (.ref c_)] [(.ref ai), (.ref x)]))
  have S_x := A.safeExa S.2.2.2.1 (by decide) (by decide)
  have szT := A.sle
  have szE := EB.1
  have szN := A.n0le
  obtain ⟨_, vm, T, h, L, A, K, CR, ⟨rfl, t2, k2, N2, ht, hG, S, S_t⟩, st⟩ := A.callV hx (y := (⟨"java/lang/StringBuilder", "append", "(Ljava/lang/String;)Ljava/lang/StringBuilder;"⟩ : MethodName)) (z := (⟨"java/lang/StringBuilder", "append", "(Ljava/lang/String;)Ljava/lang/StringBuilder;"⟩ : MethodName)) (hw _ (List.mem_of_getElem? (i := 94) rfl)) (hw _ (List.mem_of_getElem? (i := 95) rfl)) (A.nf (hw _ (List.mem_of_getElem? (i := 97) rfl))) (hw _ (List.mem_of_getElem? (i := 97) rfl)) (hw _ (List.mem_of_getElem? (i := 96) rfl)) (hw _ (List.mem_of_getElem? (i := 75) rfl)) (hw _ (List.mem_of_getElem? (i := 98) rfl)) (by decide) hEL (a := x) (argsL := [(.ref ai)]) (rest := []) (own_appX l Z a0 hw hEL n0 _ A.oldn x t1 k1 N1 ([67, 117, 115, 116, 111, 109, 101, 114, 91, 105, 100, 61] : List Int32) ai [i_] zc hcs hcz S hG n0_x n0_t (Qi.ext EB) (by first | omega | (simp; done) | (simp; omega)) (by first | omega | (simp; done) | (simp; omega))) S.2.2.2.1 (W := 0) (by decide) (by decide) (by decide) (by decide) (allS n0_x (allS n0_t all0)) (allS (Or.inr s_x) (allS (Or.inr s_t) all0)) (allS S_x (allS S_t all0)) (g := (mkF m 16 #[.val (.ref c_)] [(.ref ai), (.ref x)])) rfl (by rw [hml]; rfl) (lenOf opd24 rfl) rfl (by show 2 * 0 + _ ≤ _; exact Nat.le_of_eq rfl) (Jvm.hb hby d_prog_25_m2_16)
  refine oSt st ?_
  show oGo p e below _ (T.setTop (mkF m 19 #[.val (.ref c_)] [(.ref x)]))
  have EB := oExtK EB K (allS hEB_x (allS hEB_t all0))
  have s_t := own_frs ht s_t szT
  have n0_t := own_frs ht n0_t szN
  have hEB_t := own_frs ht hEB_t szE
  have lt_t := S.2.2.2.2.2.2.2.lt
  obtain ⟨l1, T, h, bb, kb, A, X, CR, E_l1, C_l1, V_l1, K_l1, ne_l1, Li, st⟩ := A.ldcS hx (hw _ (List.mem_of_getElem? (i := 141) rfl)) hlit hEL (List.mem_of_getElem? (i := 1) rfl) (vs := (([44, 32, 110, 97, 109, 101, 61] : List Int32).map fun c => c.toInt8.toInt32).map Value.int) (z := Int32.ofNat ([44, 32, 110, 97, 109, 101, 61] : List Int32).length) ⟨by decide +kernel, by decide +kernel⟩ (by decide +kernel) (by decide +kernel) (g := (mkF m 19 #[.val (.ref c_)] [(.ref x)])) rfl (Jvm.hb hby d_prog_25_m2_19) (n := 28) (by decide +kernel) (by decide) (by decide) (by decide)
  refine oSt st ?_
  show oGo p e below _ (T.setTop (mkF m 21 #[.val (.ref c_)] [(.ref l1), (.ref x)]))
  have Q_l1 : oStr Z h l1 ([44, 32, 110, 97, 109, 101, 61] : List Int32) := ⟨(oPS (by decide) (oPS (by decide) (oPS (by decide) (oPS (by decide) (oPS (by decide) (oPS (by decide) (oPS (by decide) oP0))))))), by decide, bb, kb, E_l1, V_l1, C_l1, K_l1⟩
  have EB := oExtT EB X
  have S := S.ext X
  have S_t := CR.safe lt_t S_t
  have S_x := A.safeExa S.2.2.2.1 (by decide) (by decide)
  have szT := A.sle
  have szE := EB.1
  have szN := A.n0le
  obtain ⟨_, vm, T, h, L, A, K, CR, ⟨rfl, t3, k3, N3, ht, hG, S, S_t⟩, st⟩ := A.callV hx (y := (⟨"java/lang/StringBuilder", "append", "(Ljava/lang/String;)Ljava/lang/StringBuilder;"⟩ : MethodName)) (z := (⟨"java/lang/StringBuilder", "append", "(Ljava/lang/String;)Ljava/lang/StringBuilder;"⟩ : MethodName)) (hw _ (List.mem_of_getElem? (i := 94) rfl)) (hw _ (List.mem_of_getElem? (i := 95) rfl)) (A.nf (hw _ (List.mem_of_getElem? (i := 97) rfl))) (hw _ (List.mem_of_getElem? (i := 97) rfl)) (hw _ (List.mem_of_getElem? (i := 96) rfl)) (hw _ (List.mem_of_getElem? (i := 75) rfl)) (hw _ (List.mem_of_getElem? (i := 98) rfl)) (by decide) hEL (a := x) (argsL := [(.ref l1)]) (rest := []) (own_appX l Z a0 hw hEL n0 _ A.oldn x t2 k2 N2 (([67, 117, 115, 116, 111, 109, 101, 114, 91, 105, 100, 61] : List Int32) ++ [i_]) l1 ([44, 32, 110, 97, 109, 101, 61] : List Int32) zc hcs hcz S hG n0_x n0_t Q_l1 (by first | omega | (simp; done) | (simp; omega)) (by first | omega | (simp; done) | (simp; omega))) S.2.2.2.1 (W := 0) (by decide) (by decide) (by decide) (by decide) (allS n0_x (allS n0_t all0)) (allS (Or.inr s_x) (allS (Or.inr s_t) all0)) (allS S_x (allS S_t all0)) (g := (mkF m 21 #[.val (.ref c_)] [(.ref l1), (.ref x)])) rfl (by rw [hml]; rfl) (lenOf opd24 rfl) rfl (by show 2 * 0 + _ ≤ _; exact Nat.le_of_eq rfl) (Jvm.hb hby d_prog_25_m2_21)
  refine oSt st ?_
  show oGo p e below _ (T.setTop (mkF m 24 #[.val (.ref c_)] [(.ref x)]))
  have EB := oExtK EB K (allS hEB_x (allS hEB_t all0))
  have s_t := own_frs ht s_t szT
  have n0_t := own_frs ht n0_t szN
  have hEB_t := own_frs ht hEB_t szE
  refine oSt (fun _ => XS.aloadN A.here hx rfl (Jvm.hb hby d_prog_25_m2_24) rfl rfl) ?_
  show oGo p e below _ (T.setTop (mkF m 25 #[.val (.ref c_)] [(.ref c_), (.ref x)]))
  obtain ⟨T, A, st⟩ := A.getF hx (host := "") (Or.inl (hw _ (List.mem_of_getElem? (i := 62) rfl))) Via.refl (F_name.ext EB) (g := (mkF m 25 #[.val (.ref c_)] [(.ref c_), (.ref x)])) rfl rfl (Jvm.hb hby d_prog_25_m2_25)
  refine oSt st ?_
  show oGo p e below _ (T.setTop (mkF m 28 #[.val (.ref c_)] [.null, (.ref x)]))
  have S_x := A.safeExa S.2.2.2.1 (by decide) (by decide)
  have szT := A.sle
  have szE := EB.1
  have szN := A.n0le
  obtain ⟨_, vm, T, h, L, A, K, CR, ⟨rfl, t4, k4, N4, ht, hG, S, S_t⟩, st⟩ := A.callV hx (y := (⟨"java/lang/StringBuilder", "append", "(Ljava/lang/String;)Ljava/lang/StringBuilder;"⟩ : MethodName)) (z := (⟨"java/lang/StringBuilder", "append", "(Ljava/lang/String;)Ljava/lang/StringBuilder;"⟩ : MethodName)) (hw _ (List.mem_of_getElem? (i := 94) rfl)) (hw _ (List.mem_of_getElem? (i := 95) rfl)) (A.nf (hw _ (List.mem_of_getElem? (i := 97) rfl))) (hw _ (List.mem_of_getElem? (i := 97) rfl)) (hw _ (List.mem_of_getElem? (i := 96) rfl)) (hw _ (List.mem_of_getElem? (i := 75) rfl)) (hw _ (List.mem_of_getElem? (i := 98) rfl)) (by decide) hEL (a := x) (argsL := [.null]) (rest := []) (own_appN l Z a0 hw hEL n0 _ A.oldn x t3 k3 N3 (([67, 117, 115, 116, 111, 109, 101, 114, 91, 105, 100, 61] : List Int32) ++ [i_] ++ ([44, 32, 110, 97, 109, 101, 61] : List Int32)) zc hcs hcz S hG n0_x n0_t (by first | omega | (simp; done) | (simp; omega))) S.2.2.2.1 (W := 0) (by decide) (by decide) (by decide) (by decide) (allS n0_x (allS n0_t all0)) (allS (Or.inr s_x) (allS (Or.inr s_t) all0)) (allS S_x (allS S_t all0)) (g := (mkF m 28 #[.val (.ref c_)] [.null, (.ref x)])) rfl (by rw [hml]; rfl) (lenOf opd24 rfl) rfl (by show 2 * 0 + _ ≤ _; exact Nat.le_of_eq rfl) (Jvm.hb hby d_prog_25_m2_28)
  refine oSt st ?_
  show oGo p e below _ (T.setTop (mkF m 31 #[.val (.ref c_)] [(.ref x)]))
  have EB := oExtK EB K (allS hEB_x (allS hEB_t all0))
  have s_t := own_frs ht s_t szT
  have n0_t := own_frs ht n0_t szN
  have hEB_t := own_frs ht hEB_t szE
  have lt_t := S.2.2.2.2.2.2.2.lt
  obtain ⟨l2, T, h, bb, kb, A, X, CR, E_l2, C_l2, V_l2, K_l2, ne_l2, Li, st⟩ := A.ldcS hx (hw _ (List.mem_of_getElem? (i := 165) rfl)) hlit hEL (List.mem_of_getElem? (i := 2) rfl) (vs := (([44, 32, 109, 111, 98, 105, 108, 101, 61] : List Int32).map fun c => c.toInt8.toInt32).map Value.int) (z := Int32.ofNat ([44, 32, 109, 111, 98, 105, 108, 101, 61] : List Int32).length) ⟨by decide +kernel, by decide +kernel⟩ (by decide +kernel) (by decide +kernel) (g := (mkF m 31 #[.val (.ref c_)] [(.ref x)])) rfl (Jvm.hb hby d_prog_25_m2_31) (n := 36) (by decide +kernel) (by decide) (by decide) (by decide)
  refine oSt st ?_
  show oGo p e below _ (T.setTop (mkF m 33 #[.val (.ref c_)] [(.ref l2), (.ref x)]))
  have Q_l2 : oStr Z h l2 ([44, 32, 109, 111, 98, 105, 108, 101, 61] : List Int32) := ⟨(oPS (by decide) (oPS (by decide) (oPS (by decide) (oPS (by decide) (oPS (by decide) (oPS (by decide) (oPS (by decide) (oPS (by decide) (oPS (by decide) oP0))))))))), by decide, bb, kb, E_l2, V_l2, C_l2, K_l2⟩
  have EB := oExtT EB X
  have S := S.ext X
  have S_t := CR.safe lt_t S_t
  have S_x := A.safeExa S.2.2.2.1 (by decide) (by decide)
  have szT := A.sle
  have szE := EB.1
  have szN := A.n0le
  obtain ⟨_, vm, T, h, L, A, K, CR, ⟨rfl, t5, k5, N5, ht, hG, S, S_t⟩, st⟩ := A.callV hx (y := (⟨"java/lang/StringBuilder", "append", "(Ljava/lang/String;)Ljava/lang/StringBuilder;"⟩ : MethodName)) (z := (⟨"java/lang/StringBuilder", "append", "(Ljava/lang/String;)Ljava/lang/StringBuilder;"⟩ : MethodName)) (hw _ (List.mem_of_getElem? (i := 94) rfl)) (hw _ (List.mem_of_getElem? (i := 95) rfl)) (A.nf (hw _ (List.mem_of_getElem? (i := 97) rfl))) (hw _ (List.mem_of_getElem? (i := 97) rfl)) (hw _ (List.mem_of_getElem? (i := 96) rfl)) (hw _ (List.mem_of_getElem? (i := 75) rfl)) (hw _ (List.mem_of_getElem? (i := 98) rfl)) (by decide) hEL (a := x) (argsL := [(.ref l2)]) (rest := []) (own_appX l Z a0 hw hEL n0 _ A.oldn x t4 k4 N4 (([67, 117, 115, 116, 111, 109, 101, 114, 91, 105, 100, 61] : List Int32) ++ [i_] ++ ([44, 32, 110, 97, 109, 101, 61] : List Int32) ++ ([110, 117, 108, 108] : List Int32)) l2 ([44, 32, 109, 111, 98, 105, 108, 101, 61] : List Int32) zc hcs hcz S hG n0_x n0_t Q_l2 (by first | omega | (simp; done) | (simp; omega)) (by first | omega | (simp; done) | (simp; omega))) S.2.2.2.1 (W := 0) (by decide) (by decide) (by decide) (by decide) (allS n0_x (allS n0_t all0)) (allS (Or.inr s_x) (allS (Or.inr s_t) all0)) (allS S_x (allS S_t all0)) (g := (mkF m 33 #[.val (.ref c_)] [(.ref l2), (.ref x)])) rfl (by rw [hml]; rfl) (lenOf opd24 rfl) rfl (by show 2 * 0 + _ ≤ _; exact Nat.le_of_eq rfl) (Jvm.hb hby d_prog_25_m2_33)
  refine oSt st ?_
  show oGo p e below _ (T.setTop (mkF m 36 #[.val (.ref c_)] [(.ref x)]))
  have EB := oExtK EB K (allS hEB_x (allS hEB_t all0))
  have s_t := own_frs ht s_t szT
  have n0_t := own_frs ht n0_t szN
  have hEB_t := own_frs ht hEB_t szE
  refine oSt (fun _ => XS.aloadN A.here hx rfl (Jvm.hb hby d_prog_25_m2_36) rfl rfl) ?_
  show oGo p e below _ (T.setTop (mkF m 37 #[.val (.ref c_)] [(.ref c_), (.ref x)]))
  obtain ⟨T, A, st⟩ := A.getF hx (host := "") (Or.inl (hw _ (List.mem_of_getElem? (i := 64) rfl))) Via.refl (F_mobile.ext EB) (g := (mkF m 37 #[.val (.ref c_)] [(.ref c_), (.ref x)])) rfl rfl (Jvm.hb hby d_prog_25_m2_37)
  refine oSt st ?_
  show oGo p e below _ (T.setTop (mkF m 40 #[.val (.ref c_)] [vb, (.ref x)]))
  have J50 : ∀ (vm : Vm) (T : State) (h : Heap) (locs : List Loc) (lw : Addr), oA l Z consts_1 n0 p e ({ frames := 7, cells := 40, slots := 1400, locals := 107 } : Room) s m #[(.ref c_)] below meth c "com/example/stallwright/stallwright/store/Customer" [] vm T h locs 15 518 → oStr Z h lw mw → own_SB Z h x t5 k5 N5 (([67, 117, 115, 116, 111, 109, 101, 114, 91, 105, 100, 61] : List Int32) ++ [i_] ++ ([44, 32, 110, 97, 109, 101, 61] : List Int32) ++ ([110, 117, 108, 108] : List Int32) ++ ([44, 32, 109, 111, 98, 105, 108, 101, 61] : List Int32)) → Safe Z consts_1 vm h t5 → Ext B0 h → oGo p e below (oEnd Z consts_1 n0 ({ frames := 7, cells := 40, slots := 1400, locals := 107 } : Room) s [] (fun v _ h => ∃ r, v = some (.ref r) ∧ oStr Z h r (([67, 117, 115, 116, 111, 109, 101, 114, 91, 105, 100, 61] : List Int32) ++ [i_] ++ ([44, 32, 110, 97, 109, 101, 61] : List Int32) ++ ([110, 117, 108, 108] : List Int32) ++ ([44, 32, 109, 111, 98, 105, 108, 101, 61] : List Int32) ++ mw ++ ([44, 32, 101, 109, 97, 105, 108, 61] : List Int32) ++ ew ++ ([93] : List Int32)))) (T.setTop (mkF m 50 #[.val (.ref c_)] [(.ref lw), (.ref x)])) := by
    intro vm T h locs lw A Q_lw S S_t EB
    show oGo p e below _ (T.setTop (mkF m 50 #[.val (.ref c_)] [(.ref lw), (.ref x)]))
    have S_x := A.safeExa S.2.2.2.1 (by decide) (by decide)
    have szT := A.sle
    have szE := EB.1
    have szN := A.n0le
    obtain ⟨_, vm, T, h, L, A, K, CR, ⟨rfl, t6, k6, N6, ht, hG, S, S_t⟩, st⟩ := A.callV hx (y := (⟨"java/lang/StringBuilder", "append", "(Ljava/lang/String;)Ljava/lang/StringBuilder;"⟩ : MethodName)) (z := (⟨"java/lang/StringBuilder", "append", "(Ljava/lang/String;)Ljava/lang/StringBuilder;"⟩ : MethodName)) (hw _ (List.mem_of_getElem? (i := 94) rfl)) (hw _ (List.mem_of_getElem? (i := 95) rfl)) (A.nf (hw _ (List.mem_of_getElem? (i := 97) rfl))) (hw _ (List.mem_of_getElem? (i := 97) rfl)) (hw _ (List.mem_of_getElem? (i := 96) rfl)) (hw _ (List.mem_of_getElem? (i := 75) rfl)) (hw _ (List.mem_of_getElem? (i := 98) rfl)) (by decide) hEL (a := x) (argsL := [(.ref lw)]) (rest := []) (own_appX l Z a0 hw hEL n0 _ A.oldn x t5 k5 N5 (([67, 117, 115, 116, 111, 109, 101, 114, 91, 105, 100, 61] : List Int32) ++ [i_] ++ ([44, 32, 110, 97, 109, 101, 61] : List Int32) ++ ([110, 117, 108, 108] : List Int32) ++ ([44, 32, 109, 111, 98, 105, 108, 101, 61] : List Int32)) lw mw zc hcs hcz S hG n0_x n0_t Q_lw (by first | omega | (simp; done) | (simp; omega)) (by first | omega | (simp; done) | (simp; omega))) S.2.2.2.1 (W := 0) (by decide) (by decide) (by decide) (by decide) (allS n0_x (allS n0_t all0)) (allS (Or.inr s_x) (allS (Or.inr s_t) all0)) (allS S_x (allS S_t all0)) (g := (mkF m 50 #[.val (.ref c_)] [(.ref lw), (.ref x)])) rfl (by rw [hml]; rfl) (lenOf opd24 rfl) rfl (by show 2 * 0 + _ ≤ _; exact Nat.le_of_eq rfl) (Jvm.hb hby d_prog_25_m2_50)
    refine oSt st ?_
    show oGo p e below _ (T.setTop (mkF m 53 #[.val (.ref c_)] [(.ref x)]))
    have EB := oExtK EB K (allS hEB_x (allS hEB_t all0))
    have s_t := own_frs ht s_t szT
    have n0_t := own_frs ht n0_t szN
    have hEB_t := own_frs ht hEB_t szE
    have lt_t := S.2.2.2.2.2.2.2.lt
    obtain ⟨l3, T, h, bb, kb, A, X, CR, E_l3, C_l3, V_l3, K_l3, ne_l3, Li, st⟩ := A.ldcS hx (hw _ (List.mem_of_getElem? (i := 167) rfl)) hlit hEL (List.mem_of_getElem? (i := 5) rfl) (vs := (([44, 32, 101, 109, 97, 105, 108, 61] : List Int32).map fun c => c.toInt8.toInt32).map Value.int) (z := Int32.ofNat ([44, 32, 101, 109, 97, 105, 108, 61] : List Int32).length) ⟨by decide +kernel, by decide +kernel⟩ (by decide +kernel) (by decide +kernel) (g := (mkF m 53 #[.val (.ref c_)] [(.ref x)])) rfl (Jvm.hb hby d_prog_25_m2_53) (n := 32) (by decide +kernel) (by decide) (by decide) (by decide)
    refine oSt st ?_
    show oGo p e below _ (T.setTop (mkF m 55 #[.val (.ref c_)] [(.ref l3), (.ref x)]))
    have Q_l3 : oStr Z h l3 ([44, 32, 101, 109, 97, 105, 108, 61] : List Int32) := ⟨(oPS (by decide) (oPS (by decide) (oPS (by decide) (oPS (by decide) (oPS (by decide) (oPS (by decide) (oPS (by decide) (oPS (by decide) oP0)))))))), by decide, bb, kb, E_l3, V_l3, C_l3, K_l3⟩
    have EB := oExtT EB X
    have S := S.ext X
    have S_t := CR.safe lt_t S_t
    have S_x := A.safeExa S.2.2.2.1 (by decide) (by decide)
    have szT := A.sle
    have szE := EB.1
    have szN := A.n0le
    obtain ⟨_, vm, T, h, L, A, K, CR, ⟨rfl, t7, k7, N7, ht, hG, S, S_t⟩, st⟩ := A.callV hx (y := (⟨"java/lang/StringBuilder", "append", "(Ljava/lang/String;)Ljava/lang/StringBuilder;"⟩ : MethodName)) (z := (⟨"java/lang/StringBuilder", "append", "(Ljava/lang/String;)Ljava/lang/StringBuilder;"⟩ : MethodName)) (hw _ (List.mem_of_getElem? (i := 94) rfl)) (hw _ (List.mem_of_getElem? (i := 95) rfl)) (A.nf (hw _ (List.mem_of_getElem? (i := 97) rfl))) (hw _ (List.mem_of_getElem? (i := 97) rfl)) (hw _ (List.mem_of_getElem? (i := 96) rfl)) (hw _ (List.mem_of_getElem? (i := 75) rfl)) (hw _ (List.mem_of_getElem? (i := 98) rfl)) (by decide) hEL (a := x) (argsL := [(.ref l3)]) (rest := []) (own_appX l Z a0 hw hEL n0 _ A.oldn x t6 k6 N6 ((([67, 117, 115, 116, 111, 109, 101, 114, 91, 105, 100, 61] : List Int32) ++ [i_] ++ ([44, 32, 110, 97, 109, 101, 61] : List Int32) ++ ([110, 117, 108, 108] : List Int32) ++ ([44, 32, 109, 111, 98, 105, 108, 101, 61] : List Int32)) ++ mw) l3 ([44, 32, 101, 109, 97, 105, 108, 61] : List Int32) zc hcs hcz S hG n0_x n0_t Q_l3 (by first | omega | (simp; done) | (simp; omega)) (by first | omega | (simp; done) | (simp; omega))) S.2.2.2.1 (W := 0) (by decide) (by decide) (by decide) (by decide) (allS n0_x (allS n0_t all0)) (allS (Or.inr s_x) (allS (Or.inr s_t) all0)) (allS S_x (allS S_t all0)) (g := (mkF m 55 #[.val (.ref c_)] [(.ref l3), (.ref x)])) rfl (by rw [hml]; rfl) (lenOf opd24 rfl) rfl (by show 2 * 0 + _ ≤ _; exact Nat.le_of_eq rfl) (Jvm.hb hby d_prog_25_m2_55)
    refine oSt st ?_
    show oGo p e below _ (T.setTop (mkF m 58 #[.val (.ref c_)] [(.ref x)]))
    have EB := oExtK EB K (allS hEB_x (allS hEB_t all0))
    have s_t := own_frs ht s_t szT
    have n0_t := own_frs ht n0_t szN
    have hEB_t := own_frs ht hEB_t szE
    refine oSt (fun _ => XS.aloadN A.here hx rfl (Jvm.hb hby d_prog_25_m2_58) rfl rfl) ?_
    show oGo p e below _ (T.setTop (mkF m 59 #[.val (.ref c_)] [(.ref c_), (.ref x)]))
    obtain ⟨T, A, st⟩ := A.getF hx (host := "") (Or.inl (hw _ (List.mem_of_getElem? (i := 66) rfl))) Via.refl (F_email.ext EB) (g := (mkF m 59 #[.val (.ref c_)] [(.ref c_), (.ref x)])) rfl rfl (Jvm.hb hby d_prog_25_m2_59)
    refine oSt st ?_
    show oGo p e below _ (T.setTop (mkF m 62 #[.val (.ref c_)] [ve, (.ref x)]))
    have J72 : ∀ (vm : Vm) (T : State) (h : Heap) (locs : List Loc) (lw : Addr), oA l Z consts_1 n0 p e ({ frames := 7, cells := 40, slots := 1400, locals := 107 } : Room) s m #[(.ref c_)] below meth c "com/example/stallwright/stallwright/store/Customer" [] vm T h locs 21 718 → oStr Z h lw ew → own_SB Z h x t7 k7 N7 ((([67, 117, 115, 116, 111, 109, 101, 114, 91, 105, 100, 61] : List Int32) ++ [i_] ++ ([44, 32, 110, 97, 109, 101, 61] : List Int32) ++ ([110, 117, 108, 108] : List Int32) ++ ([44, 32, 109, 111, 98, 105, 108, 101, 61] : List Int32)) ++ mw ++ ([44, 32, 101, 109, 97, 105, 108, 61] : List Int32)) → Safe Z consts_1 vm h t7 → Ext B0 h → oGo p e below (oEnd Z consts_1 n0 ({ frames := 7, cells := 40, slots := 1400, locals := 107 } : Room) s [] (fun v _ h => ∃ r, v = some (.ref r) ∧ oStr Z h r (([67, 117, 115, 116, 111, 109, 101, 114, 91, 105, 100, 61] : List Int32) ++ [i_] ++ ([44, 32, 110, 97, 109, 101, 61] : List Int32) ++ ([110, 117, 108, 108] : List Int32) ++ ([44, 32, 109, 111, 98, 105, 108, 101, 61] : List Int32) ++ mw ++ ([44, 32, 101, 109, 97, 105, 108, 61] : List Int32) ++ ew ++ ([93] : List Int32)))) (T.setTop (mkF m 72 #[.val (.ref c_)] [(.ref lw), (.ref x)])) := by
      intro vm T h locs lw A Q_lw S S_t EB
      show oGo p e below _ (T.setTop (mkF m 72 #[.val (.ref c_)] [(.ref lw), (.ref x)]))
      have S_x := A.safeExa S.2.2.2.1 (by decide) (by decide)
      have szT := A.sle
      have szE := EB.1
      have szN := A.n0le
      obtain ⟨_, vm, T, h, L, A, K, CR, ⟨rfl, t8, k8, N8, ht, hG, S, S_t⟩, st⟩ := A.callV hx (y := (⟨"java/lang/StringBuilder", "append", "(Ljava/lang/String;)Ljava/lang/StringBuilder;"⟩ : MethodName)) (z := (⟨"java/lang/StringBuilder", "append", "(Ljava/lang/String;)Ljava/lang/StringBuilder;"⟩ : MethodName)) (hw _ (List.mem_of_getElem? (i := 94) rfl)) (hw _ (List.mem_of_getElem? (i := 95) rfl)) (A.nf (hw _ (List.mem_of_getElem? (i := 97) rfl))) (hw _ (List.mem_of_getElem? (i := 97) rfl)) (hw _ (List.mem_of_getElem? (i := 96) rfl)) (hw _ (List.mem_of_getElem? (i := 75) rfl)) (hw _ (List.mem_of_getElem? (i := 98) rfl)) (by decide) hEL (a := x) (argsL := [(.ref lw)]) (rest := []) (own_appX l Z a0 hw hEL n0 _ A.oldn x t7 k7 N7 ((([67, 117, 115, 116, 111, 109, 101, 114, 91, 105, 100, 61] : List Int32) ++ [i_] ++ ([44, 32, 110, 97, 109, 101, 61] : List Int32) ++ ([110, 117, 108, 108] : List Int32) ++ ([44, 32, 109, 111, 98, 105, 108, 101, 61] : List Int32)) ++ mw ++ ([44, 32, 101, 109, 97, 105, 108, 61] : List Int32)) lw ew zc hcs hcz S hG n0_x n0_t Q_lw (by first | omega | (simp; done) | (simp; omega)) (by first | omega | (simp; done) | (simp; omega))) S.2.2.2.1 (W := 0) (by decide) (by decide) (by decide) (by decide) (allS n0_x (allS n0_t all0)) (allS (Or.inr s_x) (allS (Or.inr s_t) all0)) (allS S_x (allS S_t all0)) (g := (mkF m 72 #[.val (.ref c_)] [(.ref lw), (.ref x)])) rfl (by rw [hml]; rfl) (lenOf opd24 rfl) rfl (by show 2 * 0 + _ ≤ _; exact Nat.le_of_eq rfl) (Jvm.hb hby d_prog_25_m2_72)
      refine oSt st ?_
      show oGo p e below _ (T.setTop (mkF m 75 #[.val (.ref c_)] [(.ref x)]))
      have EB := oExtK EB K (allS hEB_x (allS hEB_t all0))
      have s_t := own_frs ht s_t szT
      have n0_t := own_frs ht n0_t szN
      have hEB_t := own_frs ht hEB_t szE
      have lt_t := S.2.2.2.2.2.2.2.lt
      obtain ⟨l4, T, h, bb, kb, A, X, CR, E_l4, C_l4, V_l4, K_l4, ne_l4, Li, st⟩ := A.ldcS hx (hw _ (List.mem_of_getElem? (i := 168) rfl)) hlit hEL (List.mem_of_getElem? (i := 6) rfl) (vs := (([93] : List Int32).map fun c => c.toInt8.toInt32).map Value.int) (z := Int32.ofNat ([93] : List Int32).length) ⟨by decide +kernel, by decide +kernel⟩ (by decide +kernel) (by decide +kernel) (g := (mkF m 75 #[.val (.ref c_)] [(.ref x)])) rfl (Jvm.hb hby d_prog_25_m2_75) (n := 4) (by decide +kernel) (by decide) (by decide) (by decide)
      refine oSt st ?_
      show oGo p e below _ (T.setTop (mkF m 77 #[.val (.ref c_)] [(.ref l4), (.ref x)]))
      have Q_l4 : oStr Z h l4 ([93] : List Int32) := ⟨(oPS (by decide) oP0), by decide, bb, kb, E_l4, V_l4, C_l4, K_l4⟩
      have EB := oExtT EB X
      have S := S.ext X
      have S_t := CR.safe lt_t S_t
      have S_x := A.safeExa S.2.2.2.1 (by decide) (by decide)
      have szT := A.sle
      have szE := EB.1
      have szN := A.n0le
      obtain ⟨_, vm, T, h, L, A, K, CR, ⟨rfl, t9, k9, N9, ht, hG, S, S_t⟩, st⟩ := A.callV hx (y := (⟨"java/lang/StringBuilder", "append", "(Ljava/lang/String;)Ljava/lang/StringBuilder;"⟩ : MethodName)) (z := (⟨"java/lang/StringBuilder", "append", "(Ljava/lang/String;)Ljava/lang/StringBuilder;"⟩ : MethodName)) (hw _ (List.mem_of_getElem? (i := 94) rfl)) (hw _ (List.mem_of_getElem? (i := 95) rfl)) (A.nf (hw _ (List.mem_of_getElem? (i := 97) rfl))) (hw _ (List.mem_of_getElem? (i := 97) rfl)) (hw _ (List.mem_of_getElem? (i := 96) rfl)) (hw _ (List.mem_of_getElem? (i := 75) rfl)) (hw _ (List.mem_of_getElem? (i := 98) rfl)) (by decide) hEL (a := x) (argsL := [(.ref l4)]) (rest := []) (own_appX l Z a0 hw hEL n0 _ A.oldn x t8 k8 N8 ((([67, 117, 115, 116, 111, 109, 101, 114, 91, 105, 100, 61] : List Int32) ++ [i_] ++ ([44, 32, 110, 97, 109, 101, 61] : List Int32) ++ ([110, 117, 108, 108] : List Int32) ++ ([44, 32, 109, 111, 98, 105, 108, 101, 61] : List Int32)) ++ mw ++ ([44, 32, 101, 109, 97, 105, 108, 61] : List Int32) ++ ew) l4 ([93] : List Int32) zc hcs hcz S hG n0_x n0_t Q_l4 (by first | omega | (simp; done) | (simp; omega)) (by first | omega | (simp; done) | (simp; omega))) S.2.2.2.1 (W := 0) (by decide) (by decide) (by decide) (by decide) (allS n0_x (allS n0_t all0)) (allS (Or.inr s_x) (allS (Or.inr s_t) all0)) (allS S_x (allS S_t all0)) (g := (mkF m 77 #[.val (.ref c_)] [(.ref l4), (.ref x)])) rfl (by rw [hml]; rfl) (lenOf opd24 rfl) rfl (by show 2 * 0 + _ ≤ _; exact Nat.le_of_eq rfl) (Jvm.hb hby d_prog_25_m2_77)
      refine oSt st ?_
      show oGo p e below _ (T.setTop (mkF m 80 #[.val (.ref c_)] [(.ref x)]))
      have EB := oExtK EB K (allS hEB_x (allS hEB_t all0))
      have s_t := own_frs ht s_t szT
      have n0_t := own_frs ht n0_t szN
      have hEB_t := own_frs ht hEB_t szE
      have hne : ((([67, 117, 115, 116, 111, 109, 101, 114, 91, 105, 100, 61] : List Int32) ++ [i_] ++ ([44, 32, 110, 97, 109, 101, 61] : List Int32) ++ ([110, 117, 108, 108] : List Int32) ++ ([44, 32, 109, 111, 98, 105, 108, 101, 61] : List Int32)) ++ mw ++ ([44, 32, 101, 109, 97, 105, 108, 61] : List Int32) ++ ew ++ ([93] : List Int32)).length ≠ N9 := by
        simp
        rcases hG with q | q | q <;> omega
      obtain ⟨_, vm, T, h, L, A, K, CR, ⟨r, rfl, Q_r⟩, st⟩ := A.callV hx (y := (⟨"java/lang/StringBuilder", "toString", "()Ljava/lang/String;"⟩ : MethodName)) (z := (⟨"java/lang/StringBuilder", "toString", "()Ljava/lang/String;"⟩ : MethodName)) (hw _ (List.mem_of_getElem? (i := 169) rfl)) (hw _ (List.mem_of_getElem? (i := 170) rfl)) (A.nf (hw _ (List.mem_of_getElem? (i := 172) rfl))) (hw _ (List.mem_of_getElem? (i := 172) rfl)) (hw _ (List.mem_of_getElem? (i := 171) rfl)) (hw _ (List.mem_of_getElem? (i := 75) rfl)) (hw _ (List.mem_of_getElem? (i := 173) rfl)) (by decide) hEL (a := x) (argsL := []) (rest := []) (own_sts l Z a0 hw hEL n0 _ A.oldn x t9 k9 N9 ((([67, 117, 115, 116, 111, 109, 101, 114, 91, 105, 100, 61] : List Int32) ++ [i_] ++ ([44, 32, 110, 97, 109, 101, 61] : List Int32) ++ ([110, 117, 108, 108] : List Int32) ++ ([44, 32, 109, 111, 98, 105, 108, 101, 61] : List Int32)) ++ mw ++ ([44, 32, 101, 109, 97, 105, 108, 61] : List Int32) ++ ew ++ ([93] : List Int32)) zc hcs hcz S (Nat.lt_of_le_of_ne S.2.1 hne) (by first | omega | (simp; done) | (simp; omega))) S.2.2.2.1 (W := 0) (by decide) (by decide) (by decide) (by decide) all0 all0 all0 (g := (mkF m 80 #[.val (.ref c_)] [(.ref x)])) rfl (by rw [hml]; rfl) (lenOf opd25 rfl) rfl (by show 2 * 0 + _ ≤ _; exact Nat.le_of_eq rfl) (Jvm.hb hby d_prog_25_m2_80)
      refine oSt st ?_
      have X := oExt0 K
      show oGo p e below _ (T.setTop (mkF m 83 #[.val (.ref c_)] [(.ref r)]))
      exact A.leave hlk hEL (v := some (.ref r)) (fun h => by rw [hret] at h; cases h) (fun _ _ => ⟨r, rfl, Q_r⟩) (by decide) (by decide) (fun fs hr => retOut A.1 hx hret rfl (Or.inr (Or.inr (Or.inr (Or.inr ⟨rfl, rfl, rfl⟩)))) (Jvm.hb hby d_prog_25_m2_83) hr)
    rcases he with ⟨rfl, rfl⟩ | ⟨av, rfl, rfl⟩
    · show oGo p e below _ (T.setTop (mkF m 62 #[.val (.ref c_)] [.null, (.ref x)]))
      refine oSt (fun _ => XS.ifnonnullNo A.here hx rfl (Jvm.hb hby d_prog_25_m2_62) rfl) ?_
      show oGo p e below _ (T.setTop (mkF m 65 #[.val (.ref c_)] [(.ref x)]))
      have lt_t := S.2.2.2.2.2.2.2.lt
      obtain ⟨lw, T, h, bb, kb, A, X, CR, E_lw, C_lw, V_lw, K_lw, ne_lw, Li, st⟩ := A.ldcS hx (hw _ (List.mem_of_getElem? (i := 247) rfl)) hlit hEL (List.mem_of_getElem? (i := 3) rfl) (vs := (([110, 111, 110, 101] : List Int32).map fun c => c.toInt8.toInt32).map Value.int) (z := Int32.ofNat ([110, 111, 110, 101] : List Int32).length) ⟨by decide +kernel, by decide +kernel⟩ (by decide +kernel) (by decide +kernel) (g := (mkF m 65 #[.val (.ref c_)] [(.ref x)])) rfl (Jvm.hb hby d_prog_25_m2_65) (n := 16) (by decide +kernel) (by decide) (by decide) (by decide)
      refine oSt st ?_
      show oGo p e below _ (T.setTop (mkF m 67 #[.val (.ref c_)] [(.ref lw), (.ref x)]))
      have Q_lw : oStr Z h lw ([110, 111, 110, 101] : List Int32) := ⟨(oPS (by decide) (oPS (by decide) (oPS (by decide) (oPS (by decide) oP0)))), by decide, bb, kb, E_lw, V_lw, C_lw, K_lw⟩
      have EB := oExtT EB X
      have S := S.ext X
      have S_t := CR.safe lt_t S_t
      refine oSt (fun _ => XS.goto A.here hx rfl (pc0 := 67) (pc' := 72) rfl (Jvm.hb hby d_prog_25_m2_67) (by decide) (by decide)) ?_
      show oGo p e below _ (T.setTop (mkF m 72 #[.val (.ref c_)] [(.ref lw), (.ref x)]))
      exact J72 _ _ _ _ _ (A.mono (by decide) (by decide)) Q_lw S S_t EB
    · show oGo p e below _ (T.setTop (mkF m 62 #[.val (.ref c_)] [(.ref av), (.ref x)]))
      refine oSt (fun _ => XS.ifnonnullYes A.here hx rfl (pc0 := 62) (pc' := 70) rfl (Jvm.hb hby d_prog_25_m2_62) rfl (by decide) (by decide)) ?_
      show oGo p e below _ (T.setTop (mkF m 70 #[.val (.ref c_)] [(.ref x)]))
      have lt_t := S.2.2.2.2.2.2.2.lt
      obtain ⟨lw, T, h, bb, kb, A, X, CR, E_lw, C_lw, V_lw, K_lw, ne_lw, Li, st⟩ := A.ldcS hx (hw _ (List.mem_of_getElem? (i := 166) rfl)) hlit hEL (List.mem_of_getElem? (i := 4) rfl) (vs := (([103, 105, 118, 101, 110] : List Int32).map fun c => c.toInt8.toInt32).map Value.int) (z := Int32.ofNat ([103, 105, 118, 101, 110] : List Int32).length) ⟨by decide +kernel, by decide +kernel⟩ (by decide +kernel) (by decide +kernel) (g := (mkF m 70 #[.val (.ref c_)] [(.ref x)])) rfl (Jvm.hb hby d_prog_25_m2_70) (n := 20) (by decide +kernel) (by decide) (by decide) (by decide)
      refine oSt st ?_
      show oGo p e below _ (T.setTop (mkF m 72 #[.val (.ref c_)] [(.ref lw), (.ref x)]))
      have Q_lw : oStr Z h lw ([103, 105, 118, 101, 110] : List Int32) := ⟨(oPS (by decide) (oPS (by decide) (oPS (by decide) (oPS (by decide) (oPS (by decide) oP0))))), by decide, bb, kb, E_lw, V_lw, C_lw, K_lw⟩
      have EB := oExtT EB X
      have S := S.ext X
      have S_t := CR.safe lt_t S_t
      exact J72 _ _ _ _ _ (A.mono (by decide) (by decide)) Q_lw S S_t EB
  rcases hb with ⟨rfl, rfl⟩ | ⟨av, rfl, rfl⟩
  · show oGo p e below _ (T.setTop (mkF m 40 #[.val (.ref c_)] [.null, (.ref x)]))
    refine oSt (fun _ => XS.ifnonnullNo A.here hx rfl (Jvm.hb hby d_prog_25_m2_40) rfl) ?_
    show oGo p e below _ (T.setTop (mkF m 43 #[.val (.ref c_)] [(.ref x)]))
    have lt_t := S.2.2.2.2.2.2.2.lt
    obtain ⟨lw, T, h, bb, kb, A, X, CR, E_lw, C_lw, V_lw, K_lw, ne_lw, Li, st⟩ := A.ldcS hx (hw _ (List.mem_of_getElem? (i := 247) rfl)) hlit hEL (List.mem_of_getElem? (i := 3) rfl) (vs := (([110, 111, 110, 101] : List Int32).map fun c => c.toInt8.toInt32).map Value.int) (z := Int32.ofNat ([110, 111, 110, 101] : List Int32).length) ⟨by decide +kernel, by decide +kernel⟩ (by decide +kernel) (by decide +kernel) (g := (mkF m 43 #[.val (.ref c_)] [(.ref x)])) rfl (Jvm.hb hby d_prog_25_m2_43) (n := 16) (by decide +kernel) (by decide) (by decide) (by decide)
    refine oSt st ?_
    show oGo p e below _ (T.setTop (mkF m 45 #[.val (.ref c_)] [(.ref lw), (.ref x)]))
    have Q_lw : oStr Z h lw ([110, 111, 110, 101] : List Int32) := ⟨(oPS (by decide) (oPS (by decide) (oPS (by decide) (oPS (by decide) oP0)))), by decide, bb, kb, E_lw, V_lw, C_lw, K_lw⟩
    have EB := oExtT EB X
    have S := S.ext X
    have S_t := CR.safe lt_t S_t
    refine oSt (fun _ => XS.goto A.here hx rfl (pc0 := 45) (pc' := 50) rfl (Jvm.hb hby d_prog_25_m2_45) (by decide) (by decide)) ?_
    show oGo p e below _ (T.setTop (mkF m 50 #[.val (.ref c_)] [(.ref lw), (.ref x)]))
    exact J50 _ _ _ _ _ (A.mono (by decide) (by decide)) Q_lw S S_t EB
  · show oGo p e below _ (T.setTop (mkF m 40 #[.val (.ref c_)] [(.ref av), (.ref x)]))
    refine oSt (fun _ => XS.ifnonnullYes A.here hx rfl (pc0 := 40) (pc' := 48) rfl (Jvm.hb hby d_prog_25_m2_40) rfl (by decide) (by decide)) ?_
    show oGo p e below _ (T.setTop (mkF m 48 #[.val (.ref c_)] [(.ref x)]))
    have lt_t := S.2.2.2.2.2.2.2.lt
    obtain ⟨lw, T, h, bb, kb, A, X, CR, E_lw, C_lw, V_lw, K_lw, ne_lw, Li, st⟩ := A.ldcS hx (hw _ (List.mem_of_getElem? (i := 166) rfl)) hlit hEL (List.mem_of_getElem? (i := 4) rfl) (vs := (([103, 105, 118, 101, 110] : List Int32).map fun c => c.toInt8.toInt32).map Value.int) (z := Int32.ofNat ([103, 105, 118, 101, 110] : List Int32).length) ⟨by decide +kernel, by decide +kernel⟩ (by decide +kernel) (by decide +kernel) (g := (mkF m 48 #[.val (.ref c_)] [(.ref x)])) rfl (Jvm.hb hby d_prog_25_m2_48) (n := 20) (by decide +kernel) (by decide) (by decide) (by decide)
    refine oSt st ?_
    show oGo p e below _ (T.setTop (mkF m 50 #[.val (.ref c_)] [(.ref lw), (.ref x)]))
    have Q_lw : oStr Z h lw ([103, 105, 118, 101, 110] : List Int32) := ⟨(oPS (by decide) (oPS (by decide) (oPS (by decide) (oPS (by decide) (oPS (by decide) oP0))))), by decide, bb, kb, E_lw, V_lw, C_lw, K_lw⟩
    have EB := oExtT EB X
    have S := S.ext X
    have S_t := CR.safe lt_t S_t
    exact J50 _ _ _ _ _ (A.mono (by decide) (by decide)) Q_lw S S_t EB
theorem d_m2_0 : decode method_2_code 0 = .ok (.iload_n 3, 1) := by decide +kernel
theorem d_m2_1 : decode method_2_code 1 = .ok (.aload_n 2, 1) := by decide +kernel
theorem d_m2_2 : decode method_2_code 2 = .ok (.invokevirtual 7, 3) := by decide +kernel
theorem d_m2_5 : decode method_2_code 5 = .ok (.if_icmp .ge 18, 3) := by decide +kernel
theorem d_m2_8 : decode method_2_code 8 = .ok (.aload_n 0, 1) := by decide +kernel
theorem d_m2_9 : decode method_2_code 9 = .ok (.iload_n 1, 1) := by decide +kernel
theorem d_m2_10 : decode method_2_code 10 = .ok (.iload_n 3, 1) := by decide +kernel
theorem d_m2_11 : decode method_2_code 11 = .ok (.iadd, 1) := by decide +kernel
theorem d_m2_12 : decode method_2_code 12 = .ok (.invokevirtual 13, 3) := by decide +kernel
theorem d_m2_15 : decode method_2_code 15 = .ok (.aload_n 2, 1) := by decide +kernel
theorem d_m2_16 : decode method_2_code 16 = .ok (.iload_n 3, 1) := by decide +kernel
theorem d_m2_17 : decode method_2_code 17 = .ok (.invokevirtual 13, 3) := by decide +kernel
theorem d_m2_20 : decode method_2_code 20 = .ok (.if_icmp .ne 7, 3) := by decide +kernel
theorem d_m2_23 : decode method_2_code 23 = .ok (.iconst 1, 1) := by decide +kernel
theorem d_m2_24 : decode method_2_code 24 = .ok (.goto 4, 3) := by decide +kernel
theorem d_m2_27 : decode method_2_code 27 = .ok (.iconst 0, 1) := by decide +kernel
theorem d_m2_28 : decode method_2_code 28 = .ok (.ireturn, 1) := by decide +kernel
theorem opn_own_chk : plainFor (⟨"com/example/stallwright/stallwright/store/CustomerToStringPinLaw", "ch", "(Ljava/lang/String;ILjava/lang/String;I)Z"⟩ : MethodName) = true := plainFor_of_name (by first | (simp [plainName, overriddenIn]; done) | decide +kernel)
set_option maxRecDepth 65536 in
set_option maxHeartbeats 40000000 in
theorem own_chk (l : Launch) (Z : State) (a0 : Array Value) (hw : ∀ d ∈ tables_1, d.before a0 Z = true) (hEL : EW Z a0 consts_1) (n0 : Nat) (h : Heap) (hO : Old Z n0 h) (r l_ : Addr) (o k : Nat) (cs ls : List Int32) (zc : Int32) (hcs : Sta Z Z.heap "java/lang/String" "COMPACT_STRINGS" "Z" (.int zc)) (hcz : ¬ zc = 0) (fm : Value) (hfm : Sta Z Z.heap "jdk/internal/util/Preconditions" "SIOOBE_FORMATTER" "Ljava/util/function/BiFunction;" fm) (rfm : fm.isRef = true) (Q : oStr Z h r cs) (Q' : oStr Z h l_ ls) (hs : own_seg cs ls o) (hk : k < 12) :
    oMet l Z consts_1 n0 (⟨"com/example/stallwright/stallwright/store/CustomerToStringPinLaw", "ch", "(Ljava/lang/String;ILjava/lang/String;I)Z"⟩ : MethodName) method_2_code 4 (some .boolean) [] ({ frames := 4, cells := 0, slots := 0, locals := 54 } : Room) #[(.ref r), (.int (Int32.ofNat o)), (.ref l_), (.int (Int32.ofNat k))] h [] (fun v _ h' => h = h' ∧ v = some (.int 1)) := by
  refine oMet.of opn_own_chk hO ?_
  intro p e s m below meth c T hx hby hml hret hnm hlk hh hsf A
  have hml : c.maxLocals = 4 := hml
  refine oCast (g' := mkF m 0 #[.val (.ref r), .val (.int (Int32.ofNat o)), .val (.ref l_), .val (.int (Int32.ofNat k))] []) (by first | (simp [entryFrame, mkF, argsToLocals, Value.category]; done) | rfl) ?_
  have hln : ∀ d ∈ StrChars.Road.wordsLen, d.before a0 Z = true := fun d hd => hw d ((by decide +kernel : ∀ d ∈ StrChars.Road.wordsLen, d ∈ tables_1) d hd)
  have hch : ∀ d ∈ StrChars.Road.wordsChN, d.before a0 Z = true := fun d hd => hw d ((by decide +kernel : ∀ d ∈ StrChars.Road.wordsChN, d ∈ tables_1) d hd)
  have hle := hs.le
  have hq := Q.2.1
  show oGo p e below _ (T.setTop (mkF m 0 #[.val (.ref r), .val (.int (Int32.ofNat o)), .val (.ref l_), .val (.int (Int32.ofNat k))] []))
  refine oSt (fun _ => XS.iloadN A.here hx rfl (Jvm.hb hby d_m2_0) rfl) ?_
  show oGo p e below _ (T.setTop (mkF m 1 #[.val (.ref r), .val (.int (Int32.ofNat o)), .val (.ref l_), .val (.int (Int32.ofNat k))] [(.int (Int32.ofNat k))]))
  refine oSt (fun _ => XS.aloadN A.here hx rfl (Jvm.hb hby d_m2_1) rfl rfl) ?_
  show oGo p e below _ (T.setTop (mkF m 2 #[.val (.ref r), .val (.int (Int32.ofNat o)), .val (.ref l_), .val (.int (Int32.ofNat k))] [(.ref l_), (.int (Int32.ofNat k))]))
  obtain ⟨T, A, st⟩ := A.sLen hx hln (hw _ (List.mem_of_getElem? (i := 10) rfl)) (hw _ (List.mem_of_getElem? (i := 209) rfl)) (hw _ (List.mem_of_getElem? (i := 105) rfl)) (hw _ (List.mem_of_getElem? (i := 107) rfl)) (hw _ (List.mem_of_getElem? (i := 106) rfl)) Q' hcs hcz (W := 1) (by decide) (by decide) (by decide) (by decide) (g := (mkF m 2 #[.val (.ref r), .val (.int (Int32.ofNat o)), .val (.ref l_), .val (.int (Int32.ofNat k))] [(.ref l_), (.int (Int32.ofNat k))])) rfl (by rw [hml]; rfl) rfl (by show 2 * 0 + _ ≤ _; exact Nat.le_of_eq rfl) (Jvm.hb hby d_m2_2)
  refine oSt st ?_
  show oGo p e below _ (T.setTop (mkF m 5 #[.val (.ref r), .val (.int (Int32.ofNat o)), .val (.ref l_), .val (.int (Int32.ofNat k))] [(.int (Int32.ofNat ls.length)), (.int (Int32.ofNat k))]))
  by_cases c : Int32.ofNat k < Int32.ofNat ls.length
  · refine oSt (fun _ => XS.icmpNo A.here hx rfl (Jvm.hb hby d_m2_5) rfl (Jvm.Free.XT.ii_ge_f c)) ?_
    show oGo p e below _ (T.setTop (mkF m 8 #[.val (.ref r), .val (.int (Int32.ofNat o)), .val (.ref l_), .val (.int (Int32.ofNat k))] []))
    refine oSt (fun _ => XS.aloadN A.here hx rfl (Jvm.hb hby d_m2_8) rfl rfl) ?_
    show oGo p e below _ (T.setTop (mkF m 9 #[.val (.ref r), .val (.int (Int32.ofNat o)), .val (.ref l_), .val (.int (Int32.ofNat k))] [(.ref r)]))
    refine oSt (fun _ => XS.iloadN A.here hx rfl (Jvm.hb hby d_m2_9) rfl) ?_
    show oGo p e below _ (T.setTop (mkF m 10 #[.val (.ref r), .val (.int (Int32.ofNat o)), .val (.ref l_), .val (.int (Int32.ofNat k))] [(.int (Int32.ofNat o)), (.ref r)]))
    refine oSt (fun _ => XS.iloadN A.here hx rfl (Jvm.hb hby d_m2_10) rfl) ?_
    show oGo p e below _ (T.setTop (mkF m 11 #[.val (.ref r), .val (.int (Int32.ofNat o)), .val (.ref l_), .val (.int (Int32.ofNat k))] [(.int (Int32.ofNat k)), (.int (Int32.ofNat o)), (.ref r)]))
    refine oSt (fun _ => XS.iadd A.here hx rfl (Jvm.hb hby d_m2_11) rfl) ?_
    show oGo p e below _ (T.setTop (mkF m 12 #[.val (.ref r), .val (.int (Int32.ofNat o)), .val (.ref l_), .val (.int (Int32.ofNat k))] [(.int ((Int32.ofNat o) + (Int32.ofNat k))), (.ref r)]))
    have hi : k < ls.length := own_ltn (by omega) Q'.2.1 c
    rw [own_addn (by omega)]
    show oGo p e below _ (T.setTop (mkF m 12 #[.val (.ref r), .val (.int (Int32.ofNat o)), .val (.ref l_), .val (.int (Int32.ofNat k))] [(.int (Int32.ofNat (o + k))), (.ref r)]))
    obtain ⟨T, A, st⟩ := A.sCh hx hch (hw _ (List.mem_of_getElem? (i := 10) rfl)) (hw _ (List.mem_of_getElem? (i := 217) rfl)) (hw _ (List.mem_of_getElem? (i := 218) rfl)) (hw _ (List.mem_of_getElem? (i := 220) rfl)) (hw _ (List.mem_of_getElem? (i := 219) rfl)) Q hcs hcz hfm rfm (i := o + k) (by omega) rfl (W := 0) (by decide) (by decide) (by decide) (by decide) (g := (mkF m 12 #[.val (.ref r), .val (.int (Int32.ofNat o)), .val (.ref l_), .val (.int (Int32.ofNat k))] [(.int (Int32.ofNat (o + k))), (.ref r)])) rfl (by rw [hml]; rfl) rfl (by show 2 * 0 + _ ≤ _; exact Nat.le_of_eq rfl) (Jvm.hb hby d_m2_12)
    refine oSt st ?_
    show oGo p e below _ (T.setTop (mkF m 15 #[.val (.ref r), .val (.int (Int32.ofNat o)), .val (.ref l_), .val (.int (Int32.ofNat k))] [(.int (cs.getD (o + k) 0))]))
    refine oSt (fun _ => XS.aloadN A.here hx rfl (Jvm.hb hby d_m2_15) rfl rfl) ?_
    show oGo p e below _ (T.setTop (mkF m 16 #[.val (.ref r), .val (.int (Int32.ofNat o)), .val (.ref l_), .val (.int (Int32.ofNat k))] [(.ref l_), (.int (cs.getD (o + k) 0))]))
    refine oSt (fun _ => XS.iloadN A.here hx rfl (Jvm.hb hby d_m2_16) rfl) ?_
    show oGo p e below _ (T.setTop (mkF m 17 #[.val (.ref r), .val (.int (Int32.ofNat o)), .val (.ref l_), .val (.int (Int32.ofNat k))] [(.int (Int32.ofNat k)), (.ref l_), (.int (cs.getD (o + k) 0))]))
    obtain ⟨T, A, st⟩ := A.sCh hx hch (hw _ (List.mem_of_getElem? (i := 10) rfl)) (hw _ (List.mem_of_getElem? (i := 217) rfl)) (hw _ (List.mem_of_getElem? (i := 218) rfl)) (hw _ (List.mem_of_getElem? (i := 220) rfl)) (hw _ (List.mem_of_getElem? (i := 219) rfl)) Q' hcs hcz hfm rfm hi rfl (W := 1) (by decide) (by decide) (by decide) (by decide) (g := (mkF m 17 #[.val (.ref r), .val (.int (Int32.ofNat o)), .val (.ref l_), .val (.int (Int32.ofNat k))] [(.int (Int32.ofNat k)), (.ref l_), (.int (cs.getD (o + k) 0))])) rfl (by rw [hml]; rfl) rfl (by show 2 * 0 + _ ≤ _; exact Nat.le_of_eq rfl) (Jvm.hb hby d_m2_17)
    refine oSt st ?_
    show oGo p e below _ (T.setTop (mkF m 20 #[.val (.ref r), .val (.int (Int32.ofNat o)), .val (.ref l_), .val (.int (Int32.ofNat k))] [(.int (ls.getD k 0)), (.int (cs.getD (o + k) 0))]))
    refine oSt (fun _ => XS.icmpNo A.here hx rfl (Jvm.hb hby d_m2_20) rfl (Jvm.Free.XT.ii_ne_f (hs.at hi))) ?_
    show oGo p e below _ (T.setTop (mkF m 23 #[.val (.ref r), .val (.int (Int32.ofNat o)), .val (.ref l_), .val (.int (Int32.ofNat k))] []))
    refine oSt (fun _ => XS.iconst A.here hx rfl (Jvm.hb hby d_m2_23)) ?_
    show oGo p e below _ (T.setTop (mkF m 24 #[.val (.ref r), .val (.int (Int32.ofNat o)), .val (.ref l_), .val (.int (Int32.ofNat k))] [(.int (1 : Int32))]))
    refine oSt (fun _ => XS.goto A.here hx rfl (pc0 := 24) (pc' := 28) rfl (Jvm.hb hby d_m2_24) (by decide) (by decide)) ?_
    show oGo p e below _ (T.setTop (mkF m 28 #[.val (.ref r), .val (.int (Int32.ofNat o)), .val (.ref l_), .val (.int (Int32.ofNat k))] [(.int (1 : Int32))]))
    exact A.leave hlk hEL (v := some (.int (1 : Int32))) (fun h => by rw [hret] at h; cases h) (fun _ _ => ⟨rfl, rfl⟩) (by decide) (by decide) (fun fs hr => retN A.1 hx (t := .boolean) hret (by simp) (Jvm.hb hby d_m2_28) hr)
  · refine oSt (fun _ => XS.icmpYes A.here hx rfl (pc0 := 5) (pc' := 23) rfl (Jvm.hb hby d_m2_5) rfl (Jvm.Free.XT.ii_ge_t c) (by decide) (by decide)) ?_
    show oGo p e below _ (T.setTop (mkF m 23 #[.val (.ref r), .val (.int (Int32.ofNat o)), .val (.ref l_), .val (.int (Int32.ofNat k))] []))
    refine oSt (fun _ => XS.iconst A.here hx rfl (Jvm.hb hby d_m2_23)) ?_
    show oGo p e below _ (T.setTop (mkF m 24 #[.val (.ref r), .val (.int (Int32.ofNat o)), .val (.ref l_), .val (.int (Int32.ofNat k))] [(.int (1 : Int32))]))
    refine oSt (fun _ => XS.goto A.here hx rfl (pc0 := 24) (pc' := 28) rfl (Jvm.hb hby d_m2_24) (by decide) (by decide)) ?_
    show oGo p e below _ (T.setTop (mkF m 28 #[.val (.ref r), .val (.int (Int32.ofNat o)), .val (.ref l_), .val (.int (Int32.ofNat k))] [(.int (1 : Int32))]))
    exact A.leave hlk hEL (v := some (.int (1 : Int32))) (fun h => by rw [hret] at h; cases h) (fun _ _ => ⟨rfl, rfl⟩) (by decide) (by decide) (fun fs hr => retN A.1 hx (t := .boolean) hret (by simp) (Jvm.hb hby d_m2_28) hr)
theorem d_m3_0 : decode method_3_code 0 = .ok (.iload_n 1, 1) := by decide +kernel
theorem d_m3_1 : decode method_3_code 1 = .ok (.ifCond .lt 16, 3) := by decide +kernel
theorem d_m3_4 : decode method_3_code 4 = .ok (.iload_n 1, 1) := by decide +kernel
theorem d_m3_5 : decode method_3_code 5 = .ok (.aload_n 2, 1) := by decide +kernel
theorem d_m3_6 : decode method_3_code 6 = .ok (.invokevirtual 7, 3) := by decide +kernel
theorem d_m3_9 : decode method_3_code 9 = .ok (.iadd, 1) := by decide +kernel
theorem d_m3_10 : decode method_3_code 10 = .ok (.aload_n 0, 1) := by decide +kernel
theorem d_m3_11 : decode method_3_code 11 = .ok (.invokevirtual 7, 3) := by decide +kernel
theorem d_m3_14 : decode method_3_code 14 = .ok (.if_icmp .le 5, 3) := by decide +kernel
theorem d_m3_17 : decode method_3_code 17 = .ok (.iconst 0, 1) := by decide +kernel
theorem d_m3_18 : decode method_3_code 18 = .ok (.ireturn, 1) := by decide +kernel
theorem d_m3_19 : decode method_3_code 19 = .ok (.aload_n 0, 1) := by decide +kernel
theorem d_m3_20 : decode method_3_code 20 = .ok (.iload_n 1, 1) := by decide +kernel
theorem d_m3_21 : decode method_3_code 21 = .ok (.aload_n 2, 1) := by decide +kernel
theorem d_m3_22 : decode method_3_code 22 = .ok (.iconst 0, 1) := by decide +kernel
theorem d_m3_23 : decode method_3_code 23 = .ok (.invokestatic 17, 3) := by decide +kernel
theorem d_m3_26 : decode method_3_code 26 = .ok (.ifCond .eq 123, 3) := by decide +kernel
theorem d_m3_29 : decode method_3_code 29 = .ok (.aload_n 0, 1) := by decide +kernel
theorem d_m3_30 : decode method_3_code 30 = .ok (.iload_n 1, 1) := by decide +kernel
theorem d_m3_31 : decode method_3_code 31 = .ok (.aload_n 2, 1) := by decide +kernel
theorem d_m3_32 : decode method_3_code 32 = .ok (.iconst 1, 1) := by decide +kernel
theorem d_m3_33 : decode method_3_code 33 = .ok (.invokestatic 17, 3) := by decide +kernel
theorem d_m3_36 : decode method_3_code 36 = .ok (.ifCond .eq 113, 3) := by decide +kernel
theorem d_m3_39 : decode method_3_code 39 = .ok (.aload_n 0, 1) := by decide +kernel
theorem d_m3_40 : decode method_3_code 40 = .ok (.iload_n 1, 1) := by decide +kernel
theorem d_m3_41 : decode method_3_code 41 = .ok (.aload_n 2, 1) := by decide +kernel
theorem d_m3_42 : decode method_3_code 42 = .ok (.iconst 2, 1) := by decide +kernel
theorem d_m3_43 : decode method_3_code 43 = .ok (.invokestatic 17, 3) := by decide +kernel
theorem d_m3_46 : decode method_3_code 46 = .ok (.ifCond .eq 103, 3) := by decide +kernel
theorem d_m3_49 : decode method_3_code 49 = .ok (.aload_n 0, 1) := by decide +kernel
theorem d_m3_50 : decode method_3_code 50 = .ok (.iload_n 1, 1) := by decide +kernel
theorem d_m3_51 : decode method_3_code 51 = .ok (.aload_n 2, 1) := by decide +kernel
theorem d_m3_52 : decode method_3_code 52 = .ok (.iconst 3, 1) := by decide +kernel
theorem d_m3_53 : decode method_3_code 53 = .ok (.invokestatic 17, 3) := by decide +kernel
theorem d_m3_56 : decode method_3_code 56 = .ok (.ifCond .eq 93, 3) := by decide +kernel
theorem d_m3_59 : decode method_3_code 59 = .ok (.aload_n 0, 1) := by decide +kernel
theorem d_m3_60 : decode method_3_code 60 = .ok (.iload_n 1, 1) := by decide +kernel
theorem d_m3_61 : decode method_3_code 61 = .ok (.aload_n 2, 1) := by decide +kernel
theorem d_m3_62 : decode method_3_code 62 = .ok (.iconst 4, 1) := by decide +kernel
theorem d_m3_63 : decode method_3_code 63 = .ok (.invokestatic 17, 3) := by decide +kernel
theorem d_m3_66 : decode method_3_code 66 = .ok (.ifCond .eq 83, 3) := by decide +kernel
theorem d_m3_69 : decode method_3_code 69 = .ok (.aload_n 0, 1) := by decide +kernel
theorem d_m3_70 : decode method_3_code 70 = .ok (.iload_n 1, 1) := by decide +kernel
theorem d_m3_71 : decode method_3_code 71 = .ok (.aload_n 2, 1) := by decide +kernel
theorem d_m3_72 : decode method_3_code 72 = .ok (.iconst 5, 1) := by decide +kernel
theorem d_m3_73 : decode method_3_code 73 = .ok (.invokestatic 17, 3) := by decide +kernel
theorem d_m3_76 : decode method_3_code 76 = .ok (.ifCond .eq 73, 3) := by decide +kernel
theorem d_m3_79 : decode method_3_code 79 = .ok (.aload_n 0, 1) := by decide +kernel
theorem d_m3_80 : decode method_3_code 80 = .ok (.iload_n 1, 1) := by decide +kernel
theorem d_m3_81 : decode method_3_code 81 = .ok (.aload_n 2, 1) := by decide +kernel
theorem d_m3_82 : decode method_3_code 82 = .ok (.bipush 6, 2) := by decide +kernel
theorem d_m3_84 : decode method_3_code 84 = .ok (.invokestatic 17, 3) := by decide +kernel
theorem d_m3_87 : decode method_3_code 87 = .ok (.ifCond .eq 62, 3) := by decide +kernel
theorem d_m3_90 : decode method_3_code 90 = .ok (.aload_n 0, 1) := by decide +kernel
theorem d_m3_91 : decode method_3_code 91 = .ok (.iload_n 1, 1) := by decide +kernel
theorem d_m3_92 : decode method_3_code 92 = .ok (.aload_n 2, 1) := by decide +kernel
theorem d_m3_93 : decode method_3_code 93 = .ok (.bipush 7, 2) := by decide +kernel
theorem d_m3_95 : decode method_3_code 95 = .ok (.invokestatic 17, 3) := by decide +kernel
theorem d_m3_98 : decode method_3_code 98 = .ok (.ifCond .eq 51, 3) := by decide +kernel
theorem d_m3_101 : decode method_3_code 101 = .ok (.aload_n 0, 1) := by decide +kernel
theorem d_m3_102 : decode method_3_code 102 = .ok (.iload_n 1, 1) := by decide +kernel
theorem d_m3_103 : decode method_3_code 103 = .ok (.aload_n 2, 1) := by decide +kernel
theorem d_m3_104 : decode method_3_code 104 = .ok (.bipush 8, 2) := by decide +kernel
theorem d_m3_106 : decode method_3_code 106 = .ok (.invokestatic 17, 3) := by decide +kernel
theorem d_m3_109 : decode method_3_code 109 = .ok (.ifCond .eq 40, 3) := by decide +kernel
theorem d_m3_112 : decode method_3_code 112 = .ok (.aload_n 0, 1) := by decide +kernel
theorem d_m3_113 : decode method_3_code 113 = .ok (.iload_n 1, 1) := by decide +kernel
theorem d_m3_114 : decode method_3_code 114 = .ok (.aload_n 2, 1) := by decide +kernel
theorem d_m3_115 : decode method_3_code 115 = .ok (.bipush 9, 2) := by decide +kernel
theorem d_m3_117 : decode method_3_code 117 = .ok (.invokestatic 17, 3) := by decide +kernel
theorem d_m3_120 : decode method_3_code 120 = .ok (.ifCond .eq 29, 3) := by decide +kernel
theorem d_m3_123 : decode method_3_code 123 = .ok (.aload_n 0, 1) := by decide +kernel
theorem d_m3_124 : decode method_3_code 124 = .ok (.iload_n 1, 1) := by decide +kernel
theorem d_m3_125 : decode method_3_code 125 = .ok (.aload_n 2, 1) := by decide +kernel
theorem d_m3_126 : decode method_3_code 126 = .ok (.bipush 10, 2) := by decide +kernel
theorem d_m3_128 : decode method_3_code 128 = .ok (.invokestatic 17, 3) := by decide +kernel
theorem d_m3_131 : decode method_3_code 131 = .ok (.ifCond .eq 18, 3) := by decide +kernel
theorem d_m3_134 : decode method_3_code 134 = .ok (.aload_n 0, 1) := by decide +kernel
theorem d_m3_135 : decode method_3_code 135 = .ok (.iload_n 1, 1) := by decide +kernel
theorem d_m3_136 : decode method_3_code 136 = .ok (.aload_n 2, 1) := by decide +kernel
theorem d_m3_137 : decode method_3_code 137 = .ok (.bipush 11, 2) := by decide +kernel
theorem d_m3_139 : decode method_3_code 139 = .ok (.invokestatic 17, 3) := by decide +kernel
theorem d_m3_142 : decode method_3_code 142 = .ok (.ifCond .eq 7, 3) := by decide +kernel
theorem d_m3_145 : decode method_3_code 145 = .ok (.iconst 1, 1) := by decide +kernel
theorem d_m3_146 : decode method_3_code 146 = .ok (.goto 4, 3) := by decide +kernel
theorem d_m3_149 : decode method_3_code 149 = .ok (.iconst 0, 1) := by decide +kernel
theorem d_m3_150 : decode method_3_code 150 = .ok (.ireturn, 1) := by decide +kernel
theorem opd26 : parseMethodDescriptor "(Ljava/lang/String;ILjava/lang/String;I)Z" = some ⟨[(.object "java/lang/String"), .int, (.object "java/lang/String"), .int], some .boolean⟩ := by decide +kernel
theorem opn_own_at : plainFor (⟨"com/example/stallwright/stallwright/store/CustomerToStringPinLaw", "at", "(Ljava/lang/String;ILjava/lang/String;)Z"⟩ : MethodName) = true := plainFor_of_name (by first | (simp [plainName, overriddenIn]; done) | decide +kernel)
set_option maxRecDepth 65536 in
set_option maxHeartbeats 40000000 in
theorem own_at (l : Launch) (Z : State) (a0 : Array Value) (hw : ∀ d ∈ tables_1, d.before a0 Z = true) (hEL : EW Z a0 consts_1) (n0 : Nat) (h : Heap) (hO : Old Z n0 h) (r l_ : Addr) (o : Nat) (cs ls : List Int32) (zc : Int32) (hcs : Sta Z Z.heap "java/lang/String" "COMPACT_STRINGS" "Z" (.int zc)) (hcz : ¬ zc = 0) (fm : Value) (hfm : Sta Z Z.heap "jdk/internal/util/Preconditions" "SIOOBE_FORMATTER" "Ljava/util/function/BiFunction;" fm) (rfm : fm.isRef = true) (Q : oStr Z h r cs) (Q' : oStr Z h l_ ls) (hs : own_seg cs ls o) :
    oMet l Z consts_1 n0 (⟨"com/example/stallwright/stallwright/store/CustomerToStringPinLaw", "at", "(Ljava/lang/String;ILjava/lang/String;)Z"⟩ : MethodName) method_3_code 3 (some .boolean) [] ({ frames := 5, cells := 0, slots := 0, locals := 69 } : Room) #[(.ref r), (.int (Int32.ofNat o)), (.ref l_)] h [] (fun v _ h' => h = h' ∧ v = some (.int 1)) := by
  refine oMet.of opn_own_at hO ?_
  intro p e s m below meth c T hx hby hml hret hnm hlk hh hsf A
  have hml : c.maxLocals = 3 := hml
  refine oCast (g' := mkF m 0 #[.val (.ref r), .val (.int (Int32.ofNat o)), .val (.ref l_)] []) (by first | (simp [entryFrame, mkF, argsToLocals, Value.category]; done) | rfl) ?_
  have hln : ∀ d ∈ StrChars.Road.wordsLen, d.before a0 Z = true := fun d hd => hw d ((by decide +kernel : ∀ d ∈ StrChars.Road.wordsLen, d ∈ tables_1) d hd)
  have hle := hs.le
  have hq := Q.2.1
  show oGo p e below _ (T.setTop (mkF m 0 #[.val (.ref r), .val (.int (Int32.ofNat o)), .val (.ref l_)] []))
  refine oSt (fun _ => XS.iloadN A.here hx rfl (Jvm.hb hby d_m3_0) rfl) ?_
  show oGo p e below _ (T.setTop (mkF m 1 #[.val (.ref r), .val (.int (Int32.ofNat o)), .val (.ref l_)] [(.int (Int32.ofNat o))]))
  refine oSt (fun _ => XS.ifNo A.here hx rfl (Jvm.hb hby d_m3_1) rfl (Jvm.Free.XT.i0_lt_f (own_n0 (by omega)))) ?_
  show oGo p e below _ (T.setTop (mkF m 4 #[.val (.ref r), .val (.int (Int32.ofNat o)), .val (.ref l_)] []))
  refine oSt (fun _ => XS.iloadN A.here hx rfl (Jvm.hb hby d_m3_4) rfl) ?_
  show oGo p e below _ (T.setTop (mkF m 5 #[.val (.ref r), .val (.int (Int32.ofNat o)), .val (.ref l_)] [(.int (Int32.ofNat o))]))
  refine oSt (fun _ => XS.aloadN A.here hx rfl (Jvm.hb hby d_m3_5) rfl rfl) ?_
  show oGo p e below _ (T.setTop (mkF m 6 #[.val (.ref r), .val (.int (Int32.ofNat o)), .val (.ref l_)] [(.ref l_), (.int (Int32.ofNat o))]))
  obtain ⟨T, A, st⟩ := A.sLen hx hln (hw _ (List.mem_of_getElem? (i := 10) rfl)) (hw _ (List.mem_of_getElem? (i := 209) rfl)) (hw _ (List.mem_of_getElem? (i := 105) rfl)) (hw _ (List.mem_of_getElem? (i := 107) rfl)) (hw _ (List.mem_of_getElem? (i := 106) rfl)) Q' hcs hcz (W := 1) (by decide) (by decide) (by decide) (by decide) (g := (mkF m 6 #[.val (.ref r), .val (.int (Int32.ofNat o)), .val (.ref l_)] [(.ref l_), (.int (Int32.ofNat o))])) rfl (by rw [hml]; rfl) rfl (by show 2 * 0 + _ ≤ _; exact Nat.le_of_eq rfl) (Jvm.hb hby d_m3_6)
  refine oSt st ?_
  show oGo p e below _ (T.setTop (mkF m 9 #[.val (.ref r), .val (.int (Int32.ofNat o)), .val (.ref l_)] [(.int (Int32.ofNat ls.length)), (.int (Int32.ofNat o))]))
  refine oSt (fun _ => XS.iadd A.here hx rfl (Jvm.hb hby d_m3_9) rfl) ?_
  show oGo p e below _ (T.setTop (mkF m 10 #[.val (.ref r), .val (.int (Int32.ofNat o)), .val (.ref l_)] [(.int ((Int32.ofNat o) + (Int32.ofNat ls.length)))]))
  refine oSt (fun _ => XS.aloadN A.here hx rfl (Jvm.hb hby d_m3_10) rfl rfl) ?_
  show oGo p e below _ (T.setTop (mkF m 11 #[.val (.ref r), .val (.int (Int32.ofNat o)), .val (.ref l_)] [(.ref r), (.int ((Int32.ofNat o) + (Int32.ofNat ls.length)))]))
  rw [own_addn (by omega)]
  show oGo p e below _ (T.setTop (mkF m 11 #[.val (.ref r), .val (.int (Int32.ofNat o)), .val (.ref l_)] [(.ref r), (.int (Int32.ofNat (o + ls.length)))]))
  obtain ⟨T, A, st⟩ := A.sLen hx hln (hw _ (List.mem_of_getElem? (i := 10) rfl)) (hw _ (List.mem_of_getElem? (i := 209) rfl)) (hw _ (List.mem_of_getElem? (i := 105) rfl)) (hw _ (List.mem_of_getElem? (i := 107) rfl)) (hw _ (List.mem_of_getElem? (i := 106) rfl)) Q hcs hcz (W := 1) (by decide) (by decide) (by decide) (by decide) (g := (mkF m 11 #[.val (.ref r), .val (.int (Int32.ofNat o)), .val (.ref l_)] [(.ref r), (.int (Int32.ofNat (o + ls.length)))])) rfl (by rw [hml]; rfl) rfl (by show 2 * 0 + _ ≤ _; exact Nat.le_of_eq rfl) (Jvm.hb hby d_m3_11)
  refine oSt st ?_
  show oGo p e below _ (T.setTop (mkF m 14 #[.val (.ref r), .val (.int (Int32.ofNat o)), .val (.ref l_)] [(.int (Int32.ofNat cs.length)), (.int (Int32.ofNat (o + ls.length)))]))
  refine oSt (fun _ => XS.icmpYes A.here hx rfl (pc0 := 14) (pc' := 19) rfl (Jvm.hb hby d_m3_14) rfl (Jvm.Free.XT.ii_le_t (own_geN hle hq)) (by decide) (by decide)) ?_
  show oGo p e below _ (T.setTop (mkF m 19 #[.val (.ref r), .val (.int (Int32.ofNat o)), .val (.ref l_)] []))
  refine oSt (fun _ => XS.aloadN A.here hx rfl (Jvm.hb hby d_m3_19) rfl rfl) ?_
  show oGo p e below _ (T.setTop (mkF m 20 #[.val (.ref r), .val (.int (Int32.ofNat o)), .val (.ref l_)] [(.ref r)]))
  refine oSt (fun _ => XS.iloadN A.here hx rfl (Jvm.hb hby d_m3_20) rfl) ?_
  show oGo p e below _ (T.setTop (mkF m 21 #[.val (.ref r), .val (.int (Int32.ofNat o)), .val (.ref l_)] [(.int (Int32.ofNat o)), (.ref r)]))
  refine oSt (fun _ => XS.aloadN A.here hx rfl (Jvm.hb hby d_m3_21) rfl rfl) ?_
  show oGo p e below _ (T.setTop (mkF m 22 #[.val (.ref r), .val (.int (Int32.ofNat o)), .val (.ref l_)] [(.ref l_), (.int (Int32.ofNat o)), (.ref r)]))
  refine oSt (fun _ => XS.iconst A.here hx rfl (Jvm.hb hby d_m3_22)) ?_
  show oGo p e below _ (T.setTop (mkF m 23 #[.val (.ref r), .val (.int (Int32.ofNat o)), .val (.ref l_)] [(.int (0 : Int32)), (.ref l_), (.int (Int32.ofNat o)), (.ref r)]))
  obtain ⟨_, vm, T, h, L, A, K, CR, ⟨rfl, rfl⟩, st⟩ := A.callS hx (y := (⟨"com/example/stallwright/stallwright/store/CustomerToStringPinLaw", "ch", "(Ljava/lang/String;ILjava/lang/String;I)Z"⟩ : MethodName)) (hw _ (List.mem_of_getElem? (i := 214) rfl)) (hw _ (List.mem_of_getElem? (i := 215) rfl)) (hw _ (List.mem_of_getElem? (i := 28) rfl)) (hw _ (List.mem_of_getElem? (i := 216) rfl)) (by decide) hEL (argsL := [(.ref r), (.int (Int32.ofNat o)), (.ref l_), (.int (0 : Int32))]) (rest := []) (own_chk l Z a0 hw hEL n0 _ A.oldn r l_ o 0 cs ls zc hcs hcz fm hfm rfm Q Q' hs (by decide)) (W := 0) (by decide) (by decide) (by decide) (by decide) all0 all0 all0 (g := (mkF m 23 #[.val (.ref r), .val (.int (Int32.ofNat o)), .val (.ref l_)] [(.int (0 : Int32)), (.ref l_), (.int (Int32.ofNat o)), (.ref r)])) rfl (by rw [hml]; rfl) (lenOf opd26 rfl) rfl (by show 2 * 0 + _ ≤ _; exact Nat.le_of_eq rfl) (Jvm.hb hby d_m3_23)
  refine oSt st ?_
  have X := oExt0 K
  show oGo p e below _ (T.setTop (mkF m 26 #[.val (.ref r), .val (.int (Int32.ofNat o)), .val (.ref l_)] [(.int (1 : Int32))]))
  refine oSt (fun _ => XS.ifNo A.here hx rfl (Jvm.hb hby d_m3_26) rfl (Jvm.Free.XT.i0_eq_f (by decide))) ?_
  show oGo p e below _ (T.setTop (mkF m 29 #[.val (.ref r), .val (.int (Int32.ofNat o)), .val (.ref l_)] []))
  refine oSt (fun _ => XS.aloadN A.here hx rfl (Jvm.hb hby d_m3_29) rfl rfl) ?_
  show oGo p e below _ (T.setTop (mkF m 30 #[.val (.ref r), .val (.int (Int32.ofNat o)), .val (.ref l_)] [(.ref r)]))
  refine oSt (fun _ => XS.iloadN A.here hx rfl (Jvm.hb hby d_m3_30) rfl) ?_
  show oGo p e below _ (T.setTop (mkF m 31 #[.val (.ref r), .val (.int (Int32.ofNat o)), .val (.ref l_)] [(.int (Int32.ofNat o)), (.ref r)]))
  refine oSt (fun _ => XS.aloadN A.here hx rfl (Jvm.hb hby d_m3_31) rfl rfl) ?_
  show oGo p e below _ (T.setTop (mkF m 32 #[.val (.ref r), .val (.int (Int32.ofNat o)), .val (.ref l_)] [(.ref l_), (.int (Int32.ofNat o)), (.ref r)]))
  refine oSt (fun _ => XS.iconst A.here hx rfl (Jvm.hb hby d_m3_32)) ?_
  show oGo p e below _ (T.setTop (mkF m 33 #[.val (.ref r), .val (.int (Int32.ofNat o)), .val (.ref l_)] [(.int (1 : Int32)), (.ref l_), (.int (Int32.ofNat o)), (.ref r)]))
  obtain ⟨_, vm, T, h, L, A, K, CR, ⟨rfl, rfl⟩, st⟩ := A.callS hx (y := (⟨"com/example/stallwright/stallwright/store/CustomerToStringPinLaw", "ch", "(Ljava/lang/String;ILjava/lang/String;I)Z"⟩ : MethodName)) (hw _ (List.mem_of_getElem? (i := 214) rfl)) (hw _ (List.mem_of_getElem? (i := 215) rfl)) (hw _ (List.mem_of_getElem? (i := 28) rfl)) (hw _ (List.mem_of_getElem? (i := 216) rfl)) (by decide) hEL (argsL := [(.ref r), (.int (Int32.ofNat o)), (.ref l_), (.int (1 : Int32))]) (rest := []) (own_chk l Z a0 hw hEL n0 _ A.oldn r l_ o 1 cs ls zc hcs hcz fm hfm rfm Q Q' hs (by decide)) (W := 0) (by decide) (by decide) (by decide) (by decide) all0 all0 all0 (g := (mkF m 33 #[.val (.ref r), .val (.int (Int32.ofNat o)), .val (.ref l_)] [(.int (1 : Int32)), (.ref l_), (.int (Int32.ofNat o)), (.ref r)])) rfl (by rw [hml]; rfl) (lenOf opd26 rfl) rfl (by show 2 * 0 + _ ≤ _; exact Nat.le_of_eq rfl) (Jvm.hb hby d_m3_33)
  refine oSt st ?_
  have X := oExt0 K
  show oGo p e below _ (T.setTop (mkF m 36 #[.val (.ref r), .val (.int (Int32.ofNat o)), .val (.ref l_)] [(.int (1 : Int32))]))
  refine oSt (fun _ => XS.ifNo A.here hx rfl (Jvm.hb hby d_m3_36) rfl (Jvm.Free.XT.i0_eq_f (by decide))) ?_
  show oGo p e below _ (T.setTop (mkF m 39 #[.val (.ref r), .val (.int (Int32.ofNat o)), .val (.ref l_)] []))
  refine oSt (fun _ => XS.aloadN A.here hx rfl (Jvm.hb hby d_m3_39) rfl rfl) ?_
  show oGo p e below _ (T.setTop (mkF m 40 #[.val (.ref r), .val (.int (Int32.ofNat o)), .val (.ref l_)] [(.ref r)]))
  refine oSt (fun _ => XS.iloadN A.here hx rfl (Jvm.hb hby d_m3_40) rfl) ?_
  show oGo p e below _ (T.setTop (mkF m 41 #[.val (.ref r), .val (.int (Int32.ofNat o)), .val (.ref l_)] [(.int (Int32.ofNat o)), (.ref r)]))
  refine oSt (fun _ => XS.aloadN A.here hx rfl (Jvm.hb hby d_m3_41) rfl rfl) ?_
  show oGo p e below _ (T.setTop (mkF m 42 #[.val (.ref r), .val (.int (Int32.ofNat o)), .val (.ref l_)] [(.ref l_), (.int (Int32.ofNat o)), (.ref r)]))
  refine oSt (fun _ => XS.iconst A.here hx rfl (Jvm.hb hby d_m3_42)) ?_
  show oGo p e below _ (T.setTop (mkF m 43 #[.val (.ref r), .val (.int (Int32.ofNat o)), .val (.ref l_)] [(.int (2 : Int32)), (.ref l_), (.int (Int32.ofNat o)), (.ref r)]))
  obtain ⟨_, vm, T, h, L, A, K, CR, ⟨rfl, rfl⟩, st⟩ := A.callS hx (y := (⟨"com/example/stallwright/stallwright/store/CustomerToStringPinLaw", "ch", "(Ljava/lang/String;ILjava/lang/String;I)Z"⟩ : MethodName)) (hw _ (List.mem_of_getElem? (i := 214) rfl)) (hw _ (List.mem_of_getElem? (i := 215) rfl)) (hw _ (List.mem_of_getElem? (i := 28) rfl)) (hw _ (List.mem_of_getElem? (i := 216) rfl)) (by decide) hEL (argsL := [(.ref r), (.int (Int32.ofNat o)), (.ref l_), (.int (2 : Int32))]) (rest := []) (own_chk l Z a0 hw hEL n0 _ A.oldn r l_ o 2 cs ls zc hcs hcz fm hfm rfm Q Q' hs (by decide)) (W := 0) (by decide) (by decide) (by decide) (by decide) all0 all0 all0 (g := (mkF m 43 #[.val (.ref r), .val (.int (Int32.ofNat o)), .val (.ref l_)] [(.int (2 : Int32)), (.ref l_), (.int (Int32.ofNat o)), (.ref r)])) rfl (by rw [hml]; rfl) (lenOf opd26 rfl) rfl (by show 2 * 0 + _ ≤ _; exact Nat.le_of_eq rfl) (Jvm.hb hby d_m3_43)
  refine oSt st ?_
  have X := oExt0 K
  show oGo p e below _ (T.setTop (mkF m 46 #[.val (.ref r), .val (.int (Int32.ofNat o)), .val (.ref l_)] [(.int (1 : Int32))]))
  refine oSt (fun _ => XS.ifNo A.here hx rfl (Jvm.hb hby d_m3_46) rfl (Jvm.Free.XT.i0_eq_f (by decide))) ?_
  show oGo p e below _ (T.setTop (mkF m 49 #[.val (.ref r), .val (.int (Int32.ofNat o)), .val (.ref l_)] []))
  refine oSt (fun _ => XS.aloadN A.here hx rfl (Jvm.hb hby d_m3_49) rfl rfl) ?_
  show oGo p e below _ (T.setTop (mkF m 50 #[.val (.ref r), .val (.int (Int32.ofNat o)), .val (.ref l_)] [(.ref r)]))
  refine oSt (fun _ => XS.iloadN A.here hx rfl (Jvm.hb hby d_m3_50) rfl) ?_
  show oGo p e below _ (T.setTop (mkF m 51 #[.val (.ref r), .val (.int (Int32.ofNat o)), .val (.ref l_)] [(.int (Int32.ofNat o)), (.ref r)]))
  refine oSt (fun _ => XS.aloadN A.here hx rfl (Jvm.hb hby d_m3_51) rfl rfl) ?_
  show oGo p e below _ (T.setTop (mkF m 52 #[.val (.ref r), .val (.int (Int32.ofNat o)), .val (.ref l_)] [(.ref l_), (.int (Int32.ofNat o)), (.ref r)]))
  refine oSt (fun _ => XS.iconst A.here hx rfl (Jvm.hb hby d_m3_52)) ?_
  show oGo p e below _ (T.setTop (mkF m 53 #[.val (.ref r), .val (.int (Int32.ofNat o)), .val (.ref l_)] [(.int (3 : Int32)), (.ref l_), (.int (Int32.ofNat o)), (.ref r)]))
  obtain ⟨_, vm, T, h, L, A, K, CR, ⟨rfl, rfl⟩, st⟩ := A.callS hx (y := (⟨"com/example/stallwright/stallwright/store/CustomerToStringPinLaw", "ch", "(Ljava/lang/String;ILjava/lang/String;I)Z"⟩ : MethodName)) (hw _ (List.mem_of_getElem? (i := 214) rfl)) (hw _ (List.mem_of_getElem? (i := 215) rfl)) (hw _ (List.mem_of_getElem? (i := 28) rfl)) (hw _ (List.mem_of_getElem? (i := 216) rfl)) (by decide) hEL (argsL := [(.ref r), (.int (Int32.ofNat o)), (.ref l_), (.int (3 : Int32))]) (rest := []) (own_chk l Z a0 hw hEL n0 _ A.oldn r l_ o 3 cs ls zc hcs hcz fm hfm rfm Q Q' hs (by decide)) (W := 0) (by decide) (by decide) (by decide) (by decide) all0 all0 all0 (g := (mkF m 53 #[.val (.ref r), .val (.int (Int32.ofNat o)), .val (.ref l_)] [(.int (3 : Int32)), (.ref l_), (.int (Int32.ofNat o)), (.ref r)])) rfl (by rw [hml]; rfl) (lenOf opd26 rfl) rfl (by show 2 * 0 + _ ≤ _; exact Nat.le_of_eq rfl) (Jvm.hb hby d_m3_53)
  refine oSt st ?_
  have X := oExt0 K
  show oGo p e below _ (T.setTop (mkF m 56 #[.val (.ref r), .val (.int (Int32.ofNat o)), .val (.ref l_)] [(.int (1 : Int32))]))
  refine oSt (fun _ => XS.ifNo A.here hx rfl (Jvm.hb hby d_m3_56) rfl (Jvm.Free.XT.i0_eq_f (by decide))) ?_
  show oGo p e below _ (T.setTop (mkF m 59 #[.val (.ref r), .val (.int (Int32.ofNat o)), .val (.ref l_)] []))
  refine oSt (fun _ => XS.aloadN A.here hx rfl (Jvm.hb hby d_m3_59) rfl rfl) ?_
  show oGo p e below _ (T.setTop (mkF m 60 #[.val (.ref r), .val (.int (Int32.ofNat o)), .val (.ref l_)] [(.ref r)]))
  refine oSt (fun _ => XS.iloadN A.here hx rfl (Jvm.hb hby d_m3_60) rfl) ?_
  show oGo p e below _ (T.setTop (mkF m 61 #[.val (.ref r), .val (.int (Int32.ofNat o)), .val (.ref l_)] [(.int (Int32.ofNat o)), (.ref r)]))
  refine oSt (fun _ => XS.aloadN A.here hx rfl (Jvm.hb hby d_m3_61) rfl rfl) ?_
  show oGo p e below _ (T.setTop (mkF m 62 #[.val (.ref r), .val (.int (Int32.ofNat o)), .val (.ref l_)] [(.ref l_), (.int (Int32.ofNat o)), (.ref r)]))
  refine oSt (fun _ => XS.iconst A.here hx rfl (Jvm.hb hby d_m3_62)) ?_
  show oGo p e below _ (T.setTop (mkF m 63 #[.val (.ref r), .val (.int (Int32.ofNat o)), .val (.ref l_)] [(.int (4 : Int32)), (.ref l_), (.int (Int32.ofNat o)), (.ref r)]))
  obtain ⟨_, vm, T, h, L, A, K, CR, ⟨rfl, rfl⟩, st⟩ := A.callS hx (y := (⟨"com/example/stallwright/stallwright/store/CustomerToStringPinLaw", "ch", "(Ljava/lang/String;ILjava/lang/String;I)Z"⟩ : MethodName)) (hw _ (List.mem_of_getElem? (i := 214) rfl)) (hw _ (List.mem_of_getElem? (i := 215) rfl)) (hw _ (List.mem_of_getElem? (i := 28) rfl)) (hw _ (List.mem_of_getElem? (i := 216) rfl)) (by decide) hEL (argsL := [(.ref r), (.int (Int32.ofNat o)), (.ref l_), (.int (4 : Int32))]) (rest := []) (own_chk l Z a0 hw hEL n0 _ A.oldn r l_ o 4 cs ls zc hcs hcz fm hfm rfm Q Q' hs (by decide)) (W := 0) (by decide) (by decide) (by decide) (by decide) all0 all0 all0 (g := (mkF m 63 #[.val (.ref r), .val (.int (Int32.ofNat o)), .val (.ref l_)] [(.int (4 : Int32)), (.ref l_), (.int (Int32.ofNat o)), (.ref r)])) rfl (by rw [hml]; rfl) (lenOf opd26 rfl) rfl (by show 2 * 0 + _ ≤ _; exact Nat.le_of_eq rfl) (Jvm.hb hby d_m3_63)
  refine oSt st ?_
  have X := oExt0 K
  show oGo p e below _ (T.setTop (mkF m 66 #[.val (.ref r), .val (.int (Int32.ofNat o)), .val (.ref l_)] [(.int (1 : Int32))]))
  refine oSt (fun _ => XS.ifNo A.here hx rfl (Jvm.hb hby d_m3_66) rfl (Jvm.Free.XT.i0_eq_f (by decide))) ?_
  show oGo p e below _ (T.setTop (mkF m 69 #[.val (.ref r), .val (.int (Int32.ofNat o)), .val (.ref l_)] []))
  refine oSt (fun _ => XS.aloadN A.here hx rfl (Jvm.hb hby d_m3_69) rfl rfl) ?_
  show oGo p e below _ (T.setTop (mkF m 70 #[.val (.ref r), .val (.int (Int32.ofNat o)), .val (.ref l_)] [(.ref r)]))
  refine oSt (fun _ => XS.iloadN A.here hx rfl (Jvm.hb hby d_m3_70) rfl) ?_
  show oGo p e below _ (T.setTop (mkF m 71 #[.val (.ref r), .val (.int (Int32.ofNat o)), .val (.ref l_)] [(.int (Int32.ofNat o)), (.ref r)]))
  refine oSt (fun _ => XS.aloadN A.here hx rfl (Jvm.hb hby d_m3_71) rfl rfl) ?_
  show oGo p e below _ (T.setTop (mkF m 72 #[.val (.ref r), .val (.int (Int32.ofNat o)), .val (.ref l_)] [(.ref l_), (.int (Int32.ofNat o)), (.ref r)]))
  refine oSt (fun _ => XS.iconst A.here hx rfl (Jvm.hb hby d_m3_72)) ?_
  show oGo p e below _ (T.setTop (mkF m 73 #[.val (.ref r), .val (.int (Int32.ofNat o)), .val (.ref l_)] [(.int (5 : Int32)), (.ref l_), (.int (Int32.ofNat o)), (.ref r)]))
  obtain ⟨_, vm, T, h, L, A, K, CR, ⟨rfl, rfl⟩, st⟩ := A.callS hx (y := (⟨"com/example/stallwright/stallwright/store/CustomerToStringPinLaw", "ch", "(Ljava/lang/String;ILjava/lang/String;I)Z"⟩ : MethodName)) (hw _ (List.mem_of_getElem? (i := 214) rfl)) (hw _ (List.mem_of_getElem? (i := 215) rfl)) (hw _ (List.mem_of_getElem? (i := 28) rfl)) (hw _ (List.mem_of_getElem? (i := 216) rfl)) (by decide) hEL (argsL := [(.ref r), (.int (Int32.ofNat o)), (.ref l_), (.int (5 : Int32))]) (rest := []) (own_chk l Z a0 hw hEL n0 _ A.oldn r l_ o 5 cs ls zc hcs hcz fm hfm rfm Q Q' hs (by decide)) (W := 0) (by decide) (by decide) (by decide) (by decide) all0 all0 all0 (g := (mkF m 73 #[.val (.ref r), .val (.int (Int32.ofNat o)), .val (.ref l_)] [(.int (5 : Int32)), (.ref l_), (.int (Int32.ofNat o)), (.ref r)])) rfl (by rw [hml]; rfl) (lenOf opd26 rfl) rfl (by show 2 * 0 + _ ≤ _; exact Nat.le_of_eq rfl) (Jvm.hb hby d_m3_73)
  refine oSt st ?_
  have X := oExt0 K
  show oGo p e below _ (T.setTop (mkF m 76 #[.val (.ref r), .val (.int (Int32.ofNat o)), .val (.ref l_)] [(.int (1 : Int32))]))
  refine oSt (fun _ => XS.ifNo A.here hx rfl (Jvm.hb hby d_m3_76) rfl (Jvm.Free.XT.i0_eq_f (by decide))) ?_
  show oGo p e below _ (T.setTop (mkF m 79 #[.val (.ref r), .val (.int (Int32.ofNat o)), .val (.ref l_)] []))
  refine oSt (fun _ => XS.aloadN A.here hx rfl (Jvm.hb hby d_m3_79) rfl rfl) ?_
  show oGo p e below _ (T.setTop (mkF m 80 #[.val (.ref r), .val (.int (Int32.ofNat o)), .val (.ref l_)] [(.ref r)]))
  refine oSt (fun _ => XS.iloadN A.here hx rfl (Jvm.hb hby d_m3_80) rfl) ?_
  show oGo p e below _ (T.setTop (mkF m 81 #[.val (.ref r), .val (.int (Int32.ofNat o)), .val (.ref l_)] [(.int (Int32.ofNat o)), (.ref r)]))
  refine oSt (fun _ => XS.aloadN A.here hx rfl (Jvm.hb hby d_m3_81) rfl rfl) ?_
  show oGo p e below _ (T.setTop (mkF m 82 #[.val (.ref r), .val (.int (Int32.ofNat o)), .val (.ref l_)] [(.ref l_), (.int (Int32.ofNat o)), (.ref r)]))
  refine oSt (fun _ => XS.bipush A.here hx rfl (Jvm.hb hby d_m3_82)) ?_
  show oGo p e below _ (T.setTop (mkF m 84 #[.val (.ref r), .val (.int (Int32.ofNat o)), .val (.ref l_)] [(.int (6 : Int32)), (.ref l_), (.int (Int32.ofNat o)), (.ref r)]))
  obtain ⟨_, vm, T, h, L, A, K, CR, ⟨rfl, rfl⟩, st⟩ := A.callS hx (y := (⟨"com/example/stallwright/stallwright/store/CustomerToStringPinLaw", "ch", "(Ljava/lang/String;ILjava/lang/String;I)Z"⟩ : MethodName)) (hw _ (List.mem_of_getElem? (i := 214) rfl)) (hw _ (List.mem_of_getElem? (i := 215) rfl)) (hw _ (List.mem_of_getElem? (i := 28) rfl)) (hw _ (List.mem_of_getElem? (i := 216) rfl)) (by decide) hEL (argsL := [(.ref r), (.int (Int32.ofNat o)), (.ref l_), (.int (6 : Int32))]) (rest := []) (own_chk l Z a0 hw hEL n0 _ A.oldn r l_ o 6 cs ls zc hcs hcz fm hfm rfm Q Q' hs (by decide)) (W := 0) (by decide) (by decide) (by decide) (by decide) all0 all0 all0 (g := (mkF m 84 #[.val (.ref r), .val (.int (Int32.ofNat o)), .val (.ref l_)] [(.int (6 : Int32)), (.ref l_), (.int (Int32.ofNat o)), (.ref r)])) rfl (by rw [hml]; rfl) (lenOf opd26 rfl) rfl (by show 2 * 0 + _ ≤ _; exact Nat.le_of_eq rfl) (Jvm.hb hby d_m3_84)
  refine oSt st ?_
  have X := oExt0 K
  show oGo p e below _ (T.setTop (mkF m 87 #[.val (.ref r), .val (.int (Int32.ofNat o)), .val (.ref l_)] [(.int (1 : Int32))]))
  refine oSt (fun _ => XS.ifNo A.here hx rfl (Jvm.hb hby d_m3_87) rfl (Jvm.Free.XT.i0_eq_f (by decide))) ?_
  show oGo p e below _ (T.setTop (mkF m 90 #[.val (.ref r), .val (.int (Int32.ofNat o)), .val (.ref l_)] []))
  refine oSt (fun _ => XS.aloadN A.here hx rfl (Jvm.hb hby d_m3_90) rfl rfl) ?_
  show oGo p e below _ (T.setTop (mkF m 91 #[.val (.ref r), .val (.int (Int32.ofNat o)), .val (.ref l_)] [(.ref r)]))
  refine oSt (fun _ => XS.iloadN A.here hx rfl (Jvm.hb hby d_m3_91) rfl) ?_
  show oGo p e below _ (T.setTop (mkF m 92 #[.val (.ref r), .val (.int (Int32.ofNat o)), .val (.ref l_)] [(.int (Int32.ofNat o)), (.ref r)]))
  refine oSt (fun _ => XS.aloadN A.here hx rfl (Jvm.hb hby d_m3_92) rfl rfl) ?_
  show oGo p e below _ (T.setTop (mkF m 93 #[.val (.ref r), .val (.int (Int32.ofNat o)), .val (.ref l_)] [(.ref l_), (.int (Int32.ofNat o)), (.ref r)]))
  refine oSt (fun _ => XS.bipush A.here hx rfl (Jvm.hb hby d_m3_93)) ?_
  show oGo p e below _ (T.setTop (mkF m 95 #[.val (.ref r), .val (.int (Int32.ofNat o)), .val (.ref l_)] [(.int (7 : Int32)), (.ref l_), (.int (Int32.ofNat o)), (.ref r)]))
  obtain ⟨_, vm, T, h, L, A, K, CR, ⟨rfl, rfl⟩, st⟩ := A.callS hx (y := (⟨"com/example/stallwright/stallwright/store/CustomerToStringPinLaw", "ch", "(Ljava/lang/String;ILjava/lang/String;I)Z"⟩ : MethodName)) (hw _ (List.mem_of_getElem? (i := 214) rfl)) (hw _ (List.mem_of_getElem? (i := 215) rfl)) (hw _ (List.mem_of_getElem? (i := 28) rfl)) (hw _ (List.mem_of_getElem? (i := 216) rfl)) (by decide) hEL (argsL := [(.ref r), (.int (Int32.ofNat o)), (.ref l_), (.int (7 : Int32))]) (rest := []) (own_chk l Z a0 hw hEL n0 _ A.oldn r l_ o 7 cs ls zc hcs hcz fm hfm rfm Q Q' hs (by decide)) (W := 0) (by decide) (by decide) (by decide) (by decide) all0 all0 all0 (g := (mkF m 95 #[.val (.ref r), .val (.int (Int32.ofNat o)), .val (.ref l_)] [(.int (7 : Int32)), (.ref l_), (.int (Int32.ofNat o)), (.ref r)])) rfl (by rw [hml]; rfl) (lenOf opd26 rfl) rfl (by show 2 * 0 + _ ≤ _; exact Nat.le_of_eq rfl) (Jvm.hb hby d_m3_95)
  refine oSt st ?_
  have X := oExt0 K
  show oGo p e below _ (T.setTop (mkF m 98 #[.val (.ref r), .val (.int (Int32.ofNat o)), .val (.ref l_)] [(.int (1 : Int32))]))
  refine oSt (fun _ => XS.ifNo A.here hx rfl (Jvm.hb hby d_m3_98) rfl (Jvm.Free.XT.i0_eq_f (by decide))) ?_
  show oGo p e below _ (T.setTop (mkF m 101 #[.val (.ref r), .val (.int (Int32.ofNat o)), .val (.ref l_)] []))
  refine oSt (fun _ => XS.aloadN A.here hx rfl (Jvm.hb hby d_m3_101) rfl rfl) ?_
  show oGo p e below _ (T.setTop (mkF m 102 #[.val (.ref r), .val (.int (Int32.ofNat o)), .val (.ref l_)] [(.ref r)]))
  refine oSt (fun _ => XS.iloadN A.here hx rfl (Jvm.hb hby d_m3_102) rfl) ?_
  show oGo p e below _ (T.setTop (mkF m 103 #[.val (.ref r), .val (.int (Int32.ofNat o)), .val (.ref l_)] [(.int (Int32.ofNat o)), (.ref r)]))
  refine oSt (fun _ => XS.aloadN A.here hx rfl (Jvm.hb hby d_m3_103) rfl rfl) ?_
  show oGo p e below _ (T.setTop (mkF m 104 #[.val (.ref r), .val (.int (Int32.ofNat o)), .val (.ref l_)] [(.ref l_), (.int (Int32.ofNat o)), (.ref r)]))
  refine oSt (fun _ => XS.bipush A.here hx rfl (Jvm.hb hby d_m3_104)) ?_
  show oGo p e below _ (T.setTop (mkF m 106 #[.val (.ref r), .val (.int (Int32.ofNat o)), .val (.ref l_)] [(.int (8 : Int32)), (.ref l_), (.int (Int32.ofNat o)), (.ref r)]))
  obtain ⟨_, vm, T, h, L, A, K, CR, ⟨rfl, rfl⟩, st⟩ := A.callS hx (y := (⟨"com/example/stallwright/stallwright/store/CustomerToStringPinLaw", "ch", "(Ljava/lang/String;ILjava/lang/String;I)Z"⟩ : MethodName)) (hw _ (List.mem_of_getElem? (i := 214) rfl)) (hw _ (List.mem_of_getElem? (i := 215) rfl)) (hw _ (List.mem_of_getElem? (i := 28) rfl)) (hw _ (List.mem_of_getElem? (i := 216) rfl)) (by decide) hEL (argsL := [(.ref r), (.int (Int32.ofNat o)), (.ref l_), (.int (8 : Int32))]) (rest := []) (own_chk l Z a0 hw hEL n0 _ A.oldn r l_ o 8 cs ls zc hcs hcz fm hfm rfm Q Q' hs (by decide)) (W := 0) (by decide) (by decide) (by decide) (by decide) all0 all0 all0 (g := (mkF m 106 #[.val (.ref r), .val (.int (Int32.ofNat o)), .val (.ref l_)] [(.int (8 : Int32)), (.ref l_), (.int (Int32.ofNat o)), (.ref r)])) rfl (by rw [hml]; rfl) (lenOf opd26 rfl) rfl (by show 2 * 0 + _ ≤ _; exact Nat.le_of_eq rfl) (Jvm.hb hby d_m3_106)
  refine oSt st ?_
  have X := oExt0 K
  show oGo p e below _ (T.setTop (mkF m 109 #[.val (.ref r), .val (.int (Int32.ofNat o)), .val (.ref l_)] [(.int (1 : Int32))]))
  refine oSt (fun _ => XS.ifNo A.here hx rfl (Jvm.hb hby d_m3_109) rfl (Jvm.Free.XT.i0_eq_f (by decide))) ?_
  show oGo p e below _ (T.setTop (mkF m 112 #[.val (.ref r), .val (.int (Int32.ofNat o)), .val (.ref l_)] []))
  refine oSt (fun _ => XS.aloadN A.here hx rfl (Jvm.hb hby d_m3_112) rfl rfl) ?_
  show oGo p e below _ (T.setTop (mkF m 113 #[.val (.ref r), .val (.int (Int32.ofNat o)), .val (.ref l_)] [(.ref r)]))
  refine oSt (fun _ => XS.iloadN A.here hx rfl (Jvm.hb hby d_m3_113) rfl) ?_
  show oGo p e below _ (T.setTop (mkF m 114 #[.val (.ref r), .val (.int (Int32.ofNat o)), .val (.ref l_)] [(.int (Int32.ofNat o)), (.ref r)]))
  refine oSt (fun _ => XS.aloadN A.here hx rfl (Jvm.hb hby d_m3_114) rfl rfl) ?_
  show oGo p e below _ (T.setTop (mkF m 115 #[.val (.ref r), .val (.int (Int32.ofNat o)), .val (.ref l_)] [(.ref l_), (.int (Int32.ofNat o)), (.ref r)]))
  refine oSt (fun _ => XS.bipush A.here hx rfl (Jvm.hb hby d_m3_115)) ?_
  show oGo p e below _ (T.setTop (mkF m 117 #[.val (.ref r), .val (.int (Int32.ofNat o)), .val (.ref l_)] [(.int (9 : Int32)), (.ref l_), (.int (Int32.ofNat o)), (.ref r)]))
  obtain ⟨_, vm, T, h, L, A, K, CR, ⟨rfl, rfl⟩, st⟩ := A.callS hx (y := (⟨"com/example/stallwright/stallwright/store/CustomerToStringPinLaw", "ch", "(Ljava/lang/String;ILjava/lang/String;I)Z"⟩ : MethodName)) (hw _ (List.mem_of_getElem? (i := 214) rfl)) (hw _ (List.mem_of_getElem? (i := 215) rfl)) (hw _ (List.mem_of_getElem? (i := 28) rfl)) (hw _ (List.mem_of_getElem? (i := 216) rfl)) (by decide) hEL (argsL := [(.ref r), (.int (Int32.ofNat o)), (.ref l_), (.int (9 : Int32))]) (rest := []) (own_chk l Z a0 hw hEL n0 _ A.oldn r l_ o 9 cs ls zc hcs hcz fm hfm rfm Q Q' hs (by decide)) (W := 0) (by decide) (by decide) (by decide) (by decide) all0 all0 all0 (g := (mkF m 117 #[.val (.ref r), .val (.int (Int32.ofNat o)), .val (.ref l_)] [(.int (9 : Int32)), (.ref l_), (.int (Int32.ofNat o)), (.ref r)])) rfl (by rw [hml]; rfl) (lenOf opd26 rfl) rfl (by show 2 * 0 + _ ≤ _; exact Nat.le_of_eq rfl) (Jvm.hb hby d_m3_117)
  refine oSt st ?_
  have X := oExt0 K
  show oGo p e below _ (T.setTop (mkF m 120 #[.val (.ref r), .val (.int (Int32.ofNat o)), .val (.ref l_)] [(.int (1 : Int32))]))
  refine oSt (fun _ => XS.ifNo A.here hx rfl (Jvm.hb hby d_m3_120) rfl (Jvm.Free.XT.i0_eq_f (by decide))) ?_
  show oGo p e below _ (T.setTop (mkF m 123 #[.val (.ref r), .val (.int (Int32.ofNat o)), .val (.ref l_)] []))
  refine oSt (fun _ => XS.aloadN A.here hx rfl (Jvm.hb hby d_m3_123) rfl rfl) ?_
  show oGo p e below _ (T.setTop (mkF m 124 #[.val (.ref r), .val (.int (Int32.ofNat o)), .val (.ref l_)] [(.ref r)]))
  refine oSt (fun _ => XS.iloadN A.here hx rfl (Jvm.hb hby d_m3_124) rfl) ?_
  show oGo p e below _ (T.setTop (mkF m 125 #[.val (.ref r), .val (.int (Int32.ofNat o)), .val (.ref l_)] [(.int (Int32.ofNat o)), (.ref r)]))
  refine oSt (fun _ => XS.aloadN A.here hx rfl (Jvm.hb hby d_m3_125) rfl rfl) ?_
  show oGo p e below _ (T.setTop (mkF m 126 #[.val (.ref r), .val (.int (Int32.ofNat o)), .val (.ref l_)] [(.ref l_), (.int (Int32.ofNat o)), (.ref r)]))
  refine oSt (fun _ => XS.bipush A.here hx rfl (Jvm.hb hby d_m3_126)) ?_
  show oGo p e below _ (T.setTop (mkF m 128 #[.val (.ref r), .val (.int (Int32.ofNat o)), .val (.ref l_)] [(.int (10 : Int32)), (.ref l_), (.int (Int32.ofNat o)), (.ref r)]))
  obtain ⟨_, vm, T, h, L, A, K, CR, ⟨rfl, rfl⟩, st⟩ := A.callS hx (y := (⟨"com/example/stallwright/stallwright/store/CustomerToStringPinLaw", "ch", "(Ljava/lang/String;ILjava/lang/String;I)Z"⟩ : MethodName)) (hw _ (List.mem_of_getElem? (i := 214) rfl)) (hw _ (List.mem_of_getElem? (i := 215) rfl)) (hw _ (List.mem_of_getElem? (i := 28) rfl)) (hw _ (List.mem_of_getElem? (i := 216) rfl)) (by decide) hEL (argsL := [(.ref r), (.int (Int32.ofNat o)), (.ref l_), (.int (10 : Int32))]) (rest := []) (own_chk l Z a0 hw hEL n0 _ A.oldn r l_ o 10 cs ls zc hcs hcz fm hfm rfm Q Q' hs (by decide)) (W := 0) (by decide) (by decide) (by decide) (by decide) all0 all0 all0 (g := (mkF m 128 #[.val (.ref r), .val (.int (Int32.ofNat o)), .val (.ref l_)] [(.int (10 : Int32)), (.ref l_), (.int (Int32.ofNat o)), (.ref r)])) rfl (by rw [hml]; rfl) (lenOf opd26 rfl) rfl (by show 2 * 0 + _ ≤ _; exact Nat.le_of_eq rfl) (Jvm.hb hby d_m3_128)
  refine oSt st ?_
  have X := oExt0 K
  show oGo p e below _ (T.setTop (mkF m 131 #[.val (.ref r), .val (.int (Int32.ofNat o)), .val (.ref l_)] [(.int (1 : Int32))]))
  refine oSt (fun _ => XS.ifNo A.here hx rfl (Jvm.hb hby d_m3_131) rfl (Jvm.Free.XT.i0_eq_f (by decide))) ?_
  show oGo p e below _ (T.setTop (mkF m 134 #[.val (.ref r), .val (.int (Int32.ofNat o)), .val (.ref l_)] []))
  refine oSt (fun _ => XS.aloadN A.here hx rfl (Jvm.hb hby d_m3_134) rfl rfl) ?_
  show oGo p e below _ (T.setTop (mkF m 135 #[.val (.ref r), .val (.int (Int32.ofNat o)), .val (.ref l_)] [(.ref r)]))
  refine oSt (fun _ => XS.iloadN A.here hx rfl (Jvm.hb hby d_m3_135) rfl) ?_
  show oGo p e below _ (T.setTop (mkF m 136 #[.val (.ref r), .val (.int (Int32.ofNat o)), .val (.ref l_)] [(.int (Int32.ofNat o)), (.ref r)]))
  refine oSt (fun _ => XS.aloadN A.here hx rfl (Jvm.hb hby d_m3_136) rfl rfl) ?_
  show oGo p e below _ (T.setTop (mkF m 137 #[.val (.ref r), .val (.int (Int32.ofNat o)), .val (.ref l_)] [(.ref l_), (.int (Int32.ofNat o)), (.ref r)]))
  refine oSt (fun _ => XS.bipush A.here hx rfl (Jvm.hb hby d_m3_137)) ?_
  show oGo p e below _ (T.setTop (mkF m 139 #[.val (.ref r), .val (.int (Int32.ofNat o)), .val (.ref l_)] [(.int (11 : Int32)), (.ref l_), (.int (Int32.ofNat o)), (.ref r)]))
  obtain ⟨_, vm, T, h, L, A, K, CR, ⟨rfl, rfl⟩, st⟩ := A.callS hx (y := (⟨"com/example/stallwright/stallwright/store/CustomerToStringPinLaw", "ch", "(Ljava/lang/String;ILjava/lang/String;I)Z"⟩ : MethodName)) (hw _ (List.mem_of_getElem? (i := 214) rfl)) (hw _ (List.mem_of_getElem? (i := 215) rfl)) (hw _ (List.mem_of_getElem? (i := 28) rfl)) (hw _ (List.mem_of_getElem? (i := 216) rfl)) (by decide) hEL (argsL := [(.ref r), (.int (Int32.ofNat o)), (.ref l_), (.int (11 : Int32))]) (rest := []) (own_chk l Z a0 hw hEL n0 _ A.oldn r l_ o 11 cs ls zc hcs hcz fm hfm rfm Q Q' hs (by decide)) (W := 0) (by decide) (by decide) (by decide) (by decide) all0 all0 all0 (g := (mkF m 139 #[.val (.ref r), .val (.int (Int32.ofNat o)), .val (.ref l_)] [(.int (11 : Int32)), (.ref l_), (.int (Int32.ofNat o)), (.ref r)])) rfl (by rw [hml]; rfl) (lenOf opd26 rfl) rfl (by show 2 * 0 + _ ≤ _; exact Nat.le_of_eq rfl) (Jvm.hb hby d_m3_139)
  refine oSt st ?_
  have X := oExt0 K
  show oGo p e below _ (T.setTop (mkF m 142 #[.val (.ref r), .val (.int (Int32.ofNat o)), .val (.ref l_)] [(.int (1 : Int32))]))
  refine oSt (fun _ => XS.ifNo A.here hx rfl (Jvm.hb hby d_m3_142) rfl (Jvm.Free.XT.i0_eq_f (by decide))) ?_
  show oGo p e below _ (T.setTop (mkF m 145 #[.val (.ref r), .val (.int (Int32.ofNat o)), .val (.ref l_)] []))
  refine oSt (fun _ => XS.iconst A.here hx rfl (Jvm.hb hby d_m3_145)) ?_
  show oGo p e below _ (T.setTop (mkF m 146 #[.val (.ref r), .val (.int (Int32.ofNat o)), .val (.ref l_)] [(.int (1 : Int32))]))
  refine oSt (fun _ => XS.goto A.here hx rfl (pc0 := 146) (pc' := 150) rfl (Jvm.hb hby d_m3_146) (by decide) (by decide)) ?_
  show oGo p e below _ (T.setTop (mkF m 150 #[.val (.ref r), .val (.int (Int32.ofNat o)), .val (.ref l_)] [(.int (1 : Int32))]))
  exact A.leave hlk hEL (v := some (.int (1 : Int32))) (fun h => by rw [hret] at h; cases h) (fun _ _ => ⟨rfl, rfl⟩) (by decide) (by decide) (fun fs hr => retN A.1 hx (t := .boolean) hret (by simp) (Jvm.hb hby d_m3_150) hr)
theorem own_Wg {v : Value} {w : List Int32} (h : own_W v w) (q : ¬ w = ([110, 111, 110, 101] : List Int32)) : w = ([103, 105, 118, 101, 110] : List Int32) := by
  rcases h with ⟨-, e⟩ | ⟨a, -, e⟩
  · exact absurd e q
  · exact e
theorem opd27 : parseMethodDescriptor "(Ljava/lang/String;ILjava/lang/String;)Z" = some ⟨[(.object "java/lang/String"), .int, (.object "java/lang/String")], some .boolean⟩ := by decide +kernel
theorem opd28 : parseMethodDescriptor "(C)Ljava/lang/String;" = some ⟨[.char], some (.object "java/lang/String")⟩ := by decide +kernel
theorem opd29 : parseMethodDescriptor "(IZZ)Ljava/lang/String;" = some ⟨[.int, .boolean, .boolean], some (.object "java/lang/String")⟩ := by decide +kernel
theorem opd30 : parseMethodDescriptor "(Ljava/lang/String;Ljava/lang/String;Ljava/lang/String;Ljava/lang/String;)V" = some ⟨[(.object "java/lang/String"), (.object "java/lang/String"), (.object "java/lang/String"), (.object "java/lang/String")], none⟩ := by decide +kernel
theorem opn_own_law : plainFor x = true := plainFor_of_name (by first | (simp [plainName, overriddenIn, x]; done) | decide +kernel)
set_option maxRecDepth 65536 in
set_option maxHeartbeats 40000000 in
theorem own_law (l : Launch) (Z : State) (a0 : Array Value) (hw : ∀ d ∈ tables_1, d.before a0 Z = true) (hEL : EW Z a0 consts_1) (n0 : Nat) (h : Heap) (hO : Old Z n0 h) (i0 i1 i2 i3 i4 : Int32) (zc : Int32) (hcs : Sta Z Z.heap "java/lang/String" "COMPACT_STRINGS" "Z" (.int zc)) (hcz : ¬ zc = 0) (fm : Value) (hfm : Sta Z Z.heap "jdk/internal/util/Preconditions" "SIOOBE_FORMATTER" "Ljava/util/function/BiFunction;" fm) (rfm : fm.isRef = true) :
    oMet l Z consts_1 n0 x code maxLocals ret tables_1 room_1 #[(.int i0), (.int i1), (.int i2), (.int i3), (.int i4)] h [] (fun v _ h => v = some (.int 1)) := by
  refine oMet.of opn_own_law hO ?_
  intro p e s m below meth c T hx hby hml hret hnm hlk hh hsf A
  have hml : c.maxLocals = 23 := hml
  refine oCast (g' := mkF m 0 #[.val (.int i0), .val (.int i1), .val (.int i2), .val (.int i3), .val (.int i4), .unset, .unset, .unset, .unset, .unset, .unset, .unset, .unset, .unset, .unset, .unset, .unset, .unset, .unset, .unset, .unset, .unset, .unset] []) (by first | (simp [entryFrame, mkF, argsToLocals, Value.category, maxLocals]; done) | rfl) ?_
  have hln : ∀ d ∈ StrChars.Road.wordsLen, d.before a0 Z = true := fun d hd => hw d ((by decide +kernel : ∀ d ∈ StrChars.Road.wordsLen, d ∈ tables_1) d hd)
  have hch : ∀ d ∈ StrChars.Road.wordsChN, d.before a0 Z = true := fun d hd => hw d ((by decide +kernel : ∀ d ∈ StrChars.Road.wordsChN, d ∈ tables_1) d hd)
  have hlit : ∀ d ∈ Bundle.stringAtoms, d.before a0 Z = true := fun d hd => hw d ((by decide +kernel : ∀ d ∈ Bundle.stringAtoms, d ∈ tables_1) d hd)
  show oGo p e below _ (T.setTop (mkF m 0 #[.val (.int i0), .val (.int i1), .val (.int i2), .val (.int i3), .val (.int i4), .unset, .unset, .unset, .unset, .unset, .unset, .unset, .unset, .unset, .unset, .unset, .unset, .unset, .unset, .unset, .unset, .unset, .unset] []))
  refine oSt (fun _ => XS.iloadN A.here hx rfl (Jvm.hb hby at_0) rfl) ?_
  show oGo p e below _ (T.setTop (mkF m 1 #[.val (.int i0), .val (.int i1), .val (.int i2), .val (.int i3), .val (.int i4), .unset, .unset, .unset, .unset, .unset, .unset, .unset, .unset, .unset, .unset, .unset, .unset, .unset, .unset, .unset, .unset, .unset, .unset] [(.int i0)]))
  refine oSt (fun _ => XS.sipush A.here hx rfl (Jvm.hb hby at_1)) ?_
  show oGo p e below _ (T.setTop (mkF m 4 #[.val (.int i0), .val (.int i1), .val (.int i2), .val (.int i3), .val (.int i4), .unset, .unset, .unset, .unset, .unset, .unset, .unset, .unset, .unset, .unset, .unset, .unset, .unset, .unset, .unset, .unset, .unset, .unset] [(.int (255 : Int32)), (.int i0)]))
  refine oSt (fun _ => XS.iand A.here hx rfl (Jvm.hb hby at_4) rfl) ?_
  show oGo p e below _ (T.setTop (mkF m 5 #[.val (.int i0), .val (.int i1), .val (.int i2), .val (.int i3), .val (.int i4), .unset, .unset, .unset, .unset, .unset, .unset, .unset, .unset, .unset, .unset, .unset, .unset, .unset, .unset, .unset, .unset, .unset, .unset] [(.int (i0 &&& (255 : Int32)))]))
  refine oSt (fun _ => XS.i2c A.here hx rfl (Jvm.hb hby at_5) rfl) ?_
  show oGo p e below _ (T.setTop (mkF m 6 #[.val (.int i0), .val (.int i1), .val (.int i2), .val (.int i3), .val (.int i4), .unset, .unset, .unset, .unset, .unset, .unset, .unset, .unset, .unset, .unset, .unset, .unset, .unset, .unset, .unset, .unset, .unset, .unset] [(.int ((i0 &&& (255 : Int32)).toUInt32.toUInt16.toUInt32.toInt32))]))
  refine oSt (fun _ => XS.istore A.here hx rfl (Jvm.hb hby at_6) rfl (l' := #[.val (.int i0), .val (.int i1), .val (.int i2), .val (.int i3), .val (.int i4), .val (.int ((i0 &&& (255 : Int32)).toUInt32.toUInt16.toUInt32.toInt32)), .unset, .unset, .unset, .unset, .unset, .unset, .unset, .unset, .unset, .unset, .unset, .unset, .unset, .unset, .unset, .unset, .unset]) rfl) ?_
  show oGo p e below _ (T.setTop (mkF m 8 #[.val (.int i0), .val (.int i1), .val (.int i2), .val (.int i3), .val (.int i4), .val (.int ((i0 &&& (255 : Int32)).toUInt32.toUInt16.toUInt32.toInt32)), .unset, .unset, .unset, .unset, .unset, .unset, .unset, .unset, .unset, .unset, .unset, .unset, .unset, .unset, .unset, .unset, .unset] []))
  refine oSt (fun _ => XS.iloadN A.here hx rfl (Jvm.hb hby at_8) rfl) ?_
  show oGo p e below _ (T.setTop (mkF m 9 #[.val (.int i0), .val (.int i1), .val (.int i2), .val (.int i3), .val (.int i4), .val (.int ((i0 &&& (255 : Int32)).toUInt32.toUInt16.toUInt32.toInt32)), .unset, .unset, .unset, .unset, .unset, .unset, .unset, .unset, .unset, .unset, .unset, .unset, .unset, .unset, .unset, .unset, .unset] [(.int i1)]))
  refine oSt (fun _ => XS.sipush A.here hx rfl (Jvm.hb hby at_9)) ?_
  show oGo p e below _ (T.setTop (mkF m 12 #[.val (.int i0), .val (.int i1), .val (.int i2), .val (.int i3), .val (.int i4), .val (.int ((i0 &&& (255 : Int32)).toUInt32.toUInt16.toUInt32.toInt32)), .unset, .unset, .unset, .unset, .unset, .unset, .unset, .unset, .unset, .unset, .unset, .unset, .unset, .unset, .unset, .unset, .unset] [(.int (255 : Int32)), (.int i1)]))
  refine oSt (fun _ => XS.iand A.here hx rfl (Jvm.hb hby at_12) rfl) ?_
  show oGo p e below _ (T.setTop (mkF m 13 #[.val (.int i0), .val (.int i1), .val (.int i2), .val (.int i3), .val (.int i4), .val (.int ((i0 &&& (255 : Int32)).toUInt32.toUInt16.toUInt32.toInt32)), .unset, .unset, .unset, .unset, .unset, .unset, .unset, .unset, .unset, .unset, .unset, .unset, .unset, .unset, .unset, .unset, .unset] [(.int (i1 &&& (255 : Int32)))]))
  refine oSt (fun _ => XS.i2c A.here hx rfl (Jvm.hb hby at_13) rfl) ?_
  show oGo p e below _ (T.setTop (mkF m 14 #[.val (.int i0), .val (.int i1), .val (.int i2), .val (.int i3), .val (.int i4), .val (.int ((i0 &&& (255 : Int32)).toUInt32.toUInt16.toUInt32.toInt32)), .unset, .unset, .unset, .unset, .unset, .unset, .unset, .unset, .unset, .unset, .unset, .unset, .unset, .unset, .unset, .unset, .unset] [(.int ((i1 &&& (255 : Int32)).toUInt32.toUInt16.toUInt32.toInt32))]))
  refine oSt (fun _ => XS.istore A.here hx rfl (Jvm.hb hby at_14) rfl (l' := #[.val (.int i0), .val (.int i1), .val (.int i2), .val (.int i3), .val (.int i4), .val (.int ((i0 &&& (255 : Int32)).toUInt32.toUInt16.toUInt32.toInt32)), .val (.int ((i1 &&& (255 : Int32)).toUInt32.toUInt16.toUInt32.toInt32)), .unset, .unset, .unset, .unset, .unset, .unset, .unset, .unset, .unset, .unset, .unset, .unset, .unset, .unset, .unset, .unset]) rfl) ?_
  show oGo p e below _ (T.setTop (mkF m 16 #[.val (.int i0), .val (.int i1), .val (.int i2), .val (.int i3), .val (.int i4), .val (.int ((i0 &&& (255 : Int32)).toUInt32.toUInt16.toUInt32.toInt32)), .val (.int ((i1 &&& (255 : Int32)).toUInt32.toUInt16.toUInt32.toInt32)), .unset, .unset, .unset, .unset, .unset, .unset, .unset, .unset, .unset, .unset, .unset, .unset, .unset, .unset, .unset, .unset] []))
  have hi_ : own_B ((i0 &&& (255 : Int32)).toUInt32.toUInt16.toUInt32.toInt32) := oCh i0
  generalize ((i0 &&& (255 : Int32)).toUInt32.toUInt16.toUInt32.toInt32) = i_ at hi_ ⊢
  show oGo p e below _ (T.setTop (mkF m 16 #[.val (.int i0), .val (.int i1), .val (.int i2), .val (.int i3), .val (.int i4), .val (.int i_), .val (.int ((i1 &&& (255 : Int32)).toUInt32.toUInt16.toUInt32.toInt32)), .unset, .unset, .unset, .unset, .unset, .unset, .unset, .unset, .unset, .unset, .unset, .unset, .unset, .unset, .unset, .unset] []))
  have hn_ : own_B ((i1 &&& (255 : Int32)).toUInt32.toUInt16.toUInt32.toInt32) := oCh i1
  generalize ((i1 &&& (255 : Int32)).toUInt32.toUInt16.toUInt32.toInt32) = n_ at hn_ ⊢
  show oGo p e below _ (T.setTop (mkF m 16 #[.val (.int i0), .val (.int i1), .val (.int i2), .val (.int i3), .val (.int i4), .val (.int i_), .val (.int n_), .unset, .unset, .unset, .unset, .unset, .unset, .unset, .unset, .unset, .unset, .unset, .unset, .unset, .unset, .unset, .unset] []))
  have J202 : ∀ (vm : Vm) (T : State) (h : Heap) (locs : List Loc) (f7 f8 f9 f10 f11 : Int32) (v12 v13 v14 v15 : Value) (c_ r lm le : Addr) (nm mw ew : List Int32), oA l Z consts_1 n0 p e room_1 s m #[(.int i0), (.int i1), (.int i2), (.int i3), (.int i4)] below meth c "com/example/stallwright/stallwright/store/CustomerToStringPinLaw" [] vm T h locs 58 1700 → oStr Z h r (([67, 117, 115, 116, 111, 109, 101, 114, 91, 105, 100, 61] : List Int32) ++ [i_] ++ ([44, 32, 110, 97, 109, 101, 61] : List Int32) ++ nm ++ ([44, 32, 109, 111, 98, 105, 108, 101, 61] : List Int32) ++ mw ++ ([44, 32, 101, 109, 97, 105, 108, 61] : List Int32) ++ ew ++ ([93] : List Int32)) → oStr Z h lm mw → oStr Z h le ew → ((¬ f7 = 0 ∧ nm = ([110, 117, 108, 108] : List Int32)) ∨ (f7 = 0 ∧ nm = [n_])) → mw.length ≤ 5 → ew.length ≤ 5 → oGo p e below (oEnd Z consts_1 n0 room_1 s [] (fun v _ h => v = some (.int 1))) (T.setTop (mkF m 202 #[.val (.int i0), .val (.int i1), .val (.int i2), .val (.int i3), .val (.int i4), .val (.int i_), .val (.int n_), .val (.int f7), .val (.int f8), .val (.int f9), .val (.int f10), .val (.int f11), .val v12, .val v13, .val v14, .val v15, .val (.ref c_), .val (.ref r), .val (.int (Int32.ofNat nm.length)), .val (.ref lm), .val (.ref le), .unset, .unset] [])) := by
    intro vm T h locs f7 f8 f9 f10 f11 v12 v13 v14 v15 c_ r lm le nm mw ew A Q Qm Qe hnm lm5 le5
    have ln4 : nm.length ≤ 4 := by
      rcases hnm with ⟨-, rfl⟩ | ⟨-, rfl⟩ <;> simp
    have hN : (([67, 117, 115, 116, 111, 109, 101, 114, 91, 105, 100, 61] : List Int32) ++ [i_] ++ ([44, 32, 110, 97, 109, 101, 61] : List Int32) ++ nm ++ ([44, 32, 109, 111, 98, 105, 108, 101, 61] : List Int32) ++ mw ++ ([44, 32, 101, 109, 97, 105, 108, 61] : List Int32) ++ ew ++ ([93] : List Int32)).length = nm.length + mw.length + ew.length + 38 := by simp <;> omega
    show oGo p e below _ (T.setTop (mkF m 202 #[.val (.int i0), .val (.int i1), .val (.int i2), .val (.int i3), .val (.int i4), .val (.int i_), .val (.int n_), .val (.int f7), .val (.int f8), .val (.int f9), .val (.int f10), .val (.int f11), .val v12, .val v13, .val v14, .val v15, .val (.ref c_), .val (.ref r), .val (.int (Int32.ofNat nm.length)), .val (.ref lm), .val (.ref le), .unset, .unset] []))
    refine oSt (fun _ => XS.bipush A.here hx rfl (Jvm.hb hby at_202)) ?_
    show oGo p e below _ (T.setTop (mkF m 204 #[.val (.int i0), .val (.int i1), .val (.int i2), .val (.int i3), .val (.int i4), .val (.int i_), .val (.int n_), .val (.int f7), .val (.int f8), .val (.int f9), .val (.int f10), .val (.int f11), .val v12, .val v13, .val v14, .val v15, .val (.ref c_), .val (.ref r), .val (.int (Int32.ofNat nm.length)), .val (.ref lm), .val (.ref le), .unset, .unset] [(.int (20 : Int32))]))
    refine oSt (fun _ => XS.iload A.here hx rfl (Jvm.hb hby at_204) rfl) ?_
    show oGo p e below _ (T.setTop (mkF m 206 #[.val (.int i0), .val (.int i1), .val (.int i2), .val (.int i3), .val (.int i4), .val (.int i_), .val (.int n_), .val (.int f7), .val (.int f8), .val (.int f9), .val (.int f10), .val (.int f11), .val v12, .val v13, .val v14, .val v15, .val (.ref c_), .val (.ref r), .val (.int (Int32.ofNat nm.length)), .val (.ref lm), .val (.ref le), .unset, .unset] [(.int (Int32.ofNat nm.length)), (.int (20 : Int32))]))
    refine oSt (fun _ => XS.iadd A.here hx rfl (Jvm.hb hby at_206) rfl) ?_
    show oGo p e below _ (T.setTop (mkF m 207 #[.val (.int i0), .val (.int i1), .val (.int i2), .val (.int i3), .val (.int i4), .val (.int i_), .val (.int n_), .val (.int f7), .val (.int f8), .val (.int f9), .val (.int f10), .val (.int f11), .val v12, .val v13, .val v14, .val v15, .val (.ref c_), .val (.ref r), .val (.int (Int32.ofNat nm.length)), .val (.ref lm), .val (.ref le), .unset, .unset] [(.int ((20 : Int32) + (Int32.ofNat nm.length)))]))
    rw [show ((20 : Int32) + (Int32.ofNat nm.length)) = Int32.ofNat (20 + nm.length) from by rw [show (20 : Int32) = Int32.ofNat 20 from rfl, own_addn (by omega)]]
    show oGo p e below _ (T.setTop (mkF m 207 #[.val (.int i0), .val (.int i1), .val (.int i2), .val (.int i3), .val (.int i4), .val (.int i_), .val (.int n_), .val (.int f7), .val (.int f8), .val (.int f9), .val (.int f10), .val (.int f11), .val v12, .val v13, .val v14, .val v15, .val (.ref c_), .val (.ref r), .val (.int (Int32.ofNat nm.length)), .val (.ref lm), .val (.ref le), .unset, .unset] [(.int (Int32.ofNat (20 + nm.length)))]))
    refine oSt (fun _ => XS.bipush A.here hx rfl (Jvm.hb hby at_207)) ?_
    show oGo p e below _ (T.setTop (mkF m 209 #[.val (.int i0), .val (.int i1), .val (.int i2), .val (.int i3), .val (.int i4), .val (.int i_), .val (.int n_), .val (.int f7), .val (.int f8), .val (.int f9), .val (.int f10), .val (.int f11), .val v12, .val v13, .val v14, .val v15, .val (.ref c_), .val (.ref r), .val (.int (Int32.ofNat nm.length)), .val (.ref lm), .val (.ref le), .unset, .unset] [(.int (9 : Int32)), (.int (Int32.ofNat (20 + nm.length)))]))
    refine oSt (fun _ => XS.iadd A.here hx rfl (Jvm.hb hby at_209) rfl) ?_
    show oGo p e below _ (T.setTop (mkF m 210 #[.val (.int i0), .val (.int i1), .val (.int i2), .val (.int i3), .val (.int i4), .val (.int i_), .val (.int n_), .val (.int f7), .val (.int f8), .val (.int f9), .val (.int f10), .val (.int f11), .val v12, .val v13, .val v14, .val v15, .val (.ref c_), .val (.ref r), .val (.int (Int32.ofNat nm.length)), .val (.ref lm), .val (.ref le), .unset, .unset] [(.int ((Int32.ofNat (20 + nm.length)) + (9 : Int32)))]))
    rw [show ((Int32.ofNat (20 + nm.length)) + (9 : Int32)) = Int32.ofNat (20 + nm.length + 9) from by rw [show (9 : Int32) = Int32.ofNat 9 from rfl, own_addn (by omega)]]
    show oGo p e below _ (T.setTop (mkF m 210 #[.val (.int i0), .val (.int i1), .val (.int i2), .val (.int i3), .val (.int i4), .val (.int i_), .val (.int n_), .val (.int f7), .val (.int f8), .val (.int f9), .val (.int f10), .val (.int f11), .val v12, .val v13, .val v14, .val v15, .val (.ref c_), .val (.ref r), .val (.int (Int32.ofNat nm.length)), .val (.ref lm), .val (.ref le), .unset, .unset] [(.int (Int32.ofNat (20 + nm.length + 9)))]))
    refine oSt (fun _ => XS.aload A.here hx rfl (Jvm.hb hby at_210) rfl rfl) ?_
    show oGo p e below _ (T.setTop (mkF m 212 #[.val (.int i0), .val (.int i1), .val (.int i2), .val (.int i3), .val (.int i4), .val (.int i_), .val (.int n_), .val (.int f7), .val (.int f8), .val (.int f9), .val (.int f10), .val (.int f11), .val v12, .val v13, .val v14, .val v15, .val (.ref c_), .val (.ref r), .val (.int (Int32.ofNat nm.length)), .val (.ref lm), .val (.ref le), .unset, .unset] [(.ref lm), (.int (Int32.ofNat (20 + nm.length + 9)))]))
    obtain ⟨T, A, st⟩ := A.sLen hx hln (hw _ (List.mem_of_getElem? (i := 10) rfl)) (hw _ (List.mem_of_getElem? (i := 209) rfl)) (hw _ (List.mem_of_getElem? (i := 105) rfl)) (hw _ (List.mem_of_getElem? (i := 107) rfl)) (hw _ (List.mem_of_getElem? (i := 106) rfl)) Qm hcs hcz (W := 1) (by decide) (by decide) (by decide) (by decide) (g := (mkF m 212 #[.val (.int i0), .val (.int i1), .val (.int i2), .val (.int i3), .val (.int i4), .val (.int i_), .val (.int n_), .val (.int f7), .val (.int f8), .val (.int f9), .val (.int f10), .val (.int f11), .val v12, .val v13, .val v14, .val v15, .val (.ref c_), .val (.ref r), .val (.int (Int32.ofNat nm.length)), .val (.ref lm), .val (.ref le), .unset, .unset] [(.ref lm), (.int (Int32.ofNat (20 + nm.length + 9)))])) rfl (by rw [hml]; rfl) rfl (by show 2 * 0 + _ ≤ _; exact Nat.le_of_eq rfl) (Jvm.hb hby at_212)
    refine oSt st ?_
    show oGo p e below _ (T.setTop (mkF m 215 #[.val (.int i0), .val (.int i1), .val (.int i2), .val (.int i3), .val (.int i4), .val (.int i_), .val (.int n_), .val (.int f7), .val (.int f8), .val (.int f9), .val (.int f10), .val (.int f11), .val v12, .val v13, .val v14, .val v15, .val (.ref c_), .val (.ref r), .val (.int (Int32.ofNat nm.length)), .val (.ref lm), .val (.ref le), .unset, .unset] [(.int (Int32.ofNat mw.length)), (.int (Int32.ofNat (20 + nm.length + 9)))]))
    refine oSt (fun _ => XS.iadd A.here hx rfl (Jvm.hb hby at_215) rfl) ?_
    show oGo p e below _ (T.setTop (mkF m 216 #[.val (.int i0), .val (.int i1), .val (.int i2), .val (.int i3), .val (.int i4), .val (.int i_), .val (.int n_), .val (.int f7), .val (.int f8), .val (.int f9), .val (.int f10), .val (.int f11), .val v12, .val v13, .val v14, .val v15, .val (.ref c_), .val (.ref r), .val (.int (Int32.ofNat nm.length)), .val (.ref lm), .val (.ref le), .unset, .unset] [(.int ((Int32.ofNat (20 + nm.length + 9)) + (Int32.ofNat mw.length)))]))
    rw [show ((Int32.ofNat (20 + nm.length + 9)) + (Int32.ofNat mw.length)) = Int32.ofNat (20 + nm.length + 9 + mw.length) from by rw [own_addn (by omega)]]
    show oGo p e below _ (T.setTop (mkF m 216 #[.val (.int i0), .val (.int i1), .val (.int i2), .val (.int i3), .val (.int i4), .val (.int i_), .val (.int n_), .val (.int f7), .val (.int f8), .val (.int f9), .val (.int f10), .val (.int f11), .val v12, .val v13, .val v14, .val v15, .val (.ref c_), .val (.ref r), .val (.int (Int32.ofNat nm.length)), .val (.ref lm), .val (.ref le), .unset, .unset] [(.int (Int32.ofNat (20 + nm.length + 9 + mw.length)))]))
    refine oSt (fun _ => XS.bipush A.here hx rfl (Jvm.hb hby at_216)) ?_
    show oGo p e below _ (T.setTop (mkF m 218 #[.val (.int i0), .val (.int i1), .val (.int i2), .val (.int i3), .val (.int i4), .val (.int i_), .val (.int n_), .val (.int f7), .val (.int f8), .val (.int f9), .val (.int f10), .val (.int f11), .val v12, .val v13, .val v14, .val v15, .val (.ref c_), .val (.ref r), .val (.int (Int32.ofNat nm.length)), .val (.ref lm), .val (.ref le), .unset, .unset] [(.int (8 : Int32)), (.int (Int32.ofNat (20 + nm.length + 9 + mw.length)))]))
    refine oSt (fun _ => XS.iadd A.here hx rfl (Jvm.hb hby at_218) rfl) ?_
    show oGo p e below _ (T.setTop (mkF m 219 #[.val (.int i0), .val (.int i1), .val (.int i2), .val (.int i3), .val (.int i4), .val (.int i_), .val (.int n_), .val (.int f7), .val (.int f8), .val (.int f9), .val (.int f10), .val (.int f11), .val v12, .val v13, .val v14, .val v15, .val (.ref c_), .val (.ref r), .val (.int (Int32.ofNat nm.length)), .val (.ref lm), .val (.ref le), .unset, .unset] [(.int ((Int32.ofNat (20 + nm.length + 9 + mw.length)) + (8 : Int32)))]))
    rw [show ((Int32.ofNat (20 + nm.length + 9 + mw.length)) + (8 : Int32)) = Int32.ofNat (20 + nm.length + 9 + mw.length + 8) from by rw [show (8 : Int32) = Int32.ofNat 8 from rfl, own_addn (by omega)]]
    show oGo p e below _ (T.setTop (mkF m 219 #[.val (.int i0), .val (.int i1), .val (.int i2), .val (.int i3), .val (.int i4), .val (.int i_), .val (.int n_), .val (.int f7), .val (.int f8), .val (.int f9), .val (.int f10), .val (.int f11), .val v12, .val v13, .val v14, .val v15, .val (.ref c_), .val (.ref r), .val (.int (Int32.ofNat nm.length)), .val (.ref lm), .val (.ref le), .unset, .unset] [(.int (Int32.ofNat (20 + nm.length + 9 + mw.length + 8)))]))
    refine oSt (fun _ => XS.aload A.here hx rfl (Jvm.hb hby at_219) rfl rfl) ?_
    show oGo p e below _ (T.setTop (mkF m 221 #[.val (.int i0), .val (.int i1), .val (.int i2), .val (.int i3), .val (.int i4), .val (.int i_), .val (.int n_), .val (.int f7), .val (.int f8), .val (.int f9), .val (.int f10), .val (.int f11), .val v12, .val v13, .val v14, .val v15, .val (.ref c_), .val (.ref r), .val (.int (Int32.ofNat nm.length)), .val (.ref lm), .val (.ref le), .unset, .unset] [(.ref le), (.int (Int32.ofNat (20 + nm.length + 9 + mw.length + 8)))]))
    obtain ⟨T, A, st⟩ := A.sLen hx hln (hw _ (List.mem_of_getElem? (i := 10) rfl)) (hw _ (List.mem_of_getElem? (i := 209) rfl)) (hw _ (List.mem_of_getElem? (i := 105) rfl)) (hw _ (List.mem_of_getElem? (i := 107) rfl)) (hw _ (List.mem_of_getElem? (i := 106) rfl)) Qe hcs hcz (W := 1) (by decide) (by decide) (by decide) (by decide) (g := (mkF m 221 #[.val (.int i0), .val (.int i1), .val (.int i2), .val (.int i3), .val (.int i4), .val (.int i_), .val (.int n_), .val (.int f7), .val (.int f8), .val (.int f9), .val (.int f10), .val (.int f11), .val v12, .val v13, .val v14, .val v15, .val (.ref c_), .val (.ref r), .val (.int (Int32.ofNat nm.length)), .val (.ref lm), .val (.ref le), .unset, .unset] [(.ref le), (.int (Int32.ofNat (20 + nm.length + 9 + mw.length + 8)))])) rfl (by rw [hml]; rfl) rfl (by show 2 * 0 + _ ≤ _; exact Nat.le_of_eq rfl) (Jvm.hb hby at_221)
    refine oSt st ?_
    show oGo p e below _ (T.setTop (mkF m 224 #[.val (.int i0), .val (.int i1), .val (.int i2), .val (.int i3), .val (.int i4), .val (.int i_), .val (.int n_), .val (.int f7), .val (.int f8), .val (.int f9), .val (.int f10), .val (.int f11), .val v12, .val v13, .val v14, .val v15, .val (.ref c_), .val (.ref r), .val (.int (Int32.ofNat nm.length)), .val (.ref lm), .val (.ref le), .unset, .unset] [(.int (Int32.ofNat ew.length)), (.int (Int32.ofNat (20 + nm.length + 9 + mw.length + 8)))]))
    refine oSt (fun _ => XS.iadd A.here hx rfl (Jvm.hb hby at_224) rfl) ?_
    show oGo p e below _ (T.setTop (mkF m 225 #[.val (.int i0), .val (.int i1), .val (.int i2), .val (.int i3), .val (.int i4), .val (.int i_), .val (.int n_), .val (.int f7), .val (.int f8), .val (.int f9), .val (.int f10), .val (.int f11), .val v12, .val v13, .val v14, .val v15, .val (.ref c_), .val (.ref r), .val (.int (Int32.ofNat nm.length)), .val (.ref lm), .val (.ref le), .unset, .unset] [(.int ((Int32.ofNat (20 + nm.length + 9 + mw.length + 8)) + (Int32.ofNat ew.length)))]))
    rw [show ((Int32.ofNat (20 + nm.length + 9 + mw.length + 8)) + (Int32.ofNat ew.length)) = Int32.ofNat (20 + nm.length + 9 + mw.length + 8 + ew.length) from by rw [own_addn (by omega)]]
    show oGo p e below _ (T.setTop (mkF m 225 #[.val (.int i0), .val (.int i1), .val (.int i2), .val (.int i3), .val (.int i4), .val (.int i_), .val (.int n_), .val (.int f7), .val (.int f8), .val (.int f9), .val (.int f10), .val (.int f11), .val v12, .val v13, .val v14, .val v15, .val (.ref c_), .val (.ref r), .val (.int (Int32.ofNat nm.length)), .val (.ref lm), .val (.ref le), .unset, .unset] [(.int (Int32.ofNat (20 + nm.length + 9 + mw.length + 8 + ew.length)))]))
    refine oSt (fun _ => XS.iconst A.here hx rfl (Jvm.hb hby at_225)) ?_
    show oGo p e below _ (T.setTop (mkF m 226 #[.val (.int i0), .val (.int i1), .val (.int i2), .val (.int i3), .val (.int i4), .val (.int i_), .val (.int n_), .val (.int f7), .val (.int f8), .val (.int f9), .val (.int f10), .val (.int f11), .val v12, .val v13, .val v14, .val v15, .val (.ref c_), .val (.ref r), .val (.int (Int32.ofNat nm.length)), .val (.ref lm), .val (.ref le), .unset, .unset] [(.int (1 : Int32)), (.int (Int32.ofNat (20 + nm.length + 9 + mw.length + 8 + ew.length)))]))
    refine oSt (fun _ => XS.iadd A.here hx rfl (Jvm.hb hby at_226) rfl) ?_
    show oGo p e below _ (T.setTop (mkF m 227 #[.val (.int i0), .val (.int i1), .val (.int i2), .val (.int i3), .val (.int i4), .val (.int i_), .val (.int n_), .val (.int f7), .val (.int f8), .val (.int f9), .val (.int f10), .val (.int f11), .val v12, .val v13, .val v14, .val v15, .val (.ref c_), .val (.ref r), .val (.int (Int32.ofNat nm.length)), .val (.ref lm), .val (.ref le), .unset, .unset] [(.int ((Int32.ofNat (20 + nm.length + 9 + mw.length + 8 + ew.length)) + (1 : Int32)))]))
    rw [show ((Int32.ofNat (20 + nm.length + 9 + mw.length + 8 + ew.length)) + (1 : Int32)) = Int32.ofNat (20 + nm.length + 9 + mw.length + 8 + ew.length + 1) from by rw [show (1 : Int32) = Int32.ofNat 1 from rfl, own_addn (by omega)]]
    show oGo p e below _ (T.setTop (mkF m 227 #[.val (.int i0), .val (.int i1), .val (.int i2), .val (.int i3), .val (.int i4), .val (.int i_), .val (.int n_), .val (.int f7), .val (.int f8), .val (.int f9), .val (.int f10), .val (.int f11), .val v12, .val v13, .val v14, .val v15, .val (.ref c_), .val (.ref r), .val (.int (Int32.ofNat nm.length)), .val (.ref lm), .val (.ref le), .unset, .unset] [(.int (Int32.ofNat (20 + nm.length + 9 + mw.length + 8 + ew.length + 1)))]))
    refine oSt (fun _ => XS.istore A.here hx rfl (Jvm.hb hby at_227) rfl (l' := #[.val (.int i0), .val (.int i1), .val (.int i2), .val (.int i3), .val (.int i4), .val (.int i_), .val (.int n_), .val (.int f7), .val (.int f8), .val (.int f9), .val (.int f10), .val (.int f11), .val v12, .val v13, .val v14, .val v15, .val (.ref c_), .val (.ref r), .val (.int (Int32.ofNat nm.length)), .val (.ref lm), .val (.ref le), .val (.int (Int32.ofNat (20 + nm.length + 9 + mw.length + 8 + ew.length + 1))), .unset]) rfl) ?_
    show oGo p e below _ (T.setTop (mkF m 229 #[.val (.int i0), .val (.int i1), .val (.int i2), .val (.int i3), .val (.int i4), .val (.int i_), .val (.int n_), .val (.int f7), .val (.int f8), .val (.int f9), .val (.int f10), .val (.int f11), .val v12, .val v13, .val v14, .val v15, .val (.ref c_), .val (.ref r), .val (.int (Int32.ofNat nm.length)), .val (.ref lm), .val (.ref le), .val (.int (Int32.ofNat (20 + nm.length + 9 + mw.length + 8 + ew.length + 1))), .unset] []))
    refine oSt (fun _ => XS.aload A.here hx rfl (Jvm.hb hby at_229) rfl rfl) ?_
    show oGo p e below _ (T.setTop (mkF m 231 #[.val (.int i0), .val (.int i1), .val (.int i2), .val (.int i3), .val (.int i4), .val (.int i_), .val (.int n_), .val (.int f7), .val (.int f8), .val (.int f9), .val (.int f10), .val (.int f11), .val v12, .val v13, .val v14, .val v15, .val (.ref c_), .val (.ref r), .val (.int (Int32.ofNat nm.length)), .val (.ref lm), .val (.ref le), .val (.int (Int32.ofNat (20 + nm.length + 9 + mw.length + 8 + ew.length + 1))), .unset] [(.ref r)]))
    obtain ⟨T, A, st⟩ := A.sLen hx hln (hw _ (List.mem_of_getElem? (i := 10) rfl)) (hw _ (List.mem_of_getElem? (i := 209) rfl)) (hw _ (List.mem_of_getElem? (i := 105) rfl)) (hw _ (List.mem_of_getElem? (i := 107) rfl)) (hw _ (List.mem_of_getElem? (i := 106) rfl)) Q hcs hcz (W := 0) (by decide) (by decide) (by decide) (by decide) (g := (mkF m 231 #[.val (.int i0), .val (.int i1), .val (.int i2), .val (.int i3), .val (.int i4), .val (.int i_), .val (.int n_), .val (.int f7), .val (.int f8), .val (.int f9), .val (.int f10), .val (.int f11), .val v12, .val v13, .val v14, .val v15, .val (.ref c_), .val (.ref r), .val (.int (Int32.ofNat nm.length)), .val (.ref lm), .val (.ref le), .val (.int (Int32.ofNat (20 + nm.length + 9 + mw.length + 8 + ew.length + 1))), .unset] [(.ref r)])) rfl (by rw [hml]; rfl) rfl (by show 2 * 0 + _ ≤ _; exact Nat.le_of_eq rfl) (Jvm.hb hby at_231)
    refine oSt st ?_
    show oGo p e below _ (T.setTop (mkF m 234 #[.val (.int i0), .val (.int i1), .val (.int i2), .val (.int i3), .val (.int i4), .val (.int i_), .val (.int n_), .val (.int f7), .val (.int f8), .val (.int f9), .val (.int f10), .val (.int f11), .val v12, .val v13, .val v14, .val v15, .val (.ref c_), .val (.ref r), .val (.int (Int32.ofNat nm.length)), .val (.ref lm), .val (.ref le), .val (.int (Int32.ofNat (20 + nm.length + 9 + mw.length + 8 + ew.length + 1))), .unset] [(.int (Int32.ofNat (([67, 117, 115, 116, 111, 109, 101, 114, 91, 105, 100, 61] : List Int32) ++ [i_] ++ ([44, 32, 110, 97, 109, 101, 61] : List Int32) ++ nm ++ ([44, 32, 109, 111, 98, 105, 108, 101, 61] : List Int32) ++ mw ++ ([44, 32, 101, 109, 97, 105, 108, 61] : List Int32) ++ ew ++ ([93] : List Int32)).length))]))
    refine oSt (fun _ => XS.iload A.here hx rfl (Jvm.hb hby at_234) rfl) ?_
    show oGo p e below _ (T.setTop (mkF m 236 #[.val (.int i0), .val (.int i1), .val (.int i2), .val (.int i3), .val (.int i4), .val (.int i_), .val (.int n_), .val (.int f7), .val (.int f8), .val (.int f9), .val (.int f10), .val (.int f11), .val v12, .val v13, .val v14, .val v15, .val (.ref c_), .val (.ref r), .val (.int (Int32.ofNat nm.length)), .val (.ref lm), .val (.ref le), .val (.int (Int32.ofNat (20 + nm.length + 9 + mw.length + 8 + ew.length + 1))), .unset] [(.int (Int32.ofNat (20 + nm.length + 9 + mw.length + 8 + ew.length + 1))), (.int (Int32.ofNat (([67, 117, 115, 116, 111, 109, 101, 114, 91, 105, 100, 61] : List Int32) ++ [i_] ++ ([44, 32, 110, 97, 109, 101, 61] : List Int32) ++ nm ++ ([44, 32, 109, 111, 98, 105, 108, 101, 61] : List Int32) ++ mw ++ ([44, 32, 101, 109, 97, 105, 108, 61] : List Int32) ++ ew ++ ([93] : List Int32)).length))]))
    refine oSt (fun _ => XS.icmpYes A.here hx rfl (pc0 := 236) (pc' := 241) rfl (Jvm.hb hby at_236) rfl (Jvm.Free.XT.ii_eq_t (by rw [hN]; congr 1; omega)) (by decide) (by decide)) ?_
    show oGo p e below _ (T.setTop (mkF m 241 #[.val (.int i0), .val (.int i1), .val (.int i2), .val (.int i3), .val (.int i4), .val (.int i_), .val (.int n_), .val (.int f7), .val (.int f8), .val (.int f9), .val (.int f10), .val (.int f11), .val v12, .val v13, .val v14, .val v15, .val (.ref c_), .val (.ref r), .val (.int (Int32.ofNat nm.length)), .val (.ref lm), .val (.ref le), .val (.int (Int32.ofNat (20 + nm.length + 9 + mw.length + 8 + ew.length + 1))), .unset] []))
    refine oSt (fun _ => XS.aload A.here hx rfl (Jvm.hb hby at_241) rfl rfl) ?_
    show oGo p e below _ (T.setTop (mkF m 243 #[.val (.int i0), .val (.int i1), .val (.int i2), .val (.int i3), .val (.int i4), .val (.int i_), .val (.int n_), .val (.int f7), .val (.int f8), .val (.int f9), .val (.int f10), .val (.int f11), .val v12, .val v13, .val v14, .val v15, .val (.ref c_), .val (.ref r), .val (.int (Int32.ofNat nm.length)), .val (.ref lm), .val (.ref le), .val (.int (Int32.ofNat (20 + nm.length + 9 + mw.length + 8 + ew.length + 1))), .unset] [(.ref r)]))
    refine oSt (fun _ => XS.iconst A.here hx rfl (Jvm.hb hby at_243)) ?_
    show oGo p e below _ (T.setTop (mkF m 244 #[.val (.int i0), .val (.int i1), .val (.int i2), .val (.int i3), .val (.int i4), .val (.int i_), .val (.int n_), .val (.int f7), .val (.int f8), .val (.int f9), .val (.int f10), .val (.int f11), .val v12, .val v13, .val v14, .val v15, .val (.ref c_), .val (.ref r), .val (.int (Int32.ofNat nm.length)), .val (.ref lm), .val (.ref le), .val (.int (Int32.ofNat (20 + nm.length + 9 + mw.length + 8 + ew.length + 1))), .unset] [(.int (0 : Int32)), (.ref r)]))
    obtain ⟨l1, T, h, bb, kb, A, X, CR, E_l1, C_l1, V_l1, K_l1, ne_l1, Li, st⟩ := A.ldcS hx (hw _ (List.mem_of_getElem? (i := 210) rfl)) hlit hEL (List.mem_of_getElem? (i := 9) rfl) (vs := (([67, 117, 115, 116, 111, 109, 101, 114, 91, 105, 100, 61] : List Int32).map fun c => c.toInt8.toInt32).map Value.int) (z := Int32.ofNat ([67, 117, 115, 116, 111, 109, 101, 114, 91, 105, 100, 61] : List Int32).length) ⟨by decide +kernel, by decide +kernel⟩ (by decide +kernel) (by decide +kernel) (g := (mkF m 244 #[.val (.int i0), .val (.int i1), .val (.int i2), .val (.int i3), .val (.int i4), .val (.int i_), .val (.int n_), .val (.int f7), .val (.int f8), .val (.int f9), .val (.int f10), .val (.int f11), .val v12, .val v13, .val v14, .val v15, .val (.ref c_), .val (.ref r), .val (.int (Int32.ofNat nm.length)), .val (.ref lm), .val (.ref le), .val (.int (Int32.ofNat (20 + nm.length + 9 + mw.length + 8 + ew.length + 1))), .unset] [(.int (0 : Int32)), (.ref r)])) rfl (Jvm.hb hby at_244) (n := 48) (by decide +kernel) (by decide) (by decide) (by decide)
    refine oSt st ?_
    show oGo p e below _ (T.setTop (mkF m 246 #[.val (.int i0), .val (.int i1), .val (.int i2), .val (.int i3), .val (.int i4), .val (.int i_), .val (.int n_), .val (.int f7), .val (.int f8), .val (.int f9), .val (.int f10), .val (.int f11), .val v12, .val v13, .val v14, .val v15, .val (.ref c_), .val (.ref r), .val (.int (Int32.ofNat nm.length)), .val (.ref lm), .val (.ref le), .val (.int (Int32.ofNat (20 + nm.length + 9 + mw.length + 8 + ew.length + 1))), .unset] [(.ref l1), (.int (0 : Int32)), (.ref r)]))
    have Q_l1 : oStr Z h l1 ([67, 117, 115, 116, 111, 109, 101, 114, 91, 105, 100, 61] : List Int32) := ⟨(oPS (by decide) (oPS (by decide) (oPS (by decide) (oPS (by decide) (oPS (by decide) (oPS (by decide) (oPS (by decide) (oPS (by decide) (oPS (by decide) (oPS (by decide) (oPS (by decide) (oPS (by decide) oP0)))))))))))), by decide, bb, kb, E_l1, V_l1, C_l1, K_l1⟩
    have Q := Q.ext X
    have Qm := Qm.ext X
    have Qe := Qe.ext X
    obtain ⟨_, vm, T, h, L, A, K, CR, ⟨rfl, rfl⟩, st⟩ := A.callS hx (y := (⟨"com/example/stallwright/stallwright/store/CustomerToStringPinLaw", "at", "(Ljava/lang/String;ILjava/lang/String;)Z"⟩ : MethodName)) (hw _ (List.mem_of_getElem? (i := 211) rfl)) (hw _ (List.mem_of_getElem? (i := 212) rfl)) (hw _ (List.mem_of_getElem? (i := 28) rfl)) (hw _ (List.mem_of_getElem? (i := 213) rfl)) (by decide) hEL (argsL := [(.ref r), (.int (0 : Int32)), (.ref l1)]) (rest := []) (own_at l Z a0 hw hEL n0 _ A.oldn r l1 (0) _ _ zc hcs hcz fm hfm rfm Q Q_l1 ⟨[], [i_] ++ ([44, 32, 110, 97, 109, 101, 61] : List Int32) ++ nm ++ ([44, 32, 109, 111, 98, 105, 108, 101, 61] : List Int32) ++ mw ++ ([44, 32, 101, 109, 97, 105, 108, 61] : List Int32) ++ ew ++ ([93] : List Int32), by simp, by simp <;> omega⟩) (W := 0) (by decide) (by decide) (by decide) (by decide) all0 all0 all0 (g := (mkF m 246 #[.val (.int i0), .val (.int i1), .val (.int i2), .val (.int i3), .val (.int i4), .val (.int i_), .val (.int n_), .val (.int f7), .val (.int f8), .val (.int f9), .val (.int f10), .val (.int f11), .val v12, .val v13, .val v14, .val v15, .val (.ref c_), .val (.ref r), .val (.int (Int32.ofNat nm.length)), .val (.ref lm), .val (.ref le), .val (.int (Int32.ofNat (20 + nm.length + 9 + mw.length + 8 + ew.length + 1))), .unset] [(.ref l1), (.int (0 : Int32)), (.ref r)])) rfl (by rw [hml]; rfl) (lenOf opd27 rfl) rfl (by show 2 * 0 + _ ≤ _; exact Nat.le_of_eq rfl) (Jvm.hb hby at_246)
    refine oSt st ?_
    have X := oExt0 K
    have Q := Q.ext X
    have Qm := Qm.ext X
    have Qe := Qe.ext X
    show oGo p e below _ (T.setTop (mkF m 249 #[.val (.int i0), .val (.int i1), .val (.int i2), .val (.int i3), .val (.int i4), .val (.int i_), .val (.int n_), .val (.int f7), .val (.int f8), .val (.int f9), .val (.int f10), .val (.int f11), .val v12, .val v13, .val v14, .val v15, .val (.ref c_), .val (.ref r), .val (.int (Int32.ofNat nm.length)), .val (.ref lm), .val (.ref le), .val (.int (Int32.ofNat (20 + nm.length + 9 + mw.length + 8 + ew.length + 1))), .unset] [(.int (1 : Int32))]))
    refine oSt (fun _ => XS.ifYes A.here hx rfl (pc0 := 249) (pc' := 254) rfl (Jvm.hb hby at_249) rfl (Jvm.Free.XT.i0_ne_t (by decide)) (by decide) (by decide)) ?_
    show oGo p e below _ (T.setTop (mkF m 254 #[.val (.int i0), .val (.int i1), .val (.int i2), .val (.int i3), .val (.int i4), .val (.int i_), .val (.int n_), .val (.int f7), .val (.int f8), .val (.int f9), .val (.int f10), .val (.int f11), .val v12, .val v13, .val v14, .val v15, .val (.ref c_), .val (.ref r), .val (.int (Int32.ofNat nm.length)), .val (.ref lm), .val (.ref le), .val (.int (Int32.ofNat (20 + nm.length + 9 + mw.length + 8 + ew.length + 1))), .unset] []))
    refine oSt (fun _ => XS.aload A.here hx rfl (Jvm.hb hby at_254) rfl rfl) ?_
    show oGo p e below _ (T.setTop (mkF m 256 #[.val (.int i0), .val (.int i1), .val (.int i2), .val (.int i3), .val (.int i4), .val (.int i_), .val (.int n_), .val (.int f7), .val (.int f8), .val (.int f9), .val (.int f10), .val (.int f11), .val v12, .val v13, .val v14, .val v15, .val (.ref c_), .val (.ref r), .val (.int (Int32.ofNat nm.length)), .val (.ref lm), .val (.ref le), .val (.int (Int32.ofNat (20 + nm.length + 9 + mw.length + 8 + ew.length + 1))), .unset] [(.ref r)]))
    refine oSt (fun _ => XS.bipush A.here hx rfl (Jvm.hb hby at_256)) ?_
    show oGo p e below _ (T.setTop (mkF m 258 #[.val (.int i0), .val (.int i1), .val (.int i2), .val (.int i3), .val (.int i4), .val (.int i_), .val (.int n_), .val (.int f7), .val (.int f8), .val (.int f9), .val (.int f10), .val (.int f11), .val v12, .val v13, .val v14, .val v15, .val (.ref c_), .val (.ref r), .val (.int (Int32.ofNat nm.length)), .val (.ref lm), .val (.ref le), .val (.int (Int32.ofNat (20 + nm.length + 9 + mw.length + 8 + ew.length + 1))), .unset] [(.int (12 : Int32)), (.ref r)]))
    have g12 : own_seg (([67, 117, 115, 116, 111, 109, 101, 114, 91, 105, 100, 61] : List Int32) ++ [i_] ++ ([44, 32, 110, 97, 109, 101, 61] : List Int32) ++ nm ++ ([44, 32, 109, 111, 98, 105, 108, 101, 61] : List Int32) ++ mw ++ ([44, 32, 101, 109, 97, 105, 108, 61] : List Int32) ++ ew ++ ([93] : List Int32)) [i_] (12) := ⟨([67, 117, 115, 116, 111, 109, 101, 114, 91, 105, 100, 61] : List Int32), ([44, 32, 110, 97, 109, 101, 61] : List Int32) ++ nm ++ ([44, 32, 109, 111, 98, 105, 108, 101, 61] : List Int32) ++ mw ++ ([44, 32, 101, 109, 97, 105, 108, 61] : List Int32) ++ ew ++ ([93] : List Int32), by simp, by simp <;> omega⟩
    obtain ⟨T, A, st⟩ := A.sCh hx hch (hw _ (List.mem_of_getElem? (i := 10) rfl)) (hw _ (List.mem_of_getElem? (i := 217) rfl)) (hw _ (List.mem_of_getElem? (i := 218) rfl)) (hw _ (List.mem_of_getElem? (i := 220) rfl)) (hw _ (List.mem_of_getElem? (i := 219) rfl)) Q hcs hcz hfm rfm (i := 12) (by have := g12.le; simp only [List.length_singleton] at this; omega) rfl (W := 0) (by decide) (by decide) (by decide) (by decide) (g := (mkF m 258 #[.val (.int i0), .val (.int i1), .val (.int i2), .val (.int i3), .val (.int i4), .val (.int i_), .val (.int n_), .val (.int f7), .val (.int f8), .val (.int f9), .val (.int f10), .val (.int f11), .val v12, .val v13, .val v14, .val v15, .val (.ref c_), .val (.ref r), .val (.int (Int32.ofNat nm.length)), .val (.ref lm), .val (.ref le), .val (.int (Int32.ofNat (20 + nm.length + 9 + mw.length + 8 + ew.length + 1))), .unset] [(.int (12 : Int32)), (.ref r)])) rfl (by rw [hml]; rfl) rfl (by show 2 * 0 + _ ≤ _; exact Nat.le_of_eq rfl) (Jvm.hb hby at_258)
    refine oSt st ?_
    show oGo p e below _ (T.setTop (mkF m 261 #[.val (.int i0), .val (.int i1), .val (.int i2), .val (.int i3), .val (.int i4), .val (.int i_), .val (.int n_), .val (.int f7), .val (.int f8), .val (.int f9), .val (.int f10), .val (.int f11), .val v12, .val v13, .val v14, .val v15, .val (.ref c_), .val (.ref r), .val (.int (Int32.ofNat nm.length)), .val (.ref lm), .val (.ref le), .val (.int (Int32.ofNat (20 + nm.length + 9 + mw.length + 8 + ew.length + 1))), .unset] [(.int ((([67, 117, 115, 116, 111, 109, 101, 114, 91, 105, 100, 61] : List Int32) ++ [i_] ++ ([44, 32, 110, 97, 109, 101, 61] : List Int32) ++ nm ++ ([44, 32, 109, 111, 98, 105, 108, 101, 61] : List Int32) ++ mw ++ ([44, 32, 101, 109, 97, 105, 108, 61] : List Int32) ++ ew ++ ([93] : List Int32)).getD (12) 0))]))
    rw [show (([67, 117, 115, 116, 111, 109, 101, 114, 91, 105, 100, 61] : List Int32) ++ [i_] ++ ([44, 32, 110, 97, 109, 101, 61] : List Int32) ++ nm ++ ([44, 32, 109, 111, 98, 105, 108, 101, 61] : List Int32) ++ mw ++ ([44, 32, 101, 109, 97, 105, 108, 61] : List Int32) ++ ew ++ ([93] : List Int32)).getD (12) 0 = i_ from by have := g12.at (i := 0) (by simp); simpa using this]
    show oGo p e below _ (T.setTop (mkF m 261 #[.val (.int i0), .val (.int i1), .val (.int i2), .val (.int i3), .val (.int i4), .val (.int i_), .val (.int n_), .val (.int f7), .val (.int f8), .val (.int f9), .val (.int f10), .val (.int f11), .val v12, .val v13, .val v14, .val v15, .val (.ref c_), .val (.ref r), .val (.int (Int32.ofNat nm.length)), .val (.ref lm), .val (.ref le), .val (.int (Int32.ofNat (20 + nm.length + 9 + mw.length + 8 + ew.length + 1))), .unset] [(.int i_)]))
    refine oSt (fun _ => XS.iload A.here hx rfl (Jvm.hb hby at_261) rfl) ?_
    show oGo p e below _ (T.setTop (mkF m 263 #[.val (.int i0), .val (.int i1), .val (.int i2), .val (.int i3), .val (.int i4), .val (.int i_), .val (.int n_), .val (.int f7), .val (.int f8), .val (.int f9), .val (.int f10), .val (.int f11), .val v12, .val v13, .val v14, .val v15, .val (.ref c_), .val (.ref r), .val (.int (Int32.ofNat nm.length)), .val (.ref lm), .val (.ref le), .val (.int (Int32.ofNat (20 + nm.length + 9 + mw.length + 8 + ew.length + 1))), .unset] [(.int i_), (.int i_)]))
    refine oSt (fun _ => XS.icmpYes A.here hx rfl (pc0 := 263) (pc' := 268) rfl (Jvm.hb hby at_263) rfl (Jvm.Free.XT.ii_eq_t rfl) (by decide) (by decide)) ?_
    show oGo p e below _ (T.setTop (mkF m 268 #[.val (.int i0), .val (.int i1), .val (.int i2), .val (.int i3), .val (.int i4), .val (.int i_), .val (.int n_), .val (.int f7), .val (.int f8), .val (.int f9), .val (.int f10), .val (.int f11), .val v12, .val v13, .val v14, .val v15, .val (.ref c_), .val (.ref r), .val (.int (Int32.ofNat nm.length)), .val (.ref lm), .val (.ref le), .val (.int (Int32.ofNat (20 + nm.length + 9 + mw.length + 8 + ew.length + 1))), .unset] []))
    refine oSt (fun _ => XS.aload A.here hx rfl (Jvm.hb hby at_268) rfl rfl) ?_
    show oGo p e below _ (T.setTop (mkF m 270 #[.val (.int i0), .val (.int i1), .val (.int i2), .val (.int i3), .val (.int i4), .val (.int i_), .val (.int n_), .val (.int f7), .val (.int f8), .val (.int f9), .val (.int f10), .val (.int f11), .val v12, .val v13, .val v14, .val v15, .val (.ref c_), .val (.ref r), .val (.int (Int32.ofNat nm.length)), .val (.ref lm), .val (.ref le), .val (.int (Int32.ofNat (20 + nm.length + 9 + mw.length + 8 + ew.length + 1))), .unset] [(.ref r)]))
    refine oSt (fun _ => XS.bipush A.here hx rfl (Jvm.hb hby at_270)) ?_
    show oGo p e below _ (T.setTop (mkF m 272 #[.val (.int i0), .val (.int i1), .val (.int i2), .val (.int i3), .val (.int i4), .val (.int i_), .val (.int n_), .val (.int f7), .val (.int f8), .val (.int f9), .val (.int f10), .val (.int f11), .val v12, .val v13, .val v14, .val v15, .val (.ref c_), .val (.ref r), .val (.int (Int32.ofNat nm.length)), .val (.ref lm), .val (.ref le), .val (.int (Int32.ofNat (20 + nm.length + 9 + mw.length + 8 + ew.length + 1))), .unset] [(.int (13 : Int32)), (.ref r)]))
    obtain ⟨l2, T, h, bb, kb, A, X, CR, E_l2, C_l2, V_l2, K_l2, ne_l2, Li, st⟩ := A.ldcS hx (hw _ (List.mem_of_getElem? (i := 238) rfl)) hlit hEL (List.mem_of_getElem? (i := 10) rfl) (vs := (([44, 32, 110, 97, 109, 101, 61] : List Int32).map fun c => c.toInt8.toInt32).map Value.int) (z := Int32.ofNat ([44, 32, 110, 97, 109, 101, 61] : List Int32).length) ⟨by decide +kernel, by decide +kernel⟩ (by decide +kernel) (by decide +kernel) (g := (mkF m 272 #[.val (.int i0), .val (.int i1), .val (.int i2), .val (.int i3), .val (.int i4), .val (.int i_), .val (.int n_), .val (.int f7), .val (.int f8), .val (.int f9), .val (.int f10), .val (.int f11), .val v12, .val v13, .val v14, .val v15, .val (.ref c_), .val (.ref r), .val (.int (Int32.ofNat nm.length)), .val (.ref lm), .val (.ref le), .val (.int (Int32.ofNat (20 + nm.length + 9 + mw.length + 8 + ew.length + 1))), .unset] [(.int (13 : Int32)), (.ref r)])) rfl (Jvm.hb hby at_272) (n := 28) (by decide +kernel) (by decide) (by decide) (by decide)
    refine oSt st ?_
    show oGo p e below _ (T.setTop (mkF m 274 #[.val (.int i0), .val (.int i1), .val (.int i2), .val (.int i3), .val (.int i4), .val (.int i_), .val (.int n_), .val (.int f7), .val (.int f8), .val (.int f9), .val (.int f10), .val (.int f11), .val v12, .val v13, .val v14, .val v15, .val (.ref c_), .val (.ref r), .val (.int (Int32.ofNat nm.length)), .val (.ref lm), .val (.ref le), .val (.int (Int32.ofNat (20 + nm.length + 9 + mw.length + 8 + ew.length + 1))), .unset] [(.ref l2), (.int (13 : Int32)), (.ref r)]))
    have Q_l2 : oStr Z h l2 ([44, 32, 110, 97, 109, 101, 61] : List Int32) := ⟨(oPS (by decide) (oPS (by decide) (oPS (by decide) (oPS (by decide) (oPS (by decide) (oPS (by decide) (oPS (by decide) oP0))))))), by decide, bb, kb, E_l2, V_l2, C_l2, K_l2⟩
    have Q := Q.ext X
    have Qm := Qm.ext X
    have Qe := Qe.ext X
    obtain ⟨_, vm, T, h, L, A, K, CR, ⟨rfl, rfl⟩, st⟩ := A.callS hx (y := (⟨"com/example/stallwright/stallwright/store/CustomerToStringPinLaw", "at", "(Ljava/lang/String;ILjava/lang/String;)Z"⟩ : MethodName)) (hw _ (List.mem_of_getElem? (i := 211) rfl)) (hw _ (List.mem_of_getElem? (i := 212) rfl)) (hw _ (List.mem_of_getElem? (i := 28) rfl)) (hw _ (List.mem_of_getElem? (i := 213) rfl)) (by decide) hEL (argsL := [(.ref r), (.int (13 : Int32)), (.ref l2)]) (rest := []) (own_at l Z a0 hw hEL n0 _ A.oldn r l2 (13) _ _ zc hcs hcz fm hfm rfm Q Q_l2 ⟨(([67, 117, 115, 116, 111, 109, 101, 114, 91, 105, 100, 61] : List Int32) ++ [i_]), nm ++ ([44, 32, 109, 111, 98, 105, 108, 101, 61] : List Int32) ++ mw ++ ([44, 32, 101, 109, 97, 105, 108, 61] : List Int32) ++ ew ++ ([93] : List Int32), by simp, by simp <;> omega⟩) (W := 0) (by decide) (by decide) (by decide) (by decide) all0 all0 all0 (g := (mkF m 274 #[.val (.int i0), .val (.int i1), .val (.int i2), .val (.int i3), .val (.int i4), .val (.int i_), .val (.int n_), .val (.int f7), .val (.int f8), .val (.int f9), .val (.int f10), .val (.int f11), .val v12, .val v13, .val v14, .val v15, .val (.ref c_), .val (.ref r), .val (.int (Int32.ofNat nm.length)), .val (.ref lm), .val (.ref le), .val (.int (Int32.ofNat (20 + nm.length + 9 + mw.length + 8 + ew.length + 1))), .unset] [(.ref l2), (.int (13 : Int32)), (.ref r)])) rfl (by rw [hml]; rfl) (lenOf opd27 rfl) rfl (by show 2 * 0 + _ ≤ _; exact Nat.le_of_eq rfl) (Jvm.hb hby at_274)
    refine oSt st ?_
    have X := oExt0 K
    have Q := Q.ext X
    have Qm := Qm.ext X
    have Qe := Qe.ext X
    show oGo p e below _ (T.setTop (mkF m 277 #[.val (.int i0), .val (.int i1), .val (.int i2), .val (.int i3), .val (.int i4), .val (.int i_), .val (.int n_), .val (.int f7), .val (.int f8), .val (.int f9), .val (.int f10), .val (.int f11), .val v12, .val v13, .val v14, .val v15, .val (.ref c_), .val (.ref r), .val (.int (Int32.ofNat nm.length)), .val (.ref lm), .val (.ref le), .val (.int (Int32.ofNat (20 + nm.length + 9 + mw.length + 8 + ew.length + 1))), .unset] [(.int (1 : Int32))]))
    refine oSt (fun _ => XS.ifYes A.here hx rfl (pc0 := 277) (pc' := 282) rfl (Jvm.hb hby at_277) rfl (Jvm.Free.XT.i0_ne_t (by decide)) (by decide) (by decide)) ?_
    show oGo p e below _ (T.setTop (mkF m 282 #[.val (.int i0), .val (.int i1), .val (.int i2), .val (.int i3), .val (.int i4), .val (.int i_), .val (.int n_), .val (.int f7), .val (.int f8), .val (.int f9), .val (.int f10), .val (.int f11), .val v12, .val v13, .val v14, .val v15, .val (.ref c_), .val (.ref r), .val (.int (Int32.ofNat nm.length)), .val (.ref lm), .val (.ref le), .val (.int (Int32.ofNat (20 + nm.length + 9 + mw.length + 8 + ew.length + 1))), .unset] []))
    refine oSt (fun _ => XS.iload A.here hx rfl (Jvm.hb hby at_282) rfl) ?_
    show oGo p e below _ (T.setTop (mkF m 284 #[.val (.int i0), .val (.int i1), .val (.int i2), .val (.int i3), .val (.int i4), .val (.int i_), .val (.int n_), .val (.int f7), .val (.int f8), .val (.int f9), .val (.int f10), .val (.int f11), .val v12, .val v13, .val v14, .val v15, .val (.ref c_), .val (.ref r), .val (.int (Int32.ofNat nm.length)), .val (.ref lm), .val (.ref le), .val (.int (Int32.ofNat (20 + nm.length + 9 + mw.length + 8 + ew.length + 1))), .unset] [(.int f7)]))
    have J315 : ∀ (vm : Vm) (T : State) (h : Heap) (locs : List Loc), oA l Z consts_1 n0 p e room_1 s m #[(.int i0), (.int i1), (.int i2), (.int i3), (.int i4)] below meth c "com/example/stallwright/stallwright/store/CustomerToStringPinLaw" [] vm T h locs 64 1804 → oStr Z h r (([67, 117, 115, 116, 111, 109, 101, 114, 91, 105, 100, 61] : List Int32) ++ [i_] ++ ([44, 32, 110, 97, 109, 101, 61] : List Int32) ++ nm ++ ([44, 32, 109, 111, 98, 105, 108, 101, 61] : List Int32) ++ mw ++ ([44, 32, 101, 109, 97, 105, 108, 61] : List Int32) ++ ew ++ ([93] : List Int32)) → oStr Z h lm mw → oStr Z h le ew → oGo p e below (oEnd Z consts_1 n0 room_1 s [] (fun v _ h => v = some (.int 1))) (T.setTop (mkF m 315 #[.val (.int i0), .val (.int i1), .val (.int i2), .val (.int i3), .val (.int i4), .val (.int i_), .val (.int n_), .val (.int f7), .val (.int f8), .val (.int f9), .val (.int f10), .val (.int f11), .val v12, .val v13, .val v14, .val v15, .val (.ref c_), .val (.ref r), .val (.int (Int32.ofNat nm.length)), .val (.ref lm), .val (.ref le), .val (.int (Int32.ofNat (20 + nm.length + 9 + mw.length + 8 + ew.length + 1))), .unset] [])) := by
      intro vm T h locs A Q Qm Qe
      show oGo p e below _ (T.setTop (mkF m 315 #[.val (.int i0), .val (.int i1), .val (.int i2), .val (.int i3), .val (.int i4), .val (.int i_), .val (.int n_), .val (.int f7), .val (.int f8), .val (.int f9), .val (.int f10), .val (.int f11), .val v12, .val v13, .val v14, .val v15, .val (.ref c_), .val (.ref r), .val (.int (Int32.ofNat nm.length)), .val (.ref lm), .val (.ref le), .val (.int (Int32.ofNat (20 + nm.length + 9 + mw.length + 8 + ew.length + 1))), .unset] []))
      refine oSt (fun _ => XS.bipush A.here hx rfl (Jvm.hb hby at_315)) ?_
      show oGo p e below _ (T.setTop (mkF m 317 #[.val (.int i0), .val (.int i1), .val (.int i2), .val (.int i3), .val (.int i4), .val (.int i_), .val (.int n_), .val (.int f7), .val (.int f8), .val (.int f9), .val (.int f10), .val (.int f11), .val v12, .val v13, .val v14, .val v15, .val (.ref c_), .val (.ref r), .val (.int (Int32.ofNat nm.length)), .val (.ref lm), .val (.ref le), .val (.int (Int32.ofNat (20 + nm.length + 9 + mw.length + 8 + ew.length + 1))), .unset] [(.int (20 : Int32))]))
      refine oSt (fun _ => XS.iload A.here hx rfl (Jvm.hb hby at_317) rfl) ?_
      show oGo p e below _ (T.setTop (mkF m 319 #[.val (.int i0), .val (.int i1), .val (.int i2), .val (.int i3), .val (.int i4), .val (.int i_), .val (.int n_), .val (.int f7), .val (.int f8), .val (.int f9), .val (.int f10), .val (.int f11), .val v12, .val v13, .val v14, .val v15, .val (.ref c_), .val (.ref r), .val (.int (Int32.ofNat nm.length)), .val (.ref lm), .val (.ref le), .val (.int (Int32.ofNat (20 + nm.length + 9 + mw.length + 8 + ew.length + 1))), .unset] [(.int (Int32.ofNat nm.length)), (.int (20 : Int32))]))
      refine oSt (fun _ => XS.iadd A.here hx rfl (Jvm.hb hby at_319) rfl) ?_
      show oGo p e below _ (T.setTop (mkF m 320 #[.val (.int i0), .val (.int i1), .val (.int i2), .val (.int i3), .val (.int i4), .val (.int i_), .val (.int n_), .val (.int f7), .val (.int f8), .val (.int f9), .val (.int f10), .val (.int f11), .val v12, .val v13, .val v14, .val v15, .val (.ref c_), .val (.ref r), .val (.int (Int32.ofNat nm.length)), .val (.ref lm), .val (.ref le), .val (.int (Int32.ofNat (20 + nm.length + 9 + mw.length + 8 + ew.length + 1))), .unset] [(.int ((20 : Int32) + (Int32.ofNat nm.length)))]))
      rw [show ((20 : Int32) + (Int32.ofNat nm.length)) = Int32.ofNat (20 + nm.length) from by rw [show (20 : Int32) = Int32.ofNat 20 from rfl, own_addn (by omega)]]
      show oGo p e below _ (T.setTop (mkF m 320 #[.val (.int i0), .val (.int i1), .val (.int i2), .val (.int i3), .val (.int i4), .val (.int i_), .val (.int n_), .val (.int f7), .val (.int f8), .val (.int f9), .val (.int f10), .val (.int f11), .val v12, .val v13, .val v14, .val v15, .val (.ref c_), .val (.ref r), .val (.int (Int32.ofNat nm.length)), .val (.ref lm), .val (.ref le), .val (.int (Int32.ofNat (20 + nm.length + 9 + mw.length + 8 + ew.length + 1))), .unset] [(.int (Int32.ofNat (20 + nm.length)))]))
      refine oSt (fun _ => XS.istore A.here hx rfl (Jvm.hb hby at_320) rfl (l' := #[.val (.int i0), .val (.int i1), .val (.int i2), .val (.int i3), .val (.int i4), .val (.int i_), .val (.int n_), .val (.int f7), .val (.int f8), .val (.int f9), .val (.int f10), .val (.int f11), .val v12, .val v13, .val v14, .val v15, .val (.ref c_), .val (.ref r), .val (.int (Int32.ofNat nm.length)), .val (.ref lm), .val (.ref le), .val (.int (Int32.ofNat (20 + nm.length + 9 + mw.length + 8 + ew.length + 1))), .val (.int (Int32.ofNat (20 + nm.length)))]) rfl) ?_
      show oGo p e below _ (T.setTop (mkF m 322 #[.val (.int i0), .val (.int i1), .val (.int i2), .val (.int i3), .val (.int i4), .val (.int i_), .val (.int n_), .val (.int f7), .val (.int f8), .val (.int f9), .val (.int f10), .val (.int f11), .val v12, .val v13, .val v14, .val v15, .val (.ref c_), .val (.ref r), .val (.int (Int32.ofNat nm.length)), .val (.ref lm), .val (.ref le), .val (.int (Int32.ofNat (20 + nm.length + 9 + mw.length + 8 + ew.length + 1))), .val (.int (Int32.ofNat (20 + nm.length)))] []))
      refine oSt (fun _ => XS.aload A.here hx rfl (Jvm.hb hby at_322) rfl rfl) ?_
      show oGo p e below _ (T.setTop (mkF m 324 #[.val (.int i0), .val (.int i1), .val (.int i2), .val (.int i3), .val (.int i4), .val (.int i_), .val (.int n_), .val (.int f7), .val (.int f8), .val (.int f9), .val (.int f10), .val (.int f11), .val v12, .val v13, .val v14, .val v15, .val (.ref c_), .val (.ref r), .val (.int (Int32.ofNat nm.length)), .val (.ref lm), .val (.ref le), .val (.int (Int32.ofNat (20 + nm.length + 9 + mw.length + 8 + ew.length + 1))), .val (.int (Int32.ofNat (20 + nm.length)))] [(.ref r)]))
      refine oSt (fun _ => XS.iload A.here hx rfl (Jvm.hb hby at_324) rfl) ?_
      show oGo p e below _ (T.setTop (mkF m 326 #[.val (.int i0), .val (.int i1), .val (.int i2), .val (.int i3), .val (.int i4), .val (.int i_), .val (.int n_), .val (.int f7), .val (.int f8), .val (.int f9), .val (.int f10), .val (.int f11), .val v12, .val v13, .val v14, .val v15, .val (.ref c_), .val (.ref r), .val (.int (Int32.ofNat nm.length)), .val (.ref lm), .val (.ref le), .val (.int (Int32.ofNat (20 + nm.length + 9 + mw.length + 8 + ew.length + 1))), .val (.int (Int32.ofNat (20 + nm.length)))] [(.int (Int32.ofNat (20 + nm.length))), (.ref r)]))
      obtain ⟨l3, T, h, bb, kb, A, X, CR, E_l3, C_l3, V_l3, K_l3, ne_l3, Li, st⟩ := A.ldcS hx (hw _ (List.mem_of_getElem? (i := 239) rfl)) hlit hEL (List.mem_of_getElem? (i := 12) rfl) (vs := (([44, 32, 109, 111, 98, 105, 108, 101, 61] : List Int32).map fun c => c.toInt8.toInt32).map Value.int) (z := Int32.ofNat ([44, 32, 109, 111, 98, 105, 108, 101, 61] : List Int32).length) ⟨by decide +kernel, by decide +kernel⟩ (by decide +kernel) (by decide +kernel) (g := (mkF m 326 #[.val (.int i0), .val (.int i1), .val (.int i2), .val (.int i3), .val (.int i4), .val (.int i_), .val (.int n_), .val (.int f7), .val (.int f8), .val (.int f9), .val (.int f10), .val (.int f11), .val v12, .val v13, .val v14, .val v15, .val (.ref c_), .val (.ref r), .val (.int (Int32.ofNat nm.length)), .val (.ref lm), .val (.ref le), .val (.int (Int32.ofNat (20 + nm.length + 9 + mw.length + 8 + ew.length + 1))), .val (.int (Int32.ofNat (20 + nm.length)))] [(.int (Int32.ofNat (20 + nm.length))), (.ref r)])) rfl (Jvm.hb hby at_326) (n := 36) (by decide +kernel) (by decide) (by decide) (by decide)
      refine oSt st ?_
      show oGo p e below _ (T.setTop (mkF m 328 #[.val (.int i0), .val (.int i1), .val (.int i2), .val (.int i3), .val (.int i4), .val (.int i_), .val (.int n_), .val (.int f7), .val (.int f8), .val (.int f9), .val (.int f10), .val (.int f11), .val v12, .val v13, .val v14, .val v15, .val (.ref c_), .val (.ref r), .val (.int (Int32.ofNat nm.length)), .val (.ref lm), .val (.ref le), .val (.int (Int32.ofNat (20 + nm.length + 9 + mw.length + 8 + ew.length + 1))), .val (.int (Int32.ofNat (20 + nm.length)))] [(.ref l3), (.int (Int32.ofNat (20 + nm.length))), (.ref r)]))
      have Q_l3 : oStr Z h l3 ([44, 32, 109, 111, 98, 105, 108, 101, 61] : List Int32) := ⟨(oPS (by decide) (oPS (by decide) (oPS (by decide) (oPS (by decide) (oPS (by decide) (oPS (by decide) (oPS (by decide) (oPS (by decide) (oPS (by decide) oP0))))))))), by decide, bb, kb, E_l3, V_l3, C_l3, K_l3⟩
      have Q := Q.ext X
      have Qm := Qm.ext X
      have Qe := Qe.ext X
      obtain ⟨_, vm, T, h, L, A, K, CR, ⟨rfl, rfl⟩, st⟩ := A.callS hx (y := (⟨"com/example/stallwright/stallwright/store/CustomerToStringPinLaw", "at", "(Ljava/lang/String;ILjava/lang/String;)Z"⟩ : MethodName)) (hw _ (List.mem_of_getElem? (i := 211) rfl)) (hw _ (List.mem_of_getElem? (i := 212) rfl)) (hw _ (List.mem_of_getElem? (i := 28) rfl)) (hw _ (List.mem_of_getElem? (i := 213) rfl)) (by decide) hEL (argsL := [(.ref r), (.int (Int32.ofNat (20 + nm.length))), (.ref l3)]) (rest := []) (own_at l Z a0 hw hEL n0 _ A.oldn r l3 (20 + nm.length) _ _ zc hcs hcz fm hfm rfm Q Q_l3 ⟨(([67, 117, 115, 116, 111, 109, 101, 114, 91, 105, 100, 61] : List Int32) ++ [i_] ++ ([44, 32, 110, 97, 109, 101, 61] : List Int32) ++ nm), mw ++ ([44, 32, 101, 109, 97, 105, 108, 61] : List Int32) ++ ew ++ ([93] : List Int32), by simp, by simp <;> omega⟩) (W := 0) (by decide) (by decide) (by decide) (by decide) all0 all0 all0 (g := (mkF m 328 #[.val (.int i0), .val (.int i1), .val (.int i2), .val (.int i3), .val (.int i4), .val (.int i_), .val (.int n_), .val (.int f7), .val (.int f8), .val (.int f9), .val (.int f10), .val (.int f11), .val v12, .val v13, .val v14, .val v15, .val (.ref c_), .val (.ref r), .val (.int (Int32.ofNat nm.length)), .val (.ref lm), .val (.ref le), .val (.int (Int32.ofNat (20 + nm.length + 9 + mw.length + 8 + ew.length + 1))), .val (.int (Int32.ofNat (20 + nm.length)))] [(.ref l3), (.int (Int32.ofNat (20 + nm.length))), (.ref r)])) rfl (by rw [hml]; rfl) (lenOf opd27 rfl) rfl (by show 2 * 0 + _ ≤ _; exact Nat.le_of_eq rfl) (Jvm.hb hby at_328)
      refine oSt st ?_
      have X := oExt0 K
      have Q := Q.ext X
      have Qm := Qm.ext X
      have Qe := Qe.ext X
      show oGo p e below _ (T.setTop (mkF m 331 #[.val (.int i0), .val (.int i1), .val (.int i2), .val (.int i3), .val (.int i4), .val (.int i_), .val (.int n_), .val (.int f7), .val (.int f8), .val (.int f9), .val (.int f10), .val (.int f11), .val v12, .val v13, .val v14, .val v15, .val (.ref c_), .val (.ref r), .val (.int (Int32.ofNat nm.length)), .val (.ref lm), .val (.ref le), .val (.int (Int32.ofNat (20 + nm.length + 9 + mw.length + 8 + ew.length + 1))), .val (.int (Int32.ofNat (20 + nm.length)))] [(.int (1 : Int32))]))
      refine oSt (fun _ => XS.ifYes A.here hx rfl (pc0 := 331) (pc' := 336) rfl (Jvm.hb hby at_331) rfl (Jvm.Free.XT.i0_ne_t (by decide)) (by decide) (by decide)) ?_
      show oGo p e below _ (T.setTop (mkF m 336 #[.val (.int i0), .val (.int i1), .val (.int i2), .val (.int i3), .val (.int i4), .val (.int i_), .val (.int n_), .val (.int f7), .val (.int f8), .val (.int f9), .val (.int f10), .val (.int f11), .val v12, .val v13, .val v14, .val v15, .val (.ref c_), .val (.ref r), .val (.int (Int32.ofNat nm.length)), .val (.ref lm), .val (.ref le), .val (.int (Int32.ofNat (20 + nm.length + 9 + mw.length + 8 + ew.length + 1))), .val (.int (Int32.ofNat (20 + nm.length)))] []))
      refine oSt (fun _ => XS.iload A.here hx rfl (Jvm.hb hby at_336) rfl) ?_
      show oGo p e below _ (T.setTop (mkF m 338 #[.val (.int i0), .val (.int i1), .val (.int i2), .val (.int i3), .val (.int i4), .val (.int i_), .val (.int n_), .val (.int f7), .val (.int f8), .val (.int f9), .val (.int f10), .val (.int f11), .val v12, .val v13, .val v14, .val v15, .val (.ref c_), .val (.ref r), .val (.int (Int32.ofNat nm.length)), .val (.ref lm), .val (.ref le), .val (.int (Int32.ofNat (20 + nm.length + 9 + mw.length + 8 + ew.length + 1))), .val (.int (Int32.ofNat (20 + nm.length)))] [(.int (Int32.ofNat (20 + nm.length)))]))
      refine oSt (fun _ => XS.bipush A.here hx rfl (Jvm.hb hby at_338)) ?_
      show oGo p e below _ (T.setTop (mkF m 340 #[.val (.int i0), .val (.int i1), .val (.int i2), .val (.int i3), .val (.int i4), .val (.int i_), .val (.int n_), .val (.int f7), .val (.int f8), .val (.int f9), .val (.int f10), .val (.int f11), .val v12, .val v13, .val v14, .val v15, .val (.ref c_), .val (.ref r), .val (.int (Int32.ofNat nm.length)), .val (.ref lm), .val (.ref le), .val (.int (Int32.ofNat (20 + nm.length + 9 + mw.length + 8 + ew.length + 1))), .val (.int (Int32.ofNat (20 + nm.length)))] [(.int (9 : Int32)), (.int (Int32.ofNat (20 + nm.length)))]))
      refine oSt (fun _ => XS.iadd A.here hx rfl (Jvm.hb hby at_340) rfl) ?_
      show oGo p e below _ (T.setTop (mkF m 341 #[.val (.int i0), .val (.int i1), .val (.int i2), .val (.int i3), .val (.int i4), .val (.int i_), .val (.int n_), .val (.int f7), .val (.int f8), .val (.int f9), .val (.int f10), .val (.int f11), .val v12, .val v13, .val v14, .val v15, .val (.ref c_), .val (.ref r), .val (.int (Int32.ofNat nm.length)), .val (.ref lm), .val (.ref le), .val (.int (Int32.ofNat (20 + nm.length + 9 + mw.length + 8 + ew.length + 1))), .val (.int (Int32.ofNat (20 + nm.length)))] [(.int ((Int32.ofNat (20 + nm.length)) + (9 : Int32)))]))
      rw [show ((Int32.ofNat (20 + nm.length)) + (9 : Int32)) = Int32.ofNat (20 + nm.length + 9) from by rw [show (9 : Int32) = Int32.ofNat 9 from rfl, own_addn (by omega)]]
      show oGo p e below _ (T.setTop (mkF m 341 #[.val (.int i0), .val (.int i1), .val (.int i2), .val (.int i3), .val (.int i4), .val (.int i_), .val (.int n_), .val (.int f7), .val (.int f8), .val (.int f9), .val (.int f10), .val (.int f11), .val v12, .val v13, .val v14, .val v15, .val (.ref c_), .val (.ref r), .val (.int (Int32.ofNat nm.length)), .val (.ref lm), .val (.ref le), .val (.int (Int32.ofNat (20 + nm.length + 9 + mw.length + 8 + ew.length + 1))), .val (.int (Int32.ofNat (20 + nm.length)))] [(.int (Int32.ofNat (20 + nm.length + 9)))]))
      refine oSt (fun _ => XS.istore A.here hx rfl (Jvm.hb hby at_341) rfl (l' := #[.val (.int i0), .val (.int i1), .val (.int i2), .val (.int i3), .val (.int i4), .val (.int i_), .val (.int n_), .val (.int f7), .val (.int f8), .val (.int f9), .val (.int f10), .val (.int f11), .val v12, .val v13, .val v14, .val v15, .val (.ref c_), .val (.ref r), .val (.int (Int32.ofNat nm.length)), .val (.ref lm), .val (.ref le), .val (.int (Int32.ofNat (20 + nm.length + 9 + mw.length + 8 + ew.length + 1))), .val (.int (Int32.ofNat (20 + nm.length + 9)))]) rfl) ?_
      show oGo p e below _ (T.setTop (mkF m 343 #[.val (.int i0), .val (.int i1), .val (.int i2), .val (.int i3), .val (.int i4), .val (.int i_), .val (.int n_), .val (.int f7), .val (.int f8), .val (.int f9), .val (.int f10), .val (.int f11), .val v12, .val v13, .val v14, .val v15, .val (.ref c_), .val (.ref r), .val (.int (Int32.ofNat nm.length)), .val (.ref lm), .val (.ref le), .val (.int (Int32.ofNat (20 + nm.length + 9 + mw.length + 8 + ew.length + 1))), .val (.int (Int32.ofNat (20 + nm.length + 9)))] []))
      refine oSt (fun _ => XS.aload A.here hx rfl (Jvm.hb hby at_343) rfl rfl) ?_
      show oGo p e below _ (T.setTop (mkF m 345 #[.val (.int i0), .val (.int i1), .val (.int i2), .val (.int i3), .val (.int i4), .val (.int i_), .val (.int n_), .val (.int f7), .val (.int f8), .val (.int f9), .val (.int f10), .val (.int f11), .val v12, .val v13, .val v14, .val v15, .val (.ref c_), .val (.ref r), .val (.int (Int32.ofNat nm.length)), .val (.ref lm), .val (.ref le), .val (.int (Int32.ofNat (20 + nm.length + 9 + mw.length + 8 + ew.length + 1))), .val (.int (Int32.ofNat (20 + nm.length + 9)))] [(.ref r)]))
      refine oSt (fun _ => XS.iload A.here hx rfl (Jvm.hb hby at_345) rfl) ?_
      show oGo p e below _ (T.setTop (mkF m 347 #[.val (.int i0), .val (.int i1), .val (.int i2), .val (.int i3), .val (.int i4), .val (.int i_), .val (.int n_), .val (.int f7), .val (.int f8), .val (.int f9), .val (.int f10), .val (.int f11), .val v12, .val v13, .val v14, .val v15, .val (.ref c_), .val (.ref r), .val (.int (Int32.ofNat nm.length)), .val (.ref lm), .val (.ref le), .val (.int (Int32.ofNat (20 + nm.length + 9 + mw.length + 8 + ew.length + 1))), .val (.int (Int32.ofNat (20 + nm.length + 9)))] [(.int (Int32.ofNat (20 + nm.length + 9))), (.ref r)]))
      refine oSt (fun _ => XS.aload A.here hx rfl (Jvm.hb hby at_347) rfl rfl) ?_
      show oGo p e below _ (T.setTop (mkF m 349 #[.val (.int i0), .val (.int i1), .val (.int i2), .val (.int i3), .val (.int i4), .val (.int i_), .val (.int n_), .val (.int f7), .val (.int f8), .val (.int f9), .val (.int f10), .val (.int f11), .val v12, .val v13, .val v14, .val v15, .val (.ref c_), .val (.ref r), .val (.int (Int32.ofNat nm.length)), .val (.ref lm), .val (.ref le), .val (.int (Int32.ofNat (20 + nm.length + 9 + mw.length + 8 + ew.length + 1))), .val (.int (Int32.ofNat (20 + nm.length + 9)))] [(.ref lm), (.int (Int32.ofNat (20 + nm.length + 9))), (.ref r)]))
      obtain ⟨_, vm, T, h, L, A, K, CR, ⟨rfl, rfl⟩, st⟩ := A.callS hx (y := (⟨"com/example/stallwright/stallwright/store/CustomerToStringPinLaw", "at", "(Ljava/lang/String;ILjava/lang/String;)Z"⟩ : MethodName)) (hw _ (List.mem_of_getElem? (i := 211) rfl)) (hw _ (List.mem_of_getElem? (i := 212) rfl)) (hw _ (List.mem_of_getElem? (i := 28) rfl)) (hw _ (List.mem_of_getElem? (i := 213) rfl)) (by decide) hEL (argsL := [(.ref r), (.int (Int32.ofNat (20 + nm.length + 9))), (.ref lm)]) (rest := []) (own_at l Z a0 hw hEL n0 _ A.oldn r lm (20 + nm.length + 9) _ _ zc hcs hcz fm hfm rfm Q Qm ⟨(([67, 117, 115, 116, 111, 109, 101, 114, 91, 105, 100, 61] : List Int32) ++ [i_] ++ ([44, 32, 110, 97, 109, 101, 61] : List Int32) ++ nm ++ ([44, 32, 109, 111, 98, 105, 108, 101, 61] : List Int32)), ([44, 32, 101, 109, 97, 105, 108, 61] : List Int32) ++ ew ++ ([93] : List Int32), by simp, by simp <;> omega⟩) (W := 0) (by decide) (by decide) (by decide) (by decide) all0 all0 all0 (g := (mkF m 349 #[.val (.int i0), .val (.int i1), .val (.int i2), .val (.int i3), .val (.int i4), .val (.int i_), .val (.int n_), .val (.int f7), .val (.int f8), .val (.int f9), .val (.int f10), .val (.int f11), .val v12, .val v13, .val v14, .val v15, .val (.ref c_), .val (.ref r), .val (.int (Int32.ofNat nm.length)), .val (.ref lm), .val (.ref le), .val (.int (Int32.ofNat (20 + nm.length + 9 + mw.length + 8 + ew.length + 1))), .val (.int (Int32.ofNat (20 + nm.length + 9)))] [(.ref lm), (.int (Int32.ofNat (20 + nm.length + 9))), (.ref r)])) rfl (by rw [hml]; rfl) (lenOf opd27 rfl) rfl (by show 2 * 0 + _ ≤ _; exact Nat.le_of_eq rfl) (Jvm.hb hby at_349)
      refine oSt st ?_
      have X := oExt0 K
      have Q := Q.ext X
      have Qm := Qm.ext X
      have Qe := Qe.ext X
      show oGo p e below _ (T.setTop (mkF m 352 #[.val (.int i0), .val (.int i1), .val (.int i2), .val (.int i3), .val (.int i4), .val (.int i_), .val (.int n_), .val (.int f7), .val (.int f8), .val (.int f9), .val (.int f10), .val (.int f11), .val v12, .val v13, .val v14, .val v15, .val (.ref c_), .val (.ref r), .val (.int (Int32.ofNat nm.length)), .val (.ref lm), .val (.ref le), .val (.int (Int32.ofNat (20 + nm.length + 9 + mw.length + 8 + ew.length + 1))), .val (.int (Int32.ofNat (20 + nm.length + 9)))] [(.int (1 : Int32))]))
      refine oSt (fun _ => XS.ifYes A.here hx rfl (pc0 := 352) (pc' := 357) rfl (Jvm.hb hby at_352) rfl (Jvm.Free.XT.i0_ne_t (by decide)) (by decide) (by decide)) ?_
      show oGo p e below _ (T.setTop (mkF m 357 #[.val (.int i0), .val (.int i1), .val (.int i2), .val (.int i3), .val (.int i4), .val (.int i_), .val (.int n_), .val (.int f7), .val (.int f8), .val (.int f9), .val (.int f10), .val (.int f11), .val v12, .val v13, .val v14, .val v15, .val (.ref c_), .val (.ref r), .val (.int (Int32.ofNat nm.length)), .val (.ref lm), .val (.ref le), .val (.int (Int32.ofNat (20 + nm.length + 9 + mw.length + 8 + ew.length + 1))), .val (.int (Int32.ofNat (20 + nm.length + 9)))] []))
      refine oSt (fun _ => XS.iload A.here hx rfl (Jvm.hb hby at_357) rfl) ?_
      show oGo p e below _ (T.setTop (mkF m 359 #[.val (.int i0), .val (.int i1), .val (.int i2), .val (.int i3), .val (.int i4), .val (.int i_), .val (.int n_), .val (.int f7), .val (.int f8), .val (.int f9), .val (.int f10), .val (.int f11), .val v12, .val v13, .val v14, .val v15, .val (.ref c_), .val (.ref r), .val (.int (Int32.ofNat nm.length)), .val (.ref lm), .val (.ref le), .val (.int (Int32.ofNat (20 + nm.length + 9 + mw.length + 8 + ew.length + 1))), .val (.int (Int32.ofNat (20 + nm.length + 9)))] [(.int (Int32.ofNat (20 + nm.length + 9)))]))
      refine oSt (fun _ => XS.aload A.here hx rfl (Jvm.hb hby at_359) rfl rfl) ?_
      show oGo p e below _ (T.setTop (mkF m 361 #[.val (.int i0), .val (.int i1), .val (.int i2), .val (.int i3), .val (.int i4), .val (.int i_), .val (.int n_), .val (.int f7), .val (.int f8), .val (.int f9), .val (.int f10), .val (.int f11), .val v12, .val v13, .val v14, .val v15, .val (.ref c_), .val (.ref r), .val (.int (Int32.ofNat nm.length)), .val (.ref lm), .val (.ref le), .val (.int (Int32.ofNat (20 + nm.length + 9 + mw.length + 8 + ew.length + 1))), .val (.int (Int32.ofNat (20 + nm.length + 9)))] [(.ref lm), (.int (Int32.ofNat (20 + nm.length + 9)))]))
      obtain ⟨T, A, st⟩ := A.sLen hx hln (hw _ (List.mem_of_getElem? (i := 10) rfl)) (hw _ (List.mem_of_getElem? (i := 209) rfl)) (hw _ (List.mem_of_getElem? (i := 105) rfl)) (hw _ (List.mem_of_getElem? (i := 107) rfl)) (hw _ (List.mem_of_getElem? (i := 106) rfl)) Qm hcs hcz (W := 1) (by decide) (by decide) (by decide) (by decide) (g := (mkF m 361 #[.val (.int i0), .val (.int i1), .val (.int i2), .val (.int i3), .val (.int i4), .val (.int i_), .val (.int n_), .val (.int f7), .val (.int f8), .val (.int f9), .val (.int f10), .val (.int f11), .val v12, .val v13, .val v14, .val v15, .val (.ref c_), .val (.ref r), .val (.int (Int32.ofNat nm.length)), .val (.ref lm), .val (.ref le), .val (.int (Int32.ofNat (20 + nm.length + 9 + mw.length + 8 + ew.length + 1))), .val (.int (Int32.ofNat (20 + nm.length + 9)))] [(.ref lm), (.int (Int32.ofNat (20 + nm.length + 9)))])) rfl (by rw [hml]; rfl) rfl (by show 2 * 0 + _ ≤ _; exact Nat.le_of_eq rfl) (Jvm.hb hby at_361)
      refine oSt st ?_
      show oGo p e below _ (T.setTop (mkF m 364 #[.val (.int i0), .val (.int i1), .val (.int i2), .val (.int i3), .val (.int i4), .val (.int i_), .val (.int n_), .val (.int f7), .val (.int f8), .val (.int f9), .val (.int f10), .val (.int f11), .val v12, .val v13, .val v14, .val v15, .val (.ref c_), .val (.ref r), .val (.int (Int32.ofNat nm.length)), .val (.ref lm), .val (.ref le), .val (.int (Int32.ofNat (20 + nm.length + 9 + mw.length + 8 + ew.length + 1))), .val (.int (Int32.ofNat (20 + nm.length + 9)))] [(.int (Int32.ofNat mw.length)), (.int (Int32.ofNat (20 + nm.length + 9)))]))
      refine oSt (fun _ => XS.iadd A.here hx rfl (Jvm.hb hby at_364) rfl) ?_
      show oGo p e below _ (T.setTop (mkF m 365 #[.val (.int i0), .val (.int i1), .val (.int i2), .val (.int i3), .val (.int i4), .val (.int i_), .val (.int n_), .val (.int f7), .val (.int f8), .val (.int f9), .val (.int f10), .val (.int f11), .val v12, .val v13, .val v14, .val v15, .val (.ref c_), .val (.ref r), .val (.int (Int32.ofNat nm.length)), .val (.ref lm), .val (.ref le), .val (.int (Int32.ofNat (20 + nm.length + 9 + mw.length + 8 + ew.length + 1))), .val (.int (Int32.ofNat (20 + nm.length + 9)))] [(.int ((Int32.ofNat (20 + nm.length + 9)) + (Int32.ofNat mw.length)))]))
      rw [show ((Int32.ofNat (20 + nm.length + 9)) + (Int32.ofNat mw.length)) = Int32.ofNat (20 + nm.length + 9 + mw.length) from by rw [own_addn (by omega)]]
      show oGo p e below _ (T.setTop (mkF m 365 #[.val (.int i0), .val (.int i1), .val (.int i2), .val (.int i3), .val (.int i4), .val (.int i_), .val (.int n_), .val (.int f7), .val (.int f8), .val (.int f9), .val (.int f10), .val (.int f11), .val v12, .val v13, .val v14, .val v15, .val (.ref c_), .val (.ref r), .val (.int (Int32.ofNat nm.length)), .val (.ref lm), .val (.ref le), .val (.int (Int32.ofNat (20 + nm.length + 9 + mw.length + 8 + ew.length + 1))), .val (.int (Int32.ofNat (20 + nm.length + 9)))] [(.int (Int32.ofNat (20 + nm.length + 9 + mw.length)))]))
      refine oSt (fun _ => XS.istore A.here hx rfl (Jvm.hb hby at_365) rfl (l' := #[.val (.int i0), .val (.int i1), .val (.int i2), .val (.int i3), .val (.int i4), .val (.int i_), .val (.int n_), .val (.int f7), .val (.int f8), .val (.int f9), .val (.int f10), .val (.int f11), .val v12, .val v13, .val v14, .val v15, .val (.ref c_), .val (.ref r), .val (.int (Int32.ofNat nm.length)), .val (.ref lm), .val (.ref le), .val (.int (Int32.ofNat (20 + nm.length + 9 + mw.length + 8 + ew.length + 1))), .val (.int (Int32.ofNat (20 + nm.length + 9 + mw.length)))]) rfl) ?_
      show oGo p e below _ (T.setTop (mkF m 367 #[.val (.int i0), .val (.int i1), .val (.int i2), .val (.int i3), .val (.int i4), .val (.int i_), .val (.int n_), .val (.int f7), .val (.int f8), .val (.int f9), .val (.int f10), .val (.int f11), .val v12, .val v13, .val v14, .val v15, .val (.ref c_), .val (.ref r), .val (.int (Int32.ofNat nm.length)), .val (.ref lm), .val (.ref le), .val (.int (Int32.ofNat (20 + nm.length + 9 + mw.length + 8 + ew.length + 1))), .val (.int (Int32.ofNat (20 + nm.length + 9 + mw.length)))] []))
      refine oSt (fun _ => XS.aload A.here hx rfl (Jvm.hb hby at_367) rfl rfl) ?_
      show oGo p e below _ (T.setTop (mkF m 369 #[.val (.int i0), .val (.int i1), .val (.int i2), .val (.int i3), .val (.int i4), .val (.int i_), .val (.int n_), .val (.int f7), .val (.int f8), .val (.int f9), .val (.int f10), .val (.int f11), .val v12, .val v13, .val v14, .val v15, .val (.ref c_), .val (.ref r), .val (.int (Int32.ofNat nm.length)), .val (.ref lm), .val (.ref le), .val (.int (Int32.ofNat (20 + nm.length + 9 + mw.length + 8 + ew.length + 1))), .val (.int (Int32.ofNat (20 + nm.length + 9 + mw.length)))] [(.ref r)]))
      refine oSt (fun _ => XS.iload A.here hx rfl (Jvm.hb hby at_369) rfl) ?_
      show oGo p e below _ (T.setTop (mkF m 371 #[.val (.int i0), .val (.int i1), .val (.int i2), .val (.int i3), .val (.int i4), .val (.int i_), .val (.int n_), .val (.int f7), .val (.int f8), .val (.int f9), .val (.int f10), .val (.int f11), .val v12, .val v13, .val v14, .val v15, .val (.ref c_), .val (.ref r), .val (.int (Int32.ofNat nm.length)), .val (.ref lm), .val (.ref le), .val (.int (Int32.ofNat (20 + nm.length + 9 + mw.length + 8 + ew.length + 1))), .val (.int (Int32.ofNat (20 + nm.length + 9 + mw.length)))] [(.int (Int32.ofNat (20 + nm.length + 9 + mw.length))), (.ref r)]))
      obtain ⟨l4, T, h, bb, kb, A, X, CR, E_l4, C_l4, V_l4, K_l4, ne_l4, Li, st⟩ := A.ldcS hx (hw _ (List.mem_of_getElem? (i := 240) rfl)) hlit hEL (List.mem_of_getElem? (i := 13) rfl) (vs := (([44, 32, 101, 109, 97, 105, 108, 61] : List Int32).map fun c => c.toInt8.toInt32).map Value.int) (z := Int32.ofNat ([44, 32, 101, 109, 97, 105, 108, 61] : List Int32).length) ⟨by decide +kernel, by decide +kernel⟩ (by decide +kernel) (by decide +kernel) (g := (mkF m 371 #[.val (.int i0), .val (.int i1), .val (.int i2), .val (.int i3), .val (.int i4), .val (.int i_), .val (.int n_), .val (.int f7), .val (.int f8), .val (.int f9), .val (.int f10), .val (.int f11), .val v12, .val v13, .val v14, .val v15, .val (.ref c_), .val (.ref r), .val (.int (Int32.ofNat nm.length)), .val (.ref lm), .val (.ref le), .val (.int (Int32.ofNat (20 + nm.length + 9 + mw.length + 8 + ew.length + 1))), .val (.int (Int32.ofNat (20 + nm.length + 9 + mw.length)))] [(.int (Int32.ofNat (20 + nm.length + 9 + mw.length))), (.ref r)])) rfl (Jvm.hb hby at_371) (n := 32) (by decide +kernel) (by decide) (by decide) (by decide)
      refine oSt st ?_
      show oGo p e below _ (T.setTop (mkF m 373 #[.val (.int i0), .val (.int i1), .val (.int i2), .val (.int i3), .val (.int i4), .val (.int i_), .val (.int n_), .val (.int f7), .val (.int f8), .val (.int f9), .val (.int f10), .val (.int f11), .val v12, .val v13, .val v14, .val v15, .val (.ref c_), .val (.ref r), .val (.int (Int32.ofNat nm.length)), .val (.ref lm), .val (.ref le), .val (.int (Int32.ofNat (20 + nm.length + 9 + mw.length + 8 + ew.length + 1))), .val (.int (Int32.ofNat (20 + nm.length + 9 + mw.length)))] [(.ref l4), (.int (Int32.ofNat (20 + nm.length + 9 + mw.length))), (.ref r)]))
      have Q_l4 : oStr Z h l4 ([44, 32, 101, 109, 97, 105, 108, 61] : List Int32) := ⟨(oPS (by decide) (oPS (by decide) (oPS (by decide) (oPS (by decide) (oPS (by decide) (oPS (by decide) (oPS (by decide) (oPS (by decide) oP0)))))))), by decide, bb, kb, E_l4, V_l4, C_l4, K_l4⟩
      have Q := Q.ext X
      have Qm := Qm.ext X
      have Qe := Qe.ext X
      obtain ⟨_, vm, T, h, L, A, K, CR, ⟨rfl, rfl⟩, st⟩ := A.callS hx (y := (⟨"com/example/stallwright/stallwright/store/CustomerToStringPinLaw", "at", "(Ljava/lang/String;ILjava/lang/String;)Z"⟩ : MethodName)) (hw _ (List.mem_of_getElem? (i := 211) rfl)) (hw _ (List.mem_of_getElem? (i := 212) rfl)) (hw _ (List.mem_of_getElem? (i := 28) rfl)) (hw _ (List.mem_of_getElem? (i := 213) rfl)) (by decide) hEL (argsL := [(.ref r), (.int (Int32.ofNat (20 + nm.length + 9 + mw.length))), (.ref l4)]) (rest := []) (own_at l Z a0 hw hEL n0 _ A.oldn r l4 (20 + nm.length + 9 + mw.length) _ _ zc hcs hcz fm hfm rfm Q Q_l4 ⟨(([67, 117, 115, 116, 111, 109, 101, 114, 91, 105, 100, 61] : List Int32) ++ [i_] ++ ([44, 32, 110, 97, 109, 101, 61] : List Int32) ++ nm ++ ([44, 32, 109, 111, 98, 105, 108, 101, 61] : List Int32) ++ mw), ew ++ ([93] : List Int32), by simp, by simp <;> omega⟩) (W := 0) (by decide) (by decide) (by decide) (by decide) all0 all0 all0 (g := (mkF m 373 #[.val (.int i0), .val (.int i1), .val (.int i2), .val (.int i3), .val (.int i4), .val (.int i_), .val (.int n_), .val (.int f7), .val (.int f8), .val (.int f9), .val (.int f10), .val (.int f11), .val v12, .val v13, .val v14, .val v15, .val (.ref c_), .val (.ref r), .val (.int (Int32.ofNat nm.length)), .val (.ref lm), .val (.ref le), .val (.int (Int32.ofNat (20 + nm.length + 9 + mw.length + 8 + ew.length + 1))), .val (.int (Int32.ofNat (20 + nm.length + 9 + mw.length)))] [(.ref l4), (.int (Int32.ofNat (20 + nm.length + 9 + mw.length))), (.ref r)])) rfl (by rw [hml]; rfl) (lenOf opd27 rfl) rfl (by show 2 * 0 + _ ≤ _; exact Nat.le_of_eq rfl) (Jvm.hb hby at_373)
      refine oSt st ?_
      have X := oExt0 K
      have Q := Q.ext X
      have Qm := Qm.ext X
      have Qe := Qe.ext X
      show oGo p e below _ (T.setTop (mkF m 376 #[.val (.int i0), .val (.int i1), .val (.int i2), .val (.int i3), .val (.int i4), .val (.int i_), .val (.int n_), .val (.int f7), .val (.int f8), .val (.int f9), .val (.int f10), .val (.int f11), .val v12, .val v13, .val v14, .val v15, .val (.ref c_), .val (.ref r), .val (.int (Int32.ofNat nm.length)), .val (.ref lm), .val (.ref le), .val (.int (Int32.ofNat (20 + nm.length + 9 + mw.length + 8 + ew.length + 1))), .val (.int (Int32.ofNat (20 + nm.length + 9 + mw.length)))] [(.int (1 : Int32))]))
      refine oSt (fun _ => XS.ifYes A.here hx rfl (pc0 := 376) (pc' := 381) rfl (Jvm.hb hby at_376) rfl (Jvm.Free.XT.i0_ne_t (by decide)) (by decide) (by decide)) ?_
      show oGo p e below _ (T.setTop (mkF m 381 #[.val (.int i0), .val (.int i1), .val (.int i2), .val (.int i3), .val (.int i4), .val (.int i_), .val (.int n_), .val (.int f7), .val (.int f8), .val (.int f9), .val (.int f10), .val (.int f11), .val v12, .val v13, .val v14, .val v15, .val (.ref c_), .val (.ref r), .val (.int (Int32.ofNat nm.length)), .val (.ref lm), .val (.ref le), .val (.int (Int32.ofNat (20 + nm.length + 9 + mw.length + 8 + ew.length + 1))), .val (.int (Int32.ofNat (20 + nm.length + 9 + mw.length)))] []))
      refine oSt (fun _ => XS.iload A.here hx rfl (Jvm.hb hby at_381) rfl) ?_
      show oGo p e below _ (T.setTop (mkF m 383 #[.val (.int i0), .val (.int i1), .val (.int i2), .val (.int i3), .val (.int i4), .val (.int i_), .val (.int n_), .val (.int f7), .val (.int f8), .val (.int f9), .val (.int f10), .val (.int f11), .val v12, .val v13, .val v14, .val v15, .val (.ref c_), .val (.ref r), .val (.int (Int32.ofNat nm.length)), .val (.ref lm), .val (.ref le), .val (.int (Int32.ofNat (20 + nm.length + 9 + mw.length + 8 + ew.length + 1))), .val (.int (Int32.ofNat (20 + nm.length + 9 + mw.length)))] [(.int (Int32.ofNat (20 + nm.length + 9 + mw.length)))]))
      refine oSt (fun _ => XS.bipush A.here hx rfl (Jvm.hb hby at_383)) ?_
      show oGo p e below _ (T.setTop (mkF m 385 #[.val (.int i0), .val (.int i1), .val (.int i2), .val (.int i3), .val (.int i4), .val (.int i_), .val (.int n_), .val (.int f7), .val (.int f8), .val (.int f9), .val (.int f10), .val (.int f11), .val v12, .val v13, .val v14, .val v15, .val (.ref c_), .val (.ref r), .val (.int (Int32.ofNat nm.length)), .val (.ref lm), .val (.ref le), .val (.int (Int32.ofNat (20 + nm.length + 9 + mw.length + 8 + ew.length + 1))), .val (.int (Int32.ofNat (20 + nm.length + 9 + mw.length)))] [(.int (8 : Int32)), (.int (Int32.ofNat (20 + nm.length + 9 + mw.length)))]))
      refine oSt (fun _ => XS.iadd A.here hx rfl (Jvm.hb hby at_385) rfl) ?_
      show oGo p e below _ (T.setTop (mkF m 386 #[.val (.int i0), .val (.int i1), .val (.int i2), .val (.int i3), .val (.int i4), .val (.int i_), .val (.int n_), .val (.int f7), .val (.int f8), .val (.int f9), .val (.int f10), .val (.int f11), .val v12, .val v13, .val v14, .val v15, .val (.ref c_), .val (.ref r), .val (.int (Int32.ofNat nm.length)), .val (.ref lm), .val (.ref le), .val (.int (Int32.ofNat (20 + nm.length + 9 + mw.length + 8 + ew.length + 1))), .val (.int (Int32.ofNat (20 + nm.length + 9 + mw.length)))] [(.int ((Int32.ofNat (20 + nm.length + 9 + mw.length)) + (8 : Int32)))]))
      rw [show ((Int32.ofNat (20 + nm.length + 9 + mw.length)) + (8 : Int32)) = Int32.ofNat (20 + nm.length + 9 + mw.length + 8) from by rw [show (8 : Int32) = Int32.ofNat 8 from rfl, own_addn (by omega)]]
      show oGo p e below _ (T.setTop (mkF m 386 #[.val (.int i0), .val (.int i1), .val (.int i2), .val (.int i3), .val (.int i4), .val (.int i_), .val (.int n_), .val (.int f7), .val (.int f8), .val (.int f9), .val (.int f10), .val (.int f11), .val v12, .val v13, .val v14, .val v15, .val (.ref c_), .val (.ref r), .val (.int (Int32.ofNat nm.length)), .val (.ref lm), .val (.ref le), .val (.int (Int32.ofNat (20 + nm.length + 9 + mw.length + 8 + ew.length + 1))), .val (.int (Int32.ofNat (20 + nm.length + 9 + mw.length)))] [(.int (Int32.ofNat (20 + nm.length + 9 + mw.length + 8)))]))
      refine oSt (fun _ => XS.istore A.here hx rfl (Jvm.hb hby at_386) rfl (l' := #[.val (.int i0), .val (.int i1), .val (.int i2), .val (.int i3), .val (.int i4), .val (.int i_), .val (.int n_), .val (.int f7), .val (.int f8), .val (.int f9), .val (.int f10), .val (.int f11), .val v12, .val v13, .val v14, .val v15, .val (.ref c_), .val (.ref r), .val (.int (Int32.ofNat nm.length)), .val (.ref lm), .val (.ref le), .val (.int (Int32.ofNat (20 + nm.length + 9 + mw.length + 8 + ew.length + 1))), .val (.int (Int32.ofNat (20 + nm.length + 9 + mw.length + 8)))]) rfl) ?_
      show oGo p e below _ (T.setTop (mkF m 388 #[.val (.int i0), .val (.int i1), .val (.int i2), .val (.int i3), .val (.int i4), .val (.int i_), .val (.int n_), .val (.int f7), .val (.int f8), .val (.int f9), .val (.int f10), .val (.int f11), .val v12, .val v13, .val v14, .val v15, .val (.ref c_), .val (.ref r), .val (.int (Int32.ofNat nm.length)), .val (.ref lm), .val (.ref le), .val (.int (Int32.ofNat (20 + nm.length + 9 + mw.length + 8 + ew.length + 1))), .val (.int (Int32.ofNat (20 + nm.length + 9 + mw.length + 8)))] []))
      refine oSt (fun _ => XS.aload A.here hx rfl (Jvm.hb hby at_388) rfl rfl) ?_
      show oGo p e below _ (T.setTop (mkF m 390 #[.val (.int i0), .val (.int i1), .val (.int i2), .val (.int i3), .val (.int i4), .val (.int i_), .val (.int n_), .val (.int f7), .val (.int f8), .val (.int f9), .val (.int f10), .val (.int f11), .val v12, .val v13, .val v14, .val v15, .val (.ref c_), .val (.ref r), .val (.int (Int32.ofNat nm.length)), .val (.ref lm), .val (.ref le), .val (.int (Int32.ofNat (20 + nm.length + 9 + mw.length + 8 + ew.length + 1))), .val (.int (Int32.ofNat (20 + nm.length + 9 + mw.length + 8)))] [(.ref r)]))
      refine oSt (fun _ => XS.iload A.here hx rfl (Jvm.hb hby at_390) rfl) ?_
      show oGo p e below _ (T.setTop (mkF m 392 #[.val (.int i0), .val (.int i1), .val (.int i2), .val (.int i3), .val (.int i4), .val (.int i_), .val (.int n_), .val (.int f7), .val (.int f8), .val (.int f9), .val (.int f10), .val (.int f11), .val v12, .val v13, .val v14, .val v15, .val (.ref c_), .val (.ref r), .val (.int (Int32.ofNat nm.length)), .val (.ref lm), .val (.ref le), .val (.int (Int32.ofNat (20 + nm.length + 9 + mw.length + 8 + ew.length + 1))), .val (.int (Int32.ofNat (20 + nm.length + 9 + mw.length + 8)))] [(.int (Int32.ofNat (20 + nm.length + 9 + mw.length + 8))), (.ref r)]))
      refine oSt (fun _ => XS.aload A.here hx rfl (Jvm.hb hby at_392) rfl rfl) ?_
      show oGo p e below _ (T.setTop (mkF m 394 #[.val (.int i0), .val (.int i1), .val (.int i2), .val (.int i3), .val (.int i4), .val (.int i_), .val (.int n_), .val (.int f7), .val (.int f8), .val (.int f9), .val (.int f10), .val (.int f11), .val v12, .val v13, .val v14, .val v15, .val (.ref c_), .val (.ref r), .val (.int (Int32.ofNat nm.length)), .val (.ref lm), .val (.ref le), .val (.int (Int32.ofNat (20 + nm.length + 9 + mw.length + 8 + ew.length + 1))), .val (.int (Int32.ofNat (20 + nm.length + 9 + mw.length + 8)))] [(.ref le), (.int (Int32.ofNat (20 + nm.length + 9 + mw.length + 8))), (.ref r)]))
      obtain ⟨_, vm, T, h, L, A, K, CR, ⟨rfl, rfl⟩, st⟩ := A.callS hx (y := (⟨"com/example/stallwright/stallwright/store/CustomerToStringPinLaw", "at", "(Ljava/lang/String;ILjava/lang/String;)Z"⟩ : MethodName)) (hw _ (List.mem_of_getElem? (i := 211) rfl)) (hw _ (List.mem_of_getElem? (i := 212) rfl)) (hw _ (List.mem_of_getElem? (i := 28) rfl)) (hw _ (List.mem_of_getElem? (i := 213) rfl)) (by decide) hEL (argsL := [(.ref r), (.int (Int32.ofNat (20 + nm.length + 9 + mw.length + 8))), (.ref le)]) (rest := []) (own_at l Z a0 hw hEL n0 _ A.oldn r le (20 + nm.length + 9 + mw.length + 8) _ _ zc hcs hcz fm hfm rfm Q Qe ⟨(([67, 117, 115, 116, 111, 109, 101, 114, 91, 105, 100, 61] : List Int32) ++ [i_] ++ ([44, 32, 110, 97, 109, 101, 61] : List Int32) ++ nm ++ ([44, 32, 109, 111, 98, 105, 108, 101, 61] : List Int32) ++ mw ++ ([44, 32, 101, 109, 97, 105, 108, 61] : List Int32)), ([93] : List Int32), by simp, by simp <;> omega⟩) (W := 0) (by decide) (by decide) (by decide) (by decide) all0 all0 all0 (g := (mkF m 394 #[.val (.int i0), .val (.int i1), .val (.int i2), .val (.int i3), .val (.int i4), .val (.int i_), .val (.int n_), .val (.int f7), .val (.int f8), .val (.int f9), .val (.int f10), .val (.int f11), .val v12, .val v13, .val v14, .val v15, .val (.ref c_), .val (.ref r), .val (.int (Int32.ofNat nm.length)), .val (.ref lm), .val (.ref le), .val (.int (Int32.ofNat (20 + nm.length + 9 + mw.length + 8 + ew.length + 1))), .val (.int (Int32.ofNat (20 + nm.length + 9 + mw.length + 8)))] [(.ref le), (.int (Int32.ofNat (20 + nm.length + 9 + mw.length + 8))), (.ref r)])) rfl (by rw [hml]; rfl) (lenOf opd27 rfl) rfl (by show 2 * 0 + _ ≤ _; exact Nat.le_of_eq rfl) (Jvm.hb hby at_394)
      refine oSt st ?_
      have X := oExt0 K
      have Q := Q.ext X
      have Qm := Qm.ext X
      have Qe := Qe.ext X
      show oGo p e below _ (T.setTop (mkF m 397 #[.val (.int i0), .val (.int i1), .val (.int i2), .val (.int i3), .val (.int i4), .val (.int i_), .val (.int n_), .val (.int f7), .val (.int f8), .val (.int f9), .val (.int f10), .val (.int f11), .val v12, .val v13, .val v14, .val v15, .val (.ref c_), .val (.ref r), .val (.int (Int32.ofNat nm.length)), .val (.ref lm), .val (.ref le), .val (.int (Int32.ofNat (20 + nm.length + 9 + mw.length + 8 + ew.length + 1))), .val (.int (Int32.ofNat (20 + nm.length + 9 + mw.length + 8)))] [(.int (1 : Int32))]))
      refine oSt (fun _ => XS.ifYes A.here hx rfl (pc0 := 397) (pc' := 402) rfl (Jvm.hb hby at_397) rfl (Jvm.Free.XT.i0_ne_t (by decide)) (by decide) (by decide)) ?_
      show oGo p e below _ (T.setTop (mkF m 402 #[.val (.int i0), .val (.int i1), .val (.int i2), .val (.int i3), .val (.int i4), .val (.int i_), .val (.int n_), .val (.int f7), .val (.int f8), .val (.int f9), .val (.int f10), .val (.int f11), .val v12, .val v13, .val v14, .val v15, .val (.ref c_), .val (.ref r), .val (.int (Int32.ofNat nm.length)), .val (.ref lm), .val (.ref le), .val (.int (Int32.ofNat (20 + nm.length + 9 + mw.length + 8 + ew.length + 1))), .val (.int (Int32.ofNat (20 + nm.length + 9 + mw.length + 8)))] []))
      refine oSt (fun _ => XS.iload A.here hx rfl (Jvm.hb hby at_402) rfl) ?_
      show oGo p e below _ (T.setTop (mkF m 404 #[.val (.int i0), .val (.int i1), .val (.int i2), .val (.int i3), .val (.int i4), .val (.int i_), .val (.int n_), .val (.int f7), .val (.int f8), .val (.int f9), .val (.int f10), .val (.int f11), .val v12, .val v13, .val v14, .val v15, .val (.ref c_), .val (.ref r), .val (.int (Int32.ofNat nm.length)), .val (.ref lm), .val (.ref le), .val (.int (Int32.ofNat (20 + nm.length + 9 + mw.length + 8 + ew.length + 1))), .val (.int (Int32.ofNat (20 + nm.length + 9 + mw.length + 8)))] [(.int (Int32.ofNat (20 + nm.length + 9 + mw.length + 8)))]))
      refine oSt (fun _ => XS.aload A.here hx rfl (Jvm.hb hby at_404) rfl rfl) ?_
      show oGo p e below _ (T.setTop (mkF m 406 #[.val (.int i0), .val (.int i1), .val (.int i2), .val (.int i3), .val (.int i4), .val (.int i_), .val (.int n_), .val (.int f7), .val (.int f8), .val (.int f9), .val (.int f10), .val (.int f11), .val v12, .val v13, .val v14, .val v15, .val (.ref c_), .val (.ref r), .val (.int (Int32.ofNat nm.length)), .val (.ref lm), .val (.ref le), .val (.int (Int32.ofNat (20 + nm.length + 9 + mw.length + 8 + ew.length + 1))), .val (.int (Int32.ofNat (20 + nm.length + 9 + mw.length + 8)))] [(.ref le), (.int (Int32.ofNat (20 + nm.length + 9 + mw.length + 8)))]))
      obtain ⟨T, A, st⟩ := A.sLen hx hln (hw _ (List.mem_of_getElem? (i := 10) rfl)) (hw _ (List.mem_of_getElem? (i := 209) rfl)) (hw _ (List.mem_of_getElem? (i := 105) rfl)) (hw _ (List.mem_of_getElem? (i := 107) rfl)) (hw _ (List.mem_of_getElem? (i := 106) rfl)) Qe hcs hcz (W := 1) (by decide) (by decide) (by decide) (by decide) (g := (mkF m 406 #[.val (.int i0), .val (.int i1), .val (.int i2), .val (.int i3), .val (.int i4), .val (.int i_), .val (.int n_), .val (.int f7), .val (.int f8), .val (.int f9), .val (.int f10), .val (.int f11), .val v12, .val v13, .val v14, .val v15, .val (.ref c_), .val (.ref r), .val (.int (Int32.ofNat nm.length)), .val (.ref lm), .val (.ref le), .val (.int (Int32.ofNat (20 + nm.length + 9 + mw.length + 8 + ew.length + 1))), .val (.int (Int32.ofNat (20 + nm.length + 9 + mw.length + 8)))] [(.ref le), (.int (Int32.ofNat (20 + nm.length + 9 + mw.length + 8)))])) rfl (by rw [hml]; rfl) rfl (by show 2 * 0 + _ ≤ _; exact Nat.le_of_eq rfl) (Jvm.hb hby at_406)
      refine oSt st ?_
      show oGo p e below _ (T.setTop (mkF m 409 #[.val (.int i0), .val (.int i1), .val (.int i2), .val (.int i3), .val (.int i4), .val (.int i_), .val (.int n_), .val (.int f7), .val (.int f8), .val (.int f9), .val (.int f10), .val (.int f11), .val v12, .val v13, .val v14, .val v15, .val (.ref c_), .val (.ref r), .val (.int (Int32.ofNat nm.length)), .val (.ref lm), .val (.ref le), .val (.int (Int32.ofNat (20 + nm.length + 9 + mw.length + 8 + ew.length + 1))), .val (.int (Int32.ofNat (20 + nm.length + 9 + mw.length + 8)))] [(.int (Int32.ofNat ew.length)), (.int (Int32.ofNat (20 + nm.length + 9 + mw.length + 8)))]))
      refine oSt (fun _ => XS.iadd A.here hx rfl (Jvm.hb hby at_409) rfl) ?_
      show oGo p e below _ (T.setTop (mkF m 410 #[.val (.int i0), .val (.int i1), .val (.int i2), .val (.int i3), .val (.int i4), .val (.int i_), .val (.int n_), .val (.int f7), .val (.int f8), .val (.int f9), .val (.int f10), .val (.int f11), .val v12, .val v13, .val v14, .val v15, .val (.ref c_), .val (.ref r), .val (.int (Int32.ofNat nm.length)), .val (.ref lm), .val (.ref le), .val (.int (Int32.ofNat (20 + nm.length + 9 + mw.length + 8 + ew.length + 1))), .val (.int (Int32.ofNat (20 + nm.length + 9 + mw.length + 8)))] [(.int ((Int32.ofNat (20 + nm.length + 9 + mw.length + 8)) + (Int32.ofNat ew.length)))]))
      rw [show ((Int32.ofNat (20 + nm.length + 9 + mw.length + 8)) + (Int32.ofNat ew.length)) = Int32.ofNat (20 + nm.length + 9 + mw.length + 8 + ew.length) from by rw [own_addn (by omega)]]
      show oGo p e below _ (T.setTop (mkF m 410 #[.val (.int i0), .val (.int i1), .val (.int i2), .val (.int i3), .val (.int i4), .val (.int i_), .val (.int n_), .val (.int f7), .val (.int f8), .val (.int f9), .val (.int f10), .val (.int f11), .val v12, .val v13, .val v14, .val v15, .val (.ref c_), .val (.ref r), .val (.int (Int32.ofNat nm.length)), .val (.ref lm), .val (.ref le), .val (.int (Int32.ofNat (20 + nm.length + 9 + mw.length + 8 + ew.length + 1))), .val (.int (Int32.ofNat (20 + nm.length + 9 + mw.length + 8)))] [(.int (Int32.ofNat (20 + nm.length + 9 + mw.length + 8 + ew.length)))]))
      refine oSt (fun _ => XS.istore A.here hx rfl (Jvm.hb hby at_410) rfl (l' := #[.val (.int i0), .val (.int i1), .val (.int i2), .val (.int i3), .val (.int i4), .val (.int i_), .val (.int n_), .val (.int f7), .val (.int f8), .val (.int f9), .val (.int f10), .val (.int f11), .val v12, .val v13, .val v14, .val v15, .val (.ref c_), .val (.ref r), .val (.int (Int32.ofNat nm.length)), .val (.ref lm), .val (.ref le), .val (.int (Int32.ofNat (20 + nm.length + 9 + mw.length + 8 + ew.length + 1))), .val (.int (Int32.ofNat (20 + nm.length + 9 + mw.length + 8 + ew.length)))]) rfl) ?_
      show oGo p e below _ (T.setTop (mkF m 412 #[.val (.int i0), .val (.int i1), .val (.int i2), .val (.int i3), .val (.int i4), .val (.int i_), .val (.int n_), .val (.int f7), .val (.int f8), .val (.int f9), .val (.int f10), .val (.int f11), .val v12, .val v13, .val v14, .val v15, .val (.ref c_), .val (.ref r), .val (.int (Int32.ofNat nm.length)), .val (.ref lm), .val (.ref le), .val (.int (Int32.ofNat (20 + nm.length + 9 + mw.length + 8 + ew.length + 1))), .val (.int (Int32.ofNat (20 + nm.length + 9 + mw.length + 8 + ew.length)))] []))
      refine oSt (fun _ => XS.iload A.here hx rfl (Jvm.hb hby at_412) rfl) ?_
      show oGo p e below _ (T.setTop (mkF m 414 #[.val (.int i0), .val (.int i1), .val (.int i2), .val (.int i3), .val (.int i4), .val (.int i_), .val (.int n_), .val (.int f7), .val (.int f8), .val (.int f9), .val (.int f10), .val (.int f11), .val v12, .val v13, .val v14, .val v15, .val (.ref c_), .val (.ref r), .val (.int (Int32.ofNat nm.length)), .val (.ref lm), .val (.ref le), .val (.int (Int32.ofNat (20 + nm.length + 9 + mw.length + 8 + ew.length + 1))), .val (.int (Int32.ofNat (20 + nm.length + 9 + mw.length + 8 + ew.length)))] [(.int (Int32.ofNat (20 + nm.length + 9 + mw.length + 8 + ew.length)))]))
      refine oSt (fun _ => XS.iconst A.here hx rfl (Jvm.hb hby at_414)) ?_
      show oGo p e below _ (T.setTop (mkF m 415 #[.val (.int i0), .val (.int i1), .val (.int i2), .val (.int i3), .val (.int i4), .val (.int i_), .val (.int n_), .val (.int f7), .val (.int f8), .val (.int f9), .val (.int f10), .val (.int f11), .val v12, .val v13, .val v14, .val v15, .val (.ref c_), .val (.ref r), .val (.int (Int32.ofNat nm.length)), .val (.ref lm), .val (.ref le), .val (.int (Int32.ofNat (20 + nm.length + 9 + mw.length + 8 + ew.length + 1))), .val (.int (Int32.ofNat (20 + nm.length + 9 + mw.length + 8 + ew.length)))] [(.int (1 : Int32)), (.int (Int32.ofNat (20 + nm.length + 9 + mw.length + 8 + ew.length)))]))
      refine oSt (fun _ => XS.iadd A.here hx rfl (Jvm.hb hby at_415) rfl) ?_
      show oGo p e below _ (T.setTop (mkF m 416 #[.val (.int i0), .val (.int i1), .val (.int i2), .val (.int i3), .val (.int i4), .val (.int i_), .val (.int n_), .val (.int f7), .val (.int f8), .val (.int f9), .val (.int f10), .val (.int f11), .val v12, .val v13, .val v14, .val v15, .val (.ref c_), .val (.ref r), .val (.int (Int32.ofNat nm.length)), .val (.ref lm), .val (.ref le), .val (.int (Int32.ofNat (20 + nm.length + 9 + mw.length + 8 + ew.length + 1))), .val (.int (Int32.ofNat (20 + nm.length + 9 + mw.length + 8 + ew.length)))] [(.int ((Int32.ofNat (20 + nm.length + 9 + mw.length + 8 + ew.length)) + (1 : Int32)))]))
      rw [show ((Int32.ofNat (20 + nm.length + 9 + mw.length + 8 + ew.length)) + (1 : Int32)) = Int32.ofNat (20 + nm.length + 9 + mw.length + 8 + ew.length + 1) from by rw [show (1 : Int32) = Int32.ofNat 1 from rfl, own_addn (by omega)]]
      show oGo p e below _ (T.setTop (mkF m 416 #[.val (.int i0), .val (.int i1), .val (.int i2), .val (.int i3), .val (.int i4), .val (.int i_), .val (.int n_), .val (.int f7), .val (.int f8), .val (.int f9), .val (.int f10), .val (.int f11), .val v12, .val v13, .val v14, .val v15, .val (.ref c_), .val (.ref r), .val (.int (Int32.ofNat nm.length)), .val (.ref lm), .val (.ref le), .val (.int (Int32.ofNat (20 + nm.length + 9 + mw.length + 8 + ew.length + 1))), .val (.int (Int32.ofNat (20 + nm.length + 9 + mw.length + 8 + ew.length)))] [(.int (Int32.ofNat (20 + nm.length + 9 + mw.length + 8 + ew.length + 1)))]))
      refine oSt (fun _ => XS.iload A.here hx rfl (Jvm.hb hby at_416) rfl) ?_
      show oGo p e below _ (T.setTop (mkF m 418 #[.val (.int i0), .val (.int i1), .val (.int i2), .val (.int i3), .val (.int i4), .val (.int i_), .val (.int n_), .val (.int f7), .val (.int f8), .val (.int f9), .val (.int f10), .val (.int f11), .val v12, .val v13, .val v14, .val v15, .val (.ref c_), .val (.ref r), .val (.int (Int32.ofNat nm.length)), .val (.ref lm), .val (.ref le), .val (.int (Int32.ofNat (20 + nm.length + 9 + mw.length + 8 + ew.length + 1))), .val (.int (Int32.ofNat (20 + nm.length + 9 + mw.length + 8 + ew.length)))] [(.int (Int32.ofNat (20 + nm.length + 9 + mw.length + 8 + ew.length + 1))), (.int (Int32.ofNat (20 + nm.length + 9 + mw.length + 8 + ew.length + 1)))]))
      refine oSt (fun _ => XS.icmpNo A.here hx rfl (Jvm.hb hby at_418) rfl (Jvm.Free.XT.ii_ne_f (by congr 1))) ?_
      show oGo p e below _ (T.setTop (mkF m 421 #[.val (.int i0), .val (.int i1), .val (.int i2), .val (.int i3), .val (.int i4), .val (.int i_), .val (.int n_), .val (.int f7), .val (.int f8), .val (.int f9), .val (.int f10), .val (.int f11), .val v12, .val v13, .val v14, .val v15, .val (.ref c_), .val (.ref r), .val (.int (Int32.ofNat nm.length)), .val (.ref lm), .val (.ref le), .val (.int (Int32.ofNat (20 + nm.length + 9 + mw.length + 8 + ew.length + 1))), .val (.int (Int32.ofNat (20 + nm.length + 9 + mw.length + 8 + ew.length)))] []))
      refine oSt (fun _ => XS.aload A.here hx rfl (Jvm.hb hby at_421) rfl rfl) ?_
      show oGo p e below _ (T.setTop (mkF m 423 #[.val (.int i0), .val (.int i1), .val (.int i2), .val (.int i3), .val (.int i4), .val (.int i_), .val (.int n_), .val (.int f7), .val (.int f8), .val (.int f9), .val (.int f10), .val (.int f11), .val v12, .val v13, .val v14, .val v15, .val (.ref c_), .val (.ref r), .val (.int (Int32.ofNat nm.length)), .val (.ref lm), .val (.ref le), .val (.int (Int32.ofNat (20 + nm.length + 9 + mw.length + 8 + ew.length + 1))), .val (.int (Int32.ofNat (20 + nm.length + 9 + mw.length + 8 + ew.length)))] [(.ref r)]))
      refine oSt (fun _ => XS.iload A.here hx rfl (Jvm.hb hby at_423) rfl) ?_
      show oGo p e below _ (T.setTop (mkF m 425 #[.val (.int i0), .val (.int i1), .val (.int i2), .val (.int i3), .val (.int i4), .val (.int i_), .val (.int n_), .val (.int f7), .val (.int f8), .val (.int f9), .val (.int f10), .val (.int f11), .val v12, .val v13, .val v14, .val v15, .val (.ref c_), .val (.ref r), .val (.int (Int32.ofNat nm.length)), .val (.ref lm), .val (.ref le), .val (.int (Int32.ofNat (20 + nm.length + 9 + mw.length + 8 + ew.length + 1))), .val (.int (Int32.ofNat (20 + nm.length + 9 + mw.length + 8 + ew.length)))] [(.int (Int32.ofNat (20 + nm.length + 9 + mw.length + 8 + ew.length))), (.ref r)]))
      have g93 : own_seg (([67, 117, 115, 116, 111, 109, 101, 114, 91, 105, 100, 61] : List Int32) ++ [i_] ++ ([44, 32, 110, 97, 109, 101, 61] : List Int32) ++ nm ++ ([44, 32, 109, 111, 98, 105, 108, 101, 61] : List Int32) ++ mw ++ ([44, 32, 101, 109, 97, 105, 108, 61] : List Int32) ++ ew ++ ([93] : List Int32)) [93] (20 + nm.length + 9 + mw.length + 8 + ew.length) := ⟨(([67, 117, 115, 116, 111, 109, 101, 114, 91, 105, 100, 61] : List Int32) ++ [i_] ++ ([44, 32, 110, 97, 109, 101, 61] : List Int32) ++ nm ++ ([44, 32, 109, 111, 98, 105, 108, 101, 61] : List Int32) ++ mw ++ ([44, 32, 101, 109, 97, 105, 108, 61] : List Int32) ++ ew), [], by simp, by simp <;> omega⟩
      obtain ⟨T, A, st⟩ := A.sCh hx hch (hw _ (List.mem_of_getElem? (i := 10) rfl)) (hw _ (List.mem_of_getElem? (i := 217) rfl)) (hw _ (List.mem_of_getElem? (i := 218) rfl)) (hw _ (List.mem_of_getElem? (i := 220) rfl)) (hw _ (List.mem_of_getElem? (i := 219) rfl)) Q hcs hcz hfm rfm (i := 20 + nm.length + 9 + mw.length + 8 + ew.length) (by have := g93.le; simp only [List.length_singleton] at this; omega) rfl (W := 0) (by decide) (by decide) (by decide) (by decide) (g := (mkF m 425 #[.val (.int i0), .val (.int i1), .val (.int i2), .val (.int i3), .val (.int i4), .val (.int i_), .val (.int n_), .val (.int f7), .val (.int f8), .val (.int f9), .val (.int f10), .val (.int f11), .val v12, .val v13, .val v14, .val v15, .val (.ref c_), .val (.ref r), .val (.int (Int32.ofNat nm.length)), .val (.ref lm), .val (.ref le), .val (.int (Int32.ofNat (20 + nm.length + 9 + mw.length + 8 + ew.length + 1))), .val (.int (Int32.ofNat (20 + nm.length + 9 + mw.length + 8 + ew.length)))] [(.int (Int32.ofNat (20 + nm.length + 9 + mw.length + 8 + ew.length))), (.ref r)])) rfl (by rw [hml]; rfl) rfl (by show 2 * 0 + _ ≤ _; exact Nat.le_of_eq rfl) (Jvm.hb hby at_425)
      refine oSt st ?_
      show oGo p e below _ (T.setTop (mkF m 428 #[.val (.int i0), .val (.int i1), .val (.int i2), .val (.int i3), .val (.int i4), .val (.int i_), .val (.int n_), .val (.int f7), .val (.int f8), .val (.int f9), .val (.int f10), .val (.int f11), .val v12, .val v13, .val v14, .val v15, .val (.ref c_), .val (.ref r), .val (.int (Int32.ofNat nm.length)), .val (.ref lm), .val (.ref le), .val (.int (Int32.ofNat (20 + nm.length + 9 + mw.length + 8 + ew.length + 1))), .val (.int (Int32.ofNat (20 + nm.length + 9 + mw.length + 8 + ew.length)))] [(.int ((([67, 117, 115, 116, 111, 109, 101, 114, 91, 105, 100, 61] : List Int32) ++ [i_] ++ ([44, 32, 110, 97, 109, 101, 61] : List Int32) ++ nm ++ ([44, 32, 109, 111, 98, 105, 108, 101, 61] : List Int32) ++ mw ++ ([44, 32, 101, 109, 97, 105, 108, 61] : List Int32) ++ ew ++ ([93] : List Int32)).getD (20 + nm.length + 9 + mw.length + 8 + ew.length) 0))]))
      rw [show (([67, 117, 115, 116, 111, 109, 101, 114, 91, 105, 100, 61] : List Int32) ++ [i_] ++ ([44, 32, 110, 97, 109, 101, 61] : List Int32) ++ nm ++ ([44, 32, 109, 111, 98, 105, 108, 101, 61] : List Int32) ++ mw ++ ([44, 32, 101, 109, 97, 105, 108, 61] : List Int32) ++ ew ++ ([93] : List Int32)).getD (20 + nm.length + 9 + mw.length + 8 + ew.length) 0 = 93 from by have := g93.at (i := 0) (by simp); simpa using this]
      show oGo p e below _ (T.setTop (mkF m 428 #[.val (.int i0), .val (.int i1), .val (.int i2), .val (.int i3), .val (.int i4), .val (.int i_), .val (.int n_), .val (.int f7), .val (.int f8), .val (.int f9), .val (.int f10), .val (.int f11), .val v12, .val v13, .val v14, .val v15, .val (.ref c_), .val (.ref r), .val (.int (Int32.ofNat nm.length)), .val (.ref lm), .val (.ref le), .val (.int (Int32.ofNat (20 + nm.length + 9 + mw.length + 8 + ew.length + 1))), .val (.int (Int32.ofNat (20 + nm.length + 9 + mw.length + 8 + ew.length)))] [(.int 93)]))
      refine oSt (fun _ => XS.bipush A.here hx rfl (Jvm.hb hby at_428)) ?_
      show oGo p e below _ (T.setTop (mkF m 430 #[.val (.int i0), .val (.int i1), .val (.int i2), .val (.int i3), .val (.int i4), .val (.int i_), .val (.int n_), .val (.int f7), .val (.int f8), .val (.int f9), .val (.int f10), .val (.int f11), .val v12, .val v13, .val v14, .val v15, .val (.ref c_), .val (.ref r), .val (.int (Int32.ofNat nm.length)), .val (.ref lm), .val (.ref le), .val (.int (Int32.ofNat (20 + nm.length + 9 + mw.length + 8 + ew.length + 1))), .val (.int (Int32.ofNat (20 + nm.length + 9 + mw.length + 8 + ew.length)))] [(.int (93 : Int32)), (.int 93)]))
      refine oSt (fun _ => XS.icmpNo A.here hx rfl (Jvm.hb hby at_430) rfl (Jvm.Free.XT.ii_ne_f rfl)) ?_
      show oGo p e below _ (T.setTop (mkF m 433 #[.val (.int i0), .val (.int i1), .val (.int i2), .val (.int i3), .val (.int i4), .val (.int i_), .val (.int n_), .val (.int f7), .val (.int f8), .val (.int f9), .val (.int f10), .val (.int f11), .val v12, .val v13, .val v14, .val v15, .val (.ref c_), .val (.ref r), .val (.int (Int32.ofNat nm.length)), .val (.ref lm), .val (.ref le), .val (.int (Int32.ofNat (20 + nm.length + 9 + mw.length + 8 + ew.length + 1))), .val (.int (Int32.ofNat (20 + nm.length + 9 + mw.length + 8 + ew.length)))] []))
      refine oSt (fun _ => XS.iconst A.here hx rfl (Jvm.hb hby at_433)) ?_
      show oGo p e below _ (T.setTop (mkF m 434 #[.val (.int i0), .val (.int i1), .val (.int i2), .val (.int i3), .val (.int i4), .val (.int i_), .val (.int n_), .val (.int f7), .val (.int f8), .val (.int f9), .val (.int f10), .val (.int f11), .val v12, .val v13, .val v14, .val v15, .val (.ref c_), .val (.ref r), .val (.int (Int32.ofNat nm.length)), .val (.ref lm), .val (.ref le), .val (.int (Int32.ofNat (20 + nm.length + 9 + mw.length + 8 + ew.length + 1))), .val (.int (Int32.ofNat (20 + nm.length + 9 + mw.length + 8 + ew.length)))] [(.int (1 : Int32))]))
      refine oSt (fun _ => XS.goto A.here hx rfl (pc0 := 434) (pc' := 438) rfl (Jvm.hb hby at_434) (by decide) (by decide)) ?_
      show oGo p e below _ (T.setTop (mkF m 438 #[.val (.int i0), .val (.int i1), .val (.int i2), .val (.int i3), .val (.int i4), .val (.int i_), .val (.int n_), .val (.int f7), .val (.int f8), .val (.int f9), .val (.int f10), .val (.int f11), .val v12, .val v13, .val v14, .val v15, .val (.ref c_), .val (.ref r), .val (.int (Int32.ofNat nm.length)), .val (.ref lm), .val (.ref le), .val (.int (Int32.ofNat (20 + nm.length + 9 + mw.length + 8 + ew.length + 1))), .val (.int (Int32.ofNat (20 + nm.length + 9 + mw.length + 8 + ew.length)))] [(.int (1 : Int32))]))
      exact A.leave hlk hEL (v := some (.int (1 : Int32))) (fun h => by rw [hret] at h; cases h) (fun _ _ => rfl) (by decide) (by decide) (fun fs hr => retN A.1 hx (t := .boolean) hret (by simp) (Jvm.hb hby at_438) hr)
    rcases hnm with ⟨hf, hnm⟩ | ⟨hf, hnm⟩
    · refine oSt (fun _ => XS.ifNo A.here hx rfl (Jvm.hb hby at_284) rfl (Jvm.Free.XT.i0_eq_f hf)) ?_
      show oGo p e below _ (T.setTop (mkF m 287 #[.val (.int i0), .val (.int i1), .val (.int i2), .val (.int i3), .val (.int i4), .val (.int i_), .val (.int n_), .val (.int f7), .val (.int f8), .val (.int f9), .val (.int f10), .val (.int f11), .val v12, .val v13, .val v14, .val v15, .val (.ref c_), .val (.ref r), .val (.int (Int32.ofNat nm.length)), .val (.ref lm), .val (.ref le), .val (.int (Int32.ofNat (20 + nm.length + 9 + mw.length + 8 + ew.length + 1))), .unset] []))
      refine oSt (fun _ => XS.aload A.here hx rfl (Jvm.hb hby at_287) rfl rfl) ?_
      show oGo p e below _ (T.setTop (mkF m 289 #[.val (.int i0), .val (.int i1), .val (.int i2), .val (.int i3), .val (.int i4), .val (.int i_), .val (.int n_), .val (.int f7), .val (.int f8), .val (.int f9), .val (.int f10), .val (.int f11), .val v12, .val v13, .val v14, .val v15, .val (.ref c_), .val (.ref r), .val (.int (Int32.ofNat nm.length)), .val (.ref lm), .val (.ref le), .val (.int (Int32.ofNat (20 + nm.length + 9 + mw.length + 8 + ew.length + 1))), .unset] [(.ref r)]))
      refine oSt (fun _ => XS.bipush A.here hx rfl (Jvm.hb hby at_289)) ?_
      show oGo p e below _ (T.setTop (mkF m 291 #[.val (.int i0), .val (.int i1), .val (.int i2), .val (.int i3), .val (.int i4), .val (.int i_), .val (.int n_), .val (.int f7), .val (.int f8), .val (.int f9), .val (.int f10), .val (.int f11), .val v12, .val v13, .val v14, .val v15, .val (.ref c_), .val (.ref r), .val (.int (Int32.ofNat nm.length)), .val (.ref lm), .val (.ref le), .val (.int (Int32.ofNat (20 + nm.length + 9 + mw.length + 8 + ew.length + 1))), .unset] [(.int (20 : Int32)), (.ref r)]))
      obtain ⟨l5, T, h, bb, kb, A, X, CR, E_l5, C_l5, V_l5, K_l5, ne_l5, Li, st⟩ := A.ldcS hx (hw _ (List.mem_of_getElem? (i := 249) rfl)) hlit hEL (List.mem_of_getElem? (i := 11) rfl) (vs := (([110, 117, 108, 108] : List Int32).map fun c => c.toInt8.toInt32).map Value.int) (z := Int32.ofNat ([110, 117, 108, 108] : List Int32).length) ⟨by decide +kernel, by decide +kernel⟩ (by decide +kernel) (by decide +kernel) (g := (mkF m 291 #[.val (.int i0), .val (.int i1), .val (.int i2), .val (.int i3), .val (.int i4), .val (.int i_), .val (.int n_), .val (.int f7), .val (.int f8), .val (.int f9), .val (.int f10), .val (.int f11), .val v12, .val v13, .val v14, .val v15, .val (.ref c_), .val (.ref r), .val (.int (Int32.ofNat nm.length)), .val (.ref lm), .val (.ref le), .val (.int (Int32.ofNat (20 + nm.length + 9 + mw.length + 8 + ew.length + 1))), .unset] [(.int (20 : Int32)), (.ref r)])) rfl (Jvm.hb hby at_291) (n := 16) (by decide +kernel) (by decide) (by decide) (by decide)
      refine oSt st ?_
      show oGo p e below _ (T.setTop (mkF m 293 #[.val (.int i0), .val (.int i1), .val (.int i2), .val (.int i3), .val (.int i4), .val (.int i_), .val (.int n_), .val (.int f7), .val (.int f8), .val (.int f9), .val (.int f10), .val (.int f11), .val v12, .val v13, .val v14, .val v15, .val (.ref c_), .val (.ref r), .val (.int (Int32.ofNat nm.length)), .val (.ref lm), .val (.ref le), .val (.int (Int32.ofNat (20 + nm.length + 9 + mw.length + 8 + ew.length + 1))), .unset] [(.ref l5), (.int (20 : Int32)), (.ref r)]))
      have Q_l5 : oStr Z h l5 ([110, 117, 108, 108] : List Int32) := ⟨(oPS (by decide) (oPS (by decide) (oPS (by decide) (oPS (by decide) oP0)))), by decide, bb, kb, E_l5, V_l5, C_l5, K_l5⟩
      have Q := Q.ext X
      have Qm := Qm.ext X
      have Qe := Qe.ext X
      obtain ⟨_, vm, T, h, L, A, K, CR, ⟨rfl, rfl⟩, st⟩ := A.callS hx (y := (⟨"com/example/stallwright/stallwright/store/CustomerToStringPinLaw", "at", "(Ljava/lang/String;ILjava/lang/String;)Z"⟩ : MethodName)) (hw _ (List.mem_of_getElem? (i := 211) rfl)) (hw _ (List.mem_of_getElem? (i := 212) rfl)) (hw _ (List.mem_of_getElem? (i := 28) rfl)) (hw _ (List.mem_of_getElem? (i := 213) rfl)) (by decide) hEL (argsL := [(.ref r), (.int (20 : Int32)), (.ref l5)]) (rest := []) (own_at l Z a0 hw hEL n0 _ A.oldn r l5 (20) _ _ zc hcs hcz fm hfm rfm Q Q_l5 ⟨(([67, 117, 115, 116, 111, 109, 101, 114, 91, 105, 100, 61] : List Int32) ++ [i_] ++ ([44, 32, 110, 97, 109, 101, 61] : List Int32)), ([44, 32, 109, 111, 98, 105, 108, 101, 61] : List Int32) ++ mw ++ ([44, 32, 101, 109, 97, 105, 108, 61] : List Int32) ++ ew ++ ([93] : List Int32), by rw [hnm]; simp, by simp <;> omega⟩) (W := 0) (by decide) (by decide) (by decide) (by decide) all0 all0 all0 (g := (mkF m 293 #[.val (.int i0), .val (.int i1), .val (.int i2), .val (.int i3), .val (.int i4), .val (.int i_), .val (.int n_), .val (.int f7), .val (.int f8), .val (.int f9), .val (.int f10), .val (.int f11), .val v12, .val v13, .val v14, .val v15, .val (.ref c_), .val (.ref r), .val (.int (Int32.ofNat nm.length)), .val (.ref lm), .val (.ref le), .val (.int (Int32.ofNat (20 + nm.length + 9 + mw.length + 8 + ew.length + 1))), .unset] [(.ref l5), (.int (20 : Int32)), (.ref r)])) rfl (by rw [hml]; rfl) (lenOf opd27 rfl) rfl (by show 2 * 0 + _ ≤ _; exact Nat.le_of_eq rfl) (Jvm.hb hby at_293)
      refine oSt st ?_
      have X := oExt0 K
      have Q := Q.ext X
      have Qm := Qm.ext X
      have Qe := Qe.ext X
      show oGo p e below _ (T.setTop (mkF m 296 #[.val (.int i0), .val (.int i1), .val (.int i2), .val (.int i3), .val (.int i4), .val (.int i_), .val (.int n_), .val (.int f7), .val (.int f8), .val (.int f9), .val (.int f10), .val (.int f11), .val v12, .val v13, .val v14, .val v15, .val (.ref c_), .val (.ref r), .val (.int (Int32.ofNat nm.length)), .val (.ref lm), .val (.ref le), .val (.int (Int32.ofNat (20 + nm.length + 9 + mw.length + 8 + ew.length + 1))), .unset] [(.int (1 : Int32))]))
      refine oSt (fun _ => XS.ifYes A.here hx rfl (pc0 := 296) (pc' := 315) rfl (Jvm.hb hby at_296) rfl (Jvm.Free.XT.i0_ne_t (by decide)) (by decide) (by decide)) ?_
      show oGo p e below _ (T.setTop (mkF m 315 #[.val (.int i0), .val (.int i1), .val (.int i2), .val (.int i3), .val (.int i4), .val (.int i_), .val (.int n_), .val (.int f7), .val (.int f8), .val (.int f9), .val (.int f10), .val (.int f11), .val v12, .val v13, .val v14, .val v15, .val (.ref c_), .val (.ref r), .val (.int (Int32.ofNat nm.length)), .val (.ref lm), .val (.ref le), .val (.int (Int32.ofNat (20 + nm.length + 9 + mw.length + 8 + ew.length + 1))), .unset] []))
      exact J315 _ _ _ _ (A.mono (by decide) (by decide)) Q Qm Qe
    · refine oSt (fun _ => XS.ifYes A.here hx rfl (pc0 := 284) (pc' := 301) rfl (Jvm.hb hby at_284) rfl (Jvm.Free.XT.i0_eq_t hf) (by decide) (by decide)) ?_
      show oGo p e below _ (T.setTop (mkF m 301 #[.val (.int i0), .val (.int i1), .val (.int i2), .val (.int i3), .val (.int i4), .val (.int i_), .val (.int n_), .val (.int f7), .val (.int f8), .val (.int f9), .val (.int f10), .val (.int f11), .val v12, .val v13, .val v14, .val v15, .val (.ref c_), .val (.ref r), .val (.int (Int32.ofNat nm.length)), .val (.ref lm), .val (.ref le), .val (.int (Int32.ofNat (20 + nm.length + 9 + mw.length + 8 + ew.length + 1))), .unset] []))
      refine oSt (fun _ => XS.aload A.here hx rfl (Jvm.hb hby at_301) rfl rfl) ?_
      show oGo p e below _ (T.setTop (mkF m 303 #[.val (.int i0), .val (.int i1), .val (.int i2), .val (.int i3), .val (.int i4), .val (.int i_), .val (.int n_), .val (.int f7), .val (.int f8), .val (.int f9), .val (.int f10), .val (.int f11), .val v12, .val v13, .val v14, .val v15, .val (.ref c_), .val (.ref r), .val (.int (Int32.ofNat nm.length)), .val (.ref lm), .val (.ref le), .val (.int (Int32.ofNat (20 + nm.length + 9 + mw.length + 8 + ew.length + 1))), .unset] [(.ref r)]))
      refine oSt (fun _ => XS.bipush A.here hx rfl (Jvm.hb hby at_303)) ?_
      show oGo p e below _ (T.setTop (mkF m 305 #[.val (.int i0), .val (.int i1), .val (.int i2), .val (.int i3), .val (.int i4), .val (.int i_), .val (.int n_), .val (.int f7), .val (.int f8), .val (.int f9), .val (.int f10), .val (.int f11), .val v12, .val v13, .val v14, .val v15, .val (.ref c_), .val (.ref r), .val (.int (Int32.ofNat nm.length)), .val (.ref lm), .val (.ref le), .val (.int (Int32.ofNat (20 + nm.length + 9 + mw.length + 8 + ew.length + 1))), .unset] [(.int (20 : Int32)), (.ref r)]))
      have g20 : own_seg (([67, 117, 115, 116, 111, 109, 101, 114, 91, 105, 100, 61] : List Int32) ++ [i_] ++ ([44, 32, 110, 97, 109, 101, 61] : List Int32) ++ nm ++ ([44, 32, 109, 111, 98, 105, 108, 101, 61] : List Int32) ++ mw ++ ([44, 32, 101, 109, 97, 105, 108, 61] : List Int32) ++ ew ++ ([93] : List Int32)) [n_] (20) := ⟨(([67, 117, 115, 116, 111, 109, 101, 114, 91, 105, 100, 61] : List Int32) ++ [i_] ++ ([44, 32, 110, 97, 109, 101, 61] : List Int32)), ([44, 32, 109, 111, 98, 105, 108, 101, 61] : List Int32) ++ mw ++ ([44, 32, 101, 109, 97, 105, 108, 61] : List Int32) ++ ew ++ ([93] : List Int32), by rw [hnm]; simp, by simp <;> omega⟩
      obtain ⟨T, A, st⟩ := A.sCh hx hch (hw _ (List.mem_of_getElem? (i := 10) rfl)) (hw _ (List.mem_of_getElem? (i := 217) rfl)) (hw _ (List.mem_of_getElem? (i := 218) rfl)) (hw _ (List.mem_of_getElem? (i := 220) rfl)) (hw _ (List.mem_of_getElem? (i := 219) rfl)) Q hcs hcz hfm rfm (i := 20) (by have := g20.le; simp only [List.length_singleton] at this; omega) rfl (W := 0) (by decide) (by decide) (by decide) (by decide) (g := (mkF m 305 #[.val (.int i0), .val (.int i1), .val (.int i2), .val (.int i3), .val (.int i4), .val (.int i_), .val (.int n_), .val (.int f7), .val (.int f8), .val (.int f9), .val (.int f10), .val (.int f11), .val v12, .val v13, .val v14, .val v15, .val (.ref c_), .val (.ref r), .val (.int (Int32.ofNat nm.length)), .val (.ref lm), .val (.ref le), .val (.int (Int32.ofNat (20 + nm.length + 9 + mw.length + 8 + ew.length + 1))), .unset] [(.int (20 : Int32)), (.ref r)])) rfl (by rw [hml]; rfl) rfl (by show 2 * 0 + _ ≤ _; exact Nat.le_of_eq rfl) (Jvm.hb hby at_305)
      refine oSt st ?_
      show oGo p e below _ (T.setTop (mkF m 308 #[.val (.int i0), .val (.int i1), .val (.int i2), .val (.int i3), .val (.int i4), .val (.int i_), .val (.int n_), .val (.int f7), .val (.int f8), .val (.int f9), .val (.int f10), .val (.int f11), .val v12, .val v13, .val v14, .val v15, .val (.ref c_), .val (.ref r), .val (.int (Int32.ofNat nm.length)), .val (.ref lm), .val (.ref le), .val (.int (Int32.ofNat (20 + nm.length + 9 + mw.length + 8 + ew.length + 1))), .unset] [(.int ((([67, 117, 115, 116, 111, 109, 101, 114, 91, 105, 100, 61] : List Int32) ++ [i_] ++ ([44, 32, 110, 97, 109, 101, 61] : List Int32) ++ nm ++ ([44, 32, 109, 111, 98, 105, 108, 101, 61] : List Int32) ++ mw ++ ([44, 32, 101, 109, 97, 105, 108, 61] : List Int32) ++ ew ++ ([93] : List Int32)).getD (20) 0))]))
      rw [show (([67, 117, 115, 116, 111, 109, 101, 114, 91, 105, 100, 61] : List Int32) ++ [i_] ++ ([44, 32, 110, 97, 109, 101, 61] : List Int32) ++ nm ++ ([44, 32, 109, 111, 98, 105, 108, 101, 61] : List Int32) ++ mw ++ ([44, 32, 101, 109, 97, 105, 108, 61] : List Int32) ++ ew ++ ([93] : List Int32)).getD (20) 0 = n_ from by have := g20.at (i := 0) (by simp); simpa using this]
      show oGo p e below _ (T.setTop (mkF m 308 #[.val (.int i0), .val (.int i1), .val (.int i2), .val (.int i3), .val (.int i4), .val (.int i_), .val (.int n_), .val (.int f7), .val (.int f8), .val (.int f9), .val (.int f10), .val (.int f11), .val v12, .val v13, .val v14, .val v15, .val (.ref c_), .val (.ref r), .val (.int (Int32.ofNat nm.length)), .val (.ref lm), .val (.ref le), .val (.int (Int32.ofNat (20 + nm.length + 9 + mw.length + 8 + ew.length + 1))), .unset] [(.int n_)]))
      refine oSt (fun _ => XS.iload A.here hx rfl (Jvm.hb hby at_308) rfl) ?_
      show oGo p e below _ (T.setTop (mkF m 310 #[.val (.int i0), .val (.int i1), .val (.int i2), .val (.int i3), .val (.int i4), .val (.int i_), .val (.int n_), .val (.int f7), .val (.int f8), .val (.int f9), .val (.int f10), .val (.int f11), .val v12, .val v13, .val v14, .val v15, .val (.ref c_), .val (.ref r), .val (.int (Int32.ofNat nm.length)), .val (.ref lm), .val (.ref le), .val (.int (Int32.ofNat (20 + nm.length + 9 + mw.length + 8 + ew.length + 1))), .unset] [(.int n_), (.int n_)]))
      refine oSt (fun _ => XS.icmpYes A.here hx rfl (pc0 := 310) (pc' := 315) rfl (Jvm.hb hby at_310) rfl (Jvm.Free.XT.ii_eq_t rfl) (by decide) (by decide)) ?_
      show oGo p e below _ (T.setTop (mkF m 315 #[.val (.int i0), .val (.int i1), .val (.int i2), .val (.int i3), .val (.int i4), .val (.int i_), .val (.int n_), .val (.int f7), .val (.int f8), .val (.int f9), .val (.int f10), .val (.int f11), .val v12, .val v13, .val v14, .val v15, .val (.ref c_), .val (.ref r), .val (.int (Int32.ofNat nm.length)), .val (.ref lm), .val (.ref le), .val (.int (Int32.ofNat (20 + nm.length + 9 + mw.length + 8 + ew.length + 1))), .unset] []))
      exact J315 _ _ _ _ (A.mono (by decide) (by decide)) Q Qm Qe
  have J86 : ∀ f7 f8 f9 f10 f11 : Int32, oGo p e below (oEnd Z consts_1 n0 room_1 s [] (fun v _ h => v = some (.int 1))) (T.setTop (mkF m 86 #[.val (.int i0), .val (.int i1), .val (.int i2), .val (.int i3), .val (.int i4), .val (.int i_), .val (.int n_), .val (.int f7), .val (.int f8), .val (.int f9), .val (.int f10), .unset, .unset, .unset, .unset, .unset, .unset, .unset, .unset, .unset, .unset, .unset, .unset] [(.int f11)])) := by
    intro f7 f8 f9 f10 f11
    show oGo p e below _ (T.setTop (mkF m 86 #[.val (.int i0), .val (.int i1), .val (.int i2), .val (.int i3), .val (.int i4), .val (.int i_), .val (.int n_), .val (.int f7), .val (.int f8), .val (.int f9), .val (.int f10), .unset, .unset, .unset, .unset, .unset, .unset, .unset, .unset, .unset, .unset, .unset, .unset] [(.int f11)]))
    refine oSt (fun _ => XS.istore A.here hx rfl (Jvm.hb hby at_86) rfl (l' := #[.val (.int i0), .val (.int i1), .val (.int i2), .val (.int i3), .val (.int i4), .val (.int i_), .val (.int n_), .val (.int f7), .val (.int f8), .val (.int f9), .val (.int f10), .val (.int f11), .unset, .unset, .unset, .unset, .unset, .unset, .unset, .unset, .unset, .unset, .unset]) rfl) ?_
    show oGo p e below _ (T.setTop (mkF m 88 #[.val (.int i0), .val (.int i1), .val (.int i2), .val (.int i3), .val (.int i4), .val (.int i_), .val (.int n_), .val (.int f7), .val (.int f8), .val (.int f9), .val (.int f10), .val (.int f11), .unset, .unset, .unset, .unset, .unset, .unset, .unset, .unset, .unset, .unset, .unset] []))
    refine oSt (fun _ => XS.iload A.here hx rfl (Jvm.hb hby at_88) rfl) ?_
    show oGo p e below _ (T.setTop (mkF m 90 #[.val (.int i0), .val (.int i1), .val (.int i2), .val (.int i3), .val (.int i4), .val (.int i_), .val (.int n_), .val (.int f7), .val (.int f8), .val (.int f9), .val (.int f10), .val (.int f11), .unset, .unset, .unset, .unset, .unset, .unset, .unset, .unset, .unset, .unset, .unset] [(.int i_)]))
    obtain ⟨_, vm, T, h, L, A, K, CR, ⟨ai, rfl, Qi⟩, st⟩ := A.callS hx (y := (⟨"java/lang/String", "valueOf", "(C)Ljava/lang/String;"⟩ : MethodName)) (hw _ (List.mem_of_getElem? (i := 0) rfl)) (hw _ (List.mem_of_getElem? (i := 1) rfl)) (hw _ (List.mem_of_getElem? (i := 2) rfl)) (hw _ (List.mem_of_getElem? (i := 3) rfl)) (by decide) hEL (argsL := [(.int i_)]) (rest := []) (own_vc l Z a0 hw hEL n0 _ A.oldn i_ zc hcs hcz hi_) (W := 0) (by decide) (by decide) (by decide) (by decide) all0 all0 all0 (g := (mkF m 90 #[.val (.int i0), .val (.int i1), .val (.int i2), .val (.int i3), .val (.int i4), .val (.int i_), .val (.int n_), .val (.int f7), .val (.int f8), .val (.int f9), .val (.int f10), .val (.int f11), .unset, .unset, .unset, .unset, .unset, .unset, .unset, .unset, .unset, .unset, .unset] [(.int i_)])) rfl (by rw [hml]; rfl) (lenOf opd28 rfl) rfl (by show 2 * 0 + _ ≤ _; exact Nat.le_of_eq rfl) (Jvm.hb hby at_90)
    refine oSt st ?_
    have X := oExt0 K
    show oGo p e below _ (T.setTop (mkF m 93 #[.val (.int i0), .val (.int i1), .val (.int i2), .val (.int i3), .val (.int i4), .val (.int i_), .val (.int n_), .val (.int f7), .val (.int f8), .val (.int f9), .val (.int f10), .val (.int f11), .unset, .unset, .unset, .unset, .unset, .unset, .unset, .unset, .unset, .unset, .unset] [(.ref ai)]))
    refine oSt (fun _ => XS.astore A.here hx rfl (Jvm.hb hby at_93) rfl rfl (l' := #[.val (.int i0), .val (.int i1), .val (.int i2), .val (.int i3), .val (.int i4), .val (.int i_), .val (.int n_), .val (.int f7), .val (.int f8), .val (.int f9), .val (.int f10), .val (.int f11), .val (.ref ai), .unset, .unset, .unset, .unset, .unset, .unset, .unset, .unset, .unset, .unset]) rfl) ?_
    show oGo p e below _ (T.setTop (mkF m 95 #[.val (.int i0), .val (.int i1), .val (.int i2), .val (.int i3), .val (.int i4), .val (.int i_), .val (.int n_), .val (.int f7), .val (.int f8), .val (.int f9), .val (.int f10), .val (.int f11), .val (.ref ai), .unset, .unset, .unset, .unset, .unset, .unset, .unset, .unset, .unset, .unset] []))
    refine oSt (fun _ => XS.iload A.here hx rfl (Jvm.hb hby at_95) rfl) ?_
    show oGo p e below _ (T.setTop (mkF m 97 #[.val (.int i0), .val (.int i1), .val (.int i2), .val (.int i3), .val (.int i4), .val (.int i_), .val (.int n_), .val (.int f7), .val (.int f8), .val (.int f9), .val (.int f10), .val (.int f11), .val (.ref ai), .unset, .unset, .unset, .unset, .unset, .unset, .unset, .unset, .unset, .unset] [(.int f7)]))
    have J109 : ∀ (vm : Vm) (T : State) (h : Heap) (locs : List Loc) (v13 : Value), oA l Z consts_1 n0 p e room_1 s m #[(.int i0), (.int i1), (.int i2), (.int i3), (.int i4)] below meth c "com/example/stallwright/stallwright/store/CustomerToStringPinLaw" [] vm T h locs 4 10 → oStr Z h ai [i_] → ((¬ f7 = 0 ∧ v13 = .null) ∨ (f7 = 0 ∧ ∃ an, v13 = .ref an ∧ oStr Z h an [n_])) → oGo p e below (oEnd Z consts_1 n0 room_1 s [] (fun v _ h => v = some (.int 1))) (T.setTop (mkF m 109 #[.val (.int i0), .val (.int i1), .val (.int i2), .val (.int i3), .val (.int i4), .val (.int i_), .val (.int n_), .val (.int f7), .val (.int f8), .val (.int f9), .val (.int f10), .val (.int f11), .val (.ref ai), .unset, .unset, .unset, .unset, .unset, .unset, .unset, .unset, .unset, .unset] [v13])) := by
      intro vm T h locs v13 A Qi h13
      rcases h13 with ⟨hf, rfl⟩ | ⟨hf, an, rfl, Qn⟩
      · show oGo p e below _ (T.setTop (mkF m 109 #[.val (.int i0), .val (.int i1), .val (.int i2), .val (.int i3), .val (.int i4), .val (.int i_), .val (.int n_), .val (.int f7), .val (.int f8), .val (.int f9), .val (.int f10), .val (.int f11), .val (.ref ai), .unset, .unset, .unset, .unset, .unset, .unset, .unset, .unset, .unset, .unset] [.null]))
        refine oSt (fun _ => XS.astore A.here hx rfl (Jvm.hb hby at_109) rfl rfl (l' := #[.val (.int i0), .val (.int i1), .val (.int i2), .val (.int i3), .val (.int i4), .val (.int i_), .val (.int n_), .val (.int f7), .val (.int f8), .val (.int f9), .val (.int f10), .val (.int f11), .val (.ref ai), .val .null, .unset, .unset, .unset, .unset, .unset, .unset, .unset, .unset, .unset]) rfl) ?_
        show oGo p e below _ (T.setTop (mkF m 111 #[.val (.int i0), .val (.int i1), .val (.int i2), .val (.int i3), .val (.int i4), .val (.int i_), .val (.int n_), .val (.int f7), .val (.int f8), .val (.int f9), .val (.int f10), .val (.int f11), .val (.ref ai), .val .null, .unset, .unset, .unset, .unset, .unset, .unset, .unset, .unset, .unset] []))
        refine oSt (fun _ => XS.iloadN A.here hx rfl (Jvm.hb hby at_111) rfl) ?_
        show oGo p e below _ (T.setTop (mkF m 112 #[.val (.int i0), .val (.int i1), .val (.int i2), .val (.int i3), .val (.int i4), .val (.int i_), .val (.int n_), .val (.int f7), .val (.int f8), .val (.int f9), .val (.int f10), .val (.int f11), .val (.ref ai), .val .null, .unset, .unset, .unset, .unset, .unset, .unset, .unset, .unset, .unset] [(.int i2)]))
        refine oSt (fun _ => XS.iload A.here hx rfl (Jvm.hb hby at_112) rfl) ?_
        show oGo p e below _ (T.setTop (mkF m 114 #[.val (.int i0), .val (.int i1), .val (.int i2), .val (.int i3), .val (.int i4), .val (.int i_), .val (.int n_), .val (.int f7), .val (.int f8), .val (.int f9), .val (.int f10), .val (.int f11), .val (.ref ai), .val .null, .unset, .unset, .unset, .unset, .unset, .unset, .unset, .unset, .unset] [(.int f8), (.int i2)]))
        refine oSt (fun _ => XS.iload A.here hx rfl (Jvm.hb hby at_114) rfl) ?_
        show oGo p e below _ (T.setTop (mkF m 116 #[.val (.int i0), .val (.int i1), .val (.int i2), .val (.int i3), .val (.int i4), .val (.int i_), .val (.int n_), .val (.int f7), .val (.int f8), .val (.int f9), .val (.int f10), .val (.int f11), .val (.ref ai), .val .null, .unset, .unset, .unset, .unset, .unset, .unset, .unset, .unset, .unset] [(.int f9), (.int f8), (.int i2)]))
        obtain ⟨_, vm, T, h, L, A, K, CR, ⟨vb, mw, rfl, hb, ib⟩, st⟩ := A.callS hx (y := (⟨"com/example/stallwright/stallwright/store/CustomerToStringPinLaw", "drawn", "(IZZ)Ljava/lang/String;"⟩ : MethodName)) (hw _ (List.mem_of_getElem? (i := 26) rfl)) (hw _ (List.mem_of_getElem? (i := 27) rfl)) (hw _ (List.mem_of_getElem? (i := 28) rfl)) (hw _ (List.mem_of_getElem? (i := 29) rfl)) (by decide) hEL (argsL := [(.int i2), (.int f8), (.int f9)]) (rest := []) (own_drw l Z a0 hw hEL n0 _ A.oldn i2 f8 f9 zc hcs hcz) (W := 0) (by decide) (by decide) (by decide) (by decide) all0 all0 all0 (g := (mkF m 116 #[.val (.int i0), .val (.int i1), .val (.int i2), .val (.int i3), .val (.int i4), .val (.int i_), .val (.int n_), .val (.int f7), .val (.int f8), .val (.int f9), .val (.int f10), .val (.int f11), .val (.ref ai), .val .null, .unset, .unset, .unset, .unset, .unset, .unset, .unset, .unset, .unset] [(.int f9), (.int f8), (.int i2)])) rfl (by rw [hml]; rfl) (lenOf opd29 rfl) rfl (by show 2 * 0 + _ ≤ _; exact Nat.le_of_eq rfl) (Jvm.hb hby at_116)
        refine oSt st ?_
        have X := oExt0 K
        have Qi := Qi.ext X
        show oGo p e below _ (T.setTop (mkF m 119 #[.val (.int i0), .val (.int i1), .val (.int i2), .val (.int i3), .val (.int i4), .val (.int i_), .val (.int n_), .val (.int f7), .val (.int f8), .val (.int f9), .val (.int f10), .val (.int f11), .val (.ref ai), .val .null, .unset, .unset, .unset, .unset, .unset, .unset, .unset, .unset, .unset] [vb]))
        have rb := hb.isr
        refine oSt (fun _ => XS.astore A.here hx rfl (Jvm.hb hby at_119) rfl rb (l' := #[.val (.int i0), .val (.int i1), .val (.int i2), .val (.int i3), .val (.int i4), .val (.int i_), .val (.int n_), .val (.int f7), .val (.int f8), .val (.int f9), .val (.int f10), .val (.int f11), .val (.ref ai), .val .null, .val vb, .unset, .unset, .unset, .unset, .unset, .unset, .unset, .unset]) (by rcases ref_cases rb with rfl | ⟨a_, rfl⟩ <;> rfl)) ?_
        show oGo p e below _ (T.setTop (mkF m 121 #[.val (.int i0), .val (.int i1), .val (.int i2), .val (.int i3), .val (.int i4), .val (.int i_), .val (.int n_), .val (.int f7), .val (.int f8), .val (.int f9), .val (.int f10), .val (.int f11), .val (.ref ai), .val .null, .val vb, .unset, .unset, .unset, .unset, .unset, .unset, .unset, .unset] []))
        refine oSt (fun _ => XS.iloadN A.here hx rfl (Jvm.hb hby at_121) rfl) ?_
        show oGo p e below _ (T.setTop (mkF m 122 #[.val (.int i0), .val (.int i1), .val (.int i2), .val (.int i3), .val (.int i4), .val (.int i_), .val (.int n_), .val (.int f7), .val (.int f8), .val (.int f9), .val (.int f10), .val (.int f11), .val (.ref ai), .val .null, .val vb, .unset, .unset, .unset, .unset, .unset, .unset, .unset, .unset] [(.int i3)]))
        refine oSt (fun _ => XS.iload A.here hx rfl (Jvm.hb hby at_122) rfl) ?_
        show oGo p e below _ (T.setTop (mkF m 124 #[.val (.int i0), .val (.int i1), .val (.int i2), .val (.int i3), .val (.int i4), .val (.int i_), .val (.int n_), .val (.int f7), .val (.int f8), .val (.int f9), .val (.int f10), .val (.int f11), .val (.ref ai), .val .null, .val vb, .unset, .unset, .unset, .unset, .unset, .unset, .unset, .unset] [(.int f10), (.int i3)]))
        refine oSt (fun _ => XS.iload A.here hx rfl (Jvm.hb hby at_124) rfl) ?_
        show oGo p e below _ (T.setTop (mkF m 126 #[.val (.int i0), .val (.int i1), .val (.int i2), .val (.int i3), .val (.int i4), .val (.int i_), .val (.int n_), .val (.int f7), .val (.int f8), .val (.int f9), .val (.int f10), .val (.int f11), .val (.ref ai), .val .null, .val vb, .unset, .unset, .unset, .unset, .unset, .unset, .unset, .unset] [(.int f11), (.int f10), (.int i3)]))
        obtain ⟨_, vm, T, h, L, A, K, CR, ⟨ve, ew, rfl, he, ie⟩, st⟩ := A.callS hx (y := (⟨"com/example/stallwright/stallwright/store/CustomerToStringPinLaw", "drawn", "(IZZ)Ljava/lang/String;"⟩ : MethodName)) (hw _ (List.mem_of_getElem? (i := 26) rfl)) (hw _ (List.mem_of_getElem? (i := 27) rfl)) (hw _ (List.mem_of_getElem? (i := 28) rfl)) (hw _ (List.mem_of_getElem? (i := 29) rfl)) (by decide) hEL (argsL := [(.int i3), (.int f10), (.int f11)]) (rest := []) (own_drw l Z a0 hw hEL n0 _ A.oldn i3 f10 f11 zc hcs hcz) (W := 0) (by decide) (by decide) (by decide) (by decide) all0 all0 all0 (g := (mkF m 126 #[.val (.int i0), .val (.int i1), .val (.int i2), .val (.int i3), .val (.int i4), .val (.int i_), .val (.int n_), .val (.int f7), .val (.int f8), .val (.int f9), .val (.int f10), .val (.int f11), .val (.ref ai), .val .null, .val vb, .unset, .unset, .unset, .unset, .unset, .unset, .unset, .unset] [(.int f11), (.int f10), (.int i3)])) rfl (by rw [hml]; rfl) (lenOf opd29 rfl) rfl (by show 2 * 0 + _ ≤ _; exact Nat.le_of_eq rfl) (Jvm.hb hby at_126)
        refine oSt st ?_
        have X := oExt0 K
        have Qi := Qi.ext X
        show oGo p e below _ (T.setTop (mkF m 129 #[.val (.int i0), .val (.int i1), .val (.int i2), .val (.int i3), .val (.int i4), .val (.int i_), .val (.int n_), .val (.int f7), .val (.int f8), .val (.int f9), .val (.int f10), .val (.int f11), .val (.ref ai), .val .null, .val vb, .unset, .unset, .unset, .unset, .unset, .unset, .unset, .unset] [ve]))
        have re := he.isr
        refine oSt (fun _ => XS.astore A.here hx rfl (Jvm.hb hby at_129) rfl re (l' := #[.val (.int i0), .val (.int i1), .val (.int i2), .val (.int i3), .val (.int i4), .val (.int i_), .val (.int n_), .val (.int f7), .val (.int f8), .val (.int f9), .val (.int f10), .val (.int f11), .val (.ref ai), .val .null, .val vb, .val ve, .unset, .unset, .unset, .unset, .unset, .unset, .unset]) (by rcases ref_cases re with rfl | ⟨a_, rfl⟩ <;> rfl)) ?_
        show oGo p e below _ (T.setTop (mkF m 131 #[.val (.int i0), .val (.int i1), .val (.int i2), .val (.int i3), .val (.int i4), .val (.int i_), .val (.int n_), .val (.int f7), .val (.int f8), .val (.int f9), .val (.int f10), .val (.int f11), .val (.ref ai), .val .null, .val vb, .val ve, .unset, .unset, .unset, .unset, .unset, .unset, .unset] []))
        obtain ⟨T, h, c_, g_c_, lt_c_, n0_c_, s_c_, A, E, E_c_, S_c_, D_c_, st⟩ := A.newO hx (hw _ (List.mem_of_getElem? (i := 48) rfl)) (hw _ (List.mem_of_getElem? (i := 49) rfl)) (hw _ (List.mem_of_getElem? (i := 50) rfl)) (g := (mkF m 131 #[.val (.int i0), .val (.int i1), .val (.int i2), .val (.int i3), .val (.int i4), .val (.int i_), .val (.int n_), .val (.int f7), .val (.int f8), .val (.int f9), .val (.int f10), .val (.int f11), .val (.ref ai), .val .null, .val vb, .val ve, .unset, .unset, .unset, .unset, .unset, .unset, .unset] [])) rfl (Jvm.hb hby at_131) (by decide) (by decide)
        refine oSt st ?_
        show oGo p e below _ (T.setTop (mkF m 134 #[.val (.int i0), .val (.int i1), .val (.int i2), .val (.int i3), .val (.int i4), .val (.int i_), .val (.int n_), .val (.int f7), .val (.int f8), .val (.int f9), .val (.int f10), .val (.int f11), .val (.ref ai), .val .null, .val vb, .val ve, .unset, .unset, .unset, .unset, .unset, .unset, .unset] [(.ref c_)]))
        have F_id_c_ : Fld Z h c_ "com/example/stallwright/stallwright/store/Customer" "id" "Ljava/lang/String;" .null := D_c_ (Or.inr (hw _ (List.mem_of_getElem? (i := 61) rfl))) (ty := (.object "java/lang/String")) (by decide)
        have F_name_c_ : Fld Z h c_ "com/example/stallwright/stallwright/store/Customer" "name" "Ljava/lang/String;" .null := D_c_ (Or.inr (hw _ (List.mem_of_getElem? (i := 63) rfl))) (ty := (.object "java/lang/String")) (by decide)
        have F_mobile_c_ : Fld Z h c_ "com/example/stallwright/stallwright/store/Customer" "mobile" "Ljava/lang/String;" .null := D_c_ (Or.inr (hw _ (List.mem_of_getElem? (i := 65) rfl))) (ty := (.object "java/lang/String")) (by decide)
        have F_email_c_ : Fld Z h c_ "com/example/stallwright/stallwright/store/Customer" "email" "Ljava/lang/String;" .null := D_c_ (Or.inr (hw _ (List.mem_of_getElem? (i := 67) rfl))) (ty := (.object "java/lang/String")) (by decide)
        have Qi := Qi.ext E
        refine oSt (fun _ => XS.dup A.here hx rfl (Jvm.hb hby at_134) rfl rfl) ?_
        show oGo p e below _ (T.setTop (mkF m 135 #[.val (.int i0), .val (.int i1), .val (.int i2), .val (.int i3), .val (.int i4), .val (.int i_), .val (.int n_), .val (.int f7), .val (.int f8), .val (.int f9), .val (.int f10), .val (.int f11), .val (.ref ai), .val .null, .val vb, .val ve, .unset, .unset, .unset, .unset, .unset, .unset, .unset] [(.ref c_), (.ref c_)]))
        refine oSt (fun _ => XS.aload A.here hx rfl (Jvm.hb hby at_135) rfl rfl) ?_
        show oGo p e below _ (T.setTop (mkF m 137 #[.val (.int i0), .val (.int i1), .val (.int i2), .val (.int i3), .val (.int i4), .val (.int i_), .val (.int n_), .val (.int f7), .val (.int f8), .val (.int f9), .val (.int f10), .val (.int f11), .val (.ref ai), .val .null, .val vb, .val ve, .unset, .unset, .unset, .unset, .unset, .unset, .unset] [(.ref ai), (.ref c_), (.ref c_)]))
        refine oSt (fun _ => XS.aload A.here hx rfl (Jvm.hb hby at_137) rfl rfl) ?_
        show oGo p e below _ (T.setTop (mkF m 139 #[.val (.int i0), .val (.int i1), .val (.int i2), .val (.int i3), .val (.int i4), .val (.int i_), .val (.int n_), .val (.int f7), .val (.int f8), .val (.int f9), .val (.int f10), .val (.int f11), .val (.ref ai), .val .null, .val vb, .val ve, .unset, .unset, .unset, .unset, .unset, .unset, .unset] [.null, (.ref ai), (.ref c_), (.ref c_)]))
        refine oSt (fun _ => XS.aload A.here hx rfl (Jvm.hb hby at_139) rfl rb) ?_
        show oGo p e below _ (T.setTop (mkF m 141 #[.val (.int i0), .val (.int i1), .val (.int i2), .val (.int i3), .val (.int i4), .val (.int i_), .val (.int n_), .val (.int f7), .val (.int f8), .val (.int f9), .val (.int f10), .val (.int f11), .val (.ref ai), .val .null, .val vb, .val ve, .unset, .unset, .unset, .unset, .unset, .unset, .unset] [vb, .null, (.ref ai), (.ref c_), (.ref c_)]))
        refine oSt (fun _ => XS.aload A.here hx rfl (Jvm.hb hby at_141) rfl re) ?_
        show oGo p e below _ (T.setTop (mkF m 143 #[.val (.int i0), .val (.int i1), .val (.int i2), .val (.int i3), .val (.int i4), .val (.int i_), .val (.int n_), .val (.int f7), .val (.int f8), .val (.int f9), .val (.int f10), .val (.int f11), .val (.ref ai), .val .null, .val vb, .val ve, .unset, .unset, .unset, .unset, .unset, .unset, .unset] [ve, vb, .null, (.ref ai), (.ref c_), (.ref c_)]))
        have E_c0 := E_c_
        obtain ⟨_, vm, T, h, L, A, K, CR, ⟨rfl, E_c, F_id, F_name, F_mobile, F_email⟩, st⟩ := A.callN hx (y := (⟨"com/example/stallwright/stallwright/store/Customer", "<init>", "(Ljava/lang/String;Ljava/lang/String;Ljava/lang/String;Ljava/lang/String;)V"⟩ : MethodName)) rfl (hw _ (List.mem_of_getElem? (i := 51) rfl)) (hw _ (List.mem_of_getElem? (i := 52) rfl)) (hw _ (List.mem_of_getElem? (i := 50) rfl)) (hw _ (List.mem_of_getElem? (i := 53) rfl)) (by decide) hEL (a := c_) (argsL := [(.ref ai), .null, vb, ve]) (rest := [(.ref c_)]) (own_cus l Z a0 hw hEL n0 _ A.oldn c_ (.ref ai) .null vb ve _ _ _ _ E_c_ F_id_c_ F_name_c_ F_mobile_c_ F_email_c_ n0_c_ rfl rfl rb re) (W := 1) (by decide) (by decide) (by decide) (by decide) (oIn1 n0_c_) (oIn1 (Or.inr s_c_)) (oIn1 S_c_) (g := (mkF m 143 #[.val (.int i0), .val (.int i1), .val (.int i2), .val (.int i3), .val (.int i4), .val (.int i_), .val (.int n_), .val (.int f7), .val (.int f8), .val (.int f9), .val (.int f10), .val (.int f11), .val (.ref ai), .val .null, .val vb, .val ve, .unset, .unset, .unset, .unset, .unset, .unset, .unset] [ve, vb, .null, (.ref ai), (.ref c_), (.ref c_)])) rfl (by rw [hml]; rfl) (lenOf opd30 rfl) rfl (by show 2 * 0 + _ ≤ _; exact Nat.le_of_eq rfl) (Jvm.hb hby at_143)
        refine oSt st ?_
        show oGo p e below _ (T.setTop (mkF m 146 #[.val (.int i0), .val (.int i1), .val (.int i2), .val (.int i3), .val (.int i4), .val (.int i_), .val (.int n_), .val (.int f7), .val (.int f8), .val (.int f9), .val (.int f10), .val (.int f11), .val (.ref ai), .val .null, .val vb, .val ve, .unset, .unset, .unset, .unset, .unset, .unset, .unset] [(.ref c_)]))
        have Qi := own_strK Qi K E_c0 (hw _ (List.mem_of_getElem? (i := 49) rfl))
        refine oSt (fun _ => XS.astore A.here hx rfl (Jvm.hb hby at_146) rfl rfl (l' := #[.val (.int i0), .val (.int i1), .val (.int i2), .val (.int i3), .val (.int i4), .val (.int i_), .val (.int n_), .val (.int f7), .val (.int f8), .val (.int f9), .val (.int f10), .val (.int f11), .val (.ref ai), .val .null, .val vb, .val ve, .val (.ref c_), .unset, .unset, .unset, .unset, .unset, .unset]) rfl) ?_
        show oGo p e below _ (T.setTop (mkF m 148 #[.val (.int i0), .val (.int i1), .val (.int i2), .val (.int i3), .val (.int i4), .val (.int i_), .val (.int n_), .val (.int f7), .val (.int f8), .val (.int f9), .val (.int f10), .val (.int f11), .val (.ref ai), .val .null, .val vb, .val ve, .val (.ref c_), .unset, .unset, .unset, .unset, .unset, .unset] []))
        refine oSt (fun _ => XS.aload A.here hx rfl (Jvm.hb hby at_148) rfl rfl) ?_
        show oGo p e below _ (T.setTop (mkF m 150 #[.val (.int i0), .val (.int i1), .val (.int i2), .val (.int i3), .val (.int i4), .val (.int i_), .val (.int n_), .val (.int f7), .val (.int f8), .val (.int f9), .val (.int f10), .val (.int f11), .val (.ref ai), .val .null, .val vb, .val ve, .val (.ref c_), .unset, .unset, .unset, .unset, .unset, .unset] [(.ref c_)]))
        obtain ⟨_, vm, T, h, L, A, K, CR, ⟨r, rfl, Q⟩, st⟩ := A.callV hx (y := (⟨"com/example/stallwright/stallwright/store/Customer", "toString", "()Ljava/lang/String;"⟩ : MethodName)) (z := (⟨"com/example/stallwright/stallwright/store/Customer", "toString", "()Ljava/lang/String;"⟩ : MethodName)) (hw _ (List.mem_of_getElem? (i := 68) rfl)) (hw _ (List.mem_of_getElem? (i := 69) rfl)) (A.nf (hw _ (List.mem_of_getElem? (i := 71) rfl))) (hw _ (List.mem_of_getElem? (i := 71) rfl)) (hw _ (List.mem_of_getElem? (i := 70) rfl)) (hw _ (List.mem_of_getElem? (i := 50) rfl)) (hw _ (List.mem_of_getElem? (i := 72) rfl)) (by decide) hEL (a := c_) (argsL := []) (rest := []) (own_tsN l Z a0 hw hEL n0 _ A.oldn c_ ai ai vb ve i_ n_ mw ew zc hcs hcz E_c F_id F_name F_mobile F_email Qi hb he) E_c (W := 0) (by decide) (by decide) (by decide) (by decide) all0 all0 all0 (g := (mkF m 150 #[.val (.int i0), .val (.int i1), .val (.int i2), .val (.int i3), .val (.int i4), .val (.int i_), .val (.int n_), .val (.int f7), .val (.int f8), .val (.int f9), .val (.int f10), .val (.int f11), .val (.ref ai), .val .null, .val vb, .val ve, .val (.ref c_), .unset, .unset, .unset, .unset, .unset, .unset] [(.ref c_)])) rfl (by rw [hml]; rfl) (lenOf opd25 rfl) rfl (by show 2 * 0 + _ ≤ _; exact Nat.le_of_eq rfl) (Jvm.hb hby at_150)
        refine oSt st ?_
        have X := oExt0 K
        have Qi := Qi.ext X
        show oGo p e below _ (T.setTop (mkF m 153 #[.val (.int i0), .val (.int i1), .val (.int i2), .val (.int i3), .val (.int i4), .val (.int i_), .val (.int n_), .val (.int f7), .val (.int f8), .val (.int f9), .val (.int f10), .val (.int f11), .val (.ref ai), .val .null, .val vb, .val ve, .val (.ref c_), .unset, .unset, .unset, .unset, .unset, .unset] [(.ref r)]))
        refine oSt (fun _ => XS.astore A.here hx rfl (Jvm.hb hby at_153) rfl rfl (l' := #[.val (.int i0), .val (.int i1), .val (.int i2), .val (.int i3), .val (.int i4), .val (.int i_), .val (.int n_), .val (.int f7), .val (.int f8), .val (.int f9), .val (.int f10), .val (.int f11), .val (.ref ai), .val .null, .val vb, .val ve, .val (.ref c_), .val (.ref r), .unset, .unset, .unset, .unset, .unset]) rfl) ?_
        show oGo p e below _ (T.setTop (mkF m 155 #[.val (.int i0), .val (.int i1), .val (.int i2), .val (.int i3), .val (.int i4), .val (.int i_), .val (.int n_), .val (.int f7), .val (.int f8), .val (.int f9), .val (.int f10), .val (.int f11), .val (.ref ai), .val .null, .val vb, .val ve, .val (.ref c_), .val (.ref r), .unset, .unset, .unset, .unset, .unset] []))
        refine oSt (fun _ => XS.aload A.here hx rfl (Jvm.hb hby at_155) rfl rfl) ?_
        show oGo p e below _ (T.setTop (mkF m 157 #[.val (.int i0), .val (.int i1), .val (.int i2), .val (.int i3), .val (.int i4), .val (.int i_), .val (.int n_), .val (.int f7), .val (.int f8), .val (.int f9), .val (.int f10), .val (.int f11), .val (.ref ai), .val .null, .val vb, .val ve, .val (.ref c_), .val (.ref r), .unset, .unset, .unset, .unset, .unset] [(.ref r)]))
        refine oSt (fun _ => XS.ifnonnullYes A.here hx rfl (pc0 := 157) (pc' := 162) rfl (Jvm.hb hby at_157) rfl (by decide) (by decide)) ?_
        show oGo p e below _ (T.setTop (mkF m 162 #[.val (.int i0), .val (.int i1), .val (.int i2), .val (.int i3), .val (.int i4), .val (.int i_), .val (.int n_), .val (.int f7), .val (.int f8), .val (.int f9), .val (.int f10), .val (.int f11), .val (.ref ai), .val .null, .val vb, .val ve, .val (.ref c_), .val (.ref r), .unset, .unset, .unset, .unset, .unset] []))
        refine oSt (fun _ => XS.iload A.here hx rfl (Jvm.hb hby at_162) rfl) ?_
        show oGo p e below _ (T.setTop (mkF m 164 #[.val (.int i0), .val (.int i1), .val (.int i2), .val (.int i3), .val (.int i4), .val (.int i_), .val (.int n_), .val (.int f7), .val (.int f8), .val (.int f9), .val (.int f10), .val (.int f11), .val (.ref ai), .val .null, .val vb, .val ve, .val (.ref c_), .val (.ref r), .unset, .unset, .unset, .unset, .unset] [(.int f7)]))
        refine oSt (fun _ => XS.ifNo A.here hx rfl (Jvm.hb hby at_164) rfl (Jvm.Free.XT.i0_eq_f hf)) ?_
        show oGo p e below _ (T.setTop (mkF m 167 #[.val (.int i0), .val (.int i1), .val (.int i2), .val (.int i3), .val (.int i4), .val (.int i_), .val (.int n_), .val (.int f7), .val (.int f8), .val (.int f9), .val (.int f10), .val (.int f11), .val (.ref ai), .val .null, .val vb, .val ve, .val (.ref c_), .val (.ref r), .unset, .unset, .unset, .unset, .unset] []))
        refine oSt (fun _ => XS.iconst A.here hx rfl (Jvm.hb hby at_167)) ?_
        show oGo p e below _ (T.setTop (mkF m 168 #[.val (.int i0), .val (.int i1), .val (.int i2), .val (.int i3), .val (.int i4), .val (.int i_), .val (.int n_), .val (.int f7), .val (.int f8), .val (.int f9), .val (.int f10), .val (.int f11), .val (.ref ai), .val .null, .val vb, .val ve, .val (.ref c_), .val (.ref r), .unset, .unset, .unset, .unset, .unset] [(.int (4 : Int32))]))
        refine oSt (fun _ => XS.goto A.here hx rfl (pc0 := 168) (pc' := 172) rfl (Jvm.hb hby at_168) (by decide) (by decide)) ?_
        show oGo p e below _ (T.setTop (mkF m 172 #[.val (.int i0), .val (.int i1), .val (.int i2), .val (.int i3), .val (.int i4), .val (.int i_), .val (.int n_), .val (.int f7), .val (.int f8), .val (.int f9), .val (.int f10), .val (.int f11), .val (.ref ai), .val .null, .val vb, .val ve, .val (.ref c_), .val (.ref r), .unset, .unset, .unset, .unset, .unset] [(.int (4 : Int32))]))
        refine oSt (fun _ => XS.istore A.here hx rfl (Jvm.hb hby at_172) rfl (l' := #[.val (.int i0), .val (.int i1), .val (.int i2), .val (.int i3), .val (.int i4), .val (.int i_), .val (.int n_), .val (.int f7), .val (.int f8), .val (.int f9), .val (.int f10), .val (.int f11), .val (.ref ai), .val .null, .val vb, .val ve, .val (.ref c_), .val (.ref r), .val (.int (4 : Int32)), .unset, .unset, .unset, .unset]) rfl) ?_
        show oGo p e below _ (T.setTop (mkF m 174 #[.val (.int i0), .val (.int i1), .val (.int i2), .val (.int i3), .val (.int i4), .val (.int i_), .val (.int n_), .val (.int f7), .val (.int f8), .val (.int f9), .val (.int f10), .val (.int f11), .val (.ref ai), .val .null, .val vb, .val ve, .val (.ref c_), .val (.ref r), .val (.int (4 : Int32)), .unset, .unset, .unset, .unset] []))
        refine oSt (fun _ => XS.iload A.here hx rfl (Jvm.hb hby at_174) rfl) ?_
        show oGo p e below _ (T.setTop (mkF m 176 #[.val (.int i0), .val (.int i1), .val (.int i2), .val (.int i3), .val (.int i4), .val (.int i_), .val (.int n_), .val (.int f7), .val (.int f8), .val (.int f9), .val (.int f10), .val (.int f11), .val (.ref ai), .val .null, .val vb, .val ve, .val (.ref c_), .val (.ref r), .val (.int (4 : Int32)), .unset, .unset, .unset, .unset] [(.int f8)]))
        by_cases gf8 : f8 = 0
        · refine oSt (fun _ => XS.ifYes A.here hx rfl (pc0 := 176) (pc' := 184) rfl (Jvm.hb hby at_176) rfl (Jvm.Free.XT.i0_eq_t gf8) (by decide) (by decide)) ?_
          show oGo p e below _ (T.setTop (mkF m 184 #[.val (.int i0), .val (.int i1), .val (.int i2), .val (.int i3), .val (.int i4), .val (.int i_), .val (.int n_), .val (.int f7), .val (.int f8), .val (.int f9), .val (.int f10), .val (.int f11), .val (.ref ai), .val .null, .val vb, .val ve, .val (.ref c_), .val (.ref r), .val (.int (4 : Int32)), .unset, .unset, .unset, .unset] []))
          have emw : mw = ([103, 105, 118, 101, 110] : List Int32) := own_Wg hb (fun z => (ib.mp z) gf8)
          obtain ⟨lm, T, h, bb, kb, A, X, CR, E_lm, C_lm, V_lm, K_lm, ne_lm, Li, st⟩ := A.ldcS hx (hw _ (List.mem_of_getElem? (i := 208) rfl)) hlit hEL (List.mem_of_getElem? (i := 8) rfl) (vs := (([103, 105, 118, 101, 110] : List Int32).map fun c => c.toInt8.toInt32).map Value.int) (z := Int32.ofNat ([103, 105, 118, 101, 110] : List Int32).length) ⟨by decide +kernel, by decide +kernel⟩ (by decide +kernel) (by decide +kernel) (g := (mkF m 184 #[.val (.int i0), .val (.int i1), .val (.int i2), .val (.int i3), .val (.int i4), .val (.int i_), .val (.int n_), .val (.int f7), .val (.int f8), .val (.int f9), .val (.int f10), .val (.int f11), .val (.ref ai), .val .null, .val vb, .val ve, .val (.ref c_), .val (.ref r), .val (.int (4 : Int32)), .unset, .unset, .unset, .unset] [])) rfl (Jvm.hb hby at_184) (n := 20) (by decide +kernel) (by decide) (by decide) (by decide)
          refine oSt st ?_
          show oGo p e below _ (T.setTop (mkF m 186 #[.val (.int i0), .val (.int i1), .val (.int i2), .val (.int i3), .val (.int i4), .val (.int i_), .val (.int n_), .val (.int f7), .val (.int f8), .val (.int f9), .val (.int f10), .val (.int f11), .val (.ref ai), .val .null, .val vb, .val ve, .val (.ref c_), .val (.ref r), .val (.int (4 : Int32)), .unset, .unset, .unset, .unset] [(.ref lm)]))
          have Q_lm : oStr Z h lm ([103, 105, 118, 101, 110] : List Int32) := ⟨(oPS (by decide) (oPS (by decide) (oPS (by decide) (oPS (by decide) (oPS (by decide) oP0))))), by decide, bb, kb, E_lm, V_lm, C_lm, K_lm⟩
          have Q := Q.ext X
          rw [← emw] at Q_lm
          refine oSt (fun _ => XS.astore A.here hx rfl (Jvm.hb hby at_186) rfl rfl (l' := #[.val (.int i0), .val (.int i1), .val (.int i2), .val (.int i3), .val (.int i4), .val (.int i_), .val (.int n_), .val (.int f7), .val (.int f8), .val (.int f9), .val (.int f10), .val (.int f11), .val (.ref ai), .val .null, .val vb, .val ve, .val (.ref c_), .val (.ref r), .val (.int (4 : Int32)), .val (.ref lm), .unset, .unset, .unset]) rfl) ?_
          show oGo p e below _ (T.setTop (mkF m 188 #[.val (.int i0), .val (.int i1), .val (.int i2), .val (.int i3), .val (.int i4), .val (.int i_), .val (.int n_), .val (.int f7), .val (.int f8), .val (.int f9), .val (.int f10), .val (.int f11), .val (.ref ai), .val .null, .val vb, .val ve, .val (.ref c_), .val (.ref r), .val (.int (4 : Int32)), .val (.ref lm), .unset, .unset, .unset] []))
          refine oSt (fun _ => XS.iload A.here hx rfl (Jvm.hb hby at_188) rfl) ?_
          show oGo p e below _ (T.setTop (mkF m 190 #[.val (.int i0), .val (.int i1), .val (.int i2), .val (.int i3), .val (.int i4), .val (.int i_), .val (.int n_), .val (.int f7), .val (.int f8), .val (.int f9), .val (.int f10), .val (.int f11), .val (.ref ai), .val .null, .val vb, .val ve, .val (.ref c_), .val (.ref r), .val (.int (4 : Int32)), .val (.ref lm), .unset, .unset, .unset] [(.int f10)]))
          by_cases gf10 : f10 = 0
          · refine oSt (fun _ => XS.ifYes A.here hx rfl (pc0 := 190) (pc' := 198) rfl (Jvm.hb hby at_190) rfl (Jvm.Free.XT.i0_eq_t gf10) (by decide) (by decide)) ?_
            show oGo p e below _ (T.setTop (mkF m 198 #[.val (.int i0), .val (.int i1), .val (.int i2), .val (.int i3), .val (.int i4), .val (.int i_), .val (.int n_), .val (.int f7), .val (.int f8), .val (.int f9), .val (.int f10), .val (.int f11), .val (.ref ai), .val .null, .val vb, .val ve, .val (.ref c_), .val (.ref r), .val (.int (4 : Int32)), .val (.ref lm), .unset, .unset, .unset] []))
            have eew : ew = ([103, 105, 118, 101, 110] : List Int32) := own_Wg he (fun z => (ie.mp z) gf10)
            obtain ⟨le, T, h, bb, kb, A, X, CR, E_le, C_le, V_le, K_le, ne_le, Li, st⟩ := A.ldcS hx (hw _ (List.mem_of_getElem? (i := 208) rfl)) hlit hEL (List.mem_of_getElem? (i := 8) rfl) (vs := (([103, 105, 118, 101, 110] : List Int32).map fun c => c.toInt8.toInt32).map Value.int) (z := Int32.ofNat ([103, 105, 118, 101, 110] : List Int32).length) ⟨by decide +kernel, by decide +kernel⟩ (by decide +kernel) (by decide +kernel) (g := (mkF m 198 #[.val (.int i0), .val (.int i1), .val (.int i2), .val (.int i3), .val (.int i4), .val (.int i_), .val (.int n_), .val (.int f7), .val (.int f8), .val (.int f9), .val (.int f10), .val (.int f11), .val (.ref ai), .val .null, .val vb, .val ve, .val (.ref c_), .val (.ref r), .val (.int (4 : Int32)), .val (.ref lm), .unset, .unset, .unset] [])) rfl (Jvm.hb hby at_198) (n := 20) (by decide +kernel) (by decide) (by decide) (by decide)
            refine oSt st ?_
            show oGo p e below _ (T.setTop (mkF m 200 #[.val (.int i0), .val (.int i1), .val (.int i2), .val (.int i3), .val (.int i4), .val (.int i_), .val (.int n_), .val (.int f7), .val (.int f8), .val (.int f9), .val (.int f10), .val (.int f11), .val (.ref ai), .val .null, .val vb, .val ve, .val (.ref c_), .val (.ref r), .val (.int (4 : Int32)), .val (.ref lm), .unset, .unset, .unset] [(.ref le)]))
            have Q_le : oStr Z h le ([103, 105, 118, 101, 110] : List Int32) := ⟨(oPS (by decide) (oPS (by decide) (oPS (by decide) (oPS (by decide) (oPS (by decide) oP0))))), by decide, bb, kb, E_le, V_le, C_le, K_le⟩
            have Q := Q.ext X
            have Q_lm := Q_lm.ext X
            rw [← eew] at Q_le
            refine oSt (fun _ => XS.astore A.here hx rfl (Jvm.hb hby at_200) rfl rfl (l' := #[.val (.int i0), .val (.int i1), .val (.int i2), .val (.int i3), .val (.int i4), .val (.int i_), .val (.int n_), .val (.int f7), .val (.int f8), .val (.int f9), .val (.int f10), .val (.int f11), .val (.ref ai), .val .null, .val vb, .val ve, .val (.ref c_), .val (.ref r), .val (.int (4 : Int32)), .val (.ref lm), .val (.ref le), .unset, .unset]) rfl) ?_
            show oGo p e below _ (T.setTop (mkF m 202 #[.val (.int i0), .val (.int i1), .val (.int i2), .val (.int i3), .val (.int i4), .val (.int i_), .val (.int n_), .val (.int f7), .val (.int f8), .val (.int f9), .val (.int f10), .val (.int f11), .val (.ref ai), .val .null, .val vb, .val ve, .val (.ref c_), .val (.ref r), .val (.int (4 : Int32)), .val (.ref lm), .val (.ref le), .unset, .unset] []))
            exact J202 _ _ _ _ _ _ _ _ _ _ _ _ _ _ _ _ _ ([110, 117, 108, 108] : List Int32) _ _ (A.mono (by decide) (by decide)) Q Q_lm Q_le (Or.inl ⟨hf, rfl⟩) hb.len.1 he.len.1
          · refine oSt (fun _ => XS.ifNo A.here hx rfl (Jvm.hb hby at_190) rfl (Jvm.Free.XT.i0_eq_f gf10)) ?_
            show oGo p e below _ (T.setTop (mkF m 193 #[.val (.int i0), .val (.int i1), .val (.int i2), .val (.int i3), .val (.int i4), .val (.int i_), .val (.int n_), .val (.int f7), .val (.int f8), .val (.int f9), .val (.int f10), .val (.int f11), .val (.ref ai), .val .null, .val vb, .val ve, .val (.ref c_), .val (.ref r), .val (.int (4 : Int32)), .val (.ref lm), .unset, .unset, .unset] []))
            have eew : ew = ([110, 111, 110, 101] : List Int32) := ie.mpr gf10
            obtain ⟨le, T, h, bb, kb, A, X, CR, E_le, C_le, V_le, K_le, ne_le, Li, st⟩ := A.ldcS hx (hw _ (List.mem_of_getElem? (i := 248) rfl)) hlit hEL (List.mem_of_getElem? (i := 7) rfl) (vs := (([110, 111, 110, 101] : List Int32).map fun c => c.toInt8.toInt32).map Value.int) (z := Int32.ofNat ([110, 111, 110, 101] : List Int32).length) ⟨by decide +kernel, by decide +kernel⟩ (by decide +kernel) (by decide +kernel) (g := (mkF m 193 #[.val (.int i0), .val (.int i1), .val (.int i2), .val (.int i3), .val (.int i4), .val (.int i_), .val (.int n_), .val (.int f7), .val (.int f8), .val (.int f9), .val (.int f10), .val (.int f11), .val (.ref ai), .val .null, .val vb, .val ve, .val (.ref c_), .val (.ref r), .val (.int (4 : Int32)), .val (.ref lm), .unset, .unset, .unset] [])) rfl (Jvm.hb hby at_193) (n := 16) (by decide +kernel) (by decide) (by decide) (by decide)
            refine oSt st ?_
            show oGo p e below _ (T.setTop (mkF m 195 #[.val (.int i0), .val (.int i1), .val (.int i2), .val (.int i3), .val (.int i4), .val (.int i_), .val (.int n_), .val (.int f7), .val (.int f8), .val (.int f9), .val (.int f10), .val (.int f11), .val (.ref ai), .val .null, .val vb, .val ve, .val (.ref c_), .val (.ref r), .val (.int (4 : Int32)), .val (.ref lm), .unset, .unset, .unset] [(.ref le)]))
            have Q_le : oStr Z h le ([110, 111, 110, 101] : List Int32) := ⟨(oPS (by decide) (oPS (by decide) (oPS (by decide) (oPS (by decide) oP0)))), by decide, bb, kb, E_le, V_le, C_le, K_le⟩
            have Q := Q.ext X
            have Q_lm := Q_lm.ext X
            rw [← eew] at Q_le
            refine oSt (fun _ => XS.goto A.here hx rfl (pc0 := 195) (pc' := 200) rfl (Jvm.hb hby at_195) (by decide) (by decide)) ?_
            show oGo p e below _ (T.setTop (mkF m 200 #[.val (.int i0), .val (.int i1), .val (.int i2), .val (.int i3), .val (.int i4), .val (.int i_), .val (.int n_), .val (.int f7), .val (.int f8), .val (.int f9), .val (.int f10), .val (.int f11), .val (.ref ai), .val .null, .val vb, .val ve, .val (.ref c_), .val (.ref r), .val (.int (4 : Int32)), .val (.ref lm), .unset, .unset, .unset] [(.ref le)]))
            refine oSt (fun _ => XS.astore A.here hx rfl (Jvm.hb hby at_200) rfl rfl (l' := #[.val (.int i0), .val (.int i1), .val (.int i2), .val (.int i3), .val (.int i4), .val (.int i_), .val (.int n_), .val (.int f7), .val (.int f8), .val (.int f9), .val (.int f10), .val (.int f11), .val (.ref ai), .val .null, .val vb, .val ve, .val (.ref c_), .val (.ref r), .val (.int (4 : Int32)), .val (.ref lm), .val (.ref le), .unset, .unset]) rfl) ?_
            show oGo p e below _ (T.setTop (mkF m 202 #[.val (.int i0), .val (.int i1), .val (.int i2), .val (.int i3), .val (.int i4), .val (.int i_), .val (.int n_), .val (.int f7), .val (.int f8), .val (.int f9), .val (.int f10), .val (.int f11), .val (.ref ai), .val .null, .val vb, .val ve, .val (.ref c_), .val (.ref r), .val (.int (4 : Int32)), .val (.ref lm), .val (.ref le), .unset, .unset] []))
            exact J202 _ _ _ _ _ _ _ _ _ _ _ _ _ _ _ _ _ ([110, 117, 108, 108] : List Int32) _ _ (A.mono (by decide) (by decide)) Q Q_lm Q_le (Or.inl ⟨hf, rfl⟩) hb.len.1 he.len.1
        · refine oSt (fun _ => XS.ifNo A.here hx rfl (Jvm.hb hby at_176) rfl (Jvm.Free.XT.i0_eq_f gf8)) ?_
          show oGo p e below _ (T.setTop (mkF m 179 #[.val (.int i0), .val (.int i1), .val (.int i2), .val (.int i3), .val (.int i4), .val (.int i_), .val (.int n_), .val (.int f7), .val (.int f8), .val (.int f9), .val (.int f10), .val (.int f11), .val (.ref ai), .val .null, .val vb, .val ve, .val (.ref c_), .val (.ref r), .val (.int (4 : Int32)), .unset, .unset, .unset, .unset] []))
          have emw : mw = ([110, 111, 110, 101] : List Int32) := ib.mpr gf8
          obtain ⟨lm, T, h, bb, kb, A, X, CR, E_lm, C_lm, V_lm, K_lm, ne_lm, Li, st⟩ := A.ldcS hx (hw _ (List.mem_of_getElem? (i := 248) rfl)) hlit hEL (List.mem_of_getElem? (i := 7) rfl) (vs := (([110, 111, 110, 101] : List Int32).map fun c => c.toInt8.toInt32).map Value.int) (z := Int32.ofNat ([110, 111, 110, 101] : List Int32).length) ⟨by decide +kernel, by decide +kernel⟩ (by decide +kernel) (by decide +kernel) (g := (mkF m 179 #[.val (.int i0), .val (.int i1), .val (.int i2), .val (.int i3), .val (.int i4), .val (.int i_), .val (.int n_), .val (.int f7), .val (.int f8), .val (.int f9), .val (.int f10), .val (.int f11), .val (.ref ai), .val .null, .val vb, .val ve, .val (.ref c_), .val (.ref r), .val (.int (4 : Int32)), .unset, .unset, .unset, .unset] [])) rfl (Jvm.hb hby at_179) (n := 16) (by decide +kernel) (by decide) (by decide) (by decide)
          refine oSt st ?_
          show oGo p e below _ (T.setTop (mkF m 181 #[.val (.int i0), .val (.int i1), .val (.int i2), .val (.int i3), .val (.int i4), .val (.int i_), .val (.int n_), .val (.int f7), .val (.int f8), .val (.int f9), .val (.int f10), .val (.int f11), .val (.ref ai), .val .null, .val vb, .val ve, .val (.ref c_), .val (.ref r), .val (.int (4 : Int32)), .unset, .unset, .unset, .unset] [(.ref lm)]))
          have Q_lm : oStr Z h lm ([110, 111, 110, 101] : List Int32) := ⟨(oPS (by decide) (oPS (by decide) (oPS (by decide) (oPS (by decide) oP0)))), by decide, bb, kb, E_lm, V_lm, C_lm, K_lm⟩
          have Q := Q.ext X
          rw [← emw] at Q_lm
          refine oSt (fun _ => XS.goto A.here hx rfl (pc0 := 181) (pc' := 186) rfl (Jvm.hb hby at_181) (by decide) (by decide)) ?_
          show oGo p e below _ (T.setTop (mkF m 186 #[.val (.int i0), .val (.int i1), .val (.int i2), .val (.int i3), .val (.int i4), .val (.int i_), .val (.int n_), .val (.int f7), .val (.int f8), .val (.int f9), .val (.int f10), .val (.int f11), .val (.ref ai), .val .null, .val vb, .val ve, .val (.ref c_), .val (.ref r), .val (.int (4 : Int32)), .unset, .unset, .unset, .unset] [(.ref lm)]))
          refine oSt (fun _ => XS.astore A.here hx rfl (Jvm.hb hby at_186) rfl rfl (l' := #[.val (.int i0), .val (.int i1), .val (.int i2), .val (.int i3), .val (.int i4), .val (.int i_), .val (.int n_), .val (.int f7), .val (.int f8), .val (.int f9), .val (.int f10), .val (.int f11), .val (.ref ai), .val .null, .val vb, .val ve, .val (.ref c_), .val (.ref r), .val (.int (4 : Int32)), .val (.ref lm), .unset, .unset, .unset]) rfl) ?_
          show oGo p e below _ (T.setTop (mkF m 188 #[.val (.int i0), .val (.int i1), .val (.int i2), .val (.int i3), .val (.int i4), .val (.int i_), .val (.int n_), .val (.int f7), .val (.int f8), .val (.int f9), .val (.int f10), .val (.int f11), .val (.ref ai), .val .null, .val vb, .val ve, .val (.ref c_), .val (.ref r), .val (.int (4 : Int32)), .val (.ref lm), .unset, .unset, .unset] []))
          refine oSt (fun _ => XS.iload A.here hx rfl (Jvm.hb hby at_188) rfl) ?_
          show oGo p e below _ (T.setTop (mkF m 190 #[.val (.int i0), .val (.int i1), .val (.int i2), .val (.int i3), .val (.int i4), .val (.int i_), .val (.int n_), .val (.int f7), .val (.int f8), .val (.int f9), .val (.int f10), .val (.int f11), .val (.ref ai), .val .null, .val vb, .val ve, .val (.ref c_), .val (.ref r), .val (.int (4 : Int32)), .val (.ref lm), .unset, .unset, .unset] [(.int f10)]))
          by_cases gf10 : f10 = 0
          · refine oSt (fun _ => XS.ifYes A.here hx rfl (pc0 := 190) (pc' := 198) rfl (Jvm.hb hby at_190) rfl (Jvm.Free.XT.i0_eq_t gf10) (by decide) (by decide)) ?_
            show oGo p e below _ (T.setTop (mkF m 198 #[.val (.int i0), .val (.int i1), .val (.int i2), .val (.int i3), .val (.int i4), .val (.int i_), .val (.int n_), .val (.int f7), .val (.int f8), .val (.int f9), .val (.int f10), .val (.int f11), .val (.ref ai), .val .null, .val vb, .val ve, .val (.ref c_), .val (.ref r), .val (.int (4 : Int32)), .val (.ref lm), .unset, .unset, .unset] []))
            have eew : ew = ([103, 105, 118, 101, 110] : List Int32) := own_Wg he (fun z => (ie.mp z) gf10)
            obtain ⟨le, T, h, bb, kb, A, X, CR, E_le, C_le, V_le, K_le, ne_le, Li, st⟩ := A.ldcS hx (hw _ (List.mem_of_getElem? (i := 208) rfl)) hlit hEL (List.mem_of_getElem? (i := 8) rfl) (vs := (([103, 105, 118, 101, 110] : List Int32).map fun c => c.toInt8.toInt32).map Value.int) (z := Int32.ofNat ([103, 105, 118, 101, 110] : List Int32).length) ⟨by decide +kernel, by decide +kernel⟩ (by decide +kernel) (by decide +kernel) (g := (mkF m 198 #[.val (.int i0), .val (.int i1), .val (.int i2), .val (.int i3), .val (.int i4), .val (.int i_), .val (.int n_), .val (.int f7), .val (.int f8), .val (.int f9), .val (.int f10), .val (.int f11), .val (.ref ai), .val .null, .val vb, .val ve, .val (.ref c_), .val (.ref r), .val (.int (4 : Int32)), .val (.ref lm), .unset, .unset, .unset] [])) rfl (Jvm.hb hby at_198) (n := 20) (by decide +kernel) (by decide) (by decide) (by decide)
            refine oSt st ?_
            show oGo p e below _ (T.setTop (mkF m 200 #[.val (.int i0), .val (.int i1), .val (.int i2), .val (.int i3), .val (.int i4), .val (.int i_), .val (.int n_), .val (.int f7), .val (.int f8), .val (.int f9), .val (.int f10), .val (.int f11), .val (.ref ai), .val .null, .val vb, .val ve, .val (.ref c_), .val (.ref r), .val (.int (4 : Int32)), .val (.ref lm), .unset, .unset, .unset] [(.ref le)]))
            have Q_le : oStr Z h le ([103, 105, 118, 101, 110] : List Int32) := ⟨(oPS (by decide) (oPS (by decide) (oPS (by decide) (oPS (by decide) (oPS (by decide) oP0))))), by decide, bb, kb, E_le, V_le, C_le, K_le⟩
            have Q := Q.ext X
            have Q_lm := Q_lm.ext X
            rw [← eew] at Q_le
            refine oSt (fun _ => XS.astore A.here hx rfl (Jvm.hb hby at_200) rfl rfl (l' := #[.val (.int i0), .val (.int i1), .val (.int i2), .val (.int i3), .val (.int i4), .val (.int i_), .val (.int n_), .val (.int f7), .val (.int f8), .val (.int f9), .val (.int f10), .val (.int f11), .val (.ref ai), .val .null, .val vb, .val ve, .val (.ref c_), .val (.ref r), .val (.int (4 : Int32)), .val (.ref lm), .val (.ref le), .unset, .unset]) rfl) ?_
            show oGo p e below _ (T.setTop (mkF m 202 #[.val (.int i0), .val (.int i1), .val (.int i2), .val (.int i3), .val (.int i4), .val (.int i_), .val (.int n_), .val (.int f7), .val (.int f8), .val (.int f9), .val (.int f10), .val (.int f11), .val (.ref ai), .val .null, .val vb, .val ve, .val (.ref c_), .val (.ref r), .val (.int (4 : Int32)), .val (.ref lm), .val (.ref le), .unset, .unset] []))
            exact J202 _ _ _ _ _ _ _ _ _ _ _ _ _ _ _ _ _ ([110, 117, 108, 108] : List Int32) _ _ (A.mono (by decide) (by decide)) Q Q_lm Q_le (Or.inl ⟨hf, rfl⟩) hb.len.1 he.len.1
          · refine oSt (fun _ => XS.ifNo A.here hx rfl (Jvm.hb hby at_190) rfl (Jvm.Free.XT.i0_eq_f gf10)) ?_
            show oGo p e below _ (T.setTop (mkF m 193 #[.val (.int i0), .val (.int i1), .val (.int i2), .val (.int i3), .val (.int i4), .val (.int i_), .val (.int n_), .val (.int f7), .val (.int f8), .val (.int f9), .val (.int f10), .val (.int f11), .val (.ref ai), .val .null, .val vb, .val ve, .val (.ref c_), .val (.ref r), .val (.int (4 : Int32)), .val (.ref lm), .unset, .unset, .unset] []))
            have eew : ew = ([110, 111, 110, 101] : List Int32) := ie.mpr gf10
            obtain ⟨le, T, h, bb, kb, A, X, CR, E_le, C_le, V_le, K_le, ne_le, Li, st⟩ := A.ldcS hx (hw _ (List.mem_of_getElem? (i := 248) rfl)) hlit hEL (List.mem_of_getElem? (i := 7) rfl) (vs := (([110, 111, 110, 101] : List Int32).map fun c => c.toInt8.toInt32).map Value.int) (z := Int32.ofNat ([110, 111, 110, 101] : List Int32).length) ⟨by decide +kernel, by decide +kernel⟩ (by decide +kernel) (by decide +kernel) (g := (mkF m 193 #[.val (.int i0), .val (.int i1), .val (.int i2), .val (.int i3), .val (.int i4), .val (.int i_), .val (.int n_), .val (.int f7), .val (.int f8), .val (.int f9), .val (.int f10), .val (.int f11), .val (.ref ai), .val .null, .val vb, .val ve, .val (.ref c_), .val (.ref r), .val (.int (4 : Int32)), .val (.ref lm), .unset, .unset, .unset] [])) rfl (Jvm.hb hby at_193) (n := 16) (by decide +kernel) (by decide) (by decide) (by decide)
            refine oSt st ?_
            show oGo p e below _ (T.setTop (mkF m 195 #[.val (.int i0), .val (.int i1), .val (.int i2), .val (.int i3), .val (.int i4), .val (.int i_), .val (.int n_), .val (.int f7), .val (.int f8), .val (.int f9), .val (.int f10), .val (.int f11), .val (.ref ai), .val .null, .val vb, .val ve, .val (.ref c_), .val (.ref r), .val (.int (4 : Int32)), .val (.ref lm), .unset, .unset, .unset] [(.ref le)]))
            have Q_le : oStr Z h le ([110, 111, 110, 101] : List Int32) := ⟨(oPS (by decide) (oPS (by decide) (oPS (by decide) (oPS (by decide) oP0)))), by decide, bb, kb, E_le, V_le, C_le, K_le⟩
            have Q := Q.ext X
            have Q_lm := Q_lm.ext X
            rw [← eew] at Q_le
            refine oSt (fun _ => XS.goto A.here hx rfl (pc0 := 195) (pc' := 200) rfl (Jvm.hb hby at_195) (by decide) (by decide)) ?_
            show oGo p e below _ (T.setTop (mkF m 200 #[.val (.int i0), .val (.int i1), .val (.int i2), .val (.int i3), .val (.int i4), .val (.int i_), .val (.int n_), .val (.int f7), .val (.int f8), .val (.int f9), .val (.int f10), .val (.int f11), .val (.ref ai), .val .null, .val vb, .val ve, .val (.ref c_), .val (.ref r), .val (.int (4 : Int32)), .val (.ref lm), .unset, .unset, .unset] [(.ref le)]))
            refine oSt (fun _ => XS.astore A.here hx rfl (Jvm.hb hby at_200) rfl rfl (l' := #[.val (.int i0), .val (.int i1), .val (.int i2), .val (.int i3), .val (.int i4), .val (.int i_), .val (.int n_), .val (.int f7), .val (.int f8), .val (.int f9), .val (.int f10), .val (.int f11), .val (.ref ai), .val .null, .val vb, .val ve, .val (.ref c_), .val (.ref r), .val (.int (4 : Int32)), .val (.ref lm), .val (.ref le), .unset, .unset]) rfl) ?_
            show oGo p e below _ (T.setTop (mkF m 202 #[.val (.int i0), .val (.int i1), .val (.int i2), .val (.int i3), .val (.int i4), .val (.int i_), .val (.int n_), .val (.int f7), .val (.int f8), .val (.int f9), .val (.int f10), .val (.int f11), .val (.ref ai), .val .null, .val vb, .val ve, .val (.ref c_), .val (.ref r), .val (.int (4 : Int32)), .val (.ref lm), .val (.ref le), .unset, .unset] []))
            exact J202 _ _ _ _ _ _ _ _ _ _ _ _ _ _ _ _ _ ([110, 117, 108, 108] : List Int32) _ _ (A.mono (by decide) (by decide)) Q Q_lm Q_le (Or.inl ⟨hf, rfl⟩) hb.len.1 he.len.1
      · show oGo p e below _ (T.setTop (mkF m 109 #[.val (.int i0), .val (.int i1), .val (.int i2), .val (.int i3), .val (.int i4), .val (.int i_), .val (.int n_), .val (.int f7), .val (.int f8), .val (.int f9), .val (.int f10), .val (.int f11), .val (.ref ai), .unset, .unset, .unset, .unset, .unset, .unset, .unset, .unset, .unset, .unset] [(.ref an)]))
        refine oSt (fun _ => XS.astore A.here hx rfl (Jvm.hb hby at_109) rfl rfl (l' := #[.val (.int i0), .val (.int i1), .val (.int i2), .val (.int i3), .val (.int i4), .val (.int i_), .val (.int n_), .val (.int f7), .val (.int f8), .val (.int f9), .val (.int f10), .val (.int f11), .val (.ref ai), .val (.ref an), .unset, .unset, .unset, .unset, .unset, .unset, .unset, .unset, .unset]) rfl) ?_
        show oGo p e below _ (T.setTop (mkF m 111 #[.val (.int i0), .val (.int i1), .val (.int i2), .val (.int i3), .val (.int i4), .val (.int i_), .val (.int n_), .val (.int f7), .val (.int f8), .val (.int f9), .val (.int f10), .val (.int f11), .val (.ref ai), .val (.ref an), .unset, .unset, .unset, .unset, .unset, .unset, .unset, .unset, .unset] []))
        refine oSt (fun _ => XS.iloadN A.here hx rfl (Jvm.hb hby at_111) rfl) ?_
        show oGo p e below _ (T.setTop (mkF m 112 #[.val (.int i0), .val (.int i1), .val (.int i2), .val (.int i3), .val (.int i4), .val (.int i_), .val (.int n_), .val (.int f7), .val (.int f8), .val (.int f9), .val (.int f10), .val (.int f11), .val (.ref ai), .val (.ref an), .unset, .unset, .unset, .unset, .unset, .unset, .unset, .unset, .unset] [(.int i2)]))
        refine oSt (fun _ => XS.iload A.here hx rfl (Jvm.hb hby at_112) rfl) ?_
        show oGo p e below _ (T.setTop (mkF m 114 #[.val (.int i0), .val (.int i1), .val (.int i2), .val (.int i3), .val (.int i4), .val (.int i_), .val (.int n_), .val (.int f7), .val (.int f8), .val (.int f9), .val (.int f10), .val (.int f11), .val (.ref ai), .val (.ref an), .unset, .unset, .unset, .unset, .unset, .unset, .unset, .unset, .unset] [(.int f8), (.int i2)]))
        refine oSt (fun _ => XS.iload A.here hx rfl (Jvm.hb hby at_114) rfl) ?_
        show oGo p e below _ (T.setTop (mkF m 116 #[.val (.int i0), .val (.int i1), .val (.int i2), .val (.int i3), .val (.int i4), .val (.int i_), .val (.int n_), .val (.int f7), .val (.int f8), .val (.int f9), .val (.int f10), .val (.int f11), .val (.ref ai), .val (.ref an), .unset, .unset, .unset, .unset, .unset, .unset, .unset, .unset, .unset] [(.int f9), (.int f8), (.int i2)]))
        obtain ⟨_, vm, T, h, L, A, K, CR, ⟨vb, mw, rfl, hb, ib⟩, st⟩ := A.callS hx (y := (⟨"com/example/stallwright/stallwright/store/CustomerToStringPinLaw", "drawn", "(IZZ)Ljava/lang/String;"⟩ : MethodName)) (hw _ (List.mem_of_getElem? (i := 26) rfl)) (hw _ (List.mem_of_getElem? (i := 27) rfl)) (hw _ (List.mem_of_getElem? (i := 28) rfl)) (hw _ (List.mem_of_getElem? (i := 29) rfl)) (by decide) hEL (argsL := [(.int i2), (.int f8), (.int f9)]) (rest := []) (own_drw l Z a0 hw hEL n0 _ A.oldn i2 f8 f9 zc hcs hcz) (W := 0) (by decide) (by decide) (by decide) (by decide) all0 all0 all0 (g := (mkF m 116 #[.val (.int i0), .val (.int i1), .val (.int i2), .val (.int i3), .val (.int i4), .val (.int i_), .val (.int n_), .val (.int f7), .val (.int f8), .val (.int f9), .val (.int f10), .val (.int f11), .val (.ref ai), .val (.ref an), .unset, .unset, .unset, .unset, .unset, .unset, .unset, .unset, .unset] [(.int f9), (.int f8), (.int i2)])) rfl (by rw [hml]; rfl) (lenOf opd29 rfl) rfl (by show 2 * 0 + _ ≤ _; exact Nat.le_of_eq rfl) (Jvm.hb hby at_116)
        refine oSt st ?_
        have X := oExt0 K
        have Qi := Qi.ext X
        have Qn := Qn.ext X
        show oGo p e below _ (T.setTop (mkF m 119 #[.val (.int i0), .val (.int i1), .val (.int i2), .val (.int i3), .val (.int i4), .val (.int i_), .val (.int n_), .val (.int f7), .val (.int f8), .val (.int f9), .val (.int f10), .val (.int f11), .val (.ref ai), .val (.ref an), .unset, .unset, .unset, .unset, .unset, .unset, .unset, .unset, .unset] [vb]))
        have rb := hb.isr
        refine oSt (fun _ => XS.astore A.here hx rfl (Jvm.hb hby at_119) rfl rb (l' := #[.val (.int i0), .val (.int i1), .val (.int i2), .val (.int i3), .val (.int i4), .val (.int i_), .val (.int n_), .val (.int f7), .val (.int f8), .val (.int f9), .val (.int f10), .val (.int f11), .val (.ref ai), .val (.ref an), .val vb, .unset, .unset, .unset, .unset, .unset, .unset, .unset, .unset]) (by rcases ref_cases rb with rfl | ⟨a_, rfl⟩ <;> rfl)) ?_
        show oGo p e below _ (T.setTop (mkF m 121 #[.val (.int i0), .val (.int i1), .val (.int i2), .val (.int i3), .val (.int i4), .val (.int i_), .val (.int n_), .val (.int f7), .val (.int f8), .val (.int f9), .val (.int f10), .val (.int f11), .val (.ref ai), .val (.ref an), .val vb, .unset, .unset, .unset, .unset, .unset, .unset, .unset, .unset] []))
        refine oSt (fun _ => XS.iloadN A.here hx rfl (Jvm.hb hby at_121) rfl) ?_
        show oGo p e below _ (T.setTop (mkF m 122 #[.val (.int i0), .val (.int i1), .val (.int i2), .val (.int i3), .val (.int i4), .val (.int i_), .val (.int n_), .val (.int f7), .val (.int f8), .val (.int f9), .val (.int f10), .val (.int f11), .val (.ref ai), .val (.ref an), .val vb, .unset, .unset, .unset, .unset, .unset, .unset, .unset, .unset] [(.int i3)]))
        refine oSt (fun _ => XS.iload A.here hx rfl (Jvm.hb hby at_122) rfl) ?_
        show oGo p e below _ (T.setTop (mkF m 124 #[.val (.int i0), .val (.int i1), .val (.int i2), .val (.int i3), .val (.int i4), .val (.int i_), .val (.int n_), .val (.int f7), .val (.int f8), .val (.int f9), .val (.int f10), .val (.int f11), .val (.ref ai), .val (.ref an), .val vb, .unset, .unset, .unset, .unset, .unset, .unset, .unset, .unset] [(.int f10), (.int i3)]))
        refine oSt (fun _ => XS.iload A.here hx rfl (Jvm.hb hby at_124) rfl) ?_
        show oGo p e below _ (T.setTop (mkF m 126 #[.val (.int i0), .val (.int i1), .val (.int i2), .val (.int i3), .val (.int i4), .val (.int i_), .val (.int n_), .val (.int f7), .val (.int f8), .val (.int f9), .val (.int f10), .val (.int f11), .val (.ref ai), .val (.ref an), .val vb, .unset, .unset, .unset, .unset, .unset, .unset, .unset, .unset] [(.int f11), (.int f10), (.int i3)]))
        obtain ⟨_, vm, T, h, L, A, K, CR, ⟨ve, ew, rfl, he, ie⟩, st⟩ := A.callS hx (y := (⟨"com/example/stallwright/stallwright/store/CustomerToStringPinLaw", "drawn", "(IZZ)Ljava/lang/String;"⟩ : MethodName)) (hw _ (List.mem_of_getElem? (i := 26) rfl)) (hw _ (List.mem_of_getElem? (i := 27) rfl)) (hw _ (List.mem_of_getElem? (i := 28) rfl)) (hw _ (List.mem_of_getElem? (i := 29) rfl)) (by decide) hEL (argsL := [(.int i3), (.int f10), (.int f11)]) (rest := []) (own_drw l Z a0 hw hEL n0 _ A.oldn i3 f10 f11 zc hcs hcz) (W := 0) (by decide) (by decide) (by decide) (by decide) all0 all0 all0 (g := (mkF m 126 #[.val (.int i0), .val (.int i1), .val (.int i2), .val (.int i3), .val (.int i4), .val (.int i_), .val (.int n_), .val (.int f7), .val (.int f8), .val (.int f9), .val (.int f10), .val (.int f11), .val (.ref ai), .val (.ref an), .val vb, .unset, .unset, .unset, .unset, .unset, .unset, .unset, .unset] [(.int f11), (.int f10), (.int i3)])) rfl (by rw [hml]; rfl) (lenOf opd29 rfl) rfl (by show 2 * 0 + _ ≤ _; exact Nat.le_of_eq rfl) (Jvm.hb hby at_126)
        refine oSt st ?_
        have X := oExt0 K
        have Qi := Qi.ext X
        have Qn := Qn.ext X
        show oGo p e below _ (T.setTop (mkF m 129 #[.val (.int i0), .val (.int i1), .val (.int i2), .val (.int i3), .val (.int i4), .val (.int i_), .val (.int n_), .val (.int f7), .val (.int f8), .val (.int f9), .val (.int f10), .val (.int f11), .val (.ref ai), .val (.ref an), .val vb, .unset, .unset, .unset, .unset, .unset, .unset, .unset, .unset] [ve]))
        have re := he.isr
        refine oSt (fun _ => XS.astore A.here hx rfl (Jvm.hb hby at_129) rfl re (l' := #[.val (.int i0), .val (.int i1), .val (.int i2), .val (.int i3), .val (.int i4), .val (.int i_), .val (.int n_), .val (.int f7), .val (.int f8), .val (.int f9), .val (.int f10), .val (.int f11), .val (.ref ai), .val (.ref an), .val vb, .val ve, .unset, .unset, .unset, .unset, .unset, .unset, .unset]) (by rcases ref_cases re with rfl | ⟨a_, rfl⟩ <;> rfl)) ?_
        show oGo p e below _ (T.setTop (mkF m 131 #[.val (.int i0), .val (.int i1), .val (.int i2), .val (.int i3), .val (.int i4), .val (.int i_), .val (.int n_), .val (.int f7), .val (.int f8), .val (.int f9), .val (.int f10), .val (.int f11), .val (.ref ai), .val (.ref an), .val vb, .val ve, .unset, .unset, .unset, .unset, .unset, .unset, .unset] []))
        obtain ⟨T, h, c_, g_c_, lt_c_, n0_c_, s_c_, A, E, E_c_, S_c_, D_c_, st⟩ := A.newO hx (hw _ (List.mem_of_getElem? (i := 48) rfl)) (hw _ (List.mem_of_getElem? (i := 49) rfl)) (hw _ (List.mem_of_getElem? (i := 50) rfl)) (g := (mkF m 131 #[.val (.int i0), .val (.int i1), .val (.int i2), .val (.int i3), .val (.int i4), .val (.int i_), .val (.int n_), .val (.int f7), .val (.int f8), .val (.int f9), .val (.int f10), .val (.int f11), .val (.ref ai), .val (.ref an), .val vb, .val ve, .unset, .unset, .unset, .unset, .unset, .unset, .unset] [])) rfl (Jvm.hb hby at_131) (by decide) (by decide)
        refine oSt st ?_
        show oGo p e below _ (T.setTop (mkF m 134 #[.val (.int i0), .val (.int i1), .val (.int i2), .val (.int i3), .val (.int i4), .val (.int i_), .val (.int n_), .val (.int f7), .val (.int f8), .val (.int f9), .val (.int f10), .val (.int f11), .val (.ref ai), .val (.ref an), .val vb, .val ve, .unset, .unset, .unset, .unset, .unset, .unset, .unset] [(.ref c_)]))
        have F_id_c_ : Fld Z h c_ "com/example/stallwright/stallwright/store/Customer" "id" "Ljava/lang/String;" .null := D_c_ (Or.inr (hw _ (List.mem_of_getElem? (i := 61) rfl))) (ty := (.object "java/lang/String")) (by decide)
        have F_name_c_ : Fld Z h c_ "com/example/stallwright/stallwright/store/Customer" "name" "Ljava/lang/String;" .null := D_c_ (Or.inr (hw _ (List.mem_of_getElem? (i := 63) rfl))) (ty := (.object "java/lang/String")) (by decide)
        have F_mobile_c_ : Fld Z h c_ "com/example/stallwright/stallwright/store/Customer" "mobile" "Ljava/lang/String;" .null := D_c_ (Or.inr (hw _ (List.mem_of_getElem? (i := 65) rfl))) (ty := (.object "java/lang/String")) (by decide)
        have F_email_c_ : Fld Z h c_ "com/example/stallwright/stallwright/store/Customer" "email" "Ljava/lang/String;" .null := D_c_ (Or.inr (hw _ (List.mem_of_getElem? (i := 67) rfl))) (ty := (.object "java/lang/String")) (by decide)
        have Qi := Qi.ext E
        have Qn := Qn.ext E
        refine oSt (fun _ => XS.dup A.here hx rfl (Jvm.hb hby at_134) rfl rfl) ?_
        show oGo p e below _ (T.setTop (mkF m 135 #[.val (.int i0), .val (.int i1), .val (.int i2), .val (.int i3), .val (.int i4), .val (.int i_), .val (.int n_), .val (.int f7), .val (.int f8), .val (.int f9), .val (.int f10), .val (.int f11), .val (.ref ai), .val (.ref an), .val vb, .val ve, .unset, .unset, .unset, .unset, .unset, .unset, .unset] [(.ref c_), (.ref c_)]))
        refine oSt (fun _ => XS.aload A.here hx rfl (Jvm.hb hby at_135) rfl rfl) ?_
        show oGo p e below _ (T.setTop (mkF m 137 #[.val (.int i0), .val (.int i1), .val (.int i2), .val (.int i3), .val (.int i4), .val (.int i_), .val (.int n_), .val (.int f7), .val (.int f8), .val (.int f9), .val (.int f10), .val (.int f11), .val (.ref ai), .val (.ref an), .val vb, .val ve, .unset, .unset, .unset, .unset, .unset, .unset, .unset] [(.ref ai), (.ref c_), (.ref c_)]))
        refine oSt (fun _ => XS.aload A.here hx rfl (Jvm.hb hby at_137) rfl rfl) ?_
        show oGo p e below _ (T.setTop (mkF m 139 #[.val (.int i0), .val (.int i1), .val (.int i2), .val (.int i3), .val (.int i4), .val (.int i_), .val (.int n_), .val (.int f7), .val (.int f8), .val (.int f9), .val (.int f10), .val (.int f11), .val (.ref ai), .val (.ref an), .val vb, .val ve, .unset, .unset, .unset, .unset, .unset, .unset, .unset] [(.ref an), (.ref ai), (.ref c_), (.ref c_)]))
        refine oSt (fun _ => XS.aload A.here hx rfl (Jvm.hb hby at_139) rfl rb) ?_
        show oGo p e below _ (T.setTop (mkF m 141 #[.val (.int i0), .val (.int i1), .val (.int i2), .val (.int i3), .val (.int i4), .val (.int i_), .val (.int n_), .val (.int f7), .val (.int f8), .val (.int f9), .val (.int f10), .val (.int f11), .val (.ref ai), .val (.ref an), .val vb, .val ve, .unset, .unset, .unset, .unset, .unset, .unset, .unset] [vb, (.ref an), (.ref ai), (.ref c_), (.ref c_)]))
        refine oSt (fun _ => XS.aload A.here hx rfl (Jvm.hb hby at_141) rfl re) ?_
        show oGo p e below _ (T.setTop (mkF m 143 #[.val (.int i0), .val (.int i1), .val (.int i2), .val (.int i3), .val (.int i4), .val (.int i_), .val (.int n_), .val (.int f7), .val (.int f8), .val (.int f9), .val (.int f10), .val (.int f11), .val (.ref ai), .val (.ref an), .val vb, .val ve, .unset, .unset, .unset, .unset, .unset, .unset, .unset] [ve, vb, (.ref an), (.ref ai), (.ref c_), (.ref c_)]))
        have E_c0 := E_c_
        obtain ⟨_, vm, T, h, L, A, K, CR, ⟨rfl, E_c, F_id, F_name, F_mobile, F_email⟩, st⟩ := A.callN hx (y := (⟨"com/example/stallwright/stallwright/store/Customer", "<init>", "(Ljava/lang/String;Ljava/lang/String;Ljava/lang/String;Ljava/lang/String;)V"⟩ : MethodName)) rfl (hw _ (List.mem_of_getElem? (i := 51) rfl)) (hw _ (List.mem_of_getElem? (i := 52) rfl)) (hw _ (List.mem_of_getElem? (i := 50) rfl)) (hw _ (List.mem_of_getElem? (i := 53) rfl)) (by decide) hEL (a := c_) (argsL := [(.ref ai), (.ref an), vb, ve]) (rest := [(.ref c_)]) (own_cus l Z a0 hw hEL n0 _ A.oldn c_ (.ref ai) (.ref an) vb ve _ _ _ _ E_c_ F_id_c_ F_name_c_ F_mobile_c_ F_email_c_ n0_c_ rfl rfl rb re) (W := 1) (by decide) (by decide) (by decide) (by decide) (oIn1 n0_c_) (oIn1 (Or.inr s_c_)) (oIn1 S_c_) (g := (mkF m 143 #[.val (.int i0), .val (.int i1), .val (.int i2), .val (.int i3), .val (.int i4), .val (.int i_), .val (.int n_), .val (.int f7), .val (.int f8), .val (.int f9), .val (.int f10), .val (.int f11), .val (.ref ai), .val (.ref an), .val vb, .val ve, .unset, .unset, .unset, .unset, .unset, .unset, .unset] [ve, vb, (.ref an), (.ref ai), (.ref c_), (.ref c_)])) rfl (by rw [hml]; rfl) (lenOf opd30 rfl) rfl (by show 2 * 0 + _ ≤ _; exact Nat.le_of_eq rfl) (Jvm.hb hby at_143)
        refine oSt st ?_
        show oGo p e below _ (T.setTop (mkF m 146 #[.val (.int i0), .val (.int i1), .val (.int i2), .val (.int i3), .val (.int i4), .val (.int i_), .val (.int n_), .val (.int f7), .val (.int f8), .val (.int f9), .val (.int f10), .val (.int f11), .val (.ref ai), .val (.ref an), .val vb, .val ve, .unset, .unset, .unset, .unset, .unset, .unset, .unset] [(.ref c_)]))
        have Qi := own_strK Qi K E_c0 (hw _ (List.mem_of_getElem? (i := 49) rfl))
        have Qn := own_strK Qn K E_c0 (hw _ (List.mem_of_getElem? (i := 49) rfl))
        refine oSt (fun _ => XS.astore A.here hx rfl (Jvm.hb hby at_146) rfl rfl (l' := #[.val (.int i0), .val (.int i1), .val (.int i2), .val (.int i3), .val (.int i4), .val (.int i_), .val (.int n_), .val (.int f7), .val (.int f8), .val (.int f9), .val (.int f10), .val (.int f11), .val (.ref ai), .val (.ref an), .val vb, .val ve, .val (.ref c_), .unset, .unset, .unset, .unset, .unset, .unset]) rfl) ?_
        show oGo p e below _ (T.setTop (mkF m 148 #[.val (.int i0), .val (.int i1), .val (.int i2), .val (.int i3), .val (.int i4), .val (.int i_), .val (.int n_), .val (.int f7), .val (.int f8), .val (.int f9), .val (.int f10), .val (.int f11), .val (.ref ai), .val (.ref an), .val vb, .val ve, .val (.ref c_), .unset, .unset, .unset, .unset, .unset, .unset] []))
        refine oSt (fun _ => XS.aload A.here hx rfl (Jvm.hb hby at_148) rfl rfl) ?_
        show oGo p e below _ (T.setTop (mkF m 150 #[.val (.int i0), .val (.int i1), .val (.int i2), .val (.int i3), .val (.int i4), .val (.int i_), .val (.int n_), .val (.int f7), .val (.int f8), .val (.int f9), .val (.int f10), .val (.int f11), .val (.ref ai), .val (.ref an), .val vb, .val ve, .val (.ref c_), .unset, .unset, .unset, .unset, .unset, .unset] [(.ref c_)]))
        obtain ⟨_, vm, T, h, L, A, K, CR, ⟨r, rfl, Q⟩, st⟩ := A.callV hx (y := (⟨"com/example/stallwright/stallwright/store/Customer", "toString", "()Ljava/lang/String;"⟩ : MethodName)) (z := (⟨"com/example/stallwright/stallwright/store/Customer", "toString", "()Ljava/lang/String;"⟩ : MethodName)) (hw _ (List.mem_of_getElem? (i := 68) rfl)) (hw _ (List.mem_of_getElem? (i := 69) rfl)) (A.nf (hw _ (List.mem_of_getElem? (i := 71) rfl))) (hw _ (List.mem_of_getElem? (i := 71) rfl)) (hw _ (List.mem_of_getElem? (i := 70) rfl)) (hw _ (List.mem_of_getElem? (i := 50) rfl)) (hw _ (List.mem_of_getElem? (i := 72) rfl)) (by decide) hEL (a := c_) (argsL := []) (rest := []) (own_tsS l Z a0 hw hEL n0 _ A.oldn c_ ai an vb ve i_ n_ mw ew zc hcs hcz E_c F_id F_name F_mobile F_email Qi hb he Qn) E_c (W := 0) (by decide) (by decide) (by decide) (by decide) all0 all0 all0 (g := (mkF m 150 #[.val (.int i0), .val (.int i1), .val (.int i2), .val (.int i3), .val (.int i4), .val (.int i_), .val (.int n_), .val (.int f7), .val (.int f8), .val (.int f9), .val (.int f10), .val (.int f11), .val (.ref ai), .val (.ref an), .val vb, .val ve, .val (.ref c_), .unset, .unset, .unset, .unset, .unset, .unset] [(.ref c_)])) rfl (by rw [hml]; rfl) (lenOf opd25 rfl) rfl (by show 2 * 0 + _ ≤ _; exact Nat.le_of_eq rfl) (Jvm.hb hby at_150)
        refine oSt st ?_
        have X := oExt0 K
        have Qi := Qi.ext X
        have Qn := Qn.ext X
        show oGo p e below _ (T.setTop (mkF m 153 #[.val (.int i0), .val (.int i1), .val (.int i2), .val (.int i3), .val (.int i4), .val (.int i_), .val (.int n_), .val (.int f7), .val (.int f8), .val (.int f9), .val (.int f10), .val (.int f11), .val (.ref ai), .val (.ref an), .val vb, .val ve, .val (.ref c_), .unset, .unset, .unset, .unset, .unset, .unset] [(.ref r)]))
        refine oSt (fun _ => XS.astore A.here hx rfl (Jvm.hb hby at_153) rfl rfl (l' := #[.val (.int i0), .val (.int i1), .val (.int i2), .val (.int i3), .val (.int i4), .val (.int i_), .val (.int n_), .val (.int f7), .val (.int f8), .val (.int f9), .val (.int f10), .val (.int f11), .val (.ref ai), .val (.ref an), .val vb, .val ve, .val (.ref c_), .val (.ref r), .unset, .unset, .unset, .unset, .unset]) rfl) ?_
        show oGo p e below _ (T.setTop (mkF m 155 #[.val (.int i0), .val (.int i1), .val (.int i2), .val (.int i3), .val (.int i4), .val (.int i_), .val (.int n_), .val (.int f7), .val (.int f8), .val (.int f9), .val (.int f10), .val (.int f11), .val (.ref ai), .val (.ref an), .val vb, .val ve, .val (.ref c_), .val (.ref r), .unset, .unset, .unset, .unset, .unset] []))
        refine oSt (fun _ => XS.aload A.here hx rfl (Jvm.hb hby at_155) rfl rfl) ?_
        show oGo p e below _ (T.setTop (mkF m 157 #[.val (.int i0), .val (.int i1), .val (.int i2), .val (.int i3), .val (.int i4), .val (.int i_), .val (.int n_), .val (.int f7), .val (.int f8), .val (.int f9), .val (.int f10), .val (.int f11), .val (.ref ai), .val (.ref an), .val vb, .val ve, .val (.ref c_), .val (.ref r), .unset, .unset, .unset, .unset, .unset] [(.ref r)]))
        refine oSt (fun _ => XS.ifnonnullYes A.here hx rfl (pc0 := 157) (pc' := 162) rfl (Jvm.hb hby at_157) rfl (by decide) (by decide)) ?_
        show oGo p e below _ (T.setTop (mkF m 162 #[.val (.int i0), .val (.int i1), .val (.int i2), .val (.int i3), .val (.int i4), .val (.int i_), .val (.int n_), .val (.int f7), .val (.int f8), .val (.int f9), .val (.int f10), .val (.int f11), .val (.ref ai), .val (.ref an), .val vb, .val ve, .val (.ref c_), .val (.ref r), .unset, .unset, .unset, .unset, .unset] []))
        refine oSt (fun _ => XS.iload A.here hx rfl (Jvm.hb hby at_162) rfl) ?_
        show oGo p e below _ (T.setTop (mkF m 164 #[.val (.int i0), .val (.int i1), .val (.int i2), .val (.int i3), .val (.int i4), .val (.int i_), .val (.int n_), .val (.int f7), .val (.int f8), .val (.int f9), .val (.int f10), .val (.int f11), .val (.ref ai), .val (.ref an), .val vb, .val ve, .val (.ref c_), .val (.ref r), .unset, .unset, .unset, .unset, .unset] [(.int f7)]))
        refine oSt (fun _ => XS.ifYes A.here hx rfl (pc0 := 164) (pc' := 171) rfl (Jvm.hb hby at_164) rfl (Jvm.Free.XT.i0_eq_t hf) (by decide) (by decide)) ?_
        show oGo p e below _ (T.setTop (mkF m 171 #[.val (.int i0), .val (.int i1), .val (.int i2), .val (.int i3), .val (.int i4), .val (.int i_), .val (.int n_), .val (.int f7), .val (.int f8), .val (.int f9), .val (.int f10), .val (.int f11), .val (.ref ai), .val (.ref an), .val vb, .val ve, .val (.ref c_), .val (.ref r), .unset, .unset, .unset, .unset, .unset] []))
        refine oSt (fun _ => XS.iconst A.here hx rfl (Jvm.hb hby at_171)) ?_
        show oGo p e below _ (T.setTop (mkF m 172 #[.val (.int i0), .val (.int i1), .val (.int i2), .val (.int i3), .val (.int i4), .val (.int i_), .val (.int n_), .val (.int f7), .val (.int f8), .val (.int f9), .val (.int f10), .val (.int f11), .val (.ref ai), .val (.ref an), .val vb, .val ve, .val (.ref c_), .val (.ref r), .unset, .unset, .unset, .unset, .unset] [(.int (1 : Int32))]))
        refine oSt (fun _ => XS.istore A.here hx rfl (Jvm.hb hby at_172) rfl (l' := #[.val (.int i0), .val (.int i1), .val (.int i2), .val (.int i3), .val (.int i4), .val (.int i_), .val (.int n_), .val (.int f7), .val (.int f8), .val (.int f9), .val (.int f10), .val (.int f11), .val (.ref ai), .val (.ref an), .val vb, .val ve, .val (.ref c_), .val (.ref r), .val (.int (1 : Int32)), .unset, .unset, .unset, .unset]) rfl) ?_
        show oGo p e below _ (T.setTop (mkF m 174 #[.val (.int i0), .val (.int i1), .val (.int i2), .val (.int i3), .val (.int i4), .val (.int i_), .val (.int n_), .val (.int f7), .val (.int f8), .val (.int f9), .val (.int f10), .val (.int f11), .val (.ref ai), .val (.ref an), .val vb, .val ve, .val (.ref c_), .val (.ref r), .val (.int (1 : Int32)), .unset, .unset, .unset, .unset] []))
        refine oSt (fun _ => XS.iload A.here hx rfl (Jvm.hb hby at_174) rfl) ?_
        show oGo p e below _ (T.setTop (mkF m 176 #[.val (.int i0), .val (.int i1), .val (.int i2), .val (.int i3), .val (.int i4), .val (.int i_), .val (.int n_), .val (.int f7), .val (.int f8), .val (.int f9), .val (.int f10), .val (.int f11), .val (.ref ai), .val (.ref an), .val vb, .val ve, .val (.ref c_), .val (.ref r), .val (.int (1 : Int32)), .unset, .unset, .unset, .unset] [(.int f8)]))
        by_cases gf8 : f8 = 0
        · refine oSt (fun _ => XS.ifYes A.here hx rfl (pc0 := 176) (pc' := 184) rfl (Jvm.hb hby at_176) rfl (Jvm.Free.XT.i0_eq_t gf8) (by decide) (by decide)) ?_
          show oGo p e below _ (T.setTop (mkF m 184 #[.val (.int i0), .val (.int i1), .val (.int i2), .val (.int i3), .val (.int i4), .val (.int i_), .val (.int n_), .val (.int f7), .val (.int f8), .val (.int f9), .val (.int f10), .val (.int f11), .val (.ref ai), .val (.ref an), .val vb, .val ve, .val (.ref c_), .val (.ref r), .val (.int (1 : Int32)), .unset, .unset, .unset, .unset] []))
          have emw : mw = ([103, 105, 118, 101, 110] : List Int32) := own_Wg hb (fun z => (ib.mp z) gf8)
          obtain ⟨lm, T, h, bb, kb, A, X, CR, E_lm, C_lm, V_lm, K_lm, ne_lm, Li, st⟩ := A.ldcS hx (hw _ (List.mem_of_getElem? (i := 208) rfl)) hlit hEL (List.mem_of_getElem? (i := 8) rfl) (vs := (([103, 105, 118, 101, 110] : List Int32).map fun c => c.toInt8.toInt32).map Value.int) (z := Int32.ofNat ([103, 105, 118, 101, 110] : List Int32).length) ⟨by decide +kernel, by decide +kernel⟩ (by decide +kernel) (by decide +kernel) (g := (mkF m 184 #[.val (.int i0), .val (.int i1), .val (.int i2), .val (.int i3), .val (.int i4), .val (.int i_), .val (.int n_), .val (.int f7), .val (.int f8), .val (.int f9), .val (.int f10), .val (.int f11), .val (.ref ai), .val (.ref an), .val vb, .val ve, .val (.ref c_), .val (.ref r), .val (.int (1 : Int32)), .unset, .unset, .unset, .unset] [])) rfl (Jvm.hb hby at_184) (n := 20) (by decide +kernel) (by decide) (by decide) (by decide)
          refine oSt st ?_
          show oGo p e below _ (T.setTop (mkF m 186 #[.val (.int i0), .val (.int i1), .val (.int i2), .val (.int i3), .val (.int i4), .val (.int i_), .val (.int n_), .val (.int f7), .val (.int f8), .val (.int f9), .val (.int f10), .val (.int f11), .val (.ref ai), .val (.ref an), .val vb, .val ve, .val (.ref c_), .val (.ref r), .val (.int (1 : Int32)), .unset, .unset, .unset, .unset] [(.ref lm)]))
          have Q_lm : oStr Z h lm ([103, 105, 118, 101, 110] : List Int32) := ⟨(oPS (by decide) (oPS (by decide) (oPS (by decide) (oPS (by decide) (oPS (by decide) oP0))))), by decide, bb, kb, E_lm, V_lm, C_lm, K_lm⟩
          have Q := Q.ext X
          rw [← emw] at Q_lm
          refine oSt (fun _ => XS.astore A.here hx rfl (Jvm.hb hby at_186) rfl rfl (l' := #[.val (.int i0), .val (.int i1), .val (.int i2), .val (.int i3), .val (.int i4), .val (.int i_), .val (.int n_), .val (.int f7), .val (.int f8), .val (.int f9), .val (.int f10), .val (.int f11), .val (.ref ai), .val (.ref an), .val vb, .val ve, .val (.ref c_), .val (.ref r), .val (.int (1 : Int32)), .val (.ref lm), .unset, .unset, .unset]) rfl) ?_
          show oGo p e below _ (T.setTop (mkF m 188 #[.val (.int i0), .val (.int i1), .val (.int i2), .val (.int i3), .val (.int i4), .val (.int i_), .val (.int n_), .val (.int f7), .val (.int f8), .val (.int f9), .val (.int f10), .val (.int f11), .val (.ref ai), .val (.ref an), .val vb, .val ve, .val (.ref c_), .val (.ref r), .val (.int (1 : Int32)), .val (.ref lm), .unset, .unset, .unset] []))
          refine oSt (fun _ => XS.iload A.here hx rfl (Jvm.hb hby at_188) rfl) ?_
          show oGo p e below _ (T.setTop (mkF m 190 #[.val (.int i0), .val (.int i1), .val (.int i2), .val (.int i3), .val (.int i4), .val (.int i_), .val (.int n_), .val (.int f7), .val (.int f8), .val (.int f9), .val (.int f10), .val (.int f11), .val (.ref ai), .val (.ref an), .val vb, .val ve, .val (.ref c_), .val (.ref r), .val (.int (1 : Int32)), .val (.ref lm), .unset, .unset, .unset] [(.int f10)]))
          by_cases gf10 : f10 = 0
          · refine oSt (fun _ => XS.ifYes A.here hx rfl (pc0 := 190) (pc' := 198) rfl (Jvm.hb hby at_190) rfl (Jvm.Free.XT.i0_eq_t gf10) (by decide) (by decide)) ?_
            show oGo p e below _ (T.setTop (mkF m 198 #[.val (.int i0), .val (.int i1), .val (.int i2), .val (.int i3), .val (.int i4), .val (.int i_), .val (.int n_), .val (.int f7), .val (.int f8), .val (.int f9), .val (.int f10), .val (.int f11), .val (.ref ai), .val (.ref an), .val vb, .val ve, .val (.ref c_), .val (.ref r), .val (.int (1 : Int32)), .val (.ref lm), .unset, .unset, .unset] []))
            have eew : ew = ([103, 105, 118, 101, 110] : List Int32) := own_Wg he (fun z => (ie.mp z) gf10)
            obtain ⟨le, T, h, bb, kb, A, X, CR, E_le, C_le, V_le, K_le, ne_le, Li, st⟩ := A.ldcS hx (hw _ (List.mem_of_getElem? (i := 208) rfl)) hlit hEL (List.mem_of_getElem? (i := 8) rfl) (vs := (([103, 105, 118, 101, 110] : List Int32).map fun c => c.toInt8.toInt32).map Value.int) (z := Int32.ofNat ([103, 105, 118, 101, 110] : List Int32).length) ⟨by decide +kernel, by decide +kernel⟩ (by decide +kernel) (by decide +kernel) (g := (mkF m 198 #[.val (.int i0), .val (.int i1), .val (.int i2), .val (.int i3), .val (.int i4), .val (.int i_), .val (.int n_), .val (.int f7), .val (.int f8), .val (.int f9), .val (.int f10), .val (.int f11), .val (.ref ai), .val (.ref an), .val vb, .val ve, .val (.ref c_), .val (.ref r), .val (.int (1 : Int32)), .val (.ref lm), .unset, .unset, .unset] [])) rfl (Jvm.hb hby at_198) (n := 20) (by decide +kernel) (by decide) (by decide) (by decide)
            refine oSt st ?_
            show oGo p e below _ (T.setTop (mkF m 200 #[.val (.int i0), .val (.int i1), .val (.int i2), .val (.int i3), .val (.int i4), .val (.int i_), .val (.int n_), .val (.int f7), .val (.int f8), .val (.int f9), .val (.int f10), .val (.int f11), .val (.ref ai), .val (.ref an), .val vb, .val ve, .val (.ref c_), .val (.ref r), .val (.int (1 : Int32)), .val (.ref lm), .unset, .unset, .unset] [(.ref le)]))
            have Q_le : oStr Z h le ([103, 105, 118, 101, 110] : List Int32) := ⟨(oPS (by decide) (oPS (by decide) (oPS (by decide) (oPS (by decide) (oPS (by decide) oP0))))), by decide, bb, kb, E_le, V_le, C_le, K_le⟩
            have Q := Q.ext X
            have Q_lm := Q_lm.ext X
            rw [← eew] at Q_le
            refine oSt (fun _ => XS.astore A.here hx rfl (Jvm.hb hby at_200) rfl rfl (l' := #[.val (.int i0), .val (.int i1), .val (.int i2), .val (.int i3), .val (.int i4), .val (.int i_), .val (.int n_), .val (.int f7), .val (.int f8), .val (.int f9), .val (.int f10), .val (.int f11), .val (.ref ai), .val (.ref an), .val vb, .val ve, .val (.ref c_), .val (.ref r), .val (.int (1 : Int32)), .val (.ref lm), .val (.ref le), .unset, .unset]) rfl) ?_
            show oGo p e below _ (T.setTop (mkF m 202 #[.val (.int i0), .val (.int i1), .val (.int i2), .val (.int i3), .val (.int i4), .val (.int i_), .val (.int n_), .val (.int f7), .val (.int f8), .val (.int f9), .val (.int f10), .val (.int f11), .val (.ref ai), .val (.ref an), .val vb, .val ve, .val (.ref c_), .val (.ref r), .val (.int (1 : Int32)), .val (.ref lm), .val (.ref le), .unset, .unset] []))
            exact J202 _ _ _ _ _ _ _ _ _ _ _ _ _ _ _ _ _ [n_] _ _ (A.mono (by decide) (by decide)) Q Q_lm Q_le (Or.inr ⟨hf, rfl⟩) hb.len.1 he.len.1
          · refine oSt (fun _ => XS.ifNo A.here hx rfl (Jvm.hb hby at_190) rfl (Jvm.Free.XT.i0_eq_f gf10)) ?_
            show oGo p e below _ (T.setTop (mkF m 193 #[.val (.int i0), .val (.int i1), .val (.int i2), .val (.int i3), .val (.int i4), .val (.int i_), .val (.int n_), .val (.int f7), .val (.int f8), .val (.int f9), .val (.int f10), .val (.int f11), .val (.ref ai), .val (.ref an), .val vb, .val ve, .val (.ref c_), .val (.ref r), .val (.int (1 : Int32)), .val (.ref lm), .unset, .unset, .unset] []))
            have eew : ew = ([110, 111, 110, 101] : List Int32) := ie.mpr gf10
            obtain ⟨le, T, h, bb, kb, A, X, CR, E_le, C_le, V_le, K_le, ne_le, Li, st⟩ := A.ldcS hx (hw _ (List.mem_of_getElem? (i := 248) rfl)) hlit hEL (List.mem_of_getElem? (i := 7) rfl) (vs := (([110, 111, 110, 101] : List Int32).map fun c => c.toInt8.toInt32).map Value.int) (z := Int32.ofNat ([110, 111, 110, 101] : List Int32).length) ⟨by decide +kernel, by decide +kernel⟩ (by decide +kernel) (by decide +kernel) (g := (mkF m 193 #[.val (.int i0), .val (.int i1), .val (.int i2), .val (.int i3), .val (.int i4), .val (.int i_), .val (.int n_), .val (.int f7), .val (.int f8), .val (.int f9), .val (.int f10), .val (.int f11), .val (.ref ai), .val (.ref an), .val vb, .val ve, .val (.ref c_), .val (.ref r), .val (.int (1 : Int32)), .val (.ref lm), .unset, .unset, .unset] [])) rfl (Jvm.hb hby at_193) (n := 16) (by decide +kernel) (by decide) (by decide) (by decide)
            refine oSt st ?_
            show oGo p e below _ (T.setTop (mkF m 195 #[.val (.int i0), .val (.int i1), .val (.int i2), .val (.int i3), .val (.int i4), .val (.int i_), .val (.int n_), .val (.int f7), .val (.int f8), .val (.int f9), .val (.int f10), .val (.int f11), .val (.ref ai), .val (.ref an), .val vb, .val ve, .val (.ref c_), .val (.ref r), .val (.int (1 : Int32)), .val (.ref lm), .unset, .unset, .unset] [(.ref le)]))
            have Q_le : oStr Z h le ([110, 111, 110, 101] : List Int32) := ⟨(oPS (by decide) (oPS (by decide) (oPS (by decide) (oPS (by decide) oP0)))), by decide, bb, kb, E_le, V_le, C_le, K_le⟩
            have Q := Q.ext X
            have Q_lm := Q_lm.ext X
            rw [← eew] at Q_le
            refine oSt (fun _ => XS.goto A.here hx rfl (pc0 := 195) (pc' := 200) rfl (Jvm.hb hby at_195) (by decide) (by decide)) ?_
            show oGo p e below _ (T.setTop (mkF m 200 #[.val (.int i0), .val (.int i1), .val (.int i2), .val (.int i3), .val (.int i4), .val (.int i_), .val (.int n_), .val (.int f7), .val (.int f8), .val (.int f9), .val (.int f10), .val (.int f11), .val (.ref ai), .val (.ref an), .val vb, .val ve, .val (.ref c_), .val (.ref r), .val (.int (1 : Int32)), .val (.ref lm), .unset, .unset, .unset] [(.ref le)]))
            refine oSt (fun _ => XS.astore A.here hx rfl (Jvm.hb hby at_200) rfl rfl (l' := #[.val (.int i0), .val (.int i1), .val (.int i2), .val (.int i3), .val (.int i4), .val (.int i_), .val (.int n_), .val (.int f7), .val (.int f8), .val (.int f9), .val (.int f10), .val (.int f11), .val (.ref ai), .val (.ref an), .val vb, .val ve, .val (.ref c_), .val (.ref r), .val (.int (1 : Int32)), .val (.ref lm), .val (.ref le), .unset, .unset]) rfl) ?_
            show oGo p e below _ (T.setTop (mkF m 202 #[.val (.int i0), .val (.int i1), .val (.int i2), .val (.int i3), .val (.int i4), .val (.int i_), .val (.int n_), .val (.int f7), .val (.int f8), .val (.int f9), .val (.int f10), .val (.int f11), .val (.ref ai), .val (.ref an), .val vb, .val ve, .val (.ref c_), .val (.ref r), .val (.int (1 : Int32)), .val (.ref lm), .val (.ref le), .unset, .unset] []))
            exact J202 _ _ _ _ _ _ _ _ _ _ _ _ _ _ _ _ _ [n_] _ _ (A.mono (by decide) (by decide)) Q Q_lm Q_le (Or.inr ⟨hf, rfl⟩) hb.len.1 he.len.1
        · refine oSt (fun _ => XS.ifNo A.here hx rfl (Jvm.hb hby at_176) rfl (Jvm.Free.XT.i0_eq_f gf8)) ?_
          show oGo p e below _ (T.setTop (mkF m 179 #[.val (.int i0), .val (.int i1), .val (.int i2), .val (.int i3), .val (.int i4), .val (.int i_), .val (.int n_), .val (.int f7), .val (.int f8), .val (.int f9), .val (.int f10), .val (.int f11), .val (.ref ai), .val (.ref an), .val vb, .val ve, .val (.ref c_), .val (.ref r), .val (.int (1 : Int32)), .unset, .unset, .unset, .unset] []))
          have emw : mw = ([110, 111, 110, 101] : List Int32) := ib.mpr gf8
          obtain ⟨lm, T, h, bb, kb, A, X, CR, E_lm, C_lm, V_lm, K_lm, ne_lm, Li, st⟩ := A.ldcS hx (hw _ (List.mem_of_getElem? (i := 248) rfl)) hlit hEL (List.mem_of_getElem? (i := 7) rfl) (vs := (([110, 111, 110, 101] : List Int32).map fun c => c.toInt8.toInt32).map Value.int) (z := Int32.ofNat ([110, 111, 110, 101] : List Int32).length) ⟨by decide +kernel, by decide +kernel⟩ (by decide +kernel) (by decide +kernel) (g := (mkF m 179 #[.val (.int i0), .val (.int i1), .val (.int i2), .val (.int i3), .val (.int i4), .val (.int i_), .val (.int n_), .val (.int f7), .val (.int f8), .val (.int f9), .val (.int f10), .val (.int f11), .val (.ref ai), .val (.ref an), .val vb, .val ve, .val (.ref c_), .val (.ref r), .val (.int (1 : Int32)), .unset, .unset, .unset, .unset] [])) rfl (Jvm.hb hby at_179) (n := 16) (by decide +kernel) (by decide) (by decide) (by decide)
          refine oSt st ?_
          show oGo p e below _ (T.setTop (mkF m 181 #[.val (.int i0), .val (.int i1), .val (.int i2), .val (.int i3), .val (.int i4), .val (.int i_), .val (.int n_), .val (.int f7), .val (.int f8), .val (.int f9), .val (.int f10), .val (.int f11), .val (.ref ai), .val (.ref an), .val vb, .val ve, .val (.ref c_), .val (.ref r), .val (.int (1 : Int32)), .unset, .unset, .unset, .unset] [(.ref lm)]))
          have Q_lm : oStr Z h lm ([110, 111, 110, 101] : List Int32) := ⟨(oPS (by decide) (oPS (by decide) (oPS (by decide) (oPS (by decide) oP0)))), by decide, bb, kb, E_lm, V_lm, C_lm, K_lm⟩
          have Q := Q.ext X
          rw [← emw] at Q_lm
          refine oSt (fun _ => XS.goto A.here hx rfl (pc0 := 181) (pc' := 186) rfl (Jvm.hb hby at_181) (by decide) (by decide)) ?_
          show oGo p e below _ (T.setTop (mkF m 186 #[.val (.int i0), .val (.int i1), .val (.int i2), .val (.int i3), .val (.int i4), .val (.int i_), .val (.int n_), .val (.int f7), .val (.int f8), .val (.int f9), .val (.int f10), .val (.int f11), .val (.ref ai), .val (.ref an), .val vb, .val ve, .val (.ref c_), .val (.ref r), .val (.int (1 : Int32)), .unset, .unset, .unset, .unset] [(.ref lm)]))
          refine oSt (fun _ => XS.astore A.here hx rfl (Jvm.hb hby at_186) rfl rfl (l' := #[.val (.int i0), .val (.int i1), .val (.int i2), .val (.int i3), .val (.int i4), .val (.int i_), .val (.int n_), .val (.int f7), .val (.int f8), .val (.int f9), .val (.int f10), .val (.int f11), .val (.ref ai), .val (.ref an), .val vb, .val ve, .val (.ref c_), .val (.ref r), .val (.int (1 : Int32)), .val (.ref lm), .unset, .unset, .unset]) rfl) ?_
          show oGo p e below _ (T.setTop (mkF m 188 #[.val (.int i0), .val (.int i1), .val (.int i2), .val (.int i3), .val (.int i4), .val (.int i_), .val (.int n_), .val (.int f7), .val (.int f8), .val (.int f9), .val (.int f10), .val (.int f11), .val (.ref ai), .val (.ref an), .val vb, .val ve, .val (.ref c_), .val (.ref r), .val (.int (1 : Int32)), .val (.ref lm), .unset, .unset, .unset] []))
          refine oSt (fun _ => XS.iload A.here hx rfl (Jvm.hb hby at_188) rfl) ?_
          show oGo p e below _ (T.setTop (mkF m 190 #[.val (.int i0), .val (.int i1), .val (.int i2), .val (.int i3), .val (.int i4), .val (.int i_), .val (.int n_), .val (.int f7), .val (.int f8), .val (.int f9), .val (.int f10), .val (.int f11), .val (.ref ai), .val (.ref an), .val vb, .val ve, .val (.ref c_), .val (.ref r), .val (.int (1 : Int32)), .val (.ref lm), .unset, .unset, .unset] [(.int f10)]))
          by_cases gf10 : f10 = 0
          · refine oSt (fun _ => XS.ifYes A.here hx rfl (pc0 := 190) (pc' := 198) rfl (Jvm.hb hby at_190) rfl (Jvm.Free.XT.i0_eq_t gf10) (by decide) (by decide)) ?_
            show oGo p e below _ (T.setTop (mkF m 198 #[.val (.int i0), .val (.int i1), .val (.int i2), .val (.int i3), .val (.int i4), .val (.int i_), .val (.int n_), .val (.int f7), .val (.int f8), .val (.int f9), .val (.int f10), .val (.int f11), .val (.ref ai), .val (.ref an), .val vb, .val ve, .val (.ref c_), .val (.ref r), .val (.int (1 : Int32)), .val (.ref lm), .unset, .unset, .unset] []))
            have eew : ew = ([103, 105, 118, 101, 110] : List Int32) := own_Wg he (fun z => (ie.mp z) gf10)
            obtain ⟨le, T, h, bb, kb, A, X, CR, E_le, C_le, V_le, K_le, ne_le, Li, st⟩ := A.ldcS hx (hw _ (List.mem_of_getElem? (i := 208) rfl)) hlit hEL (List.mem_of_getElem? (i := 8) rfl) (vs := (([103, 105, 118, 101, 110] : List Int32).map fun c => c.toInt8.toInt32).map Value.int) (z := Int32.ofNat ([103, 105, 118, 101, 110] : List Int32).length) ⟨by decide +kernel, by decide +kernel⟩ (by decide +kernel) (by decide +kernel) (g := (mkF m 198 #[.val (.int i0), .val (.int i1), .val (.int i2), .val (.int i3), .val (.int i4), .val (.int i_), .val (.int n_), .val (.int f7), .val (.int f8), .val (.int f9), .val (.int f10), .val (.int f11), .val (.ref ai), .val (.ref an), .val vb, .val ve, .val (.ref c_), .val (.ref r), .val (.int (1 : Int32)), .val (.ref lm), .unset, .unset, .unset] [])) rfl (Jvm.hb hby at_198) (n := 20) (by decide +kernel) (by decide) (by decide) (by decide)
            refine oSt st ?_
            show oGo p e below _ (T.setTop (mkF m 200 #[.val (.int i0), .val (.int i1), .val (.int i2), .val (.int i3), .val (.int i4), .val (.int i_), .val (.int n_), .val (.int f7), .val (.int f8), .val (.int f9), .val (.int f10), .val (.int f11), .val (.ref ai), .val (.ref an), .val vb, .val ve, .val (.ref c_), .val (.ref r), .val (.int (1 : Int32)), .val (.ref lm), .unset, .unset, .unset] [(.ref le)]))
            have Q_le : oStr Z h le ([103, 105, 118, 101, 110] : List Int32) := ⟨(oPS (by decide) (oPS (by decide) (oPS (by decide) (oPS (by decide) (oPS (by decide) oP0))))), by decide, bb, kb, E_le, V_le, C_le, K_le⟩
            have Q := Q.ext X
            have Q_lm := Q_lm.ext X
            rw [← eew] at Q_le
            refine oSt (fun _ => XS.astore A.here hx rfl (Jvm.hb hby at_200) rfl rfl (l' := #[.val (.int i0), .val (.int i1), .val (.int i2), .val (.int i3), .val (.int i4), .val (.int i_), .val (.int n_), .val (.int f7), .val (.int f8), .val (.int f9), .val (.int f10), .val (.int f11), .val (.ref ai), .val (.ref an), .val vb, .val ve, .val (.ref c_), .val (.ref r), .val (.int (1 : Int32)), .val (.ref lm), .val (.ref le), .unset, .unset]) rfl) ?_
            show oGo p e below _ (T.setTop (mkF m 202 #[.val (.int i0), .val (.int i1), .val (.int i2), .val (.int i3), .val (.int i4), .val (.int i_), .val (.int n_), .val (.int f7), .val (.int f8), .val (.int f9), .val (.int f10), .val (.int f11), .val (.ref ai), .val (.ref an), .val vb, .val ve, .val (.ref c_), .val (.ref r), .val (.int (1 : Int32)), .val (.ref lm), .val (.ref le), .unset, .unset] []))
            exact J202 _ _ _ _ _ _ _ _ _ _ _ _ _ _ _ _ _ [n_] _ _ (A.mono (by decide) (by decide)) Q Q_lm Q_le (Or.inr ⟨hf, rfl⟩) hb.len.1 he.len.1
          · refine oSt (fun _ => XS.ifNo A.here hx rfl (Jvm.hb hby at_190) rfl (Jvm.Free.XT.i0_eq_f gf10)) ?_
            show oGo p e below _ (T.setTop (mkF m 193 #[.val (.int i0), .val (.int i1), .val (.int i2), .val (.int i3), .val (.int i4), .val (.int i_), .val (.int n_), .val (.int f7), .val (.int f8), .val (.int f9), .val (.int f10), .val (.int f11), .val (.ref ai), .val (.ref an), .val vb, .val ve, .val (.ref c_), .val (.ref r), .val (.int (1 : Int32)), .val (.ref lm), .unset, .unset, .unset] []))
            have eew : ew = ([110, 111, 110, 101] : List Int32) := ie.mpr gf10
            obtain ⟨le, T, h, bb, kb, A, X, CR, E_le, C_le, V_le, K_le, ne_le, Li, st⟩ := A.ldcS hx (hw _ (List.mem_of_getElem? (i := 248) rfl)) hlit hEL (List.mem_of_getElem? (i := 7) rfl) (vs := (([110, 111, 110, 101] : List Int32).map fun c => c.toInt8.toInt32).map Value.int) (z := Int32.ofNat ([110, 111, 110, 101] : List Int32).length) ⟨by decide +kernel, by decide +kernel⟩ (by decide +kernel) (by decide +kernel) (g := (mkF m 193 #[.val (.int i0), .val (.int i1), .val (.int i2), .val (.int i3), .val (.int i4), .val (.int i_), .val (.int n_), .val (.int f7), .val (.int f8), .val (.int f9), .val (.int f10), .val (.int f11), .val (.ref ai), .val (.ref an), .val vb, .val ve, .val (.ref c_), .val (.ref r), .val (.int (1 : Int32)), .val (.ref lm), .unset, .unset, .unset] [])) rfl (Jvm.hb hby at_193) (n := 16) (by decide +kernel) (by decide) (by decide) (by decide)
            refine oSt st ?_
            show oGo p e below _ (T.setTop (mkF m 195 #[.val (.int i0), .val (.int i1), .val (.int i2), .val (.int i3), .val (.int i4), .val (.int i_), .val (.int n_), .val (.int f7), .val (.int f8), .val (.int f9), .val (.int f10), .val (.int f11), .val (.ref ai), .val (.ref an), .val vb, .val ve, .val (.ref c_), .val (.ref r), .val (.int (1 : Int32)), .val (.ref lm), .unset, .unset, .unset] [(.ref le)]))
            have Q_le : oStr Z h le ([110, 111, 110, 101] : List Int32) := ⟨(oPS (by decide) (oPS (by decide) (oPS (by decide) (oPS (by decide) oP0)))), by decide, bb, kb, E_le, V_le, C_le, K_le⟩
            have Q := Q.ext X
            have Q_lm := Q_lm.ext X
            rw [← eew] at Q_le
            refine oSt (fun _ => XS.goto A.here hx rfl (pc0 := 195) (pc' := 200) rfl (Jvm.hb hby at_195) (by decide) (by decide)) ?_
            show oGo p e below _ (T.setTop (mkF m 200 #[.val (.int i0), .val (.int i1), .val (.int i2), .val (.int i3), .val (.int i4), .val (.int i_), .val (.int n_), .val (.int f7), .val (.int f8), .val (.int f9), .val (.int f10), .val (.int f11), .val (.ref ai), .val (.ref an), .val vb, .val ve, .val (.ref c_), .val (.ref r), .val (.int (1 : Int32)), .val (.ref lm), .unset, .unset, .unset] [(.ref le)]))
            refine oSt (fun _ => XS.astore A.here hx rfl (Jvm.hb hby at_200) rfl rfl (l' := #[.val (.int i0), .val (.int i1), .val (.int i2), .val (.int i3), .val (.int i4), .val (.int i_), .val (.int n_), .val (.int f7), .val (.int f8), .val (.int f9), .val (.int f10), .val (.int f11), .val (.ref ai), .val (.ref an), .val vb, .val ve, .val (.ref c_), .val (.ref r), .val (.int (1 : Int32)), .val (.ref lm), .val (.ref le), .unset, .unset]) rfl) ?_
            show oGo p e below _ (T.setTop (mkF m 202 #[.val (.int i0), .val (.int i1), .val (.int i2), .val (.int i3), .val (.int i4), .val (.int i_), .val (.int n_), .val (.int f7), .val (.int f8), .val (.int f9), .val (.int f10), .val (.int f11), .val (.ref ai), .val (.ref an), .val vb, .val ve, .val (.ref c_), .val (.ref r), .val (.int (1 : Int32)), .val (.ref lm), .val (.ref le), .unset, .unset] []))
            exact J202 _ _ _ _ _ _ _ _ _ _ _ _ _ _ _ _ _ [n_] _ _ (A.mono (by decide) (by decide)) Q Q_lm Q_le (Or.inr ⟨hf, rfl⟩) hb.len.1 he.len.1
    by_cases hf : f7 = 0
    · refine oSt (fun _ => XS.ifYes A.here hx rfl (pc0 := 97) (pc' := 104) rfl (Jvm.hb hby at_97) rfl (Jvm.Free.XT.i0_eq_t hf) (by decide) (by decide)) ?_
      show oGo p e below _ (T.setTop (mkF m 104 #[.val (.int i0), .val (.int i1), .val (.int i2), .val (.int i3), .val (.int i4), .val (.int i_), .val (.int n_), .val (.int f7), .val (.int f8), .val (.int f9), .val (.int f10), .val (.int f11), .val (.ref ai), .unset, .unset, .unset, .unset, .unset, .unset, .unset, .unset, .unset, .unset] []))
      refine oSt (fun _ => XS.iload A.here hx rfl (Jvm.hb hby at_104) rfl) ?_
      show oGo p e below _ (T.setTop (mkF m 106 #[.val (.int i0), .val (.int i1), .val (.int i2), .val (.int i3), .val (.int i4), .val (.int i_), .val (.int n_), .val (.int f7), .val (.int f8), .val (.int f9), .val (.int f10), .val (.int f11), .val (.ref ai), .unset, .unset, .unset, .unset, .unset, .unset, .unset, .unset, .unset, .unset] [(.int n_)]))
      obtain ⟨_, vm, T, h, L, A, K, CR, ⟨an, rfl, Qn⟩, st⟩ := A.callS hx (y := (⟨"java/lang/String", "valueOf", "(C)Ljava/lang/String;"⟩ : MethodName)) (hw _ (List.mem_of_getElem? (i := 0) rfl)) (hw _ (List.mem_of_getElem? (i := 1) rfl)) (hw _ (List.mem_of_getElem? (i := 2) rfl)) (hw _ (List.mem_of_getElem? (i := 3) rfl)) (by decide) hEL (argsL := [(.int n_)]) (rest := []) (own_vc l Z a0 hw hEL n0 _ A.oldn n_ zc hcs hcz hn_) (W := 0) (by decide) (by decide) (by decide) (by decide) all0 all0 all0 (g := (mkF m 106 #[.val (.int i0), .val (.int i1), .val (.int i2), .val (.int i3), .val (.int i4), .val (.int i_), .val (.int n_), .val (.int f7), .val (.int f8), .val (.int f9), .val (.int f10), .val (.int f11), .val (.ref ai), .unset, .unset, .unset, .unset, .unset, .unset, .unset, .unset, .unset, .unset] [(.int n_)])) rfl (by rw [hml]; rfl) (lenOf opd28 rfl) rfl (by show 2 * 0 + _ ≤ _; exact Nat.le_of_eq rfl) (Jvm.hb hby at_106)
      refine oSt st ?_
      have X := oExt0 K
      have Qi := Qi.ext X
      show oGo p e below _ (T.setTop (mkF m 109 #[.val (.int i0), .val (.int i1), .val (.int i2), .val (.int i3), .val (.int i4), .val (.int i_), .val (.int n_), .val (.int f7), .val (.int f8), .val (.int f9), .val (.int f10), .val (.int f11), .val (.ref ai), .unset, .unset, .unset, .unset, .unset, .unset, .unset, .unset, .unset, .unset] [(.ref an)]))
      exact J109 _ _ _ _ _ A Qi (Or.inr ⟨hf, an, rfl, Qn⟩)
    · refine oSt (fun _ => XS.ifNo A.here hx rfl (Jvm.hb hby at_97) rfl (Jvm.Free.XT.i0_eq_f hf)) ?_
      show oGo p e below _ (T.setTop (mkF m 100 #[.val (.int i0), .val (.int i1), .val (.int i2), .val (.int i3), .val (.int i4), .val (.int i_), .val (.int n_), .val (.int f7), .val (.int f8), .val (.int f9), .val (.int f10), .val (.int f11), .val (.ref ai), .unset, .unset, .unset, .unset, .unset, .unset, .unset, .unset, .unset, .unset] []))
      refine oSt (fun _ => XS.aconstNull A.here hx rfl (Jvm.hb hby at_100)) ?_
      show oGo p e below _ (T.setTop (mkF m 101 #[.val (.int i0), .val (.int i1), .val (.int i2), .val (.int i3), .val (.int i4), .val (.int i_), .val (.int n_), .val (.int f7), .val (.int f8), .val (.int f9), .val (.int f10), .val (.int f11), .val (.ref ai), .unset, .unset, .unset, .unset, .unset, .unset, .unset, .unset, .unset, .unset] [.null]))
      refine oSt (fun _ => XS.goto A.here hx rfl (pc0 := 101) (pc' := 109) rfl (Jvm.hb hby at_101) (by decide) (by decide)) ?_
      show oGo p e below _ (T.setTop (mkF m 109 #[.val (.int i0), .val (.int i1), .val (.int i2), .val (.int i3), .val (.int i4), .val (.int i_), .val (.int n_), .val (.int f7), .val (.int f8), .val (.int f9), .val (.int f10), .val (.int f11), .val (.ref ai), .unset, .unset, .unset, .unset, .unset, .unset, .unset, .unset, .unset, .unset] [.null]))
      exact J109 _ _ _ _ _ (A.mono (by decide) (by decide)) Qi (Or.inl ⟨hf, rfl⟩)
  have J71 : ∀ f7 f8 f9 f10 : Int32, oGo p e below (oEnd Z consts_1 n0 room_1 s [] (fun v _ h => v = some (.int 1))) (T.setTop (mkF m 71 #[.val (.int i0), .val (.int i1), .val (.int i2), .val (.int i3), .val (.int i4), .val (.int i_), .val (.int n_), .val (.int f7), .val (.int f8), .val (.int f9), .unset, .unset, .unset, .unset, .unset, .unset, .unset, .unset, .unset, .unset, .unset, .unset, .unset] [(.int f10)])) := by
    intro f7 f8 f9 f10
    show oGo p e below _ (T.setTop (mkF m 71 #[.val (.int i0), .val (.int i1), .val (.int i2), .val (.int i3), .val (.int i4), .val (.int i_), .val (.int n_), .val (.int f7), .val (.int f8), .val (.int f9), .unset, .unset, .unset, .unset, .unset, .unset, .unset, .unset, .unset, .unset, .unset, .unset, .unset] [(.int f10)]))
    refine oSt (fun _ => XS.istore A.here hx rfl (Jvm.hb hby at_71) rfl (l' := #[.val (.int i0), .val (.int i1), .val (.int i2), .val (.int i3), .val (.int i4), .val (.int i_), .val (.int n_), .val (.int f7), .val (.int f8), .val (.int f9), .val (.int f10), .unset, .unset, .unset, .unset, .unset, .unset, .unset, .unset, .unset, .unset, .unset, .unset]) rfl) ?_
    show oGo p e below _ (T.setTop (mkF m 73 #[.val (.int i0), .val (.int i1), .val (.int i2), .val (.int i3), .val (.int i4), .val (.int i_), .val (.int n_), .val (.int f7), .val (.int f8), .val (.int f9), .val (.int f10), .unset, .unset, .unset, .unset, .unset, .unset, .unset, .unset, .unset, .unset, .unset, .unset] []))
    refine oSt (fun _ => XS.iload A.here hx rfl (Jvm.hb hby at_73) rfl) ?_
    show oGo p e below _ (T.setTop (mkF m 75 #[.val (.int i0), .val (.int i1), .val (.int i2), .val (.int i3), .val (.int i4), .val (.int i_), .val (.int n_), .val (.int f7), .val (.int f8), .val (.int f9), .val (.int f10), .unset, .unset, .unset, .unset, .unset, .unset, .unset, .unset, .unset, .unset, .unset, .unset] [(.int i4)]))
    refine oSt (fun _ => XS.bipush A.here hx rfl (Jvm.hb hby at_75)) ?_
    show oGo p e below _ (T.setTop (mkF m 77 #[.val (.int i0), .val (.int i1), .val (.int i2), .val (.int i3), .val (.int i4), .val (.int i_), .val (.int n_), .val (.int f7), .val (.int f8), .val (.int f9), .val (.int f10), .unset, .unset, .unset, .unset, .unset, .unset, .unset, .unset, .unset, .unset, .unset, .unset] [(.int (16 : Int32)), (.int i4)]))
    refine oSt (fun _ => XS.iand A.here hx rfl (Jvm.hb hby at_77) rfl) ?_
    show oGo p e below _ (T.setTop (mkF m 78 #[.val (.int i0), .val (.int i1), .val (.int i2), .val (.int i3), .val (.int i4), .val (.int i_), .val (.int n_), .val (.int f7), .val (.int f8), .val (.int f9), .val (.int f10), .unset, .unset, .unset, .unset, .unset, .unset, .unset, .unset, .unset, .unset, .unset, .unset] [(.int (i4 &&& (16 : Int32)))]))
    by_cases c : (i4 &&& (16 : Int32)) = (0 : Int32)
    · refine oSt (fun _ => XS.ifYes A.here hx rfl (pc0 := 78) (pc' := 85) rfl (Jvm.hb hby at_78) rfl (Jvm.Free.XT.i0_eq_t c) (by decide) (by decide)) ?_
      show oGo p e below _ (T.setTop (mkF m 85 #[.val (.int i0), .val (.int i1), .val (.int i2), .val (.int i3), .val (.int i4), .val (.int i_), .val (.int n_), .val (.int f7), .val (.int f8), .val (.int f9), .val (.int f10), .unset, .unset, .unset, .unset, .unset, .unset, .unset, .unset, .unset, .unset, .unset, .unset] []))
      refine oSt (fun _ => XS.iconst A.here hx rfl (Jvm.hb hby at_85)) ?_
      show oGo p e below _ (T.setTop (mkF m 86 #[.val (.int i0), .val (.int i1), .val (.int i2), .val (.int i3), .val (.int i4), .val (.int i_), .val (.int n_), .val (.int f7), .val (.int f8), .val (.int f9), .val (.int f10), .unset, .unset, .unset, .unset, .unset, .unset, .unset, .unset, .unset, .unset, .unset, .unset] [(.int (0 : Int32))]))
      exact J86 f7 f8 f9 f10 _
    · refine oSt (fun _ => XS.ifNo A.here hx rfl (Jvm.hb hby at_78) rfl (Jvm.Free.XT.i0_eq_f c)) ?_
      show oGo p e below _ (T.setTop (mkF m 81 #[.val (.int i0), .val (.int i1), .val (.int i2), .val (.int i3), .val (.int i4), .val (.int i_), .val (.int n_), .val (.int f7), .val (.int f8), .val (.int f9), .val (.int f10), .unset, .unset, .unset, .unset, .unset, .unset, .unset, .unset, .unset, .unset, .unset, .unset] []))
      refine oSt (fun _ => XS.iconst A.here hx rfl (Jvm.hb hby at_81)) ?_
      show oGo p e below _ (T.setTop (mkF m 82 #[.val (.int i0), .val (.int i1), .val (.int i2), .val (.int i3), .val (.int i4), .val (.int i_), .val (.int n_), .val (.int f7), .val (.int f8), .val (.int f9), .val (.int f10), .unset, .unset, .unset, .unset, .unset, .unset, .unset, .unset, .unset, .unset, .unset, .unset] [(.int (1 : Int32))]))
      refine oSt (fun _ => XS.goto A.here hx rfl (pc0 := 82) (pc' := 86) rfl (Jvm.hb hby at_82) (by decide) (by decide)) ?_
      show oGo p e below _ (T.setTop (mkF m 86 #[.val (.int i0), .val (.int i1), .val (.int i2), .val (.int i3), .val (.int i4), .val (.int i_), .val (.int n_), .val (.int f7), .val (.int f8), .val (.int f9), .val (.int f10), .unset, .unset, .unset, .unset, .unset, .unset, .unset, .unset, .unset, .unset, .unset, .unset] [(.int (1 : Int32))]))
      exact J86 f7 f8 f9 f10 _
  have J56 : ∀ f7 f8 f9 : Int32, oGo p e below (oEnd Z consts_1 n0 room_1 s [] (fun v _ h => v = some (.int 1))) (T.setTop (mkF m 56 #[.val (.int i0), .val (.int i1), .val (.int i2), .val (.int i3), .val (.int i4), .val (.int i_), .val (.int n_), .val (.int f7), .val (.int f8), .unset, .unset, .unset, .unset, .unset, .unset, .unset, .unset, .unset, .unset, .unset, .unset, .unset, .unset] [(.int f9)])) := by
    intro f7 f8 f9
    show oGo p e below _ (T.setTop (mkF m 56 #[.val (.int i0), .val (.int i1), .val (.int i2), .val (.int i3), .val (.int i4), .val (.int i_), .val (.int n_), .val (.int f7), .val (.int f8), .unset, .unset, .unset, .unset, .unset, .unset, .unset, .unset, .unset, .unset, .unset, .unset, .unset, .unset] [(.int f9)]))
    refine oSt (fun _ => XS.istore A.here hx rfl (Jvm.hb hby at_56) rfl (l' := #[.val (.int i0), .val (.int i1), .val (.int i2), .val (.int i3), .val (.int i4), .val (.int i_), .val (.int n_), .val (.int f7), .val (.int f8), .val (.int f9), .unset, .unset, .unset, .unset, .unset, .unset, .unset, .unset, .unset, .unset, .unset, .unset, .unset]) rfl) ?_
    show oGo p e below _ (T.setTop (mkF m 58 #[.val (.int i0), .val (.int i1), .val (.int i2), .val (.int i3), .val (.int i4), .val (.int i_), .val (.int n_), .val (.int f7), .val (.int f8), .val (.int f9), .unset, .unset, .unset, .unset, .unset, .unset, .unset, .unset, .unset, .unset, .unset, .unset, .unset] []))
    refine oSt (fun _ => XS.iload A.here hx rfl (Jvm.hb hby at_58) rfl) ?_
    show oGo p e below _ (T.setTop (mkF m 60 #[.val (.int i0), .val (.int i1), .val (.int i2), .val (.int i3), .val (.int i4), .val (.int i_), .val (.int n_), .val (.int f7), .val (.int f8), .val (.int f9), .unset, .unset, .unset, .unset, .unset, .unset, .unset, .unset, .unset, .unset, .unset, .unset, .unset] [(.int i4)]))
    refine oSt (fun _ => XS.bipush A.here hx rfl (Jvm.hb hby at_60)) ?_
    show oGo p e below _ (T.setTop (mkF m 62 #[.val (.int i0), .val (.int i1), .val (.int i2), .val (.int i3), .val (.int i4), .val (.int i_), .val (.int n_), .val (.int f7), .val (.int f8), .val (.int f9), .unset, .unset, .unset, .unset, .unset, .unset, .unset, .unset, .unset, .unset, .unset, .unset, .unset] [(.int (8 : Int32)), (.int i4)]))
    refine oSt (fun _ => XS.iand A.here hx rfl (Jvm.hb hby at_62) rfl) ?_
    show oGo p e below _ (T.setTop (mkF m 63 #[.val (.int i0), .val (.int i1), .val (.int i2), .val (.int i3), .val (.int i4), .val (.int i_), .val (.int n_), .val (.int f7), .val (.int f8), .val (.int f9), .unset, .unset, .unset, .unset, .unset, .unset, .unset, .unset, .unset, .unset, .unset, .unset, .unset] [(.int (i4 &&& (8 : Int32)))]))
    by_cases c : (i4 &&& (8 : Int32)) = (0 : Int32)
    · refine oSt (fun _ => XS.ifYes A.here hx rfl (pc0 := 63) (pc' := 70) rfl (Jvm.hb hby at_63) rfl (Jvm.Free.XT.i0_eq_t c) (by decide) (by decide)) ?_
      show oGo p e below _ (T.setTop (mkF m 70 #[.val (.int i0), .val (.int i1), .val (.int i2), .val (.int i3), .val (.int i4), .val (.int i_), .val (.int n_), .val (.int f7), .val (.int f8), .val (.int f9), .unset, .unset, .unset, .unset, .unset, .unset, .unset, .unset, .unset, .unset, .unset, .unset, .unset] []))
      refine oSt (fun _ => XS.iconst A.here hx rfl (Jvm.hb hby at_70)) ?_
      show oGo p e below _ (T.setTop (mkF m 71 #[.val (.int i0), .val (.int i1), .val (.int i2), .val (.int i3), .val (.int i4), .val (.int i_), .val (.int n_), .val (.int f7), .val (.int f8), .val (.int f9), .unset, .unset, .unset, .unset, .unset, .unset, .unset, .unset, .unset, .unset, .unset, .unset, .unset] [(.int (0 : Int32))]))
      exact J71 f7 f8 f9 _
    · refine oSt (fun _ => XS.ifNo A.here hx rfl (Jvm.hb hby at_63) rfl (Jvm.Free.XT.i0_eq_f c)) ?_
      show oGo p e below _ (T.setTop (mkF m 66 #[.val (.int i0), .val (.int i1), .val (.int i2), .val (.int i3), .val (.int i4), .val (.int i_), .val (.int n_), .val (.int f7), .val (.int f8), .val (.int f9), .unset, .unset, .unset, .unset, .unset, .unset, .unset, .unset, .unset, .unset, .unset, .unset, .unset] []))
      refine oSt (fun _ => XS.iconst A.here hx rfl (Jvm.hb hby at_66)) ?_
      show oGo p e below _ (T.setTop (mkF m 67 #[.val (.int i0), .val (.int i1), .val (.int i2), .val (.int i3), .val (.int i4), .val (.int i_), .val (.int n_), .val (.int f7), .val (.int f8), .val (.int f9), .unset, .unset, .unset, .unset, .unset, .unset, .unset, .unset, .unset, .unset, .unset, .unset, .unset] [(.int (1 : Int32))]))
      refine oSt (fun _ => XS.goto A.here hx rfl (pc0 := 67) (pc' := 71) rfl (Jvm.hb hby at_67) (by decide) (by decide)) ?_
      show oGo p e below _ (T.setTop (mkF m 71 #[.val (.int i0), .val (.int i1), .val (.int i2), .val (.int i3), .val (.int i4), .val (.int i_), .val (.int n_), .val (.int f7), .val (.int f8), .val (.int f9), .unset, .unset, .unset, .unset, .unset, .unset, .unset, .unset, .unset, .unset, .unset, .unset, .unset] [(.int (1 : Int32))]))
      exact J71 f7 f8 f9 _
  have J42 : ∀ f7 f8 : Int32, oGo p e below (oEnd Z consts_1 n0 room_1 s [] (fun v _ h => v = some (.int 1))) (T.setTop (mkF m 42 #[.val (.int i0), .val (.int i1), .val (.int i2), .val (.int i3), .val (.int i4), .val (.int i_), .val (.int n_), .val (.int f7), .unset, .unset, .unset, .unset, .unset, .unset, .unset, .unset, .unset, .unset, .unset, .unset, .unset, .unset, .unset] [(.int f8)])) := by
    intro f7 f8
    show oGo p e below _ (T.setTop (mkF m 42 #[.val (.int i0), .val (.int i1), .val (.int i2), .val (.int i3), .val (.int i4), .val (.int i_), .val (.int n_), .val (.int f7), .unset, .unset, .unset, .unset, .unset, .unset, .unset, .unset, .unset, .unset, .unset, .unset, .unset, .unset, .unset] [(.int f8)]))
    refine oSt (fun _ => XS.istore A.here hx rfl (Jvm.hb hby at_42) rfl (l' := #[.val (.int i0), .val (.int i1), .val (.int i2), .val (.int i3), .val (.int i4), .val (.int i_), .val (.int n_), .val (.int f7), .val (.int f8), .unset, .unset, .unset, .unset, .unset, .unset, .unset, .unset, .unset, .unset, .unset, .unset, .unset, .unset]) rfl) ?_
    show oGo p e below _ (T.setTop (mkF m 44 #[.val (.int i0), .val (.int i1), .val (.int i2), .val (.int i3), .val (.int i4), .val (.int i_), .val (.int n_), .val (.int f7), .val (.int f8), .unset, .unset, .unset, .unset, .unset, .unset, .unset, .unset, .unset, .unset, .unset, .unset, .unset, .unset] []))
    refine oSt (fun _ => XS.iload A.here hx rfl (Jvm.hb hby at_44) rfl) ?_
    show oGo p e below _ (T.setTop (mkF m 46 #[.val (.int i0), .val (.int i1), .val (.int i2), .val (.int i3), .val (.int i4), .val (.int i_), .val (.int n_), .val (.int f7), .val (.int f8), .unset, .unset, .unset, .unset, .unset, .unset, .unset, .unset, .unset, .unset, .unset, .unset, .unset, .unset] [(.int i4)]))
    refine oSt (fun _ => XS.iconst A.here hx rfl (Jvm.hb hby at_46)) ?_
    show oGo p e below _ (T.setTop (mkF m 47 #[.val (.int i0), .val (.int i1), .val (.int i2), .val (.int i3), .val (.int i4), .val (.int i_), .val (.int n_), .val (.int f7), .val (.int f8), .unset, .unset, .unset, .unset, .unset, .unset, .unset, .unset, .unset, .unset, .unset, .unset, .unset, .unset] [(.int (4 : Int32)), (.int i4)]))
    refine oSt (fun _ => XS.iand A.here hx rfl (Jvm.hb hby at_47) rfl) ?_
    show oGo p e below _ (T.setTop (mkF m 48 #[.val (.int i0), .val (.int i1), .val (.int i2), .val (.int i3), .val (.int i4), .val (.int i_), .val (.int n_), .val (.int f7), .val (.int f8), .unset, .unset, .unset, .unset, .unset, .unset, .unset, .unset, .unset, .unset, .unset, .unset, .unset, .unset] [(.int (i4 &&& (4 : Int32)))]))
    by_cases c : (i4 &&& (4 : Int32)) = (0 : Int32)
    · refine oSt (fun _ => XS.ifYes A.here hx rfl (pc0 := 48) (pc' := 55) rfl (Jvm.hb hby at_48) rfl (Jvm.Free.XT.i0_eq_t c) (by decide) (by decide)) ?_
      show oGo p e below _ (T.setTop (mkF m 55 #[.val (.int i0), .val (.int i1), .val (.int i2), .val (.int i3), .val (.int i4), .val (.int i_), .val (.int n_), .val (.int f7), .val (.int f8), .unset, .unset, .unset, .unset, .unset, .unset, .unset, .unset, .unset, .unset, .unset, .unset, .unset, .unset] []))
      refine oSt (fun _ => XS.iconst A.here hx rfl (Jvm.hb hby at_55)) ?_
      show oGo p e below _ (T.setTop (mkF m 56 #[.val (.int i0), .val (.int i1), .val (.int i2), .val (.int i3), .val (.int i4), .val (.int i_), .val (.int n_), .val (.int f7), .val (.int f8), .unset, .unset, .unset, .unset, .unset, .unset, .unset, .unset, .unset, .unset, .unset, .unset, .unset, .unset] [(.int (0 : Int32))]))
      exact J56 f7 f8 _
    · refine oSt (fun _ => XS.ifNo A.here hx rfl (Jvm.hb hby at_48) rfl (Jvm.Free.XT.i0_eq_f c)) ?_
      show oGo p e below _ (T.setTop (mkF m 51 #[.val (.int i0), .val (.int i1), .val (.int i2), .val (.int i3), .val (.int i4), .val (.int i_), .val (.int n_), .val (.int f7), .val (.int f8), .unset, .unset, .unset, .unset, .unset, .unset, .unset, .unset, .unset, .unset, .unset, .unset, .unset, .unset] []))
      refine oSt (fun _ => XS.iconst A.here hx rfl (Jvm.hb hby at_51)) ?_
      show oGo p e below _ (T.setTop (mkF m 52 #[.val (.int i0), .val (.int i1), .val (.int i2), .val (.int i3), .val (.int i4), .val (.int i_), .val (.int n_), .val (.int f7), .val (.int f8), .unset, .unset, .unset, .unset, .unset, .unset, .unset, .unset, .unset, .unset, .unset, .unset, .unset, .unset] [(.int (1 : Int32))]))
      refine oSt (fun _ => XS.goto A.here hx rfl (pc0 := 52) (pc' := 56) rfl (Jvm.hb hby at_52) (by decide) (by decide)) ?_
      show oGo p e below _ (T.setTop (mkF m 56 #[.val (.int i0), .val (.int i1), .val (.int i2), .val (.int i3), .val (.int i4), .val (.int i_), .val (.int n_), .val (.int f7), .val (.int f8), .unset, .unset, .unset, .unset, .unset, .unset, .unset, .unset, .unset, .unset, .unset, .unset, .unset, .unset] [(.int (1 : Int32))]))
      exact J56 f7 f8 _
  have J28 : ∀ f7 : Int32, oGo p e below (oEnd Z consts_1 n0 room_1 s [] (fun v _ h => v = some (.int 1))) (T.setTop (mkF m 28 #[.val (.int i0), .val (.int i1), .val (.int i2), .val (.int i3), .val (.int i4), .val (.int i_), .val (.int n_), .unset, .unset, .unset, .unset, .unset, .unset, .unset, .unset, .unset, .unset, .unset, .unset, .unset, .unset, .unset, .unset] [(.int f7)])) := by
    intro f7
    show oGo p e below _ (T.setTop (mkF m 28 #[.val (.int i0), .val (.int i1), .val (.int i2), .val (.int i3), .val (.int i4), .val (.int i_), .val (.int n_), .unset, .unset, .unset, .unset, .unset, .unset, .unset, .unset, .unset, .unset, .unset, .unset, .unset, .unset, .unset, .unset] [(.int f7)]))
    refine oSt (fun _ => XS.istore A.here hx rfl (Jvm.hb hby at_28) rfl (l' := #[.val (.int i0), .val (.int i1), .val (.int i2), .val (.int i3), .val (.int i4), .val (.int i_), .val (.int n_), .val (.int f7), .unset, .unset, .unset, .unset, .unset, .unset, .unset, .unset, .unset, .unset, .unset, .unset, .unset, .unset, .unset]) rfl) ?_
    show oGo p e below _ (T.setTop (mkF m 30 #[.val (.int i0), .val (.int i1), .val (.int i2), .val (.int i3), .val (.int i4), .val (.int i_), .val (.int n_), .val (.int f7), .unset, .unset, .unset, .unset, .unset, .unset, .unset, .unset, .unset, .unset, .unset, .unset, .unset, .unset, .unset] []))
    refine oSt (fun _ => XS.iload A.here hx rfl (Jvm.hb hby at_30) rfl) ?_
    show oGo p e below _ (T.setTop (mkF m 32 #[.val (.int i0), .val (.int i1), .val (.int i2), .val (.int i3), .val (.int i4), .val (.int i_), .val (.int n_), .val (.int f7), .unset, .unset, .unset, .unset, .unset, .unset, .unset, .unset, .unset, .unset, .unset, .unset, .unset, .unset, .unset] [(.int i4)]))
    refine oSt (fun _ => XS.iconst A.here hx rfl (Jvm.hb hby at_32)) ?_
    show oGo p e below _ (T.setTop (mkF m 33 #[.val (.int i0), .val (.int i1), .val (.int i2), .val (.int i3), .val (.int i4), .val (.int i_), .val (.int n_), .val (.int f7), .unset, .unset, .unset, .unset, .unset, .unset, .unset, .unset, .unset, .unset, .unset, .unset, .unset, .unset, .unset] [(.int (2 : Int32)), (.int i4)]))
    refine oSt (fun _ => XS.iand A.here hx rfl (Jvm.hb hby at_33) rfl) ?_
    show oGo p e below _ (T.setTop (mkF m 34 #[.val (.int i0), .val (.int i1), .val (.int i2), .val (.int i3), .val (.int i4), .val (.int i_), .val (.int n_), .val (.int f7), .unset, .unset, .unset, .unset, .unset, .unset, .unset, .unset, .unset, .unset, .unset, .unset, .unset, .unset, .unset] [(.int (i4 &&& (2 : Int32)))]))
    by_cases c : (i4 &&& (2 : Int32)) = (0 : Int32)
    · refine oSt (fun _ => XS.ifYes A.here hx rfl (pc0 := 34) (pc' := 41) rfl (Jvm.hb hby at_34) rfl (Jvm.Free.XT.i0_eq_t c) (by decide) (by decide)) ?_
      show oGo p e below _ (T.setTop (mkF m 41 #[.val (.int i0), .val (.int i1), .val (.int i2), .val (.int i3), .val (.int i4), .val (.int i_), .val (.int n_), .val (.int f7), .unset, .unset, .unset, .unset, .unset, .unset, .unset, .unset, .unset, .unset, .unset, .unset, .unset, .unset, .unset] []))
      refine oSt (fun _ => XS.iconst A.here hx rfl (Jvm.hb hby at_41)) ?_
      show oGo p e below _ (T.setTop (mkF m 42 #[.val (.int i0), .val (.int i1), .val (.int i2), .val (.int i3), .val (.int i4), .val (.int i_), .val (.int n_), .val (.int f7), .unset, .unset, .unset, .unset, .unset, .unset, .unset, .unset, .unset, .unset, .unset, .unset, .unset, .unset, .unset] [(.int (0 : Int32))]))
      exact J42 f7 _
    · refine oSt (fun _ => XS.ifNo A.here hx rfl (Jvm.hb hby at_34) rfl (Jvm.Free.XT.i0_eq_f c)) ?_
      show oGo p e below _ (T.setTop (mkF m 37 #[.val (.int i0), .val (.int i1), .val (.int i2), .val (.int i3), .val (.int i4), .val (.int i_), .val (.int n_), .val (.int f7), .unset, .unset, .unset, .unset, .unset, .unset, .unset, .unset, .unset, .unset, .unset, .unset, .unset, .unset, .unset] []))
      refine oSt (fun _ => XS.iconst A.here hx rfl (Jvm.hb hby at_37)) ?_
      show oGo p e below _ (T.setTop (mkF m 38 #[.val (.int i0), .val (.int i1), .val (.int i2), .val (.int i3), .val (.int i4), .val (.int i_), .val (.int n_), .val (.int f7), .unset, .unset, .unset, .unset, .unset, .unset, .unset, .unset, .unset, .unset, .unset, .unset, .unset, .unset, .unset] [(.int (1 : Int32))]))
      refine oSt (fun _ => XS.goto A.here hx rfl (pc0 := 38) (pc' := 42) rfl (Jvm.hb hby at_38) (by decide) (by decide)) ?_
      show oGo p e below _ (T.setTop (mkF m 42 #[.val (.int i0), .val (.int i1), .val (.int i2), .val (.int i3), .val (.int i4), .val (.int i_), .val (.int n_), .val (.int f7), .unset, .unset, .unset, .unset, .unset, .unset, .unset, .unset, .unset, .unset, .unset, .unset, .unset, .unset, .unset] [(.int (1 : Int32))]))
      exact J42 f7 _
  refine oSt (fun _ => XS.iload A.here hx rfl (Jvm.hb hby at_16) rfl) ?_
  show oGo p e below _ (T.setTop (mkF m 18 #[.val (.int i0), .val (.int i1), .val (.int i2), .val (.int i3), .val (.int i4), .val (.int i_), .val (.int n_), .unset, .unset, .unset, .unset, .unset, .unset, .unset, .unset, .unset, .unset, .unset, .unset, .unset, .unset, .unset, .unset] [(.int i4)]))
  refine oSt (fun _ => XS.iconst A.here hx rfl (Jvm.hb hby at_18)) ?_
  show oGo p e below _ (T.setTop (mkF m 19 #[.val (.int i0), .val (.int i1), .val (.int i2), .val (.int i3), .val (.int i4), .val (.int i_), .val (.int n_), .unset, .unset, .unset, .unset, .unset, .unset, .unset, .unset, .unset, .unset, .unset, .unset, .unset, .unset, .unset, .unset] [(.int (1 : Int32)), (.int i4)]))
  refine oSt (fun _ => XS.iand A.here hx rfl (Jvm.hb hby at_19) rfl) ?_
  show oGo p e below _ (T.setTop (mkF m 20 #[.val (.int i0), .val (.int i1), .val (.int i2), .val (.int i3), .val (.int i4), .val (.int i_), .val (.int n_), .unset, .unset, .unset, .unset, .unset, .unset, .unset, .unset, .unset, .unset, .unset, .unset, .unset, .unset, .unset, .unset] [(.int (i4 &&& (1 : Int32)))]))
  by_cases c : (i4 &&& (1 : Int32)) = (0 : Int32)
  · refine oSt (fun _ => XS.ifYes A.here hx rfl (pc0 := 20) (pc' := 27) rfl (Jvm.hb hby at_20) rfl (Jvm.Free.XT.i0_eq_t c) (by decide) (by decide)) ?_
    show oGo p e below _ (T.setTop (mkF m 27 #[.val (.int i0), .val (.int i1), .val (.int i2), .val (.int i3), .val (.int i4), .val (.int i_), .val (.int n_), .unset, .unset, .unset, .unset, .unset, .unset, .unset, .unset, .unset, .unset, .unset, .unset, .unset, .unset, .unset, .unset] []))
    refine oSt (fun _ => XS.iconst A.here hx rfl (Jvm.hb hby at_27)) ?_
    show oGo p e below _ (T.setTop (mkF m 28 #[.val (.int i0), .val (.int i1), .val (.int i2), .val (.int i3), .val (.int i4), .val (.int i_), .val (.int n_), .unset, .unset, .unset, .unset, .unset, .unset, .unset, .unset, .unset, .unset, .unset, .unset, .unset, .unset, .unset, .unset] [(.int (0 : Int32))]))
    exact J28 _
  · refine oSt (fun _ => XS.ifNo A.here hx rfl (Jvm.hb hby at_20) rfl (Jvm.Free.XT.i0_eq_f c)) ?_
    show oGo p e below _ (T.setTop (mkF m 23 #[.val (.int i0), .val (.int i1), .val (.int i2), .val (.int i3), .val (.int i4), .val (.int i_), .val (.int n_), .unset, .unset, .unset, .unset, .unset, .unset, .unset, .unset, .unset, .unset, .unset, .unset, .unset, .unset, .unset, .unset] []))
    refine oSt (fun _ => XS.iconst A.here hx rfl (Jvm.hb hby at_23)) ?_
    show oGo p e below _ (T.setTop (mkF m 24 #[.val (.int i0), .val (.int i1), .val (.int i2), .val (.int i3), .val (.int i4), .val (.int i_), .val (.int n_), .unset, .unset, .unset, .unset, .unset, .unset, .unset, .unset, .unset, .unset, .unset, .unset, .unset, .unset, .unset, .unset] [(.int (1 : Int32))]))
    refine oSt (fun _ => XS.goto A.here hx rfl (pc0 := 24) (pc' := 28) rfl (Jvm.hb hby at_24) (by decide) (by decide)) ?_
    show oGo p e below _ (T.setTop (mkF m 28 #[.val (.int i0), .val (.int i1), .val (.int i2), .val (.int i3), .val (.int i4), .val (.int i_), .val (.int n_), .unset, .unset, .unset, .unset, .unset, .unset, .unset, .unset, .unset, .unset, .unset, .unset, .unset, .unset, .unset, .unset] [(.int (1 : Int32))]))
    exact J28 _
theorem own_ne0 {args : Array Value} {s : State} {z : Int32} {t : Jvm.Term} (e : t.eval args s none [] s = some (.int z)) (h : (Jvm.Cond.not (Jvm.Cond.eq t (Jvm.Term.int (0 : Int32)))).before args s = true) : ¬ z = 0 := by
  intro q
  subst q
  have h := not_v (Cond.before_iff.mp h)
  simp [Cond.value, Term.eval, e] at h
set_option maxRecDepth 65536 in
set_option maxHeartbeats 40000000 in
theorem comes_1 {Post : Tables → Env → Array Value → State → Outcome → State → Prop} (hpost : ∀ tb e args s v u, (limb_1_1.after args s (.returned v) u = true ∧ limb_1_2.after args s (.returned v) u = true ∧ True) → ReturnedEndW s (.returned v) u (Jvm.fieldLocs frame_1_writes args s ++ Jvm.arrayLocs frame_1_arrays args s ++ Jvm.staticLocs frame_1_statics s) 72 15936 → Post tb e args s (.returned v) u) :
    ArmFor flags0 classFile x code maxLocals ret World_1 tables_1 room_1 Calls_1 rest_1 Pre_1 Post := by
  intro l hfl _ _ p e ha hc hk s m args below hf hA hF happ hP
  obtain ⟨hcalls, hrest, hpre⟩ := hP
  obtain ⟨-, -, -, hnamed, -, -, -, hat⟩ := (Spec.applies_iff hf).mp happ
  obtain ⟨hg, hn⟩ := and_e (Cond.before_iff.mp (show (Jvm.Cond.and given_1 narrow_1).before args s = true from hpre))
  obtain ⟨hcount, hg⟩ := and_e hg
  obtain ⟨hg0, hg⟩ := and_e hg
  obtain ⟨hg1, hg⟩ := and_e hg
  obtain ⟨hg2, hg⟩ := and_e hg
  obtain ⟨hg3, hg⟩ := and_e hg
  have hg4 := hg
  obtain ⟨w0, w1, w2, w3, w4, rfl⟩ : ∃ w0 w1 w2 w3 w4 : Value, args = #[w0, w1, w2, w3, w4] := by
    have hs : args.size = 5 := by simpa [Cond.value, given_1] using hcount
    obtain ⟨L⟩ := args
    match L, hs with
    | [w0, w1, w2, w3, w4], _ => exact ⟨w0, w1, w2, w3, w4, rfl⟩
  have hw := fun d (hd : d ∈ tables_1) => atoms_spec (ws := Jvm.Cond.code x code maxLocals ret :: tables_1) hat d (List.mem_cons_of_mem _ hd)
  have hfit : Fit s := fun {y c} hc i hi => by
    obtain ⟨ha, rfl⟩ := Array.getElem?_eq_some_iff.mp hc
    have q := List.all_eq_true.mp ((Array.all_eq_true_iff_forall_mem.mp hF) _ (Array.getElem_mem ha)) i (List.mem_range.mpr hi)
    simpa [Array.getElem?_eq_getElem hi] using q
  obtain ⟨hsets, hown0⟩ := atoms_of _ (rest_1_c_eq ▸ (show rest_1_c.before _ s = true from hrest))
  obtain ⟨i0, ei0⟩ := is_v hg0
  obtain rfl : w0 = (.int i0) := Option.some.inj ei0
  obtain ⟨i1, ei1⟩ := is_v hg1
  obtain rfl : w1 = (.int i1) := Option.some.inj ei1
  obtain ⟨i2, ei2⟩ := is_v hg2
  obtain rfl : w2 = (.int i2) := Option.some.inj ei2
  obtain ⟨i3, ei3⟩ := is_v hg3
  obtain rfl : w3 = (.int i3) := Option.some.inj ei3
  obtain ⟨i4, ei4⟩ := is_v hg4
  obtain rfl : w4 = (.int i4) := Option.some.inj ei4
  obtain ⟨zc, ezc⟩ := is_v (Cond.before_iff.mp (hsets _ (List.mem_of_getElem? (i := 1) rfl)))
  have hcs : Sta s s.heap "java/lang/String" "COMPACT_STRINGS" "Z" (.int zc) := Sta.start ezc (Or.inl (hsets _ (List.mem_of_getElem? (i := 0) rfl)))
  have hcz : ¬ zc = 0 := own_ne0 ezc (hsets _ (List.mem_of_getElem? (i := 2) rfl))
  obtain ⟨fm, efm, rfm⟩ := isR_v (Cond.before_iff.mp (hsets _ (List.mem_of_getElem? (i := 8) rfl)))
  have hfm : Sta s s.heap "jdk/internal/util/Preconditions" "SIOOBE_FORMATTER" "Ljava/util/function/BiFunction;" fm := Sta.start efm (Or.inl (hsets _ (List.mem_of_getElem? (i := 7) rfl)))
  have hEL : EW s _ consts_1 := (EW.cons (hw _ (List.mem_of_getElem? (i := 91) rfl)) (by decide +kernel) (EW.cons (hw _ (List.mem_of_getElem? (i := 141) rfl)) (by decide +kernel) (EW.cons (hw _ (List.mem_of_getElem? (i := 165) rfl)) (by decide +kernel) (EW.cons (hw _ (List.mem_of_getElem? (i := 247) rfl)) (by decide +kernel) (EW.cons (hw _ (List.mem_of_getElem? (i := 166) rfl)) (by decide +kernel) (EW.cons (hw _ (List.mem_of_getElem? (i := 167) rfl)) (by decide +kernel) (EW.cons (hw _ (List.mem_of_getElem? (i := 168) rfl)) (by decide +kernel) (EW.cons (hw _ (List.mem_of_getElem? (i := 248) rfl)) (by decide +kernel) (EW.cons (hw _ (List.mem_of_getElem? (i := 208) rfl)) (by decide +kernel) (EW.cons (hw _ (List.mem_of_getElem? (i := 210) rfl)) (by decide +kernel) (EW.cons (hw _ (List.mem_of_getElem? (i := 238) rfl)) (by decide +kernel) (EW.cons (hw _ (List.mem_of_getElem? (i := 249) rfl)) (by decide +kernel) (EW.cons (hw _ (List.mem_of_getElem? (i := 239) rfl)) (by decide +kernel) (EW.cons (hw _ (List.mem_of_getElem? (i := 240) rfl)) (by decide +kernel) (EW.cons (hw _ (List.mem_of_getElem? (i := 250) rfl)) (by decide +kernel) EW.nil)))))))))))))))
  have hCH : CHv s consts_1 s.vm s.heap := CHv.start hEL (fun p hp => hcalls.1 p hp) (hsets _ (List.mem_of_getElem? (i := 2) rfl)) (hw _ (List.mem_of_getElem? (i := 14) rfl)) (hw _ (List.mem_of_getElem? (i := 10) rfl))
  obtain ⟨n, o, h1, h2, h3, v, L, rfl, ⟨N, -, hv⟩, -, hq⟩ := own_law l s _ hw hEL s.heap.size s.heap (Old.start s) i0 i1 i2 i3 i4 zc hcs hcz fm hfm rfm p e ha hc hk s m _ below hf ((Spec.applies_iff_loose hf).mp happ).1 ⟨rfl, State.Warmed39.refl s, rfl, hCH, fun _ q => nomatch q⟩ trivial
  subst hv
  exact ⟨n, _, h1, h2, h3, hpost _ _ _ _ _ _ ⟨Cond.after_iff.mpr rfl, Cond.after_iff.mpr (eq_i res_at (Term.int_eval (1)) rfl), trivial⟩ ⟨hq.1, hq.2.1, hq.2.2.1, (hq.2.2.2.sift fun y hy => Or.inr (N y hy)).mono (by decide) (by decide)⟩⟩
theorem main_1_1 : Claimed_1_1 := comes_1 fun _ _ _ _ _ _ h hF => ⟨h.1, hF⟩
theorem main_1_2 : Claimed_1_2 := comes_1 fun _ _ _ _ _ _ h hF => ⟨h.2.1, hF⟩
end Jvm.Pilot.@@N@@
namespace Jvm.Pilot.@@N@@
open Jvm Jvm.ClassFile Sem Op Lib Jvm.Free Jvm.Stand Jvm.Pilot.@@N@@.Jvm.D
/-! MADE BY PROGRAM (witnessworld.py) out of the Statement's table words and the real class files: 27 classes; the members and pool entries that the words name. The judged class is class 1, her method 4. -/
namespace start1
open Jvm.ClassFile
def u (s : String) : CpInfo := .utf8 (stringToUtf16 s)
/-- a pool by its gaps: so many unusable entries, then the entry; so many at the end -/
def gap : Nat → List CpInfo → List CpInfo
  | 0, r => r
  | n + 1, r => .unusable :: gap n r
def poolList (es : List (Nat × CpInfo)) (last : Nat) : List CpInfo := es.foldr (fun e r => gap e.1 (e.2 :: r)) (gap last [])
def pool (es : List (Nat × CpInfo)) (last : Nat) : Array CpInfo := ⟨poolList es last⟩
def fileOf (pool : Array CpInfo) (this : Nat) (attrs : Array Attribute := #[]) (ms : Array MethodInfo := #[]) (fl : Nat := 33) (sup : Nat := 0) (ifs : Array Nat := #[]) (fds : Array FieldInfo := #[]) : ClassFile where
  minorVersion := 0
  majorVersion := 65
  constantPool := pool
  accessFlags := fl
  thisClass := this
  superClass := sup
  interfaces := ifs
  fields := fds
  methods := ms
  attributes := attrs
def plain (name : String) (sup : Option ClassId) : Class where
  name := name
  kind := .ordinary
  loader := none
  accessFlags := 33
  super := sup
  interfaces := #[]
  cf := none
  fields := #[]
  methods := #[]
  instanceTypes := #[]
  staticTypes := #[]
  resolved := #[]
  callSites := []
  init := .initialized
  statics := none
  mirror := none

def pool0 : Array CpInfo := pool [(5, u "<init>"), (0, u "()V"), (1, .class_ 10), (1, u "java/lang/Object")] 113

def k0c0 : Code := { maxStack := 0, maxLocals := 1, code := object_method_1_code, exceptionTable := #[], attributes := #[] }
def k0m0 : Method := { name := "<init>", desc := "()V", sig := { parameters := [], returnType := none }, accessFlags := 1, code := some k0c0 }
/-- java/lang/Object -/
def k0 : Class := { plain "java/lang/Object" none with
  accessFlags := 33
  interfaces := #[]
  cf := some (fileOf pool0 8 #[] #[{ accessFlags := 1, nameIndex := 5, descriptorIndex := 6, attributes := #[] }] 33 0 #[] #[])
  fields := #[]
  methods := #[k0m0]
  instanceTypes := #[]
  staticTypes := #[]
  resolved := Array.replicate 124 none
  statics := none }

def pool1 : Array CpInfo := pool [(2, .class_ 4), (1, u "java/lang/Object"), (0, u "<init>"), (0, u "()V"), (0, .methodref 8 9), (0, .class_ 10), (0, .nameAndType 11 12), (0, u "java/lang/String"), (0, u "length"), (0, u "()I"), (0, .methodref 8 14), (0, .nameAndType 15 16), (0, u "charAt"), (0, u "(I)C"), (0, .methodref 18 19), (0, .class_ 20), (0, .nameAndType 21 22), (0, u "com/example/stallwright/stallwright/store/CustomerToStringPinLaw"), (0, u "ch"), (0, u "(Ljava/lang/String;ILjava/lang/String;I)Z"), (0, .methodref 8 24), (0, .nameAndType 5 25), (0, u "([C)V"), (0, .methodref 8 27), (0, .nameAndType 28 29), (0, u "valueOf"), (0, u "(C)Ljava/lang/String;"), (0, .methodref 18 31), (0, .nameAndType 32 33), (0, u "drawn"), (0, u "(IZZ)Ljava/lang/String;"), (0, .class_ 35), (0, u "com/example/stallwright/stallwright/store/Customer"), (0, .methodref 34 37), (0, .nameAndType 5 38), (0, u "(Ljava/lang/String;Ljava/lang/String;Ljava/lang/String;Ljava/lang/String;)V"), (0, .methodref 34 40), (0, .nameAndType 41 42), (0, u "toString"), (0, u "()Ljava/lang/String;"), (0, .string 44), (0, u "none"), (0, .string 46), (0, u "given"), (0, .string 48), (0, u "Customer[id="), (0, .methodref 18 50), (0, .nameAndType 51 52), (0, u "at"), (0, u "(Ljava/lang/String;ILjava/lang/String;)Z"), (0, .string 54), (0, u ", name="), (0, .string 56), (0, u "null"), (0, .string 58), (0, u ", mobile="), (0, .string 60), (0, u ", email="), (3, u "law"), (0, u "(IIIII)Z")] 2

def k1m0 : Method := { name := "<init>", desc := "()V", sig := { parameters := [], returnType := none }, accessFlags := 1, code := none }
def k1c1 : Code := { maxStack := 3, maxLocals := 4, code := method_2_code, exceptionTable := #[], attributes := #[] }
def k1m1 : Method := { name := "ch", desc := "(Ljava/lang/String;ILjava/lang/String;I)Z", sig := { parameters := [(.object "java/lang/String"), .int, (.object "java/lang/String"), .int], returnType := some .boolean }, accessFlags := 10, code := some k1c1 }
def k1c2 : Code := { maxStack := 4, maxLocals := 3, code := method_3_code, exceptionTable := #[], attributes := #[] }
def k1m2 : Method := { name := "at", desc := "(Ljava/lang/String;ILjava/lang/String;)Z", sig := { parameters := [(.object "java/lang/String"), .int, (.object "java/lang/String")], returnType := some .boolean }, accessFlags := 10, code := some k1c2 }
def k1c3 : Code := { maxStack := 4, maxLocals := 4, code := method_4_code, exceptionTable := #[], attributes := #[] }
def k1m3 : Method := { name := "drawn", desc := "(IZZ)Ljava/lang/String;", sig := { parameters := [.int, .boolean, .boolean], returnType := some (.object "java/lang/String") }, accessFlags := 10, code := some k1c3 }
def k1c4 : Code := { maxStack := 6, maxLocals := 23, code := code, exceptionTable := #[], attributes := #[] }
def k1m4 : Method := { name := "law", desc := "(IIIII)Z", sig := { parameters := [.int, .int, .int, .int, .int], returnType := some .boolean }, accessFlags := 9, code := some k1c4 }
/-- com/example/stallwright/stallwright/store/CustomerToStringPinLaw -/
def k1 : Class := { plain "com/example/stallwright/stallwright/store/CustomerToStringPinLaw" (some 0) with
  accessFlags := 49
  interfaces := #[]
  cf := some (fileOf pool1 18 #[] #[{ accessFlags := 1, nameIndex := 5, descriptorIndex := 6, attributes := #[] }, { accessFlags := 10, nameIndex := 21, descriptorIndex := 22, attributes := #[] }, { accessFlags := 10, nameIndex := 51, descriptorIndex := 52, attributes := #[] }, { accessFlags := 10, nameIndex := 32, descriptorIndex := 33, attributes := #[] }, { accessFlags := 9, nameIndex := 64, descriptorIndex := 65, attributes := #[] }] 49 2 #[] #[])
  fields := #[]
  methods := #[k1m0, k1m1, k1m2, k1m3, k1m4]
  instanceTypes := #[]
  staticTypes := #[]
  resolved := Array.replicate 68 none
  statics := none }

def pool2 : Array CpInfo := pool [(1, .class_ 2), (0, u "java/io/Serializable"), (0, .class_ 4), (0, u "java/lang/Object")] 2

/-- java/io/Serializable -/
def k2 : Class := { plain "java/io/Serializable" (some 0) with
  accessFlags := 1537
  interfaces := #[]
  cf := some (fileOf pool2 1 #[] #[] 1537 3 #[] #[])
  fields := #[]
  methods := #[]
  instanceTypes := #[]
  staticTypes := #[]
  resolved := Array.replicate 7 none
  statics := none }

def pool3 : Array CpInfo := pool [(1, .class_ 2), (0, u "java/lang/Comparable"), (0, .class_ 4), (0, u "java/lang/Object")] 7

/-- java/lang/Comparable -/
def k3 : Class := { plain "java/lang/Comparable" (some 0) with
  accessFlags := 1537
  interfaces := #[]
  cf := some (fileOf pool3 1 #[] #[] 1537 3 #[] #[])
  fields := #[]
  methods := #[]
  instanceTypes := #[]
  staticTypes := #[]
  resolved := Array.replicate 12 none
  statics := none }

def pool4 : Array CpInfo := pool [(2, .class_ 4), (1, u "java/lang/CharSequence"), (42, .class_ 48), (0, u "java/lang/CharSequence$1CodePointIterator"), (10, .class_ 60), (0, u "java/lang/CharSequence$1CharIterator"), (5, .class_ 67), (0, u "java/lang/Object")] 63

/-- java/lang/CharSequence -/
def k4 : Class := { plain "java/lang/CharSequence" (some 0) with
  accessFlags := 1537
  interfaces := #[]
  cf := some (fileOf pool4 2 #[.nestMembers #[47, 59]] #[] 1537 66 #[] #[])
  fields := #[]
  methods := #[]
  instanceTypes := #[]
  staticTypes := #[]
  resolved := Array.replicate 131 none
  statics := none }

def pool5 : Array CpInfo := pool [(1, .class_ 2), (0, u "java/lang/constant/Constable"), (0, .class_ 4), (0, u "java/lang/Object")] 6

/-- java/lang/constant/Constable -/
def k5 : Class := { plain "java/lang/constant/Constable" (some 0) with
  accessFlags := 1537
  interfaces := #[]
  cf := some (fileOf pool5 1 #[] #[] 1537 3 #[] #[])
  fields := #[]
  methods := #[]
  instanceTypes := #[]
  staticTypes := #[]
  resolved := Array.replicate 11 none
  statics := none }

def pool6 : Array CpInfo := pool [(1, .class_ 2), (0, u "java/lang/constant/ConstantDesc"), (0, .class_ 4), (0, u "java/lang/Object")] 32

/-- java/lang/constant/ConstantDesc -/
def k6 : Class := { plain "java/lang/constant/ConstantDesc" (some 0) with
  accessFlags := 1537
  interfaces := #[]
  cf := some (fileOf pool6 1 #[] #[] 1537 3 #[] #[])
  fields := #[]
  methods := #[]
  instanceTypes := #[]
  staticTypes := #[]
  resolved := Array.replicate 37 none
  statics := none }

def pool7 : Array CpInfo := pool [(1, .methodref 2 3), (0, .class_ 4), (0, .nameAndType 5 6), (0, u "java/lang/Object"), (0, u "<init>"), (0, u "()V"), (0, .string 8), (0, u ""), (0, .fieldref 10 11), (0, .class_ 12), (0, .nameAndType 13 14), (0, u "java/lang/String"), (0, u "value"), (0, u "[B"), (0, .fieldref 10 16), (0, .nameAndType 17 18), (0, u "coder"), (0, u "B"), (2, u "hash"), (0, u "I"), (2, u "hashIsZero"), (0, u "Z"), (0, .methodref 10 28), (0, .nameAndType 5 29), (0, u "([CIILjava/lang/Void;)V"), (8, .fieldref 10 39), (0, .nameAndType 40 26), (0, u "COMPACT_STRINGS"), (1, .class_ 44), (1, u "java/lang/StringUTF16"), (0, u "compress"), (1, .methodref 42 48), (0, .nameAndType 49 50), (0, u "coderFromArrayLen"), (0, u "([BI)B"), (2, u "toBytes"), (0, .methodref 55 56), (0, .class_ 57), (0, .nameAndType 58 59), (0, u "java/util/Arrays"), (0, u "copyOfRange"), (0, u "([BII)[B"), (47, .class_ 109), (1, u "java/lang/StringLatin1"), (32, u "()Z"), (34, .methodref 42 178), (0, .nameAndType 45 179), (0, u "([CII)[B"), (13, .class_ 195), (1, u "java/lang/System"), (13, .methodref 10 210), (0, .nameAndType 5 211), (0, u "([BB)V"), (0, .methodref 193 213), (0, .nameAndType 214 215), (0, u "arraycopy"), (0, u "(Ljava/lang/Object;ILjava/lang/Object;II)V"), (118, u "()I"), (0, .methodref 10 336), (0, .nameAndType 17 337), (0, u "()B"), (2, u "()[B"), (22, u "([BI)C"), (5, u "(C)Z"), (21, u "(II)V"), (35, u "(I)C"), (61, .methodref 10 490), (0, .nameAndType 5 491), (0, u "(Ljava/lang/AbstractStringBuilder;Ljava/lang/Void;)V"), (0, .methodref 10 493), (0, .nameAndType 494 142), (0, u "isLatin1"), (0, .methodref 107 496), (0, .nameAndType 497 363), (0, u "charAt"), (3, u "checkIndex"), (4, .nameAndType 507 334), (0, u "length"), (24, u "getBytes"), (16, .methodref 550 506), (0, .class_ 551), (0, u "java/lang/AbstractStringBuilder"), (0, .methodref 550 553), (0, .nameAndType 554 340), (0, u "getValue"), (20, .class_ 576), (0, u "java/lang/CharSequence"), (22, u "CASE_INSENSITIVE_ORDER"), (0, u "Ljava/util/Comparator;"), (181, u "valueOf"), (0, u "(C)Ljava/lang/String;"), (37, u "([BIB)V"), (188, u "([C)V"), (4, .methodref 107 1016), (0, .nameAndType 1017 369), (0, u "canEncode"), (0, .methodref 107 1019), (0, .nameAndType 53 1020), (0, u "(C)[B"), (26, .methodref 550 493), (5, .fieldref 1054 1055), (0, .class_ 1056), (0, .nameAndType 1057 1058), (0, u "jdk/internal/util/Preconditions"), (0, u "SIOOBE_FORMATTER"), (0, u "Ljava/util/function/BiFunction;"), (0, .methodref 1054 1060), (0, .nameAndType 501 1061), (0, u "(IILjava/util/function/BiFunction;)I"), (39, u "serialPersistentFields"), (0, u "[Ljava/io/ObjectStreamField;"), (0, .class_ 1104), (0, u "java/lang/String$CaseInsensitiveComparator"), (1, .class_ 1107), (0, u "java/io/Serializable"), (0, .class_ 1109), (0, u "java/lang/Comparable"), (0, .class_ 1111), (0, u "java/lang/constant/Constable"), (0, .class_ 1113), (0, u "java/lang/constant/ConstantDesc"), (2, u "serialVersionUID"), (0, u "J"), (3, u "REPL"), (0, u "C"), (2, u "LATIN1"), (1, u "UTF16"), (105, u "(Ljava/lang/StringBuilder;)V")] 217

def k7m0 : Method := { name := "<init>", desc := "()V", sig := { parameters := [], returnType := none }, accessFlags := 1, code := none }
def k7c1 : Code := { maxStack := 5, maxLocals := 2, code := jdk_42_method_3_code, exceptionTable := #[], attributes := #[] }
def k7m1 : Method := { name := "<init>", desc := "([C)V", sig := { parameters := [(.array .char)], returnType := none }, accessFlags := 1, code := some k7c1 }
def k7c2 : Code := { maxStack := 3, maxLocals := 2, code := jdk_42_method_53_code, exceptionTable := #[], attributes := #[] }
def k7m2 : Method := { name := "<init>", desc := "(Ljava/lang/StringBuilder;)V", sig := { parameters := [(.object "java/lang/StringBuilder")], returnType := none }, accessFlags := 1, code := some k7c2 }
def k7c3 : Code := { maxStack := 2, maxLocals := 1, code := jdk_42_method_54_code, exceptionTable := #[], attributes := #[] }
def k7m3 : Method := { name := "length", desc := "()I", sig := { parameters := [], returnType := some .int }, accessFlags := 1, code := some k7c3 }
def k7c4 : Code := { maxStack := 2, maxLocals := 2, code := jdk_42_method_56_code, exceptionTable := #[], attributes := #[] }
def k7m4 : Method := { name := "charAt", desc := "(I)C", sig := { parameters := [.int], returnType := some .char }, accessFlags := 1, code := some k7c4 }
def k7c5 : Code := { maxStack := 4, maxLocals := 1, code := jdk_42_method_139_code, exceptionTable := #[], attributes := #[] }
def k7m5 : Method := { name := "valueOf", desc := "(C)Ljava/lang/String;", sig := { parameters := [.char], returnType := some (.object "java/lang/String") }, accessFlags := 9, code := some k7c5 }
def k7c6 : Code := { maxStack := 5, maxLocals := 4, code := jdk_42_method_147_code, exceptionTable := #[], attributes := #[] }
def k7m6 : Method := { name := "getBytes", desc := "([BIB)V", sig := { parameters := [(.array .byte), .int, .byte], returnType := none }, accessFlags := 0, code := some k7c6 }
def k7c7 : Code := { maxStack := 4, maxLocals := 6, code := jdk_42_method_149_code, exceptionTable := #[], attributes := #[] }
def k7m7 : Method := { name := "<init>", desc := "([CIILjava/lang/Void;)V", sig := { parameters := [(.array .char), .int, .int, (.object "java/lang/Void")], returnType := none }, accessFlags := 2, code := some k7c7 }
def k7c8 : Code := { maxStack := 5, maxLocals := 5, code := jdk_42_method_150_code, exceptionTable := #[], attributes := #[] }
def k7m8 : Method := { name := "<init>", desc := "(Ljava/lang/AbstractStringBuilder;Ljava/lang/Void;)V", sig := { parameters := [(.object "java/lang/AbstractStringBuilder"), (.object "java/lang/Void")], returnType := none }, accessFlags := 0, code := some k7c8 }
def k7c9 : Code := { maxStack := 2, maxLocals := 3, code := jdk_42_method_151_code, exceptionTable := #[], attributes := #[] }
def k7m9 : Method := { name := "<init>", desc := "([BB)V", sig := { parameters := [(.array .byte), .byte], returnType := none }, accessFlags := 0, code := some k7c9 }
def k7c10 : Code := { maxStack := 1, maxLocals := 1, code := jdk_42_method_152_code, exceptionTable := #[], attributes := #[] }
def k7m10 : Method := { name := "coder", desc := "()B", sig := { parameters := [], returnType := some .byte }, accessFlags := 0, code := some k7c10 }
def k7c11 : Code := { maxStack := 1, maxLocals := 1, code := jdk_42_method_154_code, exceptionTable := #[], attributes := #[] }
def k7m11 : Method := { name := "isLatin1", desc := "()Z", sig := { parameters := [], returnType := some .boolean }, accessFlags := 0, code := some k7c11 }
def k7c12 : Code := { maxStack := 3, maxLocals := 2, code := jdk_42_method_155_code, exceptionTable := #[], attributes := #[] }
def k7m12 : Method := { name := "checkIndex", desc := "(II)V", sig := { parameters := [.int, .int], returnType := none }, accessFlags := 8, code := some k7c12 }
/-- java/lang/String -/
def k7 : Class := { plain "java/lang/String" (some 0) with
  accessFlags := 49
  interfaces := #[2, 3, 4, 5, 6]
  cf := some (fileOf pool7 10 #[.nestMembers #[1103]] #[{ accessFlags := 1, nameIndex := 5, descriptorIndex := 6, attributes := #[] }, { accessFlags := 1, nameIndex := 5, descriptorIndex := 1010, attributes := #[] }, { accessFlags := 1, nameIndex := 5, descriptorIndex := 1233, attributes := #[] }, { accessFlags := 1, nameIndex := 507, descriptorIndex := 334, attributes := #[] }, { accessFlags := 1, nameIndex := 497, descriptorIndex := 427, attributes := #[] }, { accessFlags := 9, nameIndex := 782, descriptorIndex := 783, attributes := #[] }, { accessFlags := 0, nameIndex := 532, descriptorIndex := 821, attributes := #[] }, { accessFlags := 2, nameIndex := 5, descriptorIndex := 29, attributes := #[] }, { accessFlags := 0, nameIndex := 5, descriptorIndex := 491, attributes := #[] }, { accessFlags := 0, nameIndex := 5, descriptorIndex := 211, attributes := #[] }, { accessFlags := 0, nameIndex := 17, descriptorIndex := 337, attributes := #[] }, { accessFlags := 0, nameIndex := 494, descriptorIndex := 142, attributes := #[] }, { accessFlags := 8, nameIndex := 501, descriptorIndex := 391, attributes := #[] }] 49 2 #[1106, 1108, 575, 1110, 1112] #[{ accessFlags := 18, nameIndex := 13, descriptorIndex := 14, attributes := #[] }, { accessFlags := 18, nameIndex := 17, descriptorIndex := 18, attributes := #[] }, { accessFlags := 2, nameIndex := 21, descriptorIndex := 22, attributes := #[] }, { accessFlags := 2, nameIndex := 25, descriptorIndex := 26, attributes := #[] }, { accessFlags := 26, nameIndex := 1116, descriptorIndex := 1117, attributes := #[] }, { accessFlags := 24, nameIndex := 40, descriptorIndex := 26, attributes := #[] }, { accessFlags := 26, nameIndex := 1101, descriptorIndex := 1102, attributes := #[] }, { accessFlags := 26, nameIndex := 1121, descriptorIndex := 1122, attributes := #[] }, { accessFlags := 25, nameIndex := 599, descriptorIndex := 600, attributes := #[] }, { accessFlags := 24, nameIndex := 1125, descriptorIndex := 18, attributes := #[] }, { accessFlags := 24, nameIndex := 1127, descriptorIndex := 18, attributes := #[] }])
  fields := #[{ name := "value", type := (.array .byte), accessFlags := 18, slot := 0, constantValue := 0 }, { name := "coder", type := .byte, accessFlags := 18, slot := 1, constantValue := 0 }, { name := "hash", type := .int, accessFlags := 2, slot := 2, constantValue := 0 }, { name := "hashIsZero", type := .boolean, accessFlags := 2, slot := 3, constantValue := 0 }, { name := "serialVersionUID", type := .long, accessFlags := 26, slot := 0, constantValue := 0 }, { name := "COMPACT_STRINGS", type := .boolean, accessFlags := 24, slot := 1, constantValue := 0 }, { name := "serialPersistentFields", type := (.array (.object "java/io/ObjectStreamField")), accessFlags := 26, slot := 2, constantValue := 0 }, { name := "REPL", type := .char, accessFlags := 26, slot := 3, constantValue := 0 }, { name := "CASE_INSENSITIVE_ORDER", type := (.object "java/util/Comparator"), accessFlags := 25, slot := 4, constantValue := 0 }, { name := "LATIN1", type := .byte, accessFlags := 24, slot := 5, constantValue := 0 }, { name := "UTF16", type := .byte, accessFlags := 24, slot := 6, constantValue := 0 }]
  methods := #[k7m0, k7m1, k7m2, k7m3, k7m4, k7m5, k7m6, k7m7, k7m8, k7m9, k7m10, k7m11, k7m12]
  instanceTypes := #[(.array .byte), .byte, .int, .boolean]
  staticTypes := #[.long, .boolean, (.array (.object "java/io/ObjectStreamField")), .char, (.object "java/util/Comparator"), .byte, .byte]
  resolved := Array.replicate 1451 none
  statics := some 0 }

def pool8 : Array CpInfo := pool [(1, .class_ 2), (0, u "java/lang/String"), (1, .class_ 6), (1, u "java/lang/Object"), (0, u "<init>"), (0, u "()V"), (0, .methodref 1 10), (0, .nameAndType 11 12), (0, u "checkIndex"), (0, u "(II)V"), (1, .class_ 16), (1, u "java/lang/StringLatin1"), (36, u "([BI)C"), (36, u "canEncode"), (14, u "(C)Z"), (15, u "$assertionsDisabled"), (0, u "Z"), (98, .class_ 223), (1, u "java/lang/StringLatin1$LinesSpliterator"), (28, u "charAt"), (127, u "toBytes"), (1, u "(C)[B"), (7, .class_ 391), (0, u "java/lang/StringLatin1$CharsSpliterator")] 3

def k8m0 : Method := { name := "<init>", desc := "()V", sig := { parameters := [], returnType := none }, accessFlags := 0, code := none }
def k8c1 : Code := { maxStack := 2, maxLocals := 2, code := jdk_43_method_2_code, exceptionTable := #[], attributes := #[] }
def k8m1 : Method := { name := "charAt", desc := "([BI)C", sig := { parameters := [(.array .byte), .int], returnType := some .char }, accessFlags := 9, code := some k8c1 }
def k8c2 : Code := { maxStack := 2, maxLocals := 1, code := jdk_43_method_3_code, exceptionTable := #[], attributes := #[] }
def k8m2 : Method := { name := "canEncode", desc := "(C)Z", sig := { parameters := [.char], returnType := some .boolean }, accessFlags := 9, code := some k8c2 }
def k8c3 : Code := { maxStack := 4, maxLocals := 1, code := jdk_43_method_46_code, exceptionTable := #[], attributes := #[] }
def k8m3 : Method := { name := "toBytes", desc := "(C)[B", sig := { parameters := [.char], returnType := some (.array .byte) }, accessFlags := 9, code := some k8c3 }
/-- java/lang/StringLatin1 -/
def k8 : Class := { plain "java/lang/StringLatin1" (some 0) with
  accessFlags := 48
  interfaces := #[]
  cf := some (fileOf pool8 14 #[.nestMembers #[390, 221]] #[{ accessFlags := 0, nameIndex := 7, descriptorIndex := 8, attributes := #[] }, { accessFlags := 9, nameIndex := 252, descriptorIndex := 53, attributes := #[] }, { accessFlags := 9, nameIndex := 90, descriptorIndex := 105, attributes := #[] }, { accessFlags := 9, nameIndex := 380, descriptorIndex := 382, attributes := #[] }] 48 4 #[] #[{ accessFlags := 4120, nameIndex := 121, descriptorIndex := 122, attributes := #[] }])
  fields := #[{ name := "$assertionsDisabled", type := .boolean, accessFlags := 4120, slot := 0, constantValue := 0 }]
  methods := #[k8m0, k8m1, k8m2, k8m3]
  instanceTypes := #[]
  staticTypes := #[.boolean]
  resolved := Array.replicate 395 none
  statics := none }

def pool9 : Array CpInfo := pool [(6, .class_ 8), (1, u "java/lang/Object"), (0, u "<init>"), (0, u "()V"), (1, .class_ 14), (1, u "java/lang/StringUTF16"), (31, u "$assertionsDisabled"), (0, u "Z"), (13, u "HI_BYTE_SHIFT"), (0, u "I"), (2, u "LO_BYTE_SHIFT"), (49, .methodref 12 116), (0, .nameAndType 117 118), (0, u "compress"), (0, u "([CI[BII)I"), (3, u "([CII)[B"), (138, u "coderFromArrayLen"), (0, u "([BI)B"), (106, .class_ 371), (1, u "java/lang/StringUTF16$LinesSpliterator"), (58, u "MAX_LENGTH"), (196, .class_ 628), (0, u "java/lang/StringUTF16$CodePointsSpliterator"), (0, .class_ 630), (0, u "java/lang/StringUTF16$CharsSpliterator")] 4

def k9m0 : Method := { name := "<init>", desc := "()V", sig := { parameters := [], returnType := none }, accessFlags := 0, code := none }
def k9c1 : Code := { maxStack := 2, maxLocals := 2, code := jdk_52_method_15_code, exceptionTable := #[], attributes := #[] }
def k9m1 : Method := { name := "coderFromArrayLen", desc := "([BI)B", sig := { parameters := [(.array .byte), .int], returnType := some .byte }, accessFlags := 8, code := some k9c1 }
def k9c2 : Code := { maxStack := 5, maxLocals := 6, code := jdk_52_method_16_code, exceptionTable := #[], attributes := #[] }
def k9m2 : Method := { name := "compress", desc := "([CII)[B", sig := { parameters := [(.array .char), .int, .int], returnType := some (.array .byte) }, accessFlags := 9, code := some k9c2 }
def k9c3 : Code := { maxStack := 3, maxLocals := 7, code := jdk_52_method_21_code, exceptionTable := #[], attributes := #[] }
def k9m3 : Method := { name := "compress", desc := "([CI[BII)I", sig := { parameters := [(.array .char), .int, (.array .byte), .int, .int], returnType := some .int }, accessFlags := 9, code := some k9c3 }
/-- java/lang/StringUTF16 -/
def k9 : Class := { plain "java/lang/StringUTF16" (some 0) with
  accessFlags := 48
  interfaces := #[]
  cf := some (fileOf pool9 12 #[.nestMembers #[627, 629, 369]] #[{ accessFlags := 0, nameIndex := 9, descriptorIndex := 10, attributes := #[] }, { accessFlags := 8, nameIndex := 261, descriptorIndex := 262, attributes := #[] }, { accessFlags := 9, nameIndex := 117, descriptorIndex := 122, attributes := #[] }, { accessFlags := 9, nameIndex := 117, descriptorIndex := 118, attributes := #[] }] 48 6 #[] #[{ accessFlags := 26, nameIndex := 61, descriptorIndex := 62, attributes := #[] }, { accessFlags := 26, nameIndex := 65, descriptorIndex := 62, attributes := #[] }, { accessFlags := 24, nameIndex := 430, descriptorIndex := 62, attributes := #[] }, { accessFlags := 4120, nameIndex := 46, descriptorIndex := 47, attributes := #[] }])
  fields := #[{ name := "HI_BYTE_SHIFT", type := .int, accessFlags := 26, slot := 0, constantValue := 0 }, { name := "LO_BYTE_SHIFT", type := .int, accessFlags := 26, slot := 1, constantValue := 0 }, { name := "MAX_LENGTH", type := .int, accessFlags := 24, slot := 2, constantValue := 0 }, { name := "$assertionsDisabled", type := .boolean, accessFlags := 4120, slot := 3, constantValue := 0 }]
  methods := #[k9m0, k9m1, k9m2, k9m3]
  instanceTypes := #[]
  staticTypes := #[.int, .int, .int, .boolean]
  resolved := Array.replicate 635 none
  statics := none }

def pool10 : Array CpInfo := pool [(1, .methodref 2 3), (0, .class_ 4), (0, .nameAndType 5 6), (0, u "java/lang/Object"), (0, u "<init>"), (0, u "()V"), (0, .class_ 8), (0, u "java/lang/Record")] 13

def k10c0 : Code := { maxStack := 1, maxLocals := 1, code := jdk_30_method_1_code, exceptionTable := #[], attributes := #[] }
def k10m0 : Method := { name := "<init>", desc := "()V", sig := { parameters := [], returnType := none }, accessFlags := 4, code := some k10c0 }
/-- java/lang/Record -/
def k10 : Class := { plain "java/lang/Record" (some 0) with
  accessFlags := 1057
  interfaces := #[]
  cf := some (fileOf pool10 7 #[] #[{ accessFlags := 4, nameIndex := 5, descriptorIndex := 6, attributes := #[] }] 1057 2 #[] #[])
  fields := #[]
  methods := #[k10m0]
  instanceTypes := #[]
  staticTypes := #[]
  resolved := Array.replicate 22 none
  statics := none }

def pool11 : Array CpInfo := pool [(1, .methodref 2 3), (0, .class_ 4), (0, .nameAndType 5 6), (0, u "java/lang/Record"), (0, u "<init>"), (0, u "()V"), (0, .fieldref 8 9), (0, .class_ 10), (0, .nameAndType 11 12), (0, u "com/example/stallwright/stallwright/store/Customer"), (0, u "id"), (0, u "Ljava/lang/String;"), (0, .fieldref 8 14), (0, .nameAndType 15 12), (0, u "name"), (0, .fieldref 8 17), (0, .nameAndType 18 12), (0, u "mobile"), (0, .fieldref 8 20), (0, .nameAndType 21 12), (0, u "email"), (0, .class_ 23), (0, u "java/lang/StringBuilder"), (0, .methodref 22 3), (0, .string 26), (0, u "Customer[id="), (0, .methodref 22 28), (0, .nameAndType 29 30), (0, u "append"), (0, u "(Ljava/lang/String;)Ljava/lang/StringBuilder;"), (0, .string 32), (0, u ", name="), (0, .string 34), (0, u ", mobile="), (0, .string 36), (0, u "none"), (0, .string 38), (0, u "given"), (0, .string 40), (0, u ", email="), (0, .string 42), (0, u "]"), (0, .methodref 22 44), (0, .nameAndType 45 46), (0, u "toString"), (0, u "()Ljava/lang/String;"), (8, u "(Ljava/lang/String;Ljava/lang/String;Ljava/lang/String;Ljava/lang/String;)V")] 31

def k11c0 : Code := { maxStack := 2, maxLocals := 5, code := prog_25_method_1_code, exceptionTable := #[], attributes := #[] }
def k11m0 : Method := { name := "<init>", desc := "(Ljava/lang/String;Ljava/lang/String;Ljava/lang/String;Ljava/lang/String;)V", sig := { parameters := [(.object "java/lang/String"), (.object "java/lang/String"), (.object "java/lang/String"), (.object "java/lang/String")], returnType := none }, accessFlags := 1, code := some k11c0 }
def k11c1 : Code := { maxStack := 2, maxLocals := 1, code := prog_25_method_2_code, exceptionTable := #[], attributes := #[] }
def k11m1 : Method := { name := "toString", desc := "()Ljava/lang/String;", sig := { parameters := [], returnType := some (.object "java/lang/String") }, accessFlags := 1, code := some k11c1 }
/-- com/example/stallwright/stallwright/store/Customer -/
def k11 : Class := { plain "com/example/stallwright/stallwright/store/Customer" (some 10) with
  accessFlags := 49
  interfaces := #[]
  cf := some (fileOf pool11 8 #[] #[{ accessFlags := 1, nameIndex := 5, descriptorIndex := 55, attributes := #[] }, { accessFlags := 1, nameIndex := 45, descriptorIndex := 46, attributes := #[] }] 49 2 #[] #[{ accessFlags := 18, nameIndex := 11, descriptorIndex := 12, attributes := #[] }, { accessFlags := 18, nameIndex := 15, descriptorIndex := 12, attributes := #[] }, { accessFlags := 18, nameIndex := 18, descriptorIndex := 12, attributes := #[] }, { accessFlags := 18, nameIndex := 21, descriptorIndex := 12, attributes := #[] }])
  fields := #[{ name := "id", type := (.object "java/lang/String"), accessFlags := 18, slot := 0, constantValue := 0 }, { name := "name", type := (.object "java/lang/String"), accessFlags := 18, slot := 1, constantValue := 0 }, { name := "mobile", type := (.object "java/lang/String"), accessFlags := 18, slot := 2, constantValue := 0 }, { name := "email", type := (.object "java/lang/String"), accessFlags := 18, slot := 3, constantValue := 0 }]
  methods := #[k11m0, k11m1]
  instanceTypes := #[(.object "java/lang/String"), (.object "java/lang/String"), (.object "java/lang/String"), (.object "java/lang/String")]
  staticTypes := #[]
  resolved := Array.replicate 87 none
  statics := none }

def pool12 : Array CpInfo := pool [(1, .class_ 2), (0, u "java/lang/Appendable"), (0, .class_ 4), (0, u "java/lang/Object")] 9

/-- java/lang/Appendable -/
def k12 : Class := { plain "java/lang/Appendable" (some 0) with
  accessFlags := 1537
  interfaces := #[]
  cf := some (fileOf pool12 1 #[] #[] 1537 3 #[] #[])
  fields := #[]
  methods := #[]
  instanceTypes := #[]
  staticTypes := #[]
  resolved := Array.replicate 14 none
  statics := none }

def pool13 : Array CpInfo := pool [(1, .class_ 2), (0, u "java/lang/String"), (0, .methodref 4 5), (0, .class_ 6), (0, .nameAndType 7 8), (0, u "java/lang/Object"), (0, u "<init>"), (0, u "()V"), (1, .class_ 12), (1, u "java/lang/AbstractStringBuilder"), (0, u "EMPTYVALUE"), (0, u "[B"), (0, .fieldref 10 16), (0, .nameAndType 17 14), (0, u "value"), (0, .fieldref 1 19), (0, .nameAndType 20 21), (0, u "COMPACT_STRINGS"), (0, u "Z"), (0, .fieldref 10 23), (0, .nameAndType 24 25), (0, u "coder"), (0, u "B"), (6, .methodref 1 33), (0, .nameAndType 34 35), (0, u "length"), (0, u "()I"), (3, .integer 2147483647), (0, .methodref 1 41), (0, .nameAndType 24 42), (0, u "()B"), (2, u "append"), (0, u "(Ljava/lang/String;)Ljava/lang/AbstractStringBuilder;"), (1, .class_ 49), (0, u "java/lang/CharSequence"), (19, u "(Ljava/lang/String;)V"), (5, u "maybeLatin1"), (3, .fieldref 10 80), (0, .nameAndType 81 82), (0, u "count"), (0, u "I"), (0, .methodref 10 84), (0, .nameAndType 85 86), (0, u "isLatin1"), (0, u "()Z"), (13, .methodref 10 101), (0, .nameAndType 102 103), (0, u "ensureCapacityInternal"), (0, u "(I)V"), (0, .methodref 10 105), (0, .nameAndType 106 107), (0, u "newCapacity"), (0, u "(I)I"), (0, .methodref 109 110), (0, .class_ 111), (0, .nameAndType 112 113), (0, u "java/util/Arrays"), (0, u "copyOf"), (0, u "([BI)[B"), (0, .methodref 115 116), (0, .class_ 117), (0, .nameAndType 118 119), (0, u "jdk/internal/util/ArraysSupport"), (0, u "newLength"), (0, u "(III)I"), (84, .methodref 10 205), (0, .nameAndType 206 207), (0, u "appendNull"), (0, u "()Ljava/lang/AbstractStringBuilder;"), (0, .methodref 10 209), (0, .nameAndType 210 211), (0, u "putStringAt"), (0, u "(ILjava/lang/String;)V"), (5, u "inflateIfNeededFor"), (2, .nameAndType 221 222), (0, u "getBytes"), (0, u "([BIB)V"), (174, .methodref 10 398), (0, .nameAndType 217 69), (0, .methodref 1 220), (3, u "()[B"), (40, .class_ 445), (0, u "java/lang/Appendable"), (106, u "getValue")] 56

def k13m0 : Method := { name := "<init>", desc := "()V", sig := { parameters := [], returnType := none }, accessFlags := 0, code := none }
def k13c1 : Code := { maxStack := 2, maxLocals := 2, code := jdk_68_method_2_code, exceptionTable := #[], attributes := #[] }
def k13m1 : Method := { name := "<init>", desc := "(I)V", sig := { parameters := [.int], returnType := none }, accessFlags := 0, code := some k13c1 }
def k13c2 : Code := { maxStack := 1, maxLocals := 1, code := jdk_68_method_6_code, exceptionTable := #[], attributes := #[] }
def k13m2 : Method := { name := "length", desc := "()I", sig := { parameters := [], returnType := some .int }, accessFlags := 1, code := some k13c2 }
def k13c3 : Code := { maxStack := 4, maxLocals := 3, code := jdk_68_method_9_code, exceptionTable := #[], attributes := #[] }
def k13m3 : Method := { name := "ensureCapacityInternal", desc := "(I)V", sig := { parameters := [.int], returnType := none }, accessFlags := 2, code := some k13c3 }
def k13c4 : Code := { maxStack := 5, maxLocals := 6, code := jdk_68_method_10_code, exceptionTable := #[], attributes := #[] }
def k13m4 : Method := { name := "newCapacity", desc := "(I)I", sig := { parameters := [.int], returnType := some .int }, accessFlags := 2, code := some k13c4 }
def k13c5 : Code := { maxStack := 3, maxLocals := 3, code := jdk_68_method_22_code, exceptionTable := #[], attributes := #[] }
def k13m5 : Method := { name := "append", desc := "(Ljava/lang/String;)Ljava/lang/AbstractStringBuilder;", sig := { parameters := [(.object "java/lang/String")], returnType := some (.object "java/lang/AbstractStringBuilder") }, accessFlags := 1, code := some k13c5 }
def k13c6 : Code := { maxStack := 6, maxLocals := 3, code := jdk_68_method_26_code, exceptionTable := #[], attributes := #[] }
def k13m6 : Method := { name := "appendNull", desc := "()Ljava/lang/AbstractStringBuilder;", sig := { parameters := [], returnType := some (.object "java/lang/AbstractStringBuilder") }, accessFlags := 2, code := some k13c6 }
def k13c7 : Code := { maxStack := 1, maxLocals := 1, code := jdk_68_method_64_code, exceptionTable := #[], attributes := #[] }
def k13m7 : Method := { name := "getValue", desc := "()[B", sig := { parameters := [], returnType := some (.array .byte) }, accessFlags := 16, code := some k13c7 }
def k13c8 : Code := { maxStack := 1, maxLocals := 1, code := jdk_68_method_68_code, exceptionTable := #[], attributes := #[] }
def k13m8 : Method := { name := "isLatin1", desc := "()Z", sig := { parameters := [], returnType := some .boolean }, accessFlags := 16, code := some k13c8 }
def k13c9 : Code := { maxStack := 2, maxLocals := 2, code := jdk_68_method_71_code, exceptionTable := #[], attributes := #[] }
def k13m9 : Method := { name := "inflateIfNeededFor", desc := "(Ljava/lang/String;)V", sig := { parameters := [(.object "java/lang/String")], returnType := none }, accessFlags := 2, code := some k13c9 }
def k13c10 : Code := { maxStack := 4, maxLocals := 3, code := jdk_68_method_73_code, exceptionTable := #[], attributes := #[] }
def k13m10 : Method := { name := "putStringAt", desc := "(ILjava/lang/String;)V", sig := { parameters := [.int, (.object "java/lang/String")], returnType := none }, accessFlags := 2, code := some k13c10 }
/-- java/lang/AbstractStringBuilder -/
def k13 : Class := { plain "java/lang/AbstractStringBuilder" (some 0) with
  accessFlags := 1056
  interfaces := #[12, 4]
  cf := some (fileOf pool13 10 #[] #[{ accessFlags := 0, nameIndex := 7, descriptorIndex := 8, attributes := #[] }, { accessFlags := 0, nameIndex := 7, descriptorIndex := 103, attributes := #[] }, { accessFlags := 1, nameIndex := 34, descriptorIndex := 35, attributes := #[] }, { accessFlags := 2, nameIndex := 102, descriptorIndex := 103, attributes := #[] }, { accessFlags := 2, nameIndex := 106, descriptorIndex := 107, attributes := #[] }, { accessFlags := 1, nameIndex := 45, descriptorIndex := 46, attributes := #[] }, { accessFlags := 2, nameIndex := 206, descriptorIndex := 207, attributes := #[] }, { accessFlags := 16, nameIndex := 552, descriptorIndex := 403, attributes := #[] }, { accessFlags := 16, nameIndex := 85, descriptorIndex := 86, attributes := #[] }, { accessFlags := 2, nameIndex := 217, descriptorIndex := 69, attributes := #[] }, { accessFlags := 2, nameIndex := 210, descriptorIndex := 211, attributes := #[] }] 1056 4 #[444, 48] #[{ accessFlags := 0, nameIndex := 17, descriptorIndex := 14, attributes := #[] }, { accessFlags := 0, nameIndex := 24, descriptorIndex := 25, attributes := #[] }, { accessFlags := 0, nameIndex := 75, descriptorIndex := 21, attributes := #[] }, { accessFlags := 0, nameIndex := 81, descriptorIndex := 82, attributes := #[] }, { accessFlags := 26, nameIndex := 13, descriptorIndex := 14, attributes := #[] }])
  fields := #[{ name := "value", type := (.array .byte), accessFlags := 0, slot := 0, constantValue := 0 }, { name := "coder", type := .byte, accessFlags := 0, slot := 1, constantValue := 0 }, { name := "maybeLatin1", type := .boolean, accessFlags := 0, slot := 2, constantValue := 0 }, { name := "count", type := .int, accessFlags := 0, slot := 3, constantValue := 0 }, { name := "EMPTYVALUE", type := (.array .byte), accessFlags := 26, slot := 0, constantValue := 0 }]
  methods := #[k13m0, k13m1, k13m2, k13m3, k13m4, k13m5, k13m6, k13m7, k13m8, k13m9, k13m10]
  instanceTypes := #[(.array .byte), .byte, .boolean, .int]
  staticTypes := #[(.array .byte)]
  resolved := Array.replicate 609 none
  statics := none }

def pool14 : Array CpInfo := pool [(1, .methodref 2 3), (0, .class_ 4), (0, .nameAndType 5 6), (0, u "java/lang/AbstractStringBuilder"), (0, u "<init>"), (0, u "(I)V"), (11, .class_ 20), (1, u "java/lang/String"), (3, .class_ 26), (1, u "java/lang/StringBuilder"), (0, u "append"), (0, u "(Ljava/lang/String;)Ljava/lang/StringBuilder;"), (0, .methodref 2 30), (0, .nameAndType 27 31), (0, u "(Ljava/lang/String;)Ljava/lang/AbstractStringBuilder;"), (105, .methodref 18 138), (0, .nameAndType 5 139), (0, u "(Ljava/lang/StringBuilder;)V"), (5, u "()V"), (10, u "()I"), (186, .methodref 2 344), (0, .nameAndType 345 156), (0, u "length"), (3, .class_ 350), (0, u "java/lang/Appendable"), (0, .class_ 352), (0, u "java/io/Serializable"), (0, .class_ 354), (0, u "java/lang/Comparable"), (0, .class_ 356), (0, u "java/lang/CharSequence"), (0, u "serialVersionUID"), (0, u "J"), (40, u "toString"), (0, u "()Ljava/lang/String;")] 21

def k14c0 : Code := { maxStack := 2, maxLocals := 1, code := jdk_67_method_1_code, exceptionTable := #[], attributes := #[] }
def k14m0 : Method := { name := "<init>", desc := "()V", sig := { parameters := [], returnType := none }, accessFlags := 1, code := some k14c0 }
def k14c1 : Code := { maxStack := 2, maxLocals := 2, code := jdk_67_method_7_code, exceptionTable := #[], attributes := #[] }
def k14m1 : Method := { name := "append", desc := "(Ljava/lang/String;)Ljava/lang/StringBuilder;", sig := { parameters := [(.object "java/lang/String")], returnType := some (.object "java/lang/StringBuilder") }, accessFlags := 1, code := some k14c1 }
def k14c2 : Code := { maxStack := 3, maxLocals := 1, code := jdk_67_method_42_code, exceptionTable := #[], attributes := #[] }
def k14m2 : Method := { name := "toString", desc := "()Ljava/lang/String;", sig := { parameters := [], returnType := some (.object "java/lang/String") }, accessFlags := 1, code := some k14c2 }
def k14c3 : Code := { maxStack := 1, maxLocals := 1, code := jdk_67_method_93_code, exceptionTable := #[], attributes := #[] }
def k14m3 : Method := { name := "length", desc := "()I", sig := { parameters := [], returnType := some .int }, accessFlags := 4161, code := some k14c3 }
/-- java/lang/StringBuilder -/
def k14 : Class := { plain "java/lang/StringBuilder" (some 13) with
  accessFlags := 49
  interfaces := #[12, 2, 3, 4]
  cf := some (fileOf pool14 24 #[] #[{ accessFlags := 1, nameIndex := 5, descriptorIndex := 145, attributes := #[] }, { accessFlags := 1, nameIndex := 27, descriptorIndex := 28, attributes := #[] }, { accessFlags := 1, nameIndex := 399, descriptorIndex := 400, attributes := #[] }, { accessFlags := 4161, nameIndex := 345, descriptorIndex := 156, attributes := #[] }] 49 2 #[349, 351, 353, 355] #[{ accessFlags := 24, nameIndex := 357, descriptorIndex := 358, attributes := #[] }])
  fields := #[{ name := "serialVersionUID", type := .long, accessFlags := 24, slot := 0, constantValue := 0 }]
  methods := #[k14m0, k14m1, k14m2, k14m3]
  instanceTypes := #[(.array .byte), .byte, .boolean, .int]
  staticTypes := #[.long]
  resolved := Array.replicate 422 none
  statics := none }

def pool15 : Array CpInfo := pool [(2, .class_ 4), (1, u "java/lang/Object"), (0, u "<init>"), (0, u "()V"), (1, .class_ 10), (1, u "java/lang/System"), (0, u "allowSecurityManager"), (0, u "I"), (16, u "cons"), (0, u "Ljava/io/Console;"), (77, .class_ 110), (1, u "java/lang/System$CallersHolder"), (43, u "initialErrStream"), (0, u "Ljava/io/PrintStream;"), (19, u "security"), (0, u "Ljava/lang/SecurityManager;"), (31, .class_ 209), (0, u "java/lang/System$1"), (7, u "props"), (0, u "Ljava/util/Properties;"), (2, u "lineSeparator"), (0, u "Ljava/lang/String;"), (96, .class_ 321), (1, u "java/lang/System$LoggerFinder"), (5, .class_ 328), (0, u "java/lang/System$Logger"), (67, u "err"), (2, u "out"), (91, u "notSupportedJnuEncoding"), (15, u "in"), (17, u "initialIn"), (0, u "Ljava/io/InputStream;"), (35, u "bootLayer"), (0, u "Ljava/lang/ModuleLayer;"), (99, .class_ 664), (0, u "java/lang/System$2"), (9, u "NEVER"), (2, u "MAYBE"), (49, u "arraycopy"), (0, u "(Ljava/lang/Object;ILjava/lang/Object;II)V"), (72, .class_ 802), (0, u "java/lang/System$Logger$Level")] 31

def k15m0 : Method := { name := "<init>", desc := "()V", sig := { parameters := [], returnType := none }, accessFlags := 2, code := none }
def k15m1 : Method := { name := "arraycopy", desc := "(Ljava/lang/Object;ILjava/lang/Object;II)V", sig := { parameters := [(.object "java/lang/Object"), .int, (.object "java/lang/Object"), .int, .int], returnType := none }, accessFlags := 265, code := none }
/-- java/lang/System -/
def k15 : Class := { plain "java/lang/System" (some 0) with
  accessFlags := 49
  interfaces := #[]
  cf := some (fileOf pool15 8 #[.nestMembers #[319, 327, 801, 108, 663, 208]] #[{ accessFlags := 2, nameIndex := 5, descriptorIndex := 6, attributes := #[] }, { accessFlags := 265, nameIndex := 727, descriptorIndex := 728, attributes := #[] }] 49 2 #[] #[{ accessFlags := 25, nameIndex := 507, descriptorIndex := 526, attributes := #[] }, { accessFlags := 25, nameIndex := 399, descriptorIndex := 155, attributes := #[] }, { accessFlags := 25, nameIndex := 396, descriptorIndex := 155, attributes := #[] }, { accessFlags := 10, nameIndex := 525, descriptorIndex := 526, attributes := #[] }, { accessFlags := 26, nameIndex := 674, descriptorIndex := 12, attributes := #[] }, { accessFlags := 26, nameIndex := 677, descriptorIndex := 12, attributes := #[] }, { accessFlags := 10, nameIndex := 11, descriptorIndex := 12, attributes := #[] }, { accessFlags := 74, nameIndex := 175, descriptorIndex := 176, attributes := #[] }, { accessFlags := 10, nameIndex := 491, descriptorIndex := 222, attributes := #[] }, { accessFlags := 74, nameIndex := 29, descriptorIndex := 30, attributes := #[] }, { accessFlags := 74, nameIndex := 154, descriptorIndex := 155, attributes := #[] }, { accessFlags := 10, nameIndex := 217, descriptorIndex := 218, attributes := #[] }, { accessFlags := 10, nameIndex := 221, descriptorIndex := 222, attributes := #[] }, { accessFlags := 8, nameIndex := 562, descriptorIndex := 563, attributes := #[] }])
  fields := #[{ name := "in", type := (.object "java/io/InputStream"), accessFlags := 25, slot := 0, constantValue := 0 }, { name := "out", type := (.object "java/io/PrintStream"), accessFlags := 25, slot := 1, constantValue := 0 }, { name := "err", type := (.object "java/io/PrintStream"), accessFlags := 25, slot := 2, constantValue := 0 }, { name := "initialIn", type := (.object "java/io/InputStream"), accessFlags := 10, slot := 3, constantValue := 0 }, { name := "NEVER", type := .int, accessFlags := 26, slot := 4, constantValue := 0 }, { name := "MAYBE", type := .int, accessFlags := 26, slot := 5, constantValue := 0 }, { name := "allowSecurityManager", type := .int, accessFlags := 10, slot := 6, constantValue := 0 }, { name := "security", type := (.object "java/lang/SecurityManager"), accessFlags := 74, slot := 7, constantValue := 0 }, { name := "notSupportedJnuEncoding", type := (.object "java/lang/String"), accessFlags := 10, slot := 8, constantValue := 0 }, { name := "cons", type := (.object "java/io/Console"), accessFlags := 74, slot := 9, constantValue := 0 }, { name := "initialErrStream", type := (.object "java/io/PrintStream"), accessFlags := 74, slot := 10, constantValue := 0 }, { name := "props", type := (.object "java/util/Properties"), accessFlags := 10, slot := 11, constantValue := 0 }, { name := "lineSeparator", type := (.object "java/lang/String"), accessFlags := 10, slot := 12, constantValue := 0 }, { name := "bootLayer", type := (.object "java/lang/ModuleLayer"), accessFlags := 8, slot := 13, constantValue := 0 }]
  methods := #[k15m0, k15m1]
  instanceTypes := #[]
  staticTypes := #[(.object "java/io/InputStream"), (.object "java/io/PrintStream"), (.object "java/io/PrintStream"), (.object "java/io/InputStream"), .int, .int, .int, (.object "java/lang/SecurityManager"), (.object "java/lang/String"), (.object "java/io/Console"), (.object "java/io/PrintStream"), (.object "java/util/Properties"), (.object "java/lang/String"), (.object "java/lang/ModuleLayer")]
  resolved := Array.replicate 834 none
  statics := none }

def pool16 : Array CpInfo := pool [(9, u "<init>"), (6, .class_ 18), (1, u "java/lang/Object"), (0, u "()V"), (1, .class_ 23), (1, u "jdk/internal/util/ArraysSupport"), (0, u "LOG2_ARRAY_LONG_INDEX_SCALE"), (0, u "I"), (2, u "U"), (0, u "Ljdk/internal/misc/Unsafe;"), (8, u "BIG_ENDIAN"), (0, u "Z"), (8, u "LOG2_BYTE_BIT_SIZE"), (4, u "LOG2_ARRAY_INT_INDEX_SCALE"), (54, u "JLA"), (0, u "Ljdk/internal/access/JavaLangAccess;"), (11, u "LOG2_ARRAY_BOOLEAN_INDEX_SCALE"), (9, u "LOG2_ARRAY_BYTE_INDEX_SCALE"), (5, u "LOG2_ARRAY_CHAR_INDEX_SCALE"), (5, u "LOG2_ARRAY_SHORT_INDEX_SCALE"), (18, u "LOG2_ARRAY_FLOAT_INDEX_SCALE"), (24, u "LOG2_ARRAY_DOUBLE_INDEX_SCALE"), (6, .methodref 195 196), (0, .class_ 197), (0, .nameAndType 198 199), (0, u "java/lang/Math"), (0, u "max"), (0, u "(II)I"), (0, .integer 2147483639), (76, u "T_BOOLEAN"), (2, u "T_CHAR"), (1, u "T_FLOAT"), (1, u "T_DOUBLE"), (1, u "T_BYTE"), (1, u "T_SHORT"), (1, u "T_INT"), (1, u "T_LONG"), (1, u "SOFT_MAX_ARRAY_LENGTH"), (56, u "newLength"), (0, u "(III)I")] 25

def k16m0 : Method := { name := "<init>", desc := "()V", sig := { parameters := [], returnType := none }, accessFlags := 2, code := none }
def k16c1 : Code := { maxStack := 3, maxLocals := 4, code := jdk_48_method_27_code, exceptionTable := #[], attributes := #[] }
def k16m1 : Method := { name := "newLength", desc := "(III)I", sig := { parameters := [.int, .int, .int], returnType := some .int }, accessFlags := 9, code := some k16c1 }
/-- jdk/internal/util/ArraysSupport -/
def k16 : Class := { plain "jdk/internal/util/ArraysSupport" (some 0) with
  accessFlags := 33
  interfaces := #[]
  cf := some (fileOf pool16 21 #[] #[{ accessFlags := 2, nameIndex := 9, descriptorIndex := 19, attributes := #[] }, { accessFlags := 9, nameIndex := 351, descriptorIndex := 352, attributes := #[] }] 33 16 #[] #[{ accessFlags := 24, nameIndex := 28, descriptorIndex := 29, attributes := #[] }, { accessFlags := 26, nameIndex := 38, descriptorIndex := 39, attributes := #[] }, { accessFlags := 25, nameIndex := 121, descriptorIndex := 25, attributes := #[] }, { accessFlags := 25, nameIndex := 131, descriptorIndex := 25, attributes := #[] }, { accessFlags := 25, nameIndex := 137, descriptorIndex := 25, attributes := #[] }, { accessFlags := 25, nameIndex := 143, descriptorIndex := 25, attributes := #[] }, { accessFlags := 25, nameIndex := 53, descriptorIndex := 25, attributes := #[] }, { accessFlags := 25, nameIndex := 24, descriptorIndex := 25, attributes := #[] }, { accessFlags := 25, nameIndex := 162, descriptorIndex := 25, attributes := #[] }, { accessFlags := 25, nameIndex := 187, descriptorIndex := 25, attributes := #[] }, { accessFlags := 26, nameIndex := 48, descriptorIndex := 25, attributes := #[] }, { accessFlags := 25, nameIndex := 277, descriptorIndex := 25, attributes := #[] }, { accessFlags := 25, nameIndex := 280, descriptorIndex := 25, attributes := #[] }, { accessFlags := 25, nameIndex := 282, descriptorIndex := 25, attributes := #[] }, { accessFlags := 25, nameIndex := 284, descriptorIndex := 25, attributes := #[] }, { accessFlags := 25, nameIndex := 286, descriptorIndex := 25, attributes := #[] }, { accessFlags := 25, nameIndex := 288, descriptorIndex := 25, attributes := #[] }, { accessFlags := 25, nameIndex := 290, descriptorIndex := 25, attributes := #[] }, { accessFlags := 25, nameIndex := 292, descriptorIndex := 25, attributes := #[] }, { accessFlags := 26, nameIndex := 108, descriptorIndex := 109, attributes := #[] }, { accessFlags := 25, nameIndex := 294, descriptorIndex := 25, attributes := #[] }])
  fields := #[{ name := "U", type := (.object "jdk/internal/misc/Unsafe"), accessFlags := 24, slot := 0, constantValue := 0 }, { name := "BIG_ENDIAN", type := .boolean, accessFlags := 26, slot := 1, constantValue := 0 }, { name := "LOG2_ARRAY_BOOLEAN_INDEX_SCALE", type := .int, accessFlags := 25, slot := 2, constantValue := 0 }, { name := "LOG2_ARRAY_BYTE_INDEX_SCALE", type := .int, accessFlags := 25, slot := 3, constantValue := 0 }, { name := "LOG2_ARRAY_CHAR_INDEX_SCALE", type := .int, accessFlags := 25, slot := 4, constantValue := 0 }, { name := "LOG2_ARRAY_SHORT_INDEX_SCALE", type := .int, accessFlags := 25, slot := 5, constantValue := 0 }, { name := "LOG2_ARRAY_INT_INDEX_SCALE", type := .int, accessFlags := 25, slot := 6, constantValue := 0 }, { name := "LOG2_ARRAY_LONG_INDEX_SCALE", type := .int, accessFlags := 25, slot := 7, constantValue := 0 }, { name := "LOG2_ARRAY_FLOAT_INDEX_SCALE", type := .int, accessFlags := 25, slot := 8, constantValue := 0 }, { name := "LOG2_ARRAY_DOUBLE_INDEX_SCALE", type := .int, accessFlags := 25, slot := 9, constantValue := 0 }, { name := "LOG2_BYTE_BIT_SIZE", type := .int, accessFlags := 26, slot := 10, constantValue := 0 }, { name := "T_BOOLEAN", type := .int, accessFlags := 25, slot := 11, constantValue := 0 }, { name := "T_CHAR", type := .int, accessFlags := 25, slot := 12, constantValue := 0 }, { name := "T_FLOAT", type := .int, accessFlags := 25, slot := 13, constantValue := 0 }, { name := "T_DOUBLE", type := .int, accessFlags := 25, slot := 14, constantValue := 0 }, { name := "T_BYTE", type := .int, accessFlags := 25, slot := 15, constantValue := 0 }, { name := "T_SHORT", type := .int, accessFlags := 25, slot := 16, constantValue := 0 }, { name := "T_INT", type := .int, accessFlags := 25, slot := 17, constantValue := 0 }, { name := "T_LONG", type := .int, accessFlags := 25, slot := 18, constantValue := 0 }, { name := "JLA", type := (.object "jdk/internal/access/JavaLangAccess"), accessFlags := 26, slot := 19, constantValue := 0 }, { name := "SOFT_MAX_ARRAY_LENGTH", type := .int, accessFlags := 25, slot := 20, constantValue := 0 }]
  methods := #[k16m0, k16m1]
  instanceTypes := #[]
  staticTypes := #[(.object "jdk/internal/misc/Unsafe"), .boolean, .int, .int, .int, .int, .int, .int, .int, .int, .int, .int, .int, .int, .int, .int, .int, .int, .int, (.object "jdk/internal/access/JavaLangAccess"), .int]
  resolved := Array.replicate 378 none
  statics := none }

def pool17 : Array CpInfo := pool [(1, .class_ 2), (0, u "java/lang/Math"), (1, .class_ 6), (1, u "java/lang/Object"), (0, u "<init>"), (0, u "()V"), (89, .class_ 100), (1, u "java/lang/Math$RandomNumberGeneratorHolder"), (71, u "negativeZeroFloatBits"), (0, u "J"), (2, u "negativeZeroDoubleBits"), (21, u "max"), (2, u "min"), (43, u "$assertionsDisabled"), (0, u "Z"), (88, u "(II)I"), (2, u "twoToTheDoubleScaleDown"), (0, u "D"), (4, u "twoToTheDoubleScaleUp"), (9, u "E"), (3, u "PI"), (2, u "TAU"), (2, u "DEGREES_TO_RADIANS"), (0, u "RADIANS_TO_DEGREES")] 94

def k17m0 : Method := { name := "<init>", desc := "()V", sig := { parameters := [], returnType := none }, accessFlags := 2, code := none }
def k17c1 : Code := { maxStack := 2, maxLocals := 2, code := jdk_29_method_65_code, exceptionTable := #[], attributes := #[] }
def k17m1 : Method := { name := "max", desc := "(II)I", sig := { parameters := [.int, .int], returnType := some .int }, accessFlags := 9, code := some k17c1 }
def k17c2 : Code := { maxStack := 2, maxLocals := 2, code := jdk_29_method_69_code, exceptionTable := #[], attributes := #[] }
def k17m2 : Method := { name := "min", desc := "(II)I", sig := { parameters := [.int, .int], returnType := some .int }, accessFlags := 9, code := some k17c2 }
/-- java/lang/Math -/
def k17 : Class := { plain "java/lang/Math" (some 0) with
  accessFlags := 49
  interfaces := #[]
  cf := some (fileOf pool17 1 #[.nestMembers #[98]] #[{ accessFlags := 2, nameIndex := 7, descriptorIndex := 8, attributes := #[] }, { accessFlags := 9, nameIndex := 198, descriptorIndex := 335, attributes := #[] }, { accessFlags := 9, nameIndex := 201, descriptorIndex := 335, attributes := #[] }] 49 4 #[] #[{ accessFlags := 25, nameIndex := 354, descriptorIndex := 339, attributes := #[] }, { accessFlags := 25, nameIndex := 358, descriptorIndex := 339, attributes := #[] }, { accessFlags := 25, nameIndex := 361, descriptorIndex := 339, attributes := #[] }, { accessFlags := 26, nameIndex := 364, descriptorIndex := 339, attributes := #[] }, { accessFlags := 26, nameIndex := 365, descriptorIndex := 339, attributes := #[] }, { accessFlags := 26, nameIndex := 172, descriptorIndex := 173, attributes := #[] }, { accessFlags := 26, nameIndex := 176, descriptorIndex := 173, attributes := #[] }, { accessFlags := 8, nameIndex := 344, descriptorIndex := 339, attributes := #[] }, { accessFlags := 8, nameIndex := 338, descriptorIndex := 339, attributes := #[] }, { accessFlags := 4120, nameIndex := 245, descriptorIndex := 246, attributes := #[] }])
  fields := #[{ name := "E", type := .double, accessFlags := 25, slot := 0, constantValue := 0 }, { name := "PI", type := .double, accessFlags := 25, slot := 1, constantValue := 0 }, { name := "TAU", type := .double, accessFlags := 25, slot := 2, constantValue := 0 }, { name := "DEGREES_TO_RADIANS", type := .double, accessFlags := 26, slot := 3, constantValue := 0 }, { name := "RADIANS_TO_DEGREES", type := .double, accessFlags := 26, slot := 4, constantValue := 0 }, { name := "negativeZeroFloatBits", type := .long, accessFlags := 26, slot := 5, constantValue := 0 }, { name := "negativeZeroDoubleBits", type := .long, accessFlags := 26, slot := 6, constantValue := 0 }, { name := "twoToTheDoubleScaleUp", type := .double, accessFlags := 8, slot := 7, constantValue := 0 }, { name := "twoToTheDoubleScaleDown", type := .double, accessFlags := 8, slot := 8, constantValue := 0 }, { name := "$assertionsDisabled", type := .boolean, accessFlags := 4120, slot := 9, constantValue := 0 }]
  methods := #[k17m0, k17m1, k17m2]
  instanceTypes := #[]
  staticTypes := #[.double, .double, .double, .double, .double, .long, .long, .double, .double, .boolean]
  resolved := Array.replicate 460 none
  statics := none }

def pool18 : Array CpInfo := pool [(2, .class_ 4), (1, u "java/lang/Object"), (0, u "<init>"), (0, u "()V"), (7, .class_ 16), (1, u "java/util/Arrays"), (57, .class_ 76), (1, u "java/util/Arrays$NaturalOrder"), (36, .class_ 115), (1, u "java/util/Arrays$LegacyMergeSort"), (1, u "Z"), (21, u "copyOfRange"), (10, .methodref 151 152), (0, .class_ 153), (0, .nameAndType 154 155), (0, u "java/lang/System"), (0, u "arraycopy"), (0, u "(Ljava/lang/Object;ILjava/lang/Object;II)V"), (146, u "copyOf"), (1, .methodref 305 306), (0, .class_ 307), (0, .nameAndType 308 309), (0, u "java/lang/Math"), (0, u "min"), (0, u "(II)I"), (29, .methodref 14 340), (0, .nameAndType 341 342), (0, u "copyOfRangeByte"), (0, u "([BII)[B"), (0, .methodref 14 344), (0, .nameAndType 345 346), (0, u "checkLength"), (0, u "(II)V"), (28, .class_ 376), (0, u "java/util/Arrays$ArrayList"), (68, u "$assertionsDisabled"), (269, u "MIN_ARRAY_SORT_GRAN"), (0, u "I"), (2, u "INSERTIONSORT_THRESHOLD"), (149, u "([BI)[B"), (105, .class_ 976), (0, u "java/util/Arrays$ArrayItr")] 52

def k18m0 : Method := { name := "<init>", desc := "()V", sig := { parameters := [], returnType := none }, accessFlags := 2, code := none }
def k18c1 : Code := { maxStack := 6, maxLocals := 3, code := jdk_65_method_121_code, exceptionTable := #[], attributes := #[] }
def k18m1 : Method := { name := "copyOf", desc := "([BI)[B", sig := { parameters := [(.array .byte), .int], returnType := some (.array .byte) }, accessFlags := 9, code := some k18c1 }
def k18c2 : Code := { maxStack := 4, maxLocals := 2, code := jdk_65_method_131_code, exceptionTable := #[], attributes := #[] }
def k18m2 : Method := { name := "checkLength", desc := "(II)V", sig := { parameters := [.int, .int], returnType := none }, accessFlags := 10, code := some k18c2 }
def k18c3 : Code := { maxStack := 3, maxLocals := 3, code := jdk_65_method_132_code, exceptionTable := #[], attributes := #[] }
def k18m3 : Method := { name := "copyOfRange", desc := "([BII)[B", sig := { parameters := [(.array .byte), .int, .int], returnType := some (.array .byte) }, accessFlags := 9, code := some k18c3 }
def k18c4 : Code := { maxStack := 6, maxLocals := 5, code := jdk_65_method_133_code, exceptionTable := #[], attributes := #[] }
def k18m4 : Method := { name := "copyOfRangeByte", desc := "([BII)[B", sig := { parameters := [(.array .byte), .int, .int], returnType := some (.array .byte) }, accessFlags := 10, code := some k18c4 }
/-- java/util/Arrays -/
def k18 : Class := { plain "java/util/Arrays" (some 0) with
  accessFlags := 49
  interfaces := #[]
  cf := some (fileOf pool18 14 #[.nestMembers #[975, 375, 113, 74]] #[{ accessFlags := 2, nameIndex := 5, descriptorIndex := 6, attributes := #[] }, { accessFlags := 9, nameIndex := 302, descriptorIndex := 869, attributes := #[] }, { accessFlags := 10, nameIndex := 345, descriptorIndex := 346, attributes := #[] }, { accessFlags := 9, nameIndex := 139, descriptorIndex := 342, attributes := #[] }, { accessFlags := 10, nameIndex := 341, descriptorIndex := 342, attributes := #[] }] 49 2 #[] #[{ accessFlags := 26, nameIndex := 715, descriptorIndex := 716, attributes := #[] }, { accessFlags := 26, nameIndex := 719, descriptorIndex := 716, attributes := #[] }, { accessFlags := 4120, nameIndex := 445, descriptorIndex := 117, attributes := #[] }])
  fields := #[{ name := "MIN_ARRAY_SORT_GRAN", type := .int, accessFlags := 26, slot := 0, constantValue := 0 }, { name := "INSERTIONSORT_THRESHOLD", type := .int, accessFlags := 26, slot := 1, constantValue := 0 }, { name := "$assertionsDisabled", type := .boolean, accessFlags := 4120, slot := 2, constantValue := 0 }]
  methods := #[k18m0, k18m1, k18m2, k18m3, k18m4]
  instanceTypes := #[]
  staticTypes := #[.int, .int, .boolean]
  resolved := Array.replicate 1029 none
  statics := none }

def pool19 : Array CpInfo := pool [(2, .class_ 4), (1, u "java/lang/Object"), (0, u "<init>"), (0, u "()V"), (17, .class_ 26), (1, u "jdk/internal/util/Preconditions"), (6, u "checkIndex"), (21, .class_ 56), (0, u "jdk/internal/util/Preconditions$4"), (57, .class_ 115), (0, u "jdk/internal/util/Preconditions$1"), (7, u "SIOOBE_FORMATTER"), (0, u "Ljava/util/function/BiFunction;"), (0, .class_ 126), (0, u "jdk/internal/util/Preconditions$2"), (3, u "AIOOBE_FORMATTER"), (0, .class_ 132), (0, u "jdk/internal/util/Preconditions$3"), (3, u "IOOBE_FORMATTER"), (41, u "(IILjava/util/function/BiFunction;)I")] 15

def k19m0 : Method := { name := "<init>", desc := "()V", sig := { parameters := [], returnType := none }, accessFlags := 1, code := none }
def k19c1 : Code := { maxStack := 3, maxLocals := 3, code := jdk_41_method_11_code, exceptionTable := #[], attributes := #[] }
def k19m1 : Method := { name := "checkIndex", desc := "(IILjava/util/function/BiFunction;)I", sig := { parameters := [.int, .int, (.object "java/util/function/BiFunction")], returnType := some .int }, accessFlags := 9, code := some k19c1 }
/-- jdk/internal/util/Preconditions -/
def k19 : Class := { plain "jdk/internal/util/Preconditions" (some 0) with
  accessFlags := 33
  interfaces := #[]
  cf := some (fileOf pool19 24 #[.nestMembers #[55, 131, 125, 114]] #[{ accessFlags := 1, nameIndex := 5, descriptorIndex := 6, attributes := #[] }, { accessFlags := 9, nameIndex := 33, descriptorIndex := 178, attributes := #[] }] 33 2 #[] #[{ accessFlags := 25, nameIndex := 123, descriptorIndex := 124, attributes := #[] }, { accessFlags := 25, nameIndex := 130, descriptorIndex := 124, attributes := #[] }, { accessFlags := 25, nameIndex := 136, descriptorIndex := 124, attributes := #[] }])
  fields := #[{ name := "SIOOBE_FORMATTER", type := (.object "java/util/function/BiFunction"), accessFlags := 25, slot := 0, constantValue := 0 }, { name := "AIOOBE_FORMATTER", type := (.object "java/util/function/BiFunction"), accessFlags := 25, slot := 1, constantValue := 0 }, { name := "IOOBE_FORMATTER", type := (.object "java/util/function/BiFunction"), accessFlags := 25, slot := 2, constantValue := 0 }]
  methods := #[k19m0, k19m1]
  instanceTypes := #[]
  staticTypes := #[(.object "java/util/function/BiFunction"), (.object "java/util/function/BiFunction"), (.object "java/util/function/BiFunction")]
  resolved := Array.replicate 194 none
  statics := some 1 }

def pool20 : Array CpInfo := pool [(1, u "java/lang/Cloneable"), (0, .class_ 1), (0, u "java/lang/Object"), (0, .class_ 3)] 3

/-- java/lang/Cloneable -/
def k20 : Class := { plain "java/lang/Cloneable" (some 0) with
  accessFlags := 1537
  interfaces := #[]
  cf := some (fileOf pool20 2 #[] #[] 1537 4 #[] #[])
  fields := #[]
  methods := #[]
  instanceTypes := #[]
  staticTypes := #[]
  resolved := Array.replicate 8 none
  statics := none }

/-- the primitive byte -/
def k21 : Class := { plain "byte" none with kind := .primitive 'B', accessFlags := 0x411 }
/-- [B -/
def k22 : Class := { plain "[B" (some 0) with kind := .array 21 .byte, interfaces := #[20, 2], accessFlags := 1041 }

/-- the primitive char -/
def k23 : Class := { plain "char" none with kind := .primitive 'C', accessFlags := 0x411 }
/-- [C -/
def k24 : Class := { plain "[C" (some 0) with kind := .array 23 .char, interfaces := #[20, 2], accessFlags := 1041 }

/-- the primitive int -/
def k25 : Class := { plain "int" none with kind := .primitive 'I', accessFlags := 0x411 }
/-- [I -/
def k26 : Class := { plain "[I" (some 0) with kind := .array 25 .int, interfaces := #[20, 2], accessFlags := 1041 }

def heap : Heap := #[{ cls := 7, slots := #[.long 0, .int 1, .null, .int 0, .null, .int 0, .int 0], vm := .statics 7 },
  { cls := 19, slots := #[.null, .null, .null], vm := .statics 19 }]
def classes : Array Class := #[k0, k1, k2, k3, k4, k5, k6, k7, k8, k9, k10, k11, k12, k13, k14, k15, k16, k17, k18, k19, k20, k21, k22, k23, k24, k25, k26]
def interned : List (Array UInt16 × Addr) := []
def slotsUsed : Nat := 10
def theMethod : MethodId := ⟨1, 4⟩
def args0 : Array Value := #[.int 5, .int 300, .int 7, .int 9, .int 2]
def aboutOver (below : List Frame) : State where
  vm := { classes := classes, interned := interned.toArray }
  heap := heap
  slotsUsed := slotsUsed
  threads := #[{ frames := .invoking theMethod args0 :: below }]
def below0 : List Frame := [.native { method := ⟨0, 0⟩, args := #[] }]
def about1 : State := aboutOver below0
def p0 : Program := .bare "" "" ""
def e0 : Env := launch0.env 0 0 0
theorem w_frames : about1.frames = Frame.invoking theMethod args0 :: below0 := rfl
set_option maxRecDepth 65536 in
theorem w_args : argsFit about1.vm theMethod args0 = true := by decide +kernel
set_option maxRecDepth 65536 in
theorem w_heap : heapFits about1 = true := by decide +kernel
set_option maxRecDepth 65536 in
theorem w_runnable : about1.curStatus? = some .runnable := by decide +kernel
set_option maxRecDepth 65536 in
theorem w_alone : about1.alone = true := by decide +kernel
set_option maxRecDepth 65536 in
theorem w_named : about1.methodNamed? x = some theMethod := by decide +kernel
set_option maxRecDepth 65536 in
theorem w_hears : about1.hears theMethod below0 = true := by decide +kernel
set_option maxRecDepth 65536 in
theorem w_ripe : about1.ripe theMethod args0 below0 = true := by decide +kernel
theorem w_running : about1.status = .running := rfl
set_option maxRecDepth 65536 in
theorem w_room : about1.hasRoom e0.platform room_1 = true :=
  launch0.hasRoom_least _ room_1 (by decide +kernel) (by decide +kernel) (by decide +kernel) (by decide +kernel) (by decide +kernel) (by decide +kernel)
theorem allAtoms_all (ts : List Jvm.Cond) (a : Array Jvm.Value) (st : Jvm.State) : (allAtoms ts).before a st = ts.all (fun c => c.before a st) := by
  induction ts with
  | nil => rfl
  | cons c t ih =>
    show (Jvm.Cond.and c (allAtoms t)).before a st = _
    rw [Jvm.Cond.before_and, ih, List.all_cons]
def words1 : List Jvm.Cond := Jvm.Cond.code x code maxLocals ret :: tables_1
/-- a 'code' word, met by the world's own term for the bytes: nothing is compared byte by byte -/
theorem code_word {y : MethodName} {bytes : ByteArray} {mx : Nat} {rt : Option FieldType} {a : Array Value} {s : State} {m : MethodId} {meth : Method} {c : Code} (h1 : s.methodNamed? y = some m) (h2 : s.vm.method? m = some meth) (h3 : meth.code = some c) (h4 : c.code = bytes)
    (h5 : (c.maxLocals == mx && c.exceptionTable.isEmpty && decide (c.maxStack ≤ mostOperands) && decide (meth.sig.returnType = rt) && !meth.locks && decide (parseMethodDescriptor y.desc = some meth.sig)) = true) : (Jvm.Cond.code y bytes mx rt).before a s = true := by
  simp only [Bool.and_eq_true, beq_iff_eq, Bool.not_eq_true', decide_eq_true_eq] at h5
  obtain ⟨⟨⟨⟨⟨g1, g2⟩, g3⟩, g4⟩, g5⟩, g6⟩ := h5
  simp [Cond.before, Cond.holds, Cond.value, h1, h2, h3, h4, g1, g2, g3, g4, g5, g6]
def isCode : Jvm.Cond → Bool
  | .code _ _ _ _ => true
  | _ => false
theorem all_split {L : List Jvm.Cond} {P : Jvm.Cond → Bool} (h1 : L.all (fun c => isCode c || P c) = true) (h2 : ∀ c ∈ L.filter isCode, P c = true) : L.all P = true := by
  refine List.all_eq_true.mpr fun c hc => ?_
  have h := List.all_eq_true.mp h1 c hc
  rcases Bool.eq_false_or_eq_true (isCode c) with hi | hi
  · exact h2 c (List.mem_filter.mpr ⟨hc, hi⟩)
  · simpa [hi] using h
set_option maxRecDepth 65536 in
theorem w_c0 : (Jvm.Cond.code x code maxLocals ret).before args0 about1 = true := code_word (m := ⟨1, 4⟩) (meth := k1m4) (c := k1c4) (by decide +kernel) rfl rfl rfl (by decide +kernel)
set_option maxRecDepth 65536 in
theorem w_c1 : (Jvm.Cond.code ({ cls := "java/lang/String", name := "valueOf", desc := "(C)Ljava/lang/String;" } : Jvm.MethodName) jdk_42_method_139_code (1 : Nat) (Option.some (Jvm.ClassFile.FieldType.object "java/lang/String"))).before args0 about1 = true := code_word (m := ⟨7, 5⟩) (meth := k7m5) (c := k7c5) (by decide +kernel) rfl rfl rfl (by decide +kernel)
set_option maxRecDepth 65536 in
theorem w_c2 : (Jvm.Cond.code ({ cls := "java/lang/StringLatin1", name := "canEncode", desc := "(C)Z" } : Jvm.MethodName) jdk_43_method_3_code (1 : Nat) (Option.some Jvm.ClassFile.FieldType.boolean)).before args0 about1 = true := code_word (m := ⟨8, 2⟩) (meth := k8m2) (c := k8c2) (by decide +kernel) rfl rfl rfl (by decide +kernel)
set_option maxRecDepth 65536 in
theorem w_c3 : (Jvm.Cond.code ({ cls := "java/lang/StringLatin1", name := "toBytes", desc := "(C)[B" } : Jvm.MethodName) jdk_43_method_46_code (1 : Nat) (Option.some (Jvm.ClassFile.FieldType.array Jvm.ClassFile.FieldType.byte))).before args0 about1 = true := code_word (m := ⟨8, 3⟩) (meth := k8m3) (c := k8c3) (by decide +kernel) rfl rfl rfl (by decide +kernel)
set_option maxRecDepth 65536 in
theorem w_c4 : (Jvm.Cond.code ({ cls := "java/lang/String", name := "<init>", desc := "([BB)V" } : Jvm.MethodName) jdk_42_method_151_code (3 : Nat) (Option.none : Option Jvm.ClassFile.FieldType)).before args0 about1 = true := code_word (m := ⟨7, 9⟩) (meth := k7m9) (c := k7c9) (by decide +kernel) rfl rfl rfl (by decide +kernel)
set_option maxRecDepth 65536 in
theorem w_c5 : (Jvm.Cond.code ({ cls := "java/lang/Object", name := "<init>", desc := "()V" } : Jvm.MethodName) object_method_1_code (1 : Nat) (Option.none : Option Jvm.ClassFile.FieldType)).before args0 about1 = true := code_word (m := ⟨0, 0⟩) (meth := k0m0) (c := k0c0) (by decide +kernel) rfl rfl rfl (by decide +kernel)
set_option maxRecDepth 65536 in
theorem w_c6 : (Jvm.Cond.code ({ cls := "com/example/stallwright/stallwright/store/CustomerToStringPinLaw", name := "drawn", desc := "(IZZ)Ljava/lang/String;" } : Jvm.MethodName) method_4_code (4 : Nat) (Option.some (Jvm.ClassFile.FieldType.object "java/lang/String"))).before args0 about1 = true := code_word (m := ⟨1, 3⟩) (meth := k1m3) (c := k1c3) (by decide +kernel) rfl rfl rfl (by decide +kernel)
set_option maxRecDepth 65536 in
theorem w_c7 : (Jvm.Cond.code ({ cls := "java/lang/String", name := "<init>", desc := "([C)V" } : Jvm.MethodName) jdk_42_method_3_code (2 : Nat) (Option.none : Option Jvm.ClassFile.FieldType)).before args0 about1 = true := code_word (m := ⟨7, 1⟩) (meth := k7m1) (c := k7c1) (by decide +kernel) rfl rfl rfl (by decide +kernel)
set_option maxRecDepth 65536 in
theorem w_c8 : (Jvm.Cond.code ({ cls := "java/lang/String", name := "<init>", desc := "([CIILjava/lang/Void;)V" } : Jvm.MethodName) jdk_42_method_149_code (6 : Nat) (Option.none : Option Jvm.ClassFile.FieldType)).before args0 about1 = true := code_word (m := ⟨7, 7⟩) (meth := k7m7) (c := k7c7) (by decide +kernel) rfl rfl rfl (by decide +kernel)
set_option maxRecDepth 65536 in
theorem w_c9 : (Jvm.Cond.code ({ cls := "java/lang/StringUTF16", name := "compress", desc := "([CII)[B" } : Jvm.MethodName) jdk_52_method_16_code (6 : Nat) (Option.some (Jvm.ClassFile.FieldType.array Jvm.ClassFile.FieldType.byte))).before args0 about1 = true := code_word (m := ⟨9, 2⟩) (meth := k9m2) (c := k9c2) (by decide +kernel) rfl rfl rfl (by decide +kernel)
set_option maxRecDepth 65536 in
theorem w_c10 : (Jvm.Cond.code ({ cls := "java/lang/StringUTF16", name := "compress", desc := "([CI[BII)I" } : Jvm.MethodName) jdk_52_method_21_code (7 : Nat) (Option.some Jvm.ClassFile.FieldType.int)).before args0 about1 = true := code_word (m := ⟨9, 3⟩) (meth := k9m3) (c := k9c3) (by decide +kernel) rfl rfl rfl (by decide +kernel)
set_option maxRecDepth 65536 in
theorem w_c11 : (Jvm.Cond.code ({ cls := "java/lang/StringUTF16", name := "coderFromArrayLen", desc := "([BI)B" } : Jvm.MethodName) jdk_52_method_15_code (2 : Nat) (Option.some Jvm.ClassFile.FieldType.byte)).before args0 about1 = true := code_word (m := ⟨9, 1⟩) (meth := k9m1) (c := k9c1) (by decide +kernel) rfl rfl rfl (by decide +kernel)
set_option maxRecDepth 65536 in
theorem w_c12 : (Jvm.Cond.code ({ cls := "com/example/stallwright/stallwright/store/Customer", name := "<init>", desc := "(Ljava/lang/String;Ljava/lang/String;Ljava/lang/String;Ljava/lang/String;)V" } : Jvm.MethodName) prog_25_method_1_code (5 : Nat) (Option.none : Option Jvm.ClassFile.FieldType)).before args0 about1 = true := code_word (m := ⟨11, 0⟩) (meth := k11m0) (c := k11c0) (by decide +kernel) rfl rfl rfl (by decide +kernel)
set_option maxRecDepth 65536 in
theorem w_c13 : (Jvm.Cond.code ({ cls := "java/lang/Record", name := "<init>", desc := "()V" } : Jvm.MethodName) jdk_30_method_1_code (1 : Nat) (Option.none : Option Jvm.ClassFile.FieldType)).before args0 about1 = true := code_word (m := ⟨10, 0⟩) (meth := k10m0) (c := k10c0) (by decide +kernel) rfl rfl rfl (by decide +kernel)
set_option maxRecDepth 65536 in
theorem w_c14 : (Jvm.Cond.code ({ cls := "com/example/stallwright/stallwright/store/Customer", name := "toString", desc := "()Ljava/lang/String;" } : Jvm.MethodName) prog_25_method_2_code (1 : Nat) (Option.some (Jvm.ClassFile.FieldType.object "java/lang/String"))).before args0 about1 = true := code_word (m := ⟨11, 1⟩) (meth := k11m1) (c := k11c1) (by decide +kernel) rfl rfl rfl (by decide +kernel)
set_option maxRecDepth 65536 in
theorem w_c15 : (Jvm.Cond.code ({ cls := "java/lang/StringBuilder", name := "<init>", desc := "()V" } : Jvm.MethodName) jdk_67_method_1_code (1 : Nat) (Option.none : Option Jvm.ClassFile.FieldType)).before args0 about1 = true := code_word (m := ⟨14, 0⟩) (meth := k14m0) (c := k14c0) (by decide +kernel) rfl rfl rfl (by decide +kernel)
set_option maxRecDepth 65536 in
theorem w_c16 : (Jvm.Cond.code ({ cls := "java/lang/AbstractStringBuilder", name := "<init>", desc := "(I)V" } : Jvm.MethodName) jdk_68_method_2_code (2 : Nat) (Option.none : Option Jvm.ClassFile.FieldType)).before args0 about1 = true := code_word (m := ⟨13, 1⟩) (meth := k13m1) (c := k13c1) (by decide +kernel) rfl rfl rfl (by decide +kernel)
set_option maxRecDepth 65536 in
theorem w_c17 : (Jvm.Cond.code ({ cls := "java/lang/StringBuilder", name := "append", desc := "(Ljava/lang/String;)Ljava/lang/StringBuilder;" } : Jvm.MethodName) jdk_67_method_7_code (2 : Nat) (Option.some (Jvm.ClassFile.FieldType.object "java/lang/StringBuilder"))).before args0 about1 = true := code_word (m := ⟨14, 1⟩) (meth := k14m1) (c := k14c1) (by decide +kernel) rfl rfl rfl (by decide +kernel)
set_option maxRecDepth 65536 in
theorem w_c18 : (Jvm.Cond.code ({ cls := "java/lang/AbstractStringBuilder", name := "append", desc := "(Ljava/lang/String;)Ljava/lang/AbstractStringBuilder;" } : Jvm.MethodName) jdk_68_method_22_code (3 : Nat) (Option.some (Jvm.ClassFile.FieldType.object "java/lang/AbstractStringBuilder"))).before args0 about1 = true := code_word (m := ⟨13, 5⟩) (meth := k13m5) (c := k13c5) (by decide +kernel) rfl rfl rfl (by decide +kernel)
set_option maxRecDepth 65536 in
theorem w_c19 : (Jvm.Cond.code ({ cls := "java/lang/String", name := "length", desc := "()I" } : Jvm.MethodName) jdk_42_method_54_code (1 : Nat) (Option.some Jvm.ClassFile.FieldType.int)).before args0 about1 = true := code_word (m := ⟨7, 3⟩) (meth := k7m3) (c := k7c3) (by decide +kernel) rfl rfl rfl (by decide +kernel)
set_option maxRecDepth 65536 in
theorem w_c20 : (Jvm.Cond.code ({ cls := "java/lang/String", name := "coder", desc := "()B" } : Jvm.MethodName) jdk_42_method_152_code (1 : Nat) (Option.some Jvm.ClassFile.FieldType.byte)).before args0 about1 = true := code_word (m := ⟨7, 10⟩) (meth := k7m10) (c := k7c10) (by decide +kernel) rfl rfl rfl (by decide +kernel)
set_option maxRecDepth 65536 in
theorem w_c21 : (Jvm.Cond.code ({ cls := "java/lang/AbstractStringBuilder", name := "ensureCapacityInternal", desc := "(I)V" } : Jvm.MethodName) jdk_68_method_9_code (3 : Nat) (Option.none : Option Jvm.ClassFile.FieldType)).before args0 about1 = true := code_word (m := ⟨13, 3⟩) (meth := k13m3) (c := k13c3) (by decide +kernel) rfl rfl rfl (by decide +kernel)
set_option maxRecDepth 65536 in
theorem w_c22 : (Jvm.Cond.code ({ cls := "java/lang/AbstractStringBuilder", name := "putStringAt", desc := "(ILjava/lang/String;)V" } : Jvm.MethodName) jdk_68_method_73_code (3 : Nat) (Option.none : Option Jvm.ClassFile.FieldType)).before args0 about1 = true := code_word (m := ⟨13, 10⟩) (meth := k13m10) (c := k13c10) (by decide +kernel) rfl rfl rfl (by decide +kernel)
set_option maxRecDepth 65536 in
theorem w_c23 : (Jvm.Cond.code ({ cls := "java/lang/AbstractStringBuilder", name := "inflateIfNeededFor", desc := "(Ljava/lang/String;)V" } : Jvm.MethodName) jdk_68_method_71_code (2 : Nat) (Option.none : Option Jvm.ClassFile.FieldType)).before args0 about1 = true := code_word (m := ⟨13, 9⟩) (meth := k13m9) (c := k13c9) (by decide +kernel) rfl rfl rfl (by decide +kernel)
set_option maxRecDepth 65536 in
theorem w_c24 : (Jvm.Cond.code ({ cls := "java/lang/String", name := "getBytes", desc := "([BIB)V" } : Jvm.MethodName) jdk_42_method_147_code (4 : Nat) (Option.none : Option Jvm.ClassFile.FieldType)).before args0 about1 = true := code_word (m := ⟨7, 6⟩) (meth := k7m6) (c := k7c6) (by decide +kernel) rfl rfl rfl (by decide +kernel)
set_option maxRecDepth 65536 in
theorem w_c25 : (Jvm.Cond.code ({ cls := "java/lang/AbstractStringBuilder", name := "newCapacity", desc := "(I)I" } : Jvm.MethodName) jdk_68_method_10_code (6 : Nat) (Option.some Jvm.ClassFile.FieldType.int)).before args0 about1 = true := code_word (m := ⟨13, 4⟩) (meth := k13m4) (c := k13c4) (by decide +kernel) rfl rfl rfl (by decide +kernel)
set_option maxRecDepth 65536 in
theorem w_c26 : (Jvm.Cond.code ({ cls := "jdk/internal/util/ArraysSupport", name := "newLength", desc := "(III)I" } : Jvm.MethodName) jdk_48_method_27_code (4 : Nat) (Option.some Jvm.ClassFile.FieldType.int)).before args0 about1 = true := code_word (m := ⟨16, 1⟩) (meth := k16m1) (c := k16c1) (by decide +kernel) rfl rfl rfl (by decide +kernel)
set_option maxRecDepth 65536 in
theorem w_c27 : (Jvm.Cond.code ({ cls := "java/lang/Math", name := "max", desc := "(II)I" } : Jvm.MethodName) jdk_29_method_65_code (2 : Nat) (Option.some Jvm.ClassFile.FieldType.int)).before args0 about1 = true := code_word (m := ⟨17, 1⟩) (meth := k17m1) (c := k17c1) (by decide +kernel) rfl rfl rfl (by decide +kernel)
set_option maxRecDepth 65536 in
theorem w_c28 : (Jvm.Cond.code ({ cls := "java/util/Arrays", name := "copyOf", desc := "([BI)[B" } : Jvm.MethodName) jdk_65_method_121_code (3 : Nat) (Option.some (Jvm.ClassFile.FieldType.array Jvm.ClassFile.FieldType.byte))).before args0 about1 = true := code_word (m := ⟨18, 1⟩) (meth := k18m1) (c := k18c1) (by decide +kernel) rfl rfl rfl (by decide +kernel)
set_option maxRecDepth 65536 in
theorem w_c29 : (Jvm.Cond.code ({ cls := "java/lang/Math", name := "min", desc := "(II)I" } : Jvm.MethodName) jdk_29_method_69_code (2 : Nat) (Option.some Jvm.ClassFile.FieldType.int)).before args0 about1 = true := code_word (m := ⟨17, 2⟩) (meth := k17m2) (c := k17c2) (by decide +kernel) rfl rfl rfl (by decide +kernel)
set_option maxRecDepth 65536 in
theorem w_c30 : (Jvm.Cond.code ({ cls := "java/lang/StringBuilder", name := "toString", desc := "()Ljava/lang/String;" } : Jvm.MethodName) jdk_67_method_42_code (1 : Nat) (Option.some (Jvm.ClassFile.FieldType.object "java/lang/String"))).before args0 about1 = true := code_word (m := ⟨14, 2⟩) (meth := k14m2) (c := k14c2) (by decide +kernel) rfl rfl rfl (by decide +kernel)
set_option maxRecDepth 65536 in
theorem w_c31 : (Jvm.Cond.code ({ cls := "java/lang/String", name := "<init>", desc := "(Ljava/lang/StringBuilder;)V" } : Jvm.MethodName) jdk_42_method_53_code (2 : Nat) (Option.none : Option Jvm.ClassFile.FieldType)).before args0 about1 = true := code_word (m := ⟨7, 2⟩) (meth := k7m2) (c := k7c2) (by decide +kernel) rfl rfl rfl (by decide +kernel)
set_option maxRecDepth 65536 in
theorem w_c32 : (Jvm.Cond.code ({ cls := "java/lang/String", name := "<init>", desc := "(Ljava/lang/AbstractStringBuilder;Ljava/lang/Void;)V" } : Jvm.MethodName) jdk_42_method_150_code (5 : Nat) (Option.none : Option Jvm.ClassFile.FieldType)).before args0 about1 = true := code_word (m := ⟨7, 8⟩) (meth := k7m8) (c := k7c8) (by decide +kernel) rfl rfl rfl (by decide +kernel)
set_option maxRecDepth 65536 in
theorem w_c33 : (Jvm.Cond.code ({ cls := "java/lang/AbstractStringBuilder", name := "getValue", desc := "()[B" } : Jvm.MethodName) jdk_68_method_64_code (1 : Nat) (Option.some (Jvm.ClassFile.FieldType.array Jvm.ClassFile.FieldType.byte))).before args0 about1 = true := code_word (m := ⟨13, 7⟩) (meth := k13m7) (c := k13c7) (by decide +kernel) rfl rfl rfl (by decide +kernel)
set_option maxRecDepth 65536 in
theorem w_c34 : (Jvm.Cond.code ({ cls := "java/lang/StringBuilder", name := "length", desc := "()I" } : Jvm.MethodName) jdk_67_method_93_code (1 : Nat) (Option.some Jvm.ClassFile.FieldType.int)).before args0 about1 = true := code_word (m := ⟨14, 3⟩) (meth := k14m3) (c := k14c3) (by decide +kernel) rfl rfl rfl (by decide +kernel)
set_option maxRecDepth 65536 in
theorem w_c35 : (Jvm.Cond.code ({ cls := "java/lang/AbstractStringBuilder", name := "length", desc := "()I" } : Jvm.MethodName) jdk_68_method_6_code (1 : Nat) (Option.some Jvm.ClassFile.FieldType.int)).before args0 about1 = true := code_word (m := ⟨13, 2⟩) (meth := k13m2) (c := k13c2) (by decide +kernel) rfl rfl rfl (by decide +kernel)
set_option maxRecDepth 65536 in
theorem w_c36 : (Jvm.Cond.code ({ cls := "java/lang/AbstractStringBuilder", name := "isLatin1", desc := "()Z" } : Jvm.MethodName) jdk_68_method_68_code (1 : Nat) (Option.some Jvm.ClassFile.FieldType.boolean)).before args0 about1 = true := code_word (m := ⟨13, 8⟩) (meth := k13m8) (c := k13c8) (by decide +kernel) rfl rfl rfl (by decide +kernel)
set_option maxRecDepth 65536 in
theorem w_c37 : (Jvm.Cond.code ({ cls := "java/util/Arrays", name := "copyOfRange", desc := "([BII)[B" } : Jvm.MethodName) jdk_65_method_132_code (3 : Nat) (Option.some (Jvm.ClassFile.FieldType.array Jvm.ClassFile.FieldType.byte))).before args0 about1 = true := code_word (m := ⟨18, 3⟩) (meth := k18m3) (c := k18c3) (by decide +kernel) rfl rfl rfl (by decide +kernel)
set_option maxRecDepth 65536 in
theorem w_c38 : (Jvm.Cond.code ({ cls := "java/util/Arrays", name := "copyOfRangeByte", desc := "([BII)[B" } : Jvm.MethodName) jdk_65_method_133_code (5 : Nat) (Option.some (Jvm.ClassFile.FieldType.array Jvm.ClassFile.FieldType.byte))).before args0 about1 = true := code_word (m := ⟨18, 4⟩) (meth := k18m4) (c := k18c4) (by decide +kernel) rfl rfl rfl (by decide +kernel)
set_option maxRecDepth 65536 in
theorem w_c39 : (Jvm.Cond.code ({ cls := "java/util/Arrays", name := "checkLength", desc := "(II)V" } : Jvm.MethodName) jdk_65_method_131_code (2 : Nat) (Option.none : Option Jvm.ClassFile.FieldType)).before args0 about1 = true := code_word (m := ⟨18, 2⟩) (meth := k18m2) (c := k18c2) (by decide +kernel) rfl rfl rfl (by decide +kernel)
set_option maxRecDepth 65536 in
theorem w_c40 : (Jvm.Cond.code ({ cls := "com/example/stallwright/stallwright/store/CustomerToStringPinLaw", name := "at", desc := "(Ljava/lang/String;ILjava/lang/String;)Z" } : Jvm.MethodName) method_3_code (3 : Nat) (Option.some Jvm.ClassFile.FieldType.boolean)).before args0 about1 = true := code_word (m := ⟨1, 2⟩) (meth := k1m2) (c := k1c2) (by decide +kernel) rfl rfl rfl (by decide +kernel)
set_option maxRecDepth 65536 in
theorem w_c41 : (Jvm.Cond.code ({ cls := "com/example/stallwright/stallwright/store/CustomerToStringPinLaw", name := "ch", desc := "(Ljava/lang/String;ILjava/lang/String;I)Z" } : Jvm.MethodName) method_2_code (4 : Nat) (Option.some Jvm.ClassFile.FieldType.boolean)).before args0 about1 = true := code_word (m := ⟨1, 1⟩) (meth := k1m1) (c := k1c1) (by decide +kernel) rfl rfl rfl (by decide +kernel)
set_option maxRecDepth 65536 in
theorem w_c42 : (Jvm.Cond.code ({ cls := "java/lang/String", name := "charAt", desc := "(I)C" } : Jvm.MethodName) jdk_42_method_56_code (2 : Nat) (Option.some Jvm.ClassFile.FieldType.char)).before args0 about1 = true := code_word (m := ⟨7, 4⟩) (meth := k7m4) (c := k7c4) (by decide +kernel) rfl rfl rfl (by decide +kernel)
set_option maxRecDepth 65536 in
theorem w_c43 : (Jvm.Cond.code ({ cls := "java/lang/String", name := "isLatin1", desc := "()Z" } : Jvm.MethodName) jdk_42_method_154_code (1 : Nat) (Option.some Jvm.ClassFile.FieldType.boolean)).before args0 about1 = true := code_word (m := ⟨7, 11⟩) (meth := k7m11) (c := k7c11) (by decide +kernel) rfl rfl rfl (by decide +kernel)
set_option maxRecDepth 65536 in
theorem w_c44 : (Jvm.Cond.code ({ cls := "java/lang/StringLatin1", name := "charAt", desc := "([BI)C" } : Jvm.MethodName) jdk_43_method_2_code (2 : Nat) (Option.some Jvm.ClassFile.FieldType.char)).before args0 about1 = true := code_word (m := ⟨8, 1⟩) (meth := k8m1) (c := k8c1) (by decide +kernel) rfl rfl rfl (by decide +kernel)
set_option maxRecDepth 65536 in
theorem w_c45 : (Jvm.Cond.code ({ cls := "java/lang/String", name := "checkIndex", desc := "(II)V" } : Jvm.MethodName) jdk_42_method_155_code (2 : Nat) (Option.none : Option Jvm.ClassFile.FieldType)).before args0 about1 = true := code_word (m := ⟨7, 12⟩) (meth := k7m12) (c := k7c12) (by decide +kernel) rfl rfl rfl (by decide +kernel)
set_option maxRecDepth 65536 in
theorem w_c46 : (Jvm.Cond.code ({ cls := "jdk/internal/util/Preconditions", name := "checkIndex", desc := "(IILjava/util/function/BiFunction;)I" } : Jvm.MethodName) jdk_41_method_11_code (3 : Nat) (Option.some Jvm.ClassFile.FieldType.int)).before args0 about1 = true := code_word (m := ⟨19, 1⟩) (meth := k19m1) (c := k19c1) (by decide +kernel) rfl rfl rfl (by decide +kernel)
set_option maxRecDepth 65536 in
theorem w_c47 : (Jvm.Cond.code ({ cls := "java/lang/AbstractStringBuilder", name := "appendNull", desc := "()Ljava/lang/AbstractStringBuilder;" } : Jvm.MethodName) jdk_68_method_26_code (3 : Nat) (Option.some (Jvm.ClassFile.FieldType.object "java/lang/AbstractStringBuilder"))).before args0 about1 = true := code_word (m := ⟨13, 6⟩) (meth := k13m6) (c := k13c6) (by decide +kernel) rfl rfl rfl (by decide +kernel)
def codes1 : List Jvm.Cond := [Jvm.Cond.code x code maxLocals ret, Jvm.Cond.code ({ cls := "java/lang/String", name := "valueOf", desc := "(C)Ljava/lang/String;" } : Jvm.MethodName) jdk_42_method_139_code (1 : Nat) (Option.some (Jvm.ClassFile.FieldType.object "java/lang/String")), Jvm.Cond.code ({ cls := "java/lang/StringLatin1", name := "canEncode", desc := "(C)Z" } : Jvm.MethodName) jdk_43_method_3_code (1 : Nat) (Option.some Jvm.ClassFile.FieldType.boolean), Jvm.Cond.code ({ cls := "java/lang/StringLatin1", name := "toBytes", desc := "(C)[B" } : Jvm.MethodName) jdk_43_method_46_code (1 : Nat) (Option.some (Jvm.ClassFile.FieldType.array Jvm.ClassFile.FieldType.byte)), Jvm.Cond.code ({ cls := "java/lang/String", name := "<init>", desc := "([BB)V" } : Jvm.MethodName) jdk_42_method_151_code (3 : Nat) (Option.none : Option Jvm.ClassFile.FieldType), Jvm.Cond.code ({ cls := "java/lang/Object", name := "<init>", desc := "()V" } : Jvm.MethodName) object_method_1_code (1 : Nat) (Option.none : Option Jvm.ClassFile.FieldType), Jvm.Cond.code ({ cls := "com/example/stallwright/stallwright/store/CustomerToStringPinLaw", name := "drawn", desc := "(IZZ)Ljava/lang/String;" } : Jvm.MethodName) method_4_code (4 : Nat) (Option.some (Jvm.ClassFile.FieldType.object "java/lang/String")), Jvm.Cond.code ({ cls := "java/lang/String", name := "<init>", desc := "([C)V" } : Jvm.MethodName) jdk_42_method_3_code (2 : Nat) (Option.none : Option Jvm.ClassFile.FieldType), Jvm.Cond.code ({ cls := "java/lang/String", name := "<init>", desc := "([CIILjava/lang/Void;)V" } : Jvm.MethodName) jdk_42_method_149_code (6 : Nat) (Option.none : Option Jvm.ClassFile.FieldType), Jvm.Cond.code ({ cls := "java/lang/StringUTF16", name := "compress", desc := "([CII)[B" } : Jvm.MethodName) jdk_52_method_16_code (6 : Nat) (Option.some (Jvm.ClassFile.FieldType.array Jvm.ClassFile.FieldType.byte)), Jvm.Cond.code ({ cls := "java/lang/StringUTF16", name := "compress", desc := "([CI[BII)I" } : Jvm.MethodName) jdk_52_method_21_code (7 : Nat) (Option.some Jvm.ClassFile.FieldType.int), Jvm.Cond.code ({ cls := "java/lang/StringUTF16", name := "coderFromArrayLen", desc := "([BI)B" } : Jvm.MethodName) jdk_52_method_15_code (2 : Nat) (Option.some Jvm.ClassFile.FieldType.byte), Jvm.Cond.code ({ cls := "com/example/stallwright/stallwright/store/Customer", name := "<init>", desc := "(Ljava/lang/String;Ljava/lang/String;Ljava/lang/String;Ljava/lang/String;)V" } : Jvm.MethodName) prog_25_method_1_code (5 : Nat) (Option.none : Option Jvm.ClassFile.FieldType), Jvm.Cond.code ({ cls := "java/lang/Record", name := "<init>", desc := "()V" } : Jvm.MethodName) jdk_30_method_1_code (1 : Nat) (Option.none : Option Jvm.ClassFile.FieldType), Jvm.Cond.code ({ cls := "com/example/stallwright/stallwright/store/Customer", name := "toString", desc := "()Ljava/lang/String;" } : Jvm.MethodName) prog_25_method_2_code (1 : Nat) (Option.some (Jvm.ClassFile.FieldType.object "java/lang/String")), Jvm.Cond.code ({ cls := "java/lang/StringBuilder", name := "<init>", desc := "()V" } : Jvm.MethodName) jdk_67_method_1_code (1 : Nat) (Option.none : Option Jvm.ClassFile.FieldType), Jvm.Cond.code ({ cls := "java/lang/AbstractStringBuilder", name := "<init>", desc := "(I)V" } : Jvm.MethodName) jdk_68_method_2_code (2 : Nat) (Option.none : Option Jvm.ClassFile.FieldType), Jvm.Cond.code ({ cls := "java/lang/StringBuilder", name := "append", desc := "(Ljava/lang/String;)Ljava/lang/StringBuilder;" } : Jvm.MethodName) jdk_67_method_7_code (2 : Nat) (Option.some (Jvm.ClassFile.FieldType.object "java/lang/StringBuilder")), Jvm.Cond.code ({ cls := "java/lang/AbstractStringBuilder", name := "append", desc := "(Ljava/lang/String;)Ljava/lang/AbstractStringBuilder;" } : Jvm.MethodName) jdk_68_method_22_code (3 : Nat) (Option.some (Jvm.ClassFile.FieldType.object "java/lang/AbstractStringBuilder")), Jvm.Cond.code ({ cls := "java/lang/String", name := "length", desc := "()I" } : Jvm.MethodName) jdk_42_method_54_code (1 : Nat) (Option.some Jvm.ClassFile.FieldType.int), Jvm.Cond.code ({ cls := "java/lang/String", name := "coder", desc := "()B" } : Jvm.MethodName) jdk_42_method_152_code (1 : Nat) (Option.some Jvm.ClassFile.FieldType.byte), Jvm.Cond.code ({ cls := "java/lang/AbstractStringBuilder", name := "ensureCapacityInternal", desc := "(I)V" } : Jvm.MethodName) jdk_68_method_9_code (3 : Nat) (Option.none : Option Jvm.ClassFile.FieldType), Jvm.Cond.code ({ cls := "java/lang/AbstractStringBuilder", name := "putStringAt", desc := "(ILjava/lang/String;)V" } : Jvm.MethodName) jdk_68_method_73_code (3 : Nat) (Option.none : Option Jvm.ClassFile.FieldType), Jvm.Cond.code ({ cls := "java/lang/AbstractStringBuilder", name := "inflateIfNeededFor", desc := "(Ljava/lang/String;)V" } : Jvm.MethodName) jdk_68_method_71_code (2 : Nat) (Option.none : Option Jvm.ClassFile.FieldType), Jvm.Cond.code ({ cls := "java/lang/String", name := "getBytes", desc := "([BIB)V" } : Jvm.MethodName) jdk_42_method_147_code (4 : Nat) (Option.none : Option Jvm.ClassFile.FieldType), Jvm.Cond.code ({ cls := "java/lang/AbstractStringBuilder", name := "newCapacity", desc := "(I)I" } : Jvm.MethodName) jdk_68_method_10_code (6 : Nat) (Option.some Jvm.ClassFile.FieldType.int), Jvm.Cond.code ({ cls := "jdk/internal/util/ArraysSupport", name := "newLength", desc := "(III)I" } : Jvm.MethodName) jdk_48_method_27_code (4 : Nat) (Option.some Jvm.ClassFile.FieldType.int), Jvm.Cond.code ({ cls := "java/lang/Math", name := "max", desc := "(II)I" } : Jvm.MethodName) jdk_29_method_65_code (2 : Nat) (Option.some Jvm.ClassFile.FieldType.int), Jvm.Cond.code ({ cls := "java/util/Arrays", name := "copyOf", desc := "([BI)[B" } : Jvm.MethodName) jdk_65_method_121_code (3 : Nat) (Option.some (Jvm.ClassFile.FieldType.array Jvm.ClassFile.FieldType.byte)), Jvm.Cond.code ({ cls := "java/lang/Math", name := "min", desc := "(II)I" } : Jvm.MethodName) jdk_29_method_69_code (2 : Nat) (Option.some Jvm.ClassFile.FieldType.int), Jvm.Cond.code ({ cls := "java/lang/StringBuilder", name := "toString", desc := "()Ljava/lang/String;" } : Jvm.MethodName) jdk_67_method_42_code (1 : Nat) (Option.some (Jvm.ClassFile.FieldType.object "java/lang/String")), Jvm.Cond.code ({ cls := "java/lang/String", name := "<init>", desc := "(Ljava/lang/StringBuilder;)V" } : Jvm.MethodName) jdk_42_method_53_code (2 : Nat) (Option.none : Option Jvm.ClassFile.FieldType), Jvm.Cond.code ({ cls := "java/lang/String", name := "<init>", desc := "(Ljava/lang/AbstractStringBuilder;Ljava/lang/Void;)V" } : Jvm.MethodName) jdk_42_method_150_code (5 : Nat) (Option.none : Option Jvm.ClassFile.FieldType), Jvm.Cond.code ({ cls := "java/lang/AbstractStringBuilder", name := "getValue", desc := "()[B" } : Jvm.MethodName) jdk_68_method_64_code (1 : Nat) (Option.some (Jvm.ClassFile.FieldType.array Jvm.ClassFile.FieldType.byte)), Jvm.Cond.code ({ cls := "java/lang/StringBuilder", name := "length", desc := "()I" } : Jvm.MethodName) jdk_67_method_93_code (1 : Nat) (Option.some Jvm.ClassFile.FieldType.int), Jvm.Cond.code ({ cls := "java/lang/AbstractStringBuilder", name := "length", desc := "()I" } : Jvm.MethodName) jdk_68_method_6_code (1 : Nat) (Option.some Jvm.ClassFile.FieldType.int), Jvm.Cond.code ({ cls := "java/lang/AbstractStringBuilder", name := "isLatin1", desc := "()Z" } : Jvm.MethodName) jdk_68_method_68_code (1 : Nat) (Option.some Jvm.ClassFile.FieldType.boolean), Jvm.Cond.code ({ cls := "java/util/Arrays", name := "copyOfRange", desc := "([BII)[B" } : Jvm.MethodName) jdk_65_method_132_code (3 : Nat) (Option.some (Jvm.ClassFile.FieldType.array Jvm.ClassFile.FieldType.byte)), Jvm.Cond.code ({ cls := "java/util/Arrays", name := "copyOfRangeByte", desc := "([BII)[B" } : Jvm.MethodName) jdk_65_method_133_code (5 : Nat) (Option.some (Jvm.ClassFile.FieldType.array Jvm.ClassFile.FieldType.byte)), Jvm.Cond.code ({ cls := "java/util/Arrays", name := "checkLength", desc := "(II)V" } : Jvm.MethodName) jdk_65_method_131_code (2 : Nat) (Option.none : Option Jvm.ClassFile.FieldType), Jvm.Cond.code ({ cls := "com/example/stallwright/stallwright/store/CustomerToStringPinLaw", name := "at", desc := "(Ljava/lang/String;ILjava/lang/String;)Z" } : Jvm.MethodName) method_3_code (3 : Nat) (Option.some Jvm.ClassFile.FieldType.boolean), Jvm.Cond.code ({ cls := "com/example/stallwright/stallwright/store/CustomerToStringPinLaw", name := "ch", desc := "(Ljava/lang/String;ILjava/lang/String;I)Z" } : Jvm.MethodName) method_2_code (4 : Nat) (Option.some Jvm.ClassFile.FieldType.boolean), Jvm.Cond.code ({ cls := "java/lang/String", name := "charAt", desc := "(I)C" } : Jvm.MethodName) jdk_42_method_56_code (2 : Nat) (Option.some Jvm.ClassFile.FieldType.char), Jvm.Cond.code ({ cls := "java/lang/String", name := "isLatin1", desc := "()Z" } : Jvm.MethodName) jdk_42_method_154_code (1 : Nat) (Option.some Jvm.ClassFile.FieldType.boolean), Jvm.Cond.code ({ cls := "java/lang/StringLatin1", name := "charAt", desc := "([BI)C" } : Jvm.MethodName) jdk_43_method_2_code (2 : Nat) (Option.some Jvm.ClassFile.FieldType.char), Jvm.Cond.code ({ cls := "java/lang/String", name := "checkIndex", desc := "(II)V" } : Jvm.MethodName) jdk_42_method_155_code (2 : Nat) (Option.none : Option Jvm.ClassFile.FieldType), Jvm.Cond.code ({ cls := "jdk/internal/util/Preconditions", name := "checkIndex", desc := "(IILjava/util/function/BiFunction;)I" } : Jvm.MethodName) jdk_41_method_11_code (3 : Nat) (Option.some Jvm.ClassFile.FieldType.int), Jvm.Cond.code ({ cls := "java/lang/AbstractStringBuilder", name := "appendNull", desc := "()Ljava/lang/AbstractStringBuilder;" } : Jvm.MethodName) jdk_68_method_26_code (3 : Nat) (Option.some (Jvm.ClassFile.FieldType.object "java/lang/AbstractStringBuilder"))]
set_option maxRecDepth 65536 in
theorem codes_eq : words1.filter isCode = codes1 := rfl
theorem w_codes : ∀ c ∈ words1.filter isCode, c.before args0 about1 = true := by
  rw [codes_eq]
  intro c hc
  simp only [codes1, List.mem_cons, List.not_mem_nil, or_false] at hc
  rcases hc with rfl | rfl | rfl | rfl | rfl | rfl | rfl | rfl | rfl | rfl | rfl | rfl | rfl | rfl | rfl | rfl | rfl | rfl | rfl | rfl | rfl | rfl | rfl | rfl | rfl | rfl | rfl | rfl | rfl | rfl | rfl | rfl | rfl | rfl | rfl | rfl | rfl | rfl | rfl | rfl | rfl | rfl | rfl | rfl | rfl | rfl | rfl | rfl
  · exact w_c0
  · exact w_c1
  · exact w_c2
  · exact w_c3
  · exact w_c4
  · exact w_c5
  · exact w_c6
  · exact w_c7
  · exact w_c8
  · exact w_c9
  · exact w_c10
  · exact w_c11
  · exact w_c12
  · exact w_c13
  · exact w_c14
  · exact w_c15
  · exact w_c16
  · exact w_c17
  · exact w_c18
  · exact w_c19
  · exact w_c20
  · exact w_c21
  · exact w_c22
  · exact w_c23
  · exact w_c24
  · exact w_c25
  · exact w_c26
  · exact w_c27
  · exact w_c28
  · exact w_c29
  · exact w_c30
  · exact w_c31
  · exact w_c32
  · exact w_c33
  · exact w_c34
  · exact w_c35
  · exact w_c36
  · exact w_c37
  · exact w_c38
  · exact w_c39
  · exact w_c40
  · exact w_c41
  · exact w_c42
  · exact w_c43
  · exact w_c44
  · exact w_c45
  · exact w_c46
  · exact w_c47
set_option maxRecDepth 65536 in
theorem w_t1 : (words1.take 24).all (fun c => isCode c || c.before args0 about1) = true := by decide +kernel
set_option maxRecDepth 65536 in
theorem w_t2 : ((words1.drop 24).take 24).all (fun c => isCode c || c.before args0 about1) = true := by decide +kernel
set_option maxRecDepth 65536 in
theorem w_t3 : (((words1.drop 24).drop 24).take 24).all (fun c => isCode c || c.before args0 about1) = true := by decide +kernel
set_option maxRecDepth 65536 in
theorem w_t4 : ((((words1.drop 24).drop 24).drop 24).take 24).all (fun c => isCode c || c.before args0 about1) = true := by decide +kernel
set_option maxRecDepth 65536 in
theorem w_t5 : (((((words1.drop 24).drop 24).drop 24).drop 24).take 24).all (fun c => isCode c || c.before args0 about1) = true := by decide +kernel
set_option maxRecDepth 65536 in
theorem w_t6 : ((((((words1.drop 24).drop 24).drop 24).drop 24).drop 24).take 24).all (fun c => isCode c || c.before args0 about1) = true := by decide +kernel
set_option maxRecDepth 65536 in
theorem w_t7 : (((((((words1.drop 24).drop 24).drop 24).drop 24).drop 24).drop 24).take 24).all (fun c => isCode c || c.before args0 about1) = true := by decide +kernel
set_option maxRecDepth 65536 in
theorem w_t8 : ((((((((words1.drop 24).drop 24).drop 24).drop 24).drop 24).drop 24).drop 24).take 24).all (fun c => isCode c || c.before args0 about1) = true := by decide +kernel
set_option maxRecDepth 65536 in
theorem w_t9 : (((((((((words1.drop 24).drop 24).drop 24).drop 24).drop 24).drop 24).drop 24).drop 24).take 24).all (fun c => isCode c || c.before args0 about1) = true := by decide +kernel
set_option maxRecDepth 65536 in
theorem w_t10 : ((((((((((words1.drop 24).drop 24).drop 24).drop 24).drop 24).drop 24).drop 24).drop 24).drop 24).take 24).all (fun c => isCode c || c.before args0 about1) = true := by decide +kernel
set_option maxRecDepth 65536 in
theorem w_t11 : ((((((((((words1.drop 24).drop 24).drop 24).drop 24).drop 24).drop 24).drop 24).drop 24).drop 24).drop 24).all (fun c => isCode c || c.before args0 about1) = true := by decide +kernel
theorem w_tables : (allAtoms (Jvm.Cond.code x code maxLocals ret :: tables_1)).before args0 about1 = true := by
  rw [allAtoms_all]
  show words1.all (fun c => c.before args0 about1) = true
  refine all_split ?_ w_codes
  rw [← List.take_append_drop 24 words1, List.all_append, w_t1, ← List.take_append_drop 24 (words1.drop 24), List.all_append, w_t2, ← List.take_append_drop 24 ((words1.drop 24).drop 24), List.all_append, w_t3, ← List.take_append_drop 24 (((words1.drop 24).drop 24).drop 24), List.all_append, w_t4, ← List.take_append_drop 24 ((((words1.drop 24).drop 24).drop 24).drop 24), List.all_append, w_t5, ← List.take_append_drop 24 (((((words1.drop 24).drop 24).drop 24).drop 24).drop 24), List.all_append, w_t6, ← List.take_append_drop 24 ((((((words1.drop 24).drop 24).drop 24).drop 24).drop 24).drop 24), List.all_append, w_t7, ← List.take_append_drop 24 (((((((words1.drop 24).drop 24).drop 24).drop 24).drop 24).drop 24).drop 24), List.all_append, w_t8, ← List.take_append_drop 24 ((((((((words1.drop 24).drop 24).drop 24).drop 24).drop 24).drop 24).drop 24).drop 24), List.all_append, w_t9, ← List.take_append_drop 24 (((((((((words1.drop 24).drop 24).drop 24).drop 24).drop 24).drop 24).drop 24).drop 24).drop 24), List.all_append, w_t10, w_t11]
  rfl
set_option maxRecDepth 65536 in
theorem w_rest : rest_1_c.before args0 about1 = true := by decide +kernel
set_option maxRecDepth 65536 in
theorem w_case : (Jvm.Cond.and given_1 narrow_1).before args0 about1 = true := by decide +kernel
set_option maxRecDepth 65536 in
theorem w_consts : constsHeld consts_1 about1 := Jvm.Lit.constsHeldB_iff.mp (by decide +kernel)
theorem w_applies : (headSpec (Jvm.Cond.code x code maxLocals ret :: tables_1) room_1).applies x e0.platform about1 = true :=
  (Spec.applies_iff w_frames).mpr ⟨w_running, w_runnable, w_alone, w_named, w_hears, w_ripe, w_room, w_tables⟩
theorem atStart : AtStart classFile x code maxLocals ret World_1 tables_1 room_1 Calls_1 rest_1 Pre_1 launch0 p0 e0 about1 theMethod args0 below0 :=
  ⟨lists_1, trivial, launch0.admits_env _ _ _, launch0.least_env, fairChoices_fair.cas, fairChoices_fair.clock, w_frames, w_args, w_heap, w_applies, ⟨w_consts, trivial⟩, w_rest, w_case⟩
end start1
theorem witness_1 : WitnessClaimed_1 := ⟨start1.p0, start1.e0, start1.about1, start1.theMethod, start1.args0, start1.below0, start1.atStart⟩
end Jvm.Pilot.@@N@@
