import JvmDerived
import JvmDerived.Pilot.@@N@@Statement
import JvmDerived.Pilot.@@N@@Code
set_option linter.unusedVariables false
set_option linter.unusedSimpArgs false
/- laws to paste: Road.backV, Road.lenW, Road.eqW, Road.codOf (cut by pick.py; bodies as the Statement names them) -/
namespace Jvm.Pilot.@@N@@
namespace StrChars
open Jvm Sem ClassFile Op Lib Jvm.Stand Jvm.Free.XT Jvm.Free.ALB Jvm.Free.JM Jvm.Free
open Jvm.Lib.Cold (StaticIs)
/-- a char array whose places are chars -/
def Ch (a : Addr) (A : Cell) (U : State) : Prop := Arr .char a A U ∧ Typed .char A
theorem Ch.mv {a : Addr} {A : Cell} {U U' : State} (h : Ch a A U) (hal : U.vm.Alike U'.vm) (hh : U'.heap = U.heap) : Ch a A U' := ⟨h.1.mv hal hh, h.2⟩
theorem Ch.keep {a : Addr} {A : Cell} {U U' : State} (h : Ch a A U) (hal : U.vm.Alike U'.vm) (hk : U'.heap[a]? = some A) : Ch a A U' := ⟨h.1.keep hal hk, h.2⟩
/-- what place i of a char[]'s cell holds -/
def cv (A : Cell) (i : Nat) : Int32 := match A.slots[i]? with | some (.int x) => x | _ => 0
theorem Ch.get {a : Addr} {A : Cell} {U : State} (h : Ch a A U) {i : Nat} (hi : i < A.slots.size) : A.slots[i]? = some (.int (cv A i)) := by
  have e := Array.getElem?_eq_getElem hi
  have f := h.2 i _ e
  unfold cv; rw [e]
  generalize A.slots[i] = v at f
  cases v <;> simp [fits] at f ⊢
/-- the byte that i2b leaves of a char -/
def lo8 (x : Int32) : Int32 := x.toInt8.toInt32
theorem fits_lo8 (y : Int32) : fits .byte (.int (lo8 y)) = true := by
  have h1 := y.toInt8.le_toInt
  have h2 := y.toInt8.toInt_lt
  simp only [lo8, fits, Bool.and_eq_true, decide_eq_true_eq, Int32.le_iff_toInt_le, Int8.toInt_toInt32, show (-128 : Int32).toInt = -128 from by decide, show (127 : Int32).toInt = 127 from by decide]
  omega
/-- A' is A but that each place j of lo .. hi - 1 holds f j -/
def Laid (A A' : Cell) (lo hi : Nat) (f : Nat → Value) : Prop := A'.cls = A.cls ∧ A'.vm = A.vm ∧ A'.slots.size = A.slots.size ∧ ∀ i, A'.slots[i]? = if lo ≤ i ∧ i < hi then some (f i) else A.slots[i]?
theorem Laid.zero (A : Cell) (lo : Nat) (f : Nat → Value) : Laid A A lo (lo + 0) f := ⟨rfl, rfl, rfl, fun i => by rw [if_neg (by omega)]⟩
theorem Laid.step {A Ak : Cell} {lo k : Nat} {f : Nat → Value} {v : Value} (h : Laid A Ak lo k f) (hlo : lo ≤ k) (hk : k < Ak.slots.size) (hv : v = f k) : Laid A (Ak.setSlot k v) lo (k + 1) f := by
  refine ⟨h.1, h.2.1, by simpa [Cell.setSlot] using h.2.2.1, fun i => ?_⟩
  by_cases e : k = i
  · subst e; rw [Cell.slots_setSlot_self v hk, if_pos (by omega), hv]
  · rw [Cell.slots_setSlot_ne v e, h.2.2.2 i]
    by_cases q : lo ≤ i ∧ i < k
    · rw [if_pos q, if_pos (by omega)]
    · rw [if_neg q, if_neg (by omega)]
def U16 : String := "java/lang/StringUTF16"
namespace Cmp5
def yN : MethodName := ⟨"java/lang/StringUTF16", "compress", "([CI[BII)I"⟩
abbrev yB : ByteArray := jdk_52_method_21_code
theorem d0 : decode yB 0 = .ok (.iconst 0, 1) := by decide +kernel
theorem d1 : decode yB 1 = .ok (.istore 5, 2) := by decide +kernel
theorem d3 : decode yB 3 = .ok (.iload 5, 2) := by decide +kernel
theorem d5 : decode yB 5 = .ok (.iload 4, 2) := by decide +kernel
theorem d7 : decode yB 7 = .ok (.if_icmp (.ge) 37, 3) := by decide +kernel
theorem d10 : decode yB 10 = .ok (.aload_n 0, 1) := by decide +kernel
theorem d11 : decode yB 11 = .ok (.iload_n 1, 1) := by decide +kernel
theorem d12 : decode yB 12 = .ok (.caload, 1) := by decide +kernel
theorem d13 : decode yB 13 = .ok (.istore 6, 2) := by decide +kernel
theorem d15 : decode yB 15 = .ok (.iload 6, 2) := by decide +kernel
theorem d17 : decode yB 17 = .ok (.sipush 255, 3) := by decide +kernel
theorem d20 : decode yB 20 = .ok (.if_icmp (.le) 6, 3) := by decide +kernel
theorem d26 : decode yB 26 = .ok (.aload_n 2, 1) := by decide +kernel
theorem d27 : decode yB 27 = .ok (.iload_n 3, 1) := by decide +kernel
theorem d28 : decode yB 28 = .ok (.iload 6, 2) := by decide +kernel
theorem d30 : decode yB 30 = .ok (.i2b, 1) := by decide +kernel
theorem d31 : decode yB 31 = .ok (.bastore, 1) := by decide +kernel
theorem d32 : decode yB 32 = .ok (.iinc 1 1, 3) := by decide +kernel
theorem d35 : decode yB 35 = .ok (.iinc 3 1, 3) := by decide +kernel
theorem d38 : decode yB 38 = .ok (.iinc 5 1, 3) := by decide +kernel
theorem d41 : decode yB 41 = .ok (.goto (-38), 3) := by decide +kernel
theorem d44 : decode yB 44 = .ok (.iload 4, 2) := by decide +kernel
theorem d46 : decode yB 46 = .ok (.ireturn, 1) := by decide +kernel
def site : List Cond := []
def tab : Cond := tabOf yN yB 7 (some .int) site
def P (b : Addr) (A : Cell) (d : Addr) (B : Cell) (o q len : Nat) (args : Array Value) (s : State) : Prop := args = #[.ref b, .int (Int32.ofNat o), .ref d, .int (Int32.ofNat q), .int (Int32.ofNat len)] ∧ Ch b A s ∧ Arr .byte d B s ∧ b ≠ d ∧ o + len ≤ A.slots.size ∧ q + len ≤ B.slots.size ∧ ∀ i, i < len → ¬ 255 < cv A (o + i)
def E (b : Addr) (A : Cell) (d : Addr) (B : Cell) (o q len : Nat) (r : Option Value) (s u : State) : Prop := r = some (.int (Int32.ofNat len)) ∧ ∃ B', Put d B' s u ∧ Laid B B' q (q + len) (fun j => Value.int (lo8 (cv A (o + (j - q)))))
/-- no char of the range above 255: len; the places written hold each char's low byte -/
theorem law (l : Launch) (b : Addr) (A : Cell) (d : Addr) (B : Cell) (o q len : Nat) : Law l yN 5 5 0 0 yB 7 (some .int) site (P b A d B o q len) (E b A d B o q len) (copyLocs d q len) 0 0 := by
  refine Law.of_walk (plainFor_of_name (by decide +kernel)) (by decide +kernel) (by decide +kernel) (by decide) (fun _ _ h => by rw [h.1]; rfl) (fun _ U U' hal hh h => ⟨h.1, h.2.1.mv hal hh, h.2.2.1.mv hal hh, h.2.2.2⟩) (fun r U U' V V' h1 hal h2 h => ⟨h.1, h.2.elim fun B' q => ⟨B', q.1.mv h1 h2, q.2⟩⟩) ?_
  intro p e s m args below meth c s₁ X0 hexec hbytes hml hret hlk hnm hown hh0 W hP
  obtain ⟨rfl, hA, hB, hne, l1, l2, hp⟩ := hP
  have c1 : Steps p.tables e below (s₁.setTop (entryFrame m #[.ref b, .int (Int32.ofNat o), .ref d, .int (Int32.ofNat q), .int (Int32.ofNat len)] 7)) (s₁.setTop (mkF m 0 #[.val (.ref b), .val (.int (Int32.ofNat o)), .val (.ref d), .val (.int (Int32.ofNat q)), .val (.int (Int32.ofNat len)), .unset, .unset] [])) := entry rfl
  have hA0 := hA.1.mv X0.warmed.alike hh0
  have hB0 := hB.mv X0.warmed.alike hh0
  have a31 := hA.1.2.2.2
  have c2 : Steps p.tables e below (s₁.setTop (entryFrame m #[.ref b, .int (Int32.ofNat o), .ref d, .int (Int32.ofNat q), .int (Int32.ofNat len)] 7)) (s₁.setTop (mkF m 3 #[.val (.ref b), .val (.int (Int32.ofNat o)), .val (.ref d), .val (.int (Int32.ofNat q)), .val (.int (Int32.ofNat len)), .val (.int 0), .unset] [])) := c1.trans (by
    refine iconstV X0.here hexec rfl 0 (hb hbytes d0) (by decide) ?_
    refine XS.istore X0.here hexec rfl (hb hbytes d1) rfl rfl ?_
    exact Steps.refl _)
  have loop : ∀ (r i : Nat), i + r = len → ∀ (z : Slot), (z = .unset ∨ ∃ w, z = .val w ∧ w.category = 1) → ∀ (Tl : State) (Bk : Cell), Stand p l e { frames := 0, locals := 0, cells := 0, slots := 0 } s m #[.ref b, .int (Int32.ofNat o), .ref d, .int (Int32.ofNat q), .int (Int32.ofNat len)] below meth c Tl ([] ++ copyLocs d q i) 0 0 → Put d Bk s₁ Tl → Laid B Bk q (q + i) (fun j => Value.int (lo8 (cv A (o + (j - q))))) →
      Steps p.tables e below (s₁.setTop (entryFrame m #[.ref b, .int (Int32.ofNat o), .ref d, .int (Int32.ofNat q), .int (Int32.ofNat len)] 7)) (Tl.setTop (mkF m 3 #[.val (.ref b), .val (.int (Int32.ofNat (o + i))), .val (.ref d), .val (.int (Int32.ofNat (q + i))), .val (.int (Int32.ofNat len)), .val (.int (Int32.ofNat i)), z] [])) → ∃ (T' : State) (B' : Cell) (z' : Slot), Stand p l e { frames := 0, locals := 0, cells := 0, slots := 0 } s m #[.ref b, .int (Int32.ofNat o), .ref d, .int (Int32.ofNat q), .int (Int32.ofNat len)] below meth c T' ([] ++ copyLocs d q len) 0 0 ∧ Put d B' s₁ T' ∧ Laid B B' q (q + len) (fun j => Value.int (lo8 (cv A (o + (j - q))))) ∧
      Steps p.tables e below (s₁.setTop (entryFrame m #[.ref b, .int (Int32.ofNat o), .ref d, .int (Int32.ofNat q), .int (Int32.ofNat len)] 7)) (T'.setTop (mkF m 3 #[.val (.ref b), .val (.int (Int32.ofNat (o + len))), .val (.ref d), .val (.int (Int32.ofNat (q + len))), .val (.int (Int32.ofNat len)), .val (.int (Int32.ofNat len)), z'] [])) := by
    intro r
    induction r with
    | zero =>
      intro i hi z hz Tl Bk Xl pl fl cl
      have hil : i = len := by omega
      rw [hil] at Xl fl cl
      exact ⟨Tl, Bk, z, Xl, pl, fl, cl⟩
    | succ r ih =>
      intro i hi z hz Tl Bk Xl pl fl cl
      have all := X0.warmed.alike.symm.trans Xl.warmed.alike
      have hAl := hA0.keep all (pl.other hne hA0.1)
      have hBk := hB0.like all pl.1 fl.1 fl.2.1 fl.2.2.1
      have hlt : q + i < Bk.slots.size := by rw [fl.2.2.1]; omega
      have c3 : Steps p.tables e below (s₁.setTop (entryFrame m #[.ref b, .int (Int32.ofNat o), .ref d, .int (Int32.ofNat q), .int (Int32.ofNat len)] 7)) (Tl.setTop (mkF m 12 #[.val (.ref b), .val (.int (Int32.ofNat (o + i))), .val (.ref d), .val (.int (Int32.ofNat (q + i))), .val (.int (Int32.ofNat len)), .val (.int (Int32.ofNat i)), z] [.int (Int32.ofNat (o + i)), .ref b])) := cl.trans (by
        refine XS.iload Xl.here hexec rfl (hb hbytes d3) rfl ?_
        refine XS.iload Xl.here hexec rfl (hb hbytes d5) rfl ?_
        refine XS.icmpNo Xl.here hexec rfl (hb hbytes d7) rfl (ii_ge_f (lt32 (by omega) (by omega))) ?_
        refine XS.aloadN Xl.here hexec rfl (hb hbytes d10) rfl rfl ?_
        refine XS.iloadN Xl.here hexec rfl (hb hbytes d11) rfl ?_
        exact Steps.refl _)
      have c4 : Steps p.tables e below (s₁.setTop (entryFrame m #[.ref b, .int (Int32.ofNat o), .ref d, .int (Int32.ofNat q), .int (Int32.ofNat len)] 7)) (Tl.setTop (mkF m 13 #[.val (.ref b), .val (.int (Int32.ofNat (o + i))), .val (.ref d), .val (.int (Int32.ofNat (q + i))), .val (.int (Int32.ofNat len)), .val (.int (Int32.ofNat i)), z] [.int (cv A (o + i))])) := c3.trans (by
        refine Xl.aget hexec hAl rfl (hA.get (i := o + i) (by omega)) rfl rfl (hb hbytes d12) ?_
        exact Steps.refl _)
      have c5 : Steps p.tables e below (s₁.setTop (entryFrame m #[.ref b, .int (Int32.ofNat o), .ref d, .int (Int32.ofNat q), .int (Int32.ofNat len)] 7)) (Tl.setTop (mkF m 15 #[.val (.ref b), .val (.int (Int32.ofNat (o + i))), .val (.ref d), .val (.int (Int32.ofNat (q + i))), .val (.int (Int32.ofNat len)), .val (.int (Int32.ofNat i)), .val (.int (cv A (o + i)))] [])) := c4.trans (by
        refine XS.istoreS Xl.here hexec rfl (hb hbytes d13) rfl rfl hz ?_
        exact Steps.refl _)
      have c6 : Steps p.tables e below (s₁.setTop (entryFrame m #[.ref b, .int (Int32.ofNat o), .ref d, .int (Int32.ofNat q), .int (Int32.ofNat len)] 7)) (Tl.setTop (mkF m 31 #[.val (.ref b), .val (.int (Int32.ofNat (o + i))), .val (.ref d), .val (.int (Int32.ofNat (q + i))), .val (.int (Int32.ofNat len)), .val (.int (Int32.ofNat i)), .val (.int (cv A (o + i)))] [.int (lo8 (cv A (o + i))), .int (Int32.ofNat (q + i)), .ref d])) := c5.trans (by
        refine XS.iload Xl.here hexec rfl (hb hbytes d15) rfl ?_
        refine sipushV Xl.here hexec rfl 255 (hb hbytes d17) (by decide) ?_
        refine XS.icmpYes Xl.here hexec rfl (pc0 := 20) rfl (hb hbytes d20) rfl (ii_le_t (hp i (by omega))) (by decide) rfl ?_
        refine XS.aloadN Xl.here hexec rfl (hb hbytes d26) rfl rfl ?_
        refine XS.iloadN Xl.here hexec rfl (hb hbytes d27) rfl ?_
        refine XS.iload Xl.here hexec rfl (hb hbytes d28) rfl ?_
        refine i2b Xl.here hexec rfl (hb hbytes d30) rfl ?_
        exact Steps.refl _)
      obtain ⟨T7, X7, p7, st7⟩ := Xl.aput hexec hBk rfl hlt rfl (fits_lo8 (cv A (o + i))) (g := (mkF m 31 #[.val (.ref b), .val (.int (Int32.ofNat (o + i))), .val (.ref d), .val (.int (Int32.ofNat (q + i))), .val (.int (Int32.ofNat len)), .val (.int (Int32.ofNat i)), .val (.int (cv A (o + i)))] [.int (lo8 (cv A (o + i))), .int (Int32.ofNat (q + i)), .ref d])) rfl (rest := []) rfl (hb hbytes d31)
      have c8 : Steps p.tables e below (s₁.setTop (entryFrame m #[.ref b, .int (Int32.ofNat o), .ref d, .int (Int32.ofNat q), .int (Int32.ofNat len)] 7)) (T7.setTop (mkF m 32 #[.val (.ref b), .val (.int (Int32.ofNat (o + i))), .val (.ref d), .val (.int (Int32.ofNat (q + i))), .val (.int (Int32.ofNat len)), .val (.int (Int32.ofNat i)), .val (.int (cv A (o + i)))] [])) := c6.trans (st7 _ (Steps.refl _))
      have c9 : Steps p.tables e below (s₁.setTop (entryFrame m #[.ref b, .int (Int32.ofNat o), .ref d, .int (Int32.ofNat q), .int (Int32.ofNat len)] 7)) (T7.setTop (mkF m 3 #[.val (.ref b), .val (.int (Int32.ofNat (o + i) + 1)), .val (.ref d), .val (.int (Int32.ofNat (q + i) + 1)), .val (.int (Int32.ofNat len)), .val (.int (Int32.ofNat i + 1)), .val (.int (cv A (o + i)))] [])) := c8.trans (by
        refine iincV X7.here hexec rfl 1 (hb hbytes d32) (by decide) rfl rfl ?_
        refine iincV X7.here hexec rfl 1 (hb hbytes d35) (by decide) rfl rfl ?_
        refine iincV X7.here hexec rfl 1 (hb hbytes d38) (by decide) rfl rfl ?_
        refine XS.goto X7.here hexec rfl (pc0 := 41) rfl (hb hbytes d41) (by decide) rfl ?_
        exact Steps.refl _)
      have c10 : Steps p.tables e below (s₁.setTop (entryFrame m #[.ref b, .int (Int32.ofNat o), .ref d, .int (Int32.ofNat q), .int (Int32.ofNat len)] 7)) (T7.setTop (mkF m 3 #[.val (.ref b), .val (.int (Int32.ofNat (o + (i + 1)))), .val (.ref d), .val (.int (Int32.ofNat (q + (i + 1)))), .val (.int (Int32.ofNat len)), .val (.int (Int32.ofNat (i + 1))), .val (.int (cv A (o + i)))] [])) := by
        have := c9
        rw [succ32, succ32, succ32] at this
        exact this
      exact ih (i + 1) (by omega) _ (Or.inr ⟨_, rfl, rfl⟩) T7 _ (by rw [copyLocs_step, ← List.append_assoc]; exact X7) (pl.trans p7) (fl.step (by omega) hlt (by simp)) c10
  obtain ⟨T9, B9, z9, X9, p9, f9, g9⟩ := loop len 0 (by omega) .unset (Or.inl rfl) s₁ B (by simpa [copyLocs] using X0) ⟨hB0.1, fun _ _ => rfl, rfl⟩ (Laid.zero _ _ _) c2
  have c11 : Steps p.tables e below (s₁.setTop (entryFrame m #[.ref b, .int (Int32.ofNat o), .ref d, .int (Int32.ofNat q), .int (Int32.ofNat len)] 7)) (T9.setTop (mkF m 46 #[.val (.ref b), .val (.int (Int32.ofNat (o + len))), .val (.ref d), .val (.int (Int32.ofNat (q + len))), .val (.int (Int32.ofNat len)), .val (.int (Int32.ofNat len)), z9] [.int (Int32.ofNat len)])) := g9.trans (by
    refine XS.iload X9.here hexec rfl (hb hbytes d3) rfl ?_
    refine XS.iload X9.here hexec rfl (hb hbytes d5) rfl ?_
    refine XS.icmpYes X9.here hexec rfl (pc0 := 7) rfl (hb hbytes d7) rfl (ii_ge_t (nlt32 (by omega) (Nat.le_refl _))) (by decide) rfl ?_
    refine XS.iload X9.here hexec rfl (hb hbytes d44) rfl ?_
    exact Steps.refl _)
  exact ⟨T9, some (.int (Int32.ofNat len)), _, _, _, X9, by simp, rfl, rfl, (fun h => by cases h), ⟨rfl, B9, p9.from hh0, f9⟩, fun fs hl => c11.trans (X9.ireturnOut hexec hret rfl (Or.inl rfl) (hb hbytes d46) hl)⟩
end Cmp5
namespace Cmp3
def yN : MethodName := ⟨"java/lang/StringUTF16", "compress", "([CII)[B"⟩
abbrev yB : ByteArray := jdk_52_method_16_code
theorem d0 : decode yB 0 = .ok (.iload_n 2, 1) := by decide +kernel
theorem d1 : decode yB 1 = .ok (.newarray .byte, 2) := by decide +kernel
theorem d3 : decode yB 3 = .ok (.astore_n 3, 1) := by decide +kernel
theorem d4 : decode yB 4 = .ok (.aload_n 0, 1) := by decide +kernel
theorem d5 : decode yB 5 = .ok (.iload_n 1, 1) := by decide +kernel
theorem d6 : decode yB 6 = .ok (.aload_n 3, 1) := by decide +kernel
theorem d7 : decode yB 7 = .ok (.iconst 0, 1) := by decide +kernel
theorem d8 : decode yB 8 = .ok (.iload_n 2, 1) := by decide +kernel
theorem d9 : decode yB 9 = .ok (.invokestatic 115, 3) := by decide +kernel
theorem d12 : decode yB 12 = .ok (.istore 4, 2) := by decide +kernel
theorem d14 : decode yB 14 = .ok (.iload 4, 2) := by decide +kernel
theorem d16 : decode yB 16 = .ok (.iload_n 2, 1) := by decide +kernel
theorem d17 : decode yB 17 = .ok (.if_icmp (.eq) 40, 3) := by decide +kernel
theorem d57 : decode yB 57 = .ok (.aload_n 3, 1) := by decide +kernel
theorem d58 : decode yB 58 = .ok (.areturn, 1) := by decide +kernel
def site : List Cond := [.arrayClass .byte, Cmp5.tab] ++ staticW U16 115 Cmp5.yN
def tab : Cond := tabOf yN yB 6 (some (.array .byte)) site
def P (b : Addr) (A : Cell) (o len : Nat) (args : Array Value) (s : State) : Prop := args = #[.ref b, .int (Int32.ofNat o), .int (Int32.ofNat len)] ∧ Ch b A s ∧ o + len ≤ A.slots.size ∧ len ≤ 536870912 ∧ ∀ i, i < len → ¬ 255 < cv A (o + i)
def E (b : Addr) (A : Cell) (o len : Nat) (r : Option Value) (s u : State) : Prop := NewArr .byte "[B" len (fun j => .int (lo8 (cv A (o + j)))) r s u ∧ u.heap.size = s.heap.size + 1
/-- no char of the range above 255: a new byte[] of their low bytes -/
theorem law (l : Launch) (b : Addr) (A : Cell) (o len : Nat) : Law l yN 3 3 1 18 yB 6 (some (.array .byte)) site (P b A o len) (E b A o len) [] 1 len := by
  refine Law.of_walk (plainFor_of_name (by decide +kernel)) (by decide +kernel) (by decide +kernel) (by decide) (fun _ _ h => by rw [h.1]; rfl) (fun _ U U' hal hh h => ⟨h.1, h.2.1.mv hal hh, h.2.2⟩) (fun r U U' V V' h1 hal h2 h => ⟨NewArr.mv r U U' V V' h1 hal h2 h.1, by rw [h1, h2]; exact h.2⟩) ?_
  intro p e s m args below meth c s₁ X0 hexec hbytes hml hret hlk hnm hown hh0 W hP
  obtain ⟨rfl, hA, l1, l2, hp⟩ := hP
  have a31 := hA.1.2.2.2
  have c1 : Steps p.tables e below (s₁.setTop (entryFrame m #[.ref b, .int (Int32.ofNat o), .int (Int32.ofNat len)] 6)) (s₁.setTop (mkF m 0 #[.val (.ref b), .val (.int (Int32.ofNat o)), .val (.int (Int32.ofNat len)), .unset, .unset, .unset] [])) := entry rfl
  have c2 : Steps p.tables e below (s₁.setTop (entryFrame m #[.ref b, .int (Int32.ofNat o), .int (Int32.ofNat len)] 6)) (s₁.setTop (mkF m 1 #[.val (.ref b), .val (.int (Int32.ofNat o)), .val (.int (Int32.ofNat len)), .unset, .unset, .unset] [.int (Int32.ofNat len)])) := c1.trans (by
    refine XS.iloadN X0.here hexec rfl (hb hbytes d0) rfl ?_
    exact Steps.refl _)
  obtain ⟨T3, B3, X3, ba3, bs3, bv3, bh3, bf3, st3⟩ := X0.anew hexec (atype := .byte) (wk W (.arrayClass .byte)) rfl (by show len * 1 ≤ _; omega) (by omega) (g := (mkF m 1 #[.val (.ref b), .val (.int (Int32.ofNat o)), .val (.int (Int32.ofNat len)), .unset, .unset, .unset] [.int (Int32.ofNat len)])) rfl (hb hbytes d1) (rest := []) rfl (Nat.le_refl _) (by show 0 + len ≤ len; omega)
  rw [hh0] at ba3 st3
  have kp3 : XT.Kept s T3 := (XT.Kept.of_eq hh0).push bh3
  have hA3 := hA.keep X3.warmed.alike (kp3 _ _ hA.1.1)
  have hne : b ≠ s.heap.size := hA.1.ne
  have c4 : Steps p.tables e below (s₁.setTop (entryFrame m #[.ref b, .int (Int32.ofNat o), .int (Int32.ofNat len)] 6)) (T3.setTop (mkF m 3 #[.val (.ref b), .val (.int (Int32.ofNat o)), .val (.int (Int32.ofNat len)), .unset, .unset, .unset] [.ref s.heap.size])) := c2.trans (st3 _ (Steps.refl _))
  have c5 : Steps p.tables e below (s₁.setTop (entryFrame m #[.ref b, .int (Int32.ofNat o), .int (Int32.ofNat len)] 6)) (T3.setTop (mkF m 9 #[.val (.ref b), .val (.int (Int32.ofNat o)), .val (.int (Int32.ofNat len)), .val (.ref s.heap.size), .unset, .unset] [.int (Int32.ofNat len), .int 0, .ref s.heap.size, .int (Int32.ofNat o), .ref b])) := c4.trans (by
    refine XS.astoreN X3.here hexec rfl (hb hbytes d3) rfl rfl rfl ?_
    refine XS.aloadN X3.here hexec rfl (hb hbytes d4) rfl rfl ?_
    refine XS.iloadN X3.here hexec rfl (hb hbytes d5) rfl ?_
    refine XS.aloadN X3.here hexec rfl (hb hbytes d6) rfl rfl ?_
    refine iconstV X3.here hexec rfl 0 (hb hbytes d7) (by decide) ?_
    refine XS.iloadN X3.here hexec rfl (hb hbytes d8) rfl ?_
    exact Steps.refl _)
  obtain ⟨v6, T6, X6, E6, g6⟩ := X3.callS hexec (Cmp5.law l b A s.heap.size B3 o 0 len) hown (wks W (staticW U16 115 Cmp5.yN)) (wk W Cmp5.tab) (W := 0) (Nat.le_of_ble_eq_true rfl) (Nat.le_of_ble_eq_true rfl) (Nat.le_refl _) (by show 0 + len + 0 ≤ len; omega) (g := (mkF m 9 #[.val (.ref b), .val (.int (Int32.ofNat o)), .val (.int (Int32.ofNat len)), .val (.ref s.heap.size), .unset, .unset] [.int (Int32.ofNat len), .int (Int32.ofNat 0), .ref s.heap.size, .int (Int32.ofNat o), .ref b])) rfl (by rw [hml]; rfl) c5 (argsL := [.ref b, .int (Int32.ofNat o), .ref s.heap.size, .int (Int32.ofNat 0), .int (Int32.ofNat len)]) (rest := []) rfl rfl (by show 2 * 0 + 0 ≤ _; decide) (hb hbytes d9) (⟨rfl, hA3, ba3, hne, l1, by rw [bs3]; simp, hp⟩)
  obtain ⟨rfl, B6, p6, f6⟩ := E6
  have c7 : Steps p.tables e below (s₁.setTop (entryFrame m #[.ref b, .int (Int32.ofNat o), .int (Int32.ofNat len)] 6)) (T6.setTop (mkF m 12 #[.val (.ref b), .val (.int (Int32.ofNat o)), .val (.int (Int32.ofNat len)), .val (.ref s.heap.size), .unset, .unset] [.int (Int32.ofNat len)])) := g6
  have c8 : Steps p.tables e below (s₁.setTop (entryFrame m #[.ref b, .int (Int32.ofNat o), .int (Int32.ofNat len)] 6)) (T6.setTop (mkF m 58 #[.val (.ref b), .val (.int (Int32.ofNat o)), .val (.int (Int32.ofNat len)), .val (.ref s.heap.size), .val (.int (Int32.ofNat len)), .unset] [.ref s.heap.size])) := c7.trans (by
    refine XS.istore X6.here hexec rfl (hb hbytes d12) rfl rfl ?_
    refine XS.iload X6.here hexec rfl (hb hbytes d14) rfl ?_
    refine XS.iloadN X6.here hexec rfl (hb hbytes d16) rfl ?_
    refine XS.icmpYes X6.here hexec rfl (pc0 := 17) rfl (hb hbytes d17) rfl (ii_eq_t rfl) (by decide) rfl ?_
    refine XS.aloadN X6.here hexec rfl (hb hbytes d57) rfl rfl ?_
    exact Steps.refl _)
  have X8 := X6.wide (L' := []) (cells' := 1) (slots' := len) (fun x hx hlt => by
    simp only [List.nil_append, copyLocs, List.mem_map, List.mem_range] at hx
    obtain ⟨i, -, rfl⟩ := hx
    exact absurd hlt (Nat.lt_irrefl _)) (Nat.le_refl _) (by omega)
  exact ⟨T6, some (.ref s.heap.size), _, _, _, X8, rfl, rfl, rfl, (fun h => by cases h), ⟨⟨rfl, B6, ba3.like (X3.warmed.alike.symm.trans X6.warmed.alike) p6.1 f6.1 f6.2.1 f6.2.2.1, f6.2.1.trans bv3, by rw [X6.warmed.alike.findClass, f6.1]; exact bf3, by rw [f6.2.2.1, bs3]; simp, fun j hj => by rw [f6.2.2.2 j, if_pos (by omega)]; rfl, kp3.put p6 (Nat.le_refl _)⟩, by rw [p6.2.2, bh3, hh0]; simp⟩, fun fs hl => c8.trans (X8.areturnOut hexec rfl hret rfl (hb hbytes d58) hl)⟩
end Cmp3
namespace CodL
def yN : MethodName := ⟨"java/lang/StringUTF16", "coderFromArrayLen", "([BI)B"⟩
abbrev yB : ByteArray := jdk_52_method_15_code
theorem d0 : decode yB 0 = .ok (.iload_n 1, 1) := by decide +kernel
theorem d1 : decode yB 1 = .ok (.aload_n 0, 1) := by decide +kernel
theorem d2 : decode yB 2 = .ok (.arraylength, 1) := by decide +kernel
theorem d3 : decode yB 3 = .ok (.isub, 1) := by decide +kernel
theorem d4 : decode yB 4 = .ok (.bipush 31, 2) := by decide +kernel
theorem d6 : decode yB 6 = .ok (.iushr, 1) := by decide +kernel
theorem d7 : decode yB 7 = .ok (.i2b, 1) := by decide +kernel
theorem d8 : decode yB 8 = .ok (.ireturn, 1) := by decide +kernel
def site : List Cond := []
def tab : Cond := tabOf yN yB 2 (some .byte) site
def P (d : Addr) (B : Cell) (args : Array Value) (s : State) : Prop := args = #[.ref d, .int (Int32.ofNat B.slots.size)] ∧ Arr .byte d B s
def E (r : Option Value) (s u : State) : Prop := XT.PureE (some (.int 0)) r s u
/-- an array as long as the number of chars: LATIN1 -/
theorem law (l : Launch) (d : Addr) (B : Cell) : Law l yN 2 2 0 0 yB 2 (some .byte) site (P d B) E [] 0 0 := by
  refine Law.of_walk (plainFor_of_name (by decide +kernel)) (by decide +kernel) (by decide +kernel) (by decide) (fun _ _ h => by rw [h.1]; rfl) (fun _ U U' hal hh h => ⟨h.1, h.2.mv hal hh⟩) (fun r U U' V V' h1 hal h2 h => XT.PureE.mv r U U' V V' h1 hal h2 h) ?_
  intro p e s m args below meth c s₁ X0 hexec hbytes hml hret hlk hnm hown hh0 W hP
  obtain ⟨rfl, hB⟩ := hP
  have hB0 := hB.mv X0.warmed.alike hh0
  have c1 : Steps p.tables e below (s₁.setTop (entryFrame m #[.ref d, .int (Int32.ofNat B.slots.size)] 2)) (s₁.setTop (mkF m 0 #[.val (.ref d), .val (.int (Int32.ofNat B.slots.size))] [])) := entry rfl
  have c2 : Steps p.tables e below (s₁.setTop (entryFrame m #[.ref d, .int (Int32.ofNat B.slots.size)] 2)) (s₁.setTop (mkF m 2 #[.val (.ref d), .val (.int (Int32.ofNat B.slots.size))] [.ref d, .int (Int32.ofNat B.slots.size)])) := c1.trans (by
    refine XS.iloadN X0.here hexec rfl (hb hbytes d0) rfl ?_
    refine XS.aloadN X0.here hexec rfl (hb hbytes d1) rfl rfl ?_
    exact Steps.refl _)
  have c3 : Steps p.tables e below (s₁.setTop (entryFrame m #[.ref d, .int (Int32.ofNat B.slots.size)] 2)) (s₁.setTop (mkF m 8 #[.val (.ref d), .val (.int (Int32.ofNat B.slots.size))] [.int (lo8 (ushr (Int32.ofNat B.slots.size - Int32.ofNat B.slots.size) 31))])) := c2.trans (by
    refine X0.alen hexec hB0 rfl rfl (hb hbytes d2) ?_
    refine XS.isub X0.here hexec rfl (hb hbytes d3) rfl ?_
    refine bipushV X0.here hexec rfl 31 (hb hbytes d4) (by decide) ?_
    refine iushr X0.here hexec rfl (hb hbytes d6) rfl ?_
    refine i2b X0.here hexec rfl (hb hbytes d7) rfl ?_
    exact Steps.refl _)
  have e0 : lo8 (ushr (Int32.ofNat B.slots.size - Int32.ofNat B.slots.size) 31) = 0 := by rw [Int32.sub_self]; decide
  rw [e0] at c3
  exact ⟨s₁, some (.int 0), _, _, _, X0, rfl, rfl, rfl, (fun h => by cases h), ⟨rfl, hh0⟩, fun fs hl => c3.trans (X0.ireturnOut hexec hret rfl (Or.inr (Or.inr (Or.inl rfl))) (hb hbytes d8) hl)⟩
end CodL
/-- the String at a is Latin-1 over a new byte[] (the heap's one new cell): the low bytes of the len chars of A from o on; every cell but a is kept -/
def Got (a : Addr) (D : Cell) (fV fC : Field) (A : Cell) (o len : Nat) (r : Option Value) (s u : State) : Prop := r = none ∧ ∃ D' V : Cell, Blank "java/lang/String" a D' u ∧ Same D D' [fV.slot, fC.slot] ∧ D'.slots[fV.slot]? = some (.ref s.heap.size) ∧ D'.slots[fC.slot]? = some (.int 0) ∧ Arr .byte s.heap.size V u ∧ V.vm = .none ∧ u.vm.findClass "[B" = some V.cls ∧ V.slots.size = len ∧ (∀ j, j < len → V.slots[j]? = some (.int (lo8 (cv A (o + j))))) ∧ (∀ (y : Addr) (c : Cell), y ≠ a → s.heap[y]? = some c → u.heap[y]? = some c) ∧ u.heap.size = s.heap.size + 1
theorem Got.mv {a : Addr} {D A : Cell} {fV fC : Field} {o len : Nat} : ∀ r (U U' V V' : State), U'.heap = U.heap → V.vm.Alike V'.vm → V'.heap = V.heap → Got a D fV fC A o len r U V → Got a D fV fC A o len r U' V' :=
  fun r U U' V V' h1 hal h2 ⟨e0, D', X, a1, a2, a3, a4, a5, a6, a7, a8, a9, a10, a11⟩ => ⟨e0, D', X, a1.mv hal h2, a2, by rw [h1]; exact a3, a4, by rw [h1]; exact a5.mv hal h2, a6, by rw [hal.findClass]; exact a7, a8, a9, by rw [h1, h2]; exact a10, by rw [h1, h2]; exact a11⟩
namespace New4
def yN : MethodName := ⟨"java/lang/String", "<init>", "([CIILjava/lang/Void;)V"⟩
abbrev yB : ByteArray := jdk_42_method_149_code
theorem d0 : decode yB 0 = .ok (.aload_n 0, 1) := by decide +kernel
theorem d1 : decode yB 1 = .ok (.invokespecial 1, 3) := by decide +kernel
theorem d4 : decode yB 4 = .ok (.iload_n 3, 1) := by decide +kernel
theorem d5 : decode yB 5 = .ok (.ifCond (.ne) 22, 3) := by decide +kernel
theorem d27 : decode yB 27 = .ok (.getstatic 38, 3) := by decide +kernel
theorem d30 : decode yB 30 = .ok (.ifCond (.eq) 28, 3) := by decide +kernel
theorem d33 : decode yB 33 = .ok (.aload_n 1, 1) := by decide +kernel
theorem d34 : decode yB 34 = .ok (.iload_n 2, 1) := by decide +kernel
theorem d35 : decode yB 35 = .ok (.iload_n 3, 1) := by decide +kernel
theorem d36 : decode yB 36 = .ok (.invokestatic 177, 3) := by decide +kernel
theorem d39 : decode yB 39 = .ok (.astore 5, 2) := by decide +kernel
theorem d41 : decode yB 41 = .ok (.aload_n 0, 1) := by decide +kernel
theorem d42 : decode yB 42 = .ok (.aload 5, 2) := by decide +kernel
theorem d44 : decode yB 44 = .ok (.iload_n 3, 1) := by decide +kernel
theorem d45 : decode yB 45 = .ok (.invokestatic 47, 3) := by decide +kernel
theorem d48 : decode yB 48 = .ok (.putfield 15, 3) := by decide +kernel
theorem d51 : decode yB 51 = .ok (.aload_n 0, 1) := by decide +kernel
theorem d52 : decode yB 52 = .ok (.aload 5, 2) := by decide +kernel
theorem d54 : decode yB 54 = .ok (.putfield 9, 3) := by decide +kernel
theorem d57 : decode yB 57 = .ok (.return_, 1) := by decide +kernel
def site : List Cond := [.fieldLink "java/lang/String" 38 "java/lang/String" "COMPACT_STRINGS" "Z", Cmp3.tab, CodL.tab, .laysFinal "java/lang/String" "java/lang/String" "value" "[B", .fieldLink "java/lang/String" 9 "java/lang/String" "value" "[B", .laysFinal "java/lang/String" "java/lang/String" "coder" "B", .fieldLink "java/lang/String" 15 "java/lang/String" "coder" "B"] ++ objW "java/lang/String" 1 ++ staticW "java/lang/String" 177 Cmp3.yN ++ staticW "java/lang/String" 47 CodL.yN
def tab : Cond := tabOf yN yB 6 none site
def P (a : Addr) (D : Cell) (fV fC : Field) (b : Addr) (A : Cell) (z : Int32) (o len : Nat) (args : Array Value) (s : State) : Prop := args = #[.ref a, .ref b, .int (Int32.ofNat o), .int (Int32.ofNat len), .null] ∧ Blank "java/lang/String" a D s ∧ Found "java/lang/String" "value" "[B" fV s ∧ Found "java/lang/String" "coder" "B" fC s ∧ Ch b A s ∧ StaticIs s "java/lang/String" "COMPACT_STRINGS" "Z" (.int z) ∧ ¬ z = 0 ∧ 0 < len ∧ o + len ≤ A.slots.size ∧ len ≤ 536870912 ∧ ∀ i, i < len → ¬ 255 < cv A (o + i)
def E (a : Addr) (D : Cell) (fV fC : Field) (A : Cell) (o len : Nat) (r : Option Value) (s u : State) : Prop := Got a D fV fC A o len r s u
/-- len > 0, no char of the range above 255: a Latin-1 String of their low bytes -/
theorem law (l : Launch) (a : Addr) (D : Cell) (fV fC : Field) (b : Addr) (A : Cell) (z : Int32) (o len : Nat) : Law l yN 5 4 2 35 yB 6 none site (P a D fV fC b A z o len) (E a D fV fC A o len) [⟨a, fC.slot⟩, ⟨a, fV.slot⟩] 1 len := by
  refine Law.of_walk (plainFor_of_name (by decide +kernel)) (by decide +kernel) (by decide +kernel) (by decide) (fun _ _ h => by rw [h.1]; rfl) (fun _ U U' hal hh h => ⟨h.1, h.2.1.mv hal hh, h.2.2.1.al hal, h.2.2.2.1.al hal, h.2.2.2.2.1.mv hal hh, h.2.2.2.2.2.1.there hal hh, h.2.2.2.2.2.2⟩) (fun r U U' V V' h1 hal h2 h => Got.mv r U U' V V' h1 hal h2 h) ?_
  intro p e s m args below meth c s₁ X0 hexec hbytes hml hret hlk hnm hown hh0 W hP
  obtain ⟨rfl, hB, f1, f2, hA, s1, hz, l0, l1, l2, hp⟩ := hP
  have a31 := hA.1.2.2.2
  have c1 : Steps p.tables e below (s₁.setTop (entryFrame m #[.ref a, .ref b, .int (Int32.ofNat o), .int (Int32.ofNat len), .null] 6)) (s₁.setTop (mkF m 0 #[.val (.ref a), .val (.ref b), .val (.int (Int32.ofNat o)), .val (.int (Int32.ofNat len)), .val .null, .unset] [])) := entry rfl
  have c2 : Steps p.tables e below (s₁.setTop (entryFrame m #[.ref a, .ref b, .int (Int32.ofNat o), .int (Int32.ofNat len), .null] 6)) (s₁.setTop (mkF m 1 #[.val (.ref a), .val (.ref b), .val (.int (Int32.ofNat o)), .val (.int (Int32.ofNat len)), .val .null, .unset] [.ref a])) := c1.trans (by
    refine XS.aloadN X0.here hexec rfl (hb hbytes d0) rfl rfl ?_
    exact Steps.refl _)
  obtain ⟨T3, X3, q3, st3⟩ := X0.oinit hexec hown (wks W (objW "java/lang/String" 1)) (g := (mkF m 1 #[.val (.ref a), .val (.ref b), .val (.int (Int32.ofNat o)), .val (.int (Int32.ofNat len)), .val .null, .unset] [.ref a])) rfl (by rw [hml]; rfl) (rest := []) rfl (hb hbytes d1) (W := 0) (by show 2 * 0 + 0 ≤ _; decide) (Nat.le_of_ble_eq_true rfl) (Nat.le_of_ble_eq_true rfl)
  have hh3 := q3.trans hh0
  have c4 : Steps p.tables e below (s₁.setTop (entryFrame m #[.ref a, .ref b, .int (Int32.ofNat o), .int (Int32.ofNat len), .null] 6)) (T3.setTop (mkF m 27 #[.val (.ref a), .val (.ref b), .val (.int (Int32.ofNat o)), .val (.int (Int32.ofNat len)), .val .null, .unset] [])) := (c2.trans (st3 _ (Steps.refl _))).trans (by
    refine XS.iloadN X3.here hexec rfl (hb hbytes d4) rfl ?_
    refine XS.ifYes X3.here hexec rfl (pc0 := 5) rfl (hb hbytes d5) rfl (i0_ne_t (nz32 (by omega) l0)) (by decide) rfl ?_
    exact Steps.refl _)
  obtain ⟨T5, X5, q5, st5⟩ := X3.sget hexec hown (wk W (.fieldLink "java/lang/String" 38 "java/lang/String" "COMPACT_STRINGS" "Z")) s1 (fun _ _ h => by rw [hh3]; exact h) (g := (mkF m 27 #[.val (.ref a), .val (.ref b), .val (.int (Int32.ofNat o)), .val (.int (Int32.ofNat len)), .val .null, .unset] [])) rfl (hb hbytes d27)
  have hh5 := q5.trans hh3
  have c6 : Steps p.tables e below (s₁.setTop (entryFrame m #[.ref a, .ref b, .int (Int32.ofNat o), .int (Int32.ofNat len), .null] 6)) (T5.setTop (mkF m 30 #[.val (.ref a), .val (.ref b), .val (.int (Int32.ofNat o)), .val (.int (Int32.ofNat len)), .val .null, .unset] [.int z])) := c4.trans (st5 _ (Steps.refl _))
  have c7 : Steps p.tables e below (s₁.setTop (entryFrame m #[.ref a, .ref b, .int (Int32.ofNat o), .int (Int32.ofNat len), .null] 6)) (T5.setTop (mkF m 36 #[.val (.ref a), .val (.ref b), .val (.int (Int32.ofNat o)), .val (.int (Int32.ofNat len)), .val .null, .unset] [.int (Int32.ofNat len), .int (Int32.ofNat o), .ref b])) := c6.trans (by
    refine XS.ifNo X5.here hexec rfl (hb hbytes d30) rfl (i0_eq_f hz) ?_
    refine XS.aloadN X5.here hexec rfl (hb hbytes d33) rfl rfl ?_
    refine XS.iloadN X5.here hexec rfl (hb hbytes d34) rfl ?_
    refine XS.iloadN X5.here hexec rfl (hb hbytes d35) rfl ?_
    exact Steps.refl _)
  obtain ⟨v8, T8, X8, E8, g8⟩ := X5.callS hexec (Cmp3.law l b A o len) hown (wks W (staticW "java/lang/String" 177 Cmp3.yN)) (wk W Cmp3.tab) (W := 0) (Nat.le_of_ble_eq_true rfl) (Nat.le_of_ble_eq_true rfl) (Nat.le_refl _) (by show 0 + len ≤ len; omega) (g := (mkF m 36 #[.val (.ref a), .val (.ref b), .val (.int (Int32.ofNat o)), .val (.int (Int32.ofNat len)), .val .null, .unset] [.int (Int32.ofNat len), .int (Int32.ofNat o), .ref b])) rfl (by rw [hml]; rfl) c7 (argsL := [.ref b, .int (Int32.ofNat o), .int (Int32.ofNat len)]) (rest := []) rfl rfl (by show 2 * 0 + 0 ≤ _; decide) (hb hbytes d36) (⟨rfl, hA.mv X5.warmed.alike hh5, l1, l2, hp⟩)
  obtain ⟨e8, z8⟩ := E8
  obtain ⟨rfl, N, n1, n2, n3, n4, n5, n6⟩ := NewArr.mv _ T5 s _ _ hh5.symm (Vm.Alike.refl _) rfl e8
  rw [hh5] at z8
  have hB1 := hB.keep X8.warmed.alike (n6 _ _ hB.1)
  have hne : s.heap.size ≠ a := (Nat.ne_of_lt (Array.getElem?_eq_some_iff.mp hB.1).1).symm
  have c9 : Steps p.tables e below (s₁.setTop (entryFrame m #[.ref a, .ref b, .int (Int32.ofNat o), .int (Int32.ofNat len), .null] 6)) (T8.setTop (mkF m 39 #[.val (.ref a), .val (.ref b), .val (.int (Int32.ofNat o)), .val (.int (Int32.ofNat len)), .val .null, .unset] [.ref s.heap.size])) := g8
  have c10 : Steps p.tables e below (s₁.setTop (entryFrame m #[.ref a, .ref b, .int (Int32.ofNat o), .int (Int32.ofNat len), .null] 6)) (T8.setTop (mkF m 45 #[.val (.ref a), .val (.ref b), .val (.int (Int32.ofNat o)), .val (.int (Int32.ofNat len)), .val .null, .val (.ref s.heap.size)] [.int (Int32.ofNat N.slots.size), .ref s.heap.size, .ref a])) := by
    have hc : Steps p.tables e below (s₁.setTop (entryFrame m #[.ref a, .ref b, .int (Int32.ofNat o), .int (Int32.ofNat len), .null] 6)) (T8.setTop (mkF m 45 #[.val (.ref a), .val (.ref b), .val (.int (Int32.ofNat o)), .val (.int (Int32.ofNat len)), .val .null, .val (.ref s.heap.size)] [.int (Int32.ofNat len), .ref s.heap.size, .ref a])) := c9.trans (by
      refine XS.astore X8.here hexec rfl (hb hbytes d39) rfl rfl rfl ?_
      refine XS.aloadN X8.here hexec rfl (hb hbytes d41) rfl rfl ?_
      refine XS.aload X8.here hexec rfl (hb hbytes d42) rfl rfl ?_
      refine XS.iloadN X8.here hexec rfl (hb hbytes d44) rfl ?_
      exact Steps.refl _)
    rw [n4]; exact hc
  obtain ⟨v11, T11, X11, E11, g11⟩ := X8.callS hexec (CodL.law l s.heap.size N) hown (wks W (staticW "java/lang/String" 47 CodL.yN)) (wk W CodL.tab) (W := 1) (Nat.le_of_ble_eq_true rfl) (Nat.le_of_ble_eq_true rfl) (Nat.le_refl _) (by show 0 + len + 0 ≤ len; omega) (g := (mkF m 45 #[.val (.ref a), .val (.ref b), .val (.int (Int32.ofNat o)), .val (.int (Int32.ofNat len)), .val .null, .val (.ref s.heap.size)] [.int (Int32.ofNat N.slots.size), .ref s.heap.size, .ref a])) rfl (by rw [hml]; rfl) c10 (argsL := [.ref s.heap.size, .int (Int32.ofNat N.slots.size)]) (rest := [.ref a]) rfl rfl (by show 2 * 0 + (1 + 0) ≤ _; decide) (hb hbytes d45) (⟨rfl, n1⟩)
  obtain ⟨rfl, q11⟩ := E11
  have hB11 := hB1.mv (X8.warmed.alike.symm.trans X11.warmed.alike) q11
  have c12 : Steps p.tables e below (s₁.setTop (entryFrame m #[.ref a, .ref b, .int (Int32.ofNat o), .int (Int32.ofNat len), .null] 6)) (T11.setTop (mkF m 48 #[.val (.ref a), .val (.ref b), .val (.int (Int32.ofNat o)), .val (.int (Int32.ofNat len)), .val .null, .val (.ref s.heap.size)] [.int 0, .ref a])) := g11
  obtain ⟨T13, X13, p13, bl13, sl13, st13⟩ := X11.finit hexec hown (wk W (.fieldLink "java/lang/String" 15 "java/lang/String" "coder" "B")) (Or.inr ⟨_, (wk W (.laysFinal "java/lang/String" "java/lang/String" "coder" "B"))⟩) (Or.inl ⟨rfl, hnm⟩) f2 (Or.inl rfl) hB11 (t := .byte) (by decide +kernel) rfl (g := (mkF m 48 #[.val (.ref a), .val (.ref b), .val (.int (Int32.ofNat o)), .val (.int (Int32.ofNat len)), .val .null, .val (.ref s.heap.size)] [.int 0, .ref a])) rfl (rest := []) rfl (hb hbytes d48)
  have c14 : Steps p.tables e below (s₁.setTop (entryFrame m #[.ref a, .ref b, .int (Int32.ofNat o), .int (Int32.ofNat len), .null] 6)) (T13.setTop (mkF m 54 #[.val (.ref a), .val (.ref b), .val (.int (Int32.ofNat o)), .val (.int (Int32.ofNat len)), .val .null, .val (.ref s.heap.size)] [.ref s.heap.size, .ref a])) := (c12.trans (st13 _ (Steps.refl _))).trans (by
    refine XS.aloadN X13.here hexec rfl (hb hbytes d51) rfl rfl ?_
    refine XS.aload X13.here hexec rfl (hb hbytes d52) rfl rfl ?_
    exact Steps.refl _)
  obtain ⟨T15, X15, p15, bl15, sl15, st15⟩ := X13.finit hexec hown (wk W (.fieldLink "java/lang/String" 9 "java/lang/String" "value" "[B")) (Or.inr ⟨_, (wk W (.laysFinal "java/lang/String" "java/lang/String" "value" "[B"))⟩) (Or.inl ⟨rfl, hnm⟩) f1 (Or.inl rfl) bl13 (t := (.array .byte)) (by decide +kernel) rfl (g := (mkF m 54 #[.val (.ref a), .val (.ref b), .val (.int (Int32.ofNat o)), .val (.int (Int32.ofNat len)), .val .null, .val (.ref s.heap.size)] [.ref s.heap.size, .ref a])) rfl (rest := []) rfl (hb hbytes d54)
  have c16 : Steps p.tables e below (s₁.setTop (entryFrame m #[.ref a, .ref b, .int (Int32.ofNat o), .int (Int32.ofNat len), .null] 6)) (T15.setTop (mkF m 57 #[.val (.ref a), .val (.ref b), .val (.int (Int32.ofNat o)), .val (.int (Int32.ofNat len)), .val .null, .val (.ref s.heap.size)] [])) := c14.trans (st15 _ (Steps.refl _))
  have ap := apart (Or.inr ⟨_, (wk W (.laysFinal "java/lang/String" "java/lang/String" "value" "[B"))⟩) (Or.inr ⟨_, (wk W (.laysFinal "java/lang/String" "java/lang/String" "coder" "B"))⟩) f1 f2 (t₁ := .array .byte) (t₂ := .byte) (by decide +kernel) (by decide +kernel) (by decide)
  have al := X8.warmed.alike.symm.trans X15.warmed.alike
  have n7 : T11.heap[s.heap.size]? = some N := by rw [q11]; exact n1.1
  exact ⟨T15, none, _, _, _, X15, by simp, rfl, by omega, (fun _ => rfl), ⟨rfl, _, N, bl15, ((Same.refl D _).set _ (by simp)).set _ (by simp), sl15, (Cell.slots_setSlot_ne _ ap).trans sl13, n1.keep al (p15.other hne (p13.other hne n7)), n2, by rw [al.findClass]; exact n3, n4, n5, fun y c h1 h2 => p15.other h1 (p13.other h1 (by rw [q11]; exact n6 y c h2)), by rw [p15.2.2, p13.2.2, q11]; exact z8⟩, fun fs hl => c16.trans (X15.returnOut hexec hret (hb hbytes d57) hl)⟩
end New4
namespace New1
def yN : MethodName := ⟨"java/lang/String", "<init>", "([C)V"⟩
abbrev yB : ByteArray := jdk_42_method_3_code
theorem d0 : decode yB 0 = .ok (.aload_n 0, 1) := by decide +kernel
theorem d1 : decode yB 1 = .ok (.aload_n 1, 1) := by decide +kernel
theorem d2 : decode yB 2 = .ok (.iconst 0, 1) := by decide +kernel
theorem d3 : decode yB 3 = .ok (.aload_n 1, 1) := by decide +kernel
theorem d4 : decode yB 4 = .ok (.arraylength, 1) := by decide +kernel
theorem d5 : decode yB 5 = .ok (.aconst_null, 1) := by decide +kernel
theorem d6 : decode yB 6 = .ok (.invokespecial 27, 3) := by decide +kernel
theorem d9 : decode yB 9 = .ok (.return_, 1) := by decide +kernel
def site : List Cond := [New4.tab] ++ initW "java/lang/String" 27 New4.yN
def tab : Cond := tabOf yN yB 2 none site
def P (a : Addr) (D : Cell) (fV fC : Field) (b : Addr) (A : Cell) (z : Int32) (args : Array Value) (s : State) : Prop := args = #[.ref a, .ref b] ∧ Blank "java/lang/String" a D s ∧ Found "java/lang/String" "value" "[B" fV s ∧ Found "java/lang/String" "coder" "B" fC s ∧ Ch b A s ∧ StaticIs s "java/lang/String" "COMPACT_STRINGS" "Z" (.int z) ∧ ¬ z = 0 ∧ 0 < A.slots.size ∧ A.slots.size ≤ 536870912 ∧ ∀ i, i < A.slots.size → ¬ 255 < cv A i
def E (a : Addr) (D : Cell) (fV fC : Field) (A : Cell) (r : Option Value) (s u : State) : Prop := Got a D fV fC A 0 A.slots.size r s u
/-- new String(chars), not empty, no char above 255: a Latin-1 String of their low bytes -/
theorem law (l : Launch) (a : Addr) (D : Cell) (fV fC : Field) (b : Addr) (A : Cell) (z : Int32) : Law l yN 2 1 3 52 yB 2 none site (P a D fV fC b A z) (E a D fV fC A) [⟨a, fC.slot⟩, ⟨a, fV.slot⟩] 1 A.slots.size := by
  refine Law.of_walk (plainFor_of_name (by decide +kernel)) (by decide +kernel) (by decide +kernel) (by decide) (fun _ _ h => by rw [h.1]; rfl) (fun _ U U' hal hh h => ⟨h.1, h.2.1.mv hal hh, h.2.2.1.al hal, h.2.2.2.1.al hal, h.2.2.2.2.1.mv hal hh, h.2.2.2.2.2.1.there hal hh, h.2.2.2.2.2.2⟩) (fun r U U' V V' h1 hal h2 h => Got.mv r U U' V V' h1 hal h2 h) ?_
  intro p e s m args below meth c s₁ X0 hexec hbytes hml hret hlk hnm hown hh0 W hP
  obtain ⟨rfl, hB, f1, f2, hA, s1, hz, l0, l2, hp⟩ := hP
  have c1 : Steps p.tables e below (s₁.setTop (entryFrame m #[.ref a, .ref b] 2)) (s₁.setTop (mkF m 0 #[.val (.ref a), .val (.ref b)] [])) := entry rfl
  have c2 : Steps p.tables e below (s₁.setTop (entryFrame m #[.ref a, .ref b] 2)) (s₁.setTop (mkF m 6 #[.val (.ref a), .val (.ref b)] [.null, .int (Int32.ofNat A.slots.size), .int 0, .ref b, .ref a])) := c1.trans (by
    refine XS.aloadN X0.here hexec rfl (hb hbytes d0) rfl rfl ?_
    refine XS.aloadN X0.here hexec rfl (hb hbytes d1) rfl rfl ?_
    refine iconstV X0.here hexec rfl 0 (hb hbytes d2) (by decide) ?_
    refine XS.aloadN X0.here hexec rfl (hb hbytes d3) rfl rfl ?_
    refine X0.alen hexec (hA.1.mv X0.warmed.alike hh0) rfl rfl (hb hbytes d4) ?_
    refine XS.aconstNull X0.here hexec rfl (hb hbytes d5) ?_
    exact Steps.refl _)
  obtain ⟨v3, T3, X3, E3, g3⟩ := X0.callN hexec (New4.law l a D fV fC b A z 0 A.slots.size) rfl hown (wks W (initW "java/lang/String" 27 New4.yN)) (W New4.tab (by simp only [site, List.mem_cons, List.mem_append, true_or, or_true])) (W := 0) (Nat.le_of_ble_eq_true rfl) (Nat.le_of_ble_eq_true rfl) (Nat.le_refl _) (by show 0 + A.slots.size ≤ A.slots.size; omega) (g := (mkF m 6 #[.val (.ref a), .val (.ref b)] [.null, .int (Int32.ofNat A.slots.size), .int (Int32.ofNat 0), .ref b, .ref a])) rfl (by rw [hml]; rfl) c2 (argsL := [.ref b, .int (Int32.ofNat 0), .int (Int32.ofNat A.slots.size), .null]) (rest := []) rfl rfl (by show 2 * 0 + 0 ≤ _; decide) (hb hbytes d6) (⟨rfl, hB.mv X0.warmed.alike hh0, f1.al X0.warmed.alike, f2.al X0.warmed.alike, hA.mv X0.warmed.alike hh0, s1.there X0.warmed.alike hh0, hz, l0, by omega, l2, fun i hi => by rw [Nat.zero_add]; exact hp i hi⟩)
  have e0 := Got.mv _ s₁ s _ _ hh0.symm (Vm.Alike.refl _) rfl E3
  obtain rfl := e0.1
  have c4 : Steps p.tables e below (s₁.setTop (entryFrame m #[.ref a, .ref b] 2)) (T3.setTop (mkF m 9 #[.val (.ref a), .val (.ref b)] [])) := g3
  exact ⟨T3, none, _, _, _, X3, by simp, rfl, by omega, (fun _ => rfl), e0, fun fs hl => c4.trans (X3.returnOut hexec hret (hb hbytes d9) hl)⟩
theorem pays {l : Launch} {R : Room} {p : Program} {e : Env} {below : List Frame} {s : State} {sargs : Array Value} {len W : Nat} (a : Addr) (D : Cell) (fV fC : Field) (b : Addr) (A : Cell) (z : Int32) (htab : tab.before sargs s = true) (hfr : 4 ≤ R.frames) (hlo : W + 65 ≤ R.locals) :
    Back l R p e below s sargs yN len W (fun A₁ a₁ => A₁.cells + 1 ≤ R.cells ∧ A₁.slots + A.slots.size ≤ R.slots ∧ P a D fV fC b A z a₁ A₁.U) (fun A₁ _ v₁ B₁ => E a D fV fC A v₁ A₁.U B₁.U ∧ B₁.locs = A₁.locs ++ [⟨a, fC.slot⟩, ⟨a, fV.slot⟩] ∧ B₁.cells = A₁.cells + 1 ∧ B₁.slots = A₁.slots + A.slots.size) :=
  (law l a D fV fC b A z).pays htab hfr (by omega)
end New1
/-- the byte, read back as charAt reads it, is the char -/
theorem lo8_mask {x : Int32} (h0 : ¬ x < 0) (h1 : ¬ 255 < x) : lo8 x &&& 255 = x := by
  have t : ∀ k : Fin 256, lo8 (Int32.ofNat k.val) &&& 255 = Int32.ofNat k.val := by decide +kernel
  rw [Int32.lt_iff_toInt_lt] at h0 h1
  have e0 : (0 : Int32).toInt = 0 := rfl
  have e1 : (255 : Int32).toInt = 255 := rfl
  obtain ⟨k, hk⟩ : ∃ k : Nat, x.toInt = k := ⟨x.toInt.toNat, by omega⟩
  have hx : x = Int32.ofNat k := Int32.toInt_inj.mp (by rw [hk, Int32.toInt_ofNat_small (by omega)])
  rw [hx]
  exact t ⟨k, by omega⟩
end StrChars
namespace StrChars.Road
open Jvm Sem ClassFile Op Lib Jvm.Stand Jvm.Free Jvm.Free.XT
open Jvm.Lib.Cold (StaticIs)
abbrev ST : String := "java/lang/String"
/-- every table word that New1's law asks, flat -/
abbrev words : List Jvm.Cond := [.code New1.yN New1.yB 2 none, .initialized ST, .methodLink ST 27 New4.yN, .instanceMethod New4.yN,
  .code New4.yN New4.yB 6 none, .fieldLink ST 38 ST "COMPACT_STRINGS" "Z", .laysFinal ST ST "value" "[B", .fieldLink ST 9 ST "value" "[B", .laysFinal ST ST "coder" "B", .fieldLink ST 15 ST "coder" "B",
  .methodLink ST 1 Lib.objectInit, .instanceMethod Lib.objectInit, .code Lib.objectInit ⟨#[0xb1]⟩ 1 none, .methodLink ST 177 Cmp3.yN, .static Cmp3.yN, .methodLink ST 47 CodL.yN, .static CodL.yN,
  .code Cmp3.yN Cmp3.yB 6 (some (.array .byte)), .initialized U16, .arrayClass .byte, .methodLink U16 115 Cmp5.yN, .static Cmp5.yN, .code Cmp5.yN Cmp5.yB 7 (some .int), .code CodL.yN CodL.yB 2 (some .byte)]
theorem tab_of {a : Array Value} {s : State} (h : ∀ w ∈ words, w.before a s = true) : New1.tab.before a s = true := by
  have h5 : Cmp5.tab.before a s = true := unparts (wk h (.code Cmp5.yN Cmp5.yB 7 (some .int))) (wks h (.initialized Cmp5.yN.cls :: Cmp5.site))
  have hc : CodL.tab.before a s = true := unparts (wk h (.code CodL.yN CodL.yB 2 (some .byte))) (wks h (.initialized CodL.yN.cls :: CodL.site))
  have q5 : ∀ w ∈ Cmp5.tab :: words, w.before a s = true := fun w hw => (List.mem_cons.mp hw).elim (fun e => e ▸ h5) (h w)
  have h3 : Cmp3.tab.before a s = true := unparts (wk q5 (.code Cmp3.yN Cmp3.yB 6 (some (.array .byte)))) (wks q5 (.initialized Cmp3.yN.cls :: Cmp3.site))
  have q3 : ∀ w ∈ Cmp3.tab :: CodL.tab :: words, w.before a s = true := fun w hw => (List.mem_cons.mp hw).elim (fun e => e ▸ h3) fun hw => (List.mem_cons.mp hw).elim (fun e => e ▸ hc) (h w)
  have h4 : New4.tab.before a s = true := unparts (wk q3 (.code New4.yN New4.yB 6 none)) (wks q3 (.initialized New4.yN.cls :: New4.site))
  have q4 : ∀ w ∈ New4.tab :: words, w.before a s = true := fun w hw => (List.mem_cons.mp hw).elim (fun e => e ▸ h4) (h w)
  exact unparts (wk q4 (.code New1.yN New1.yB 2 none)) (wks q4 (.initialized New1.yN.cls :: New1.site))
/-- the words ride from the start Z to the walk's own state -/
theorem moved {Z s : State} {a0 args : Array Value} (hZ : Z.Warmed39 s.vm) (hw : ∀ d ∈ words, d.before a0 Z = true) : ∀ d ∈ words, d.before args s = true := fun d hd => by
  have q := hw d hd
  have t : ∀ d ∈ words, d = .arrayClass .byte ∨ (d.onTables && d.keepsFace) = true := by decide +kernel
  rcases t d hd with rfl | t
  · exact RoadKit.mvA hZ q
  · exact RoadKit.mv hZ q t
/-- WHAT COMES BACK, over the tables of the start Z: h the heap at the call, h' behind it -/
def Q (Z : State) (x : Addr) (A : Cell) (h : Heap) (v : Option Value) (h' : Heap) (L : List Loc) : Prop := v = none ∧ (∀ y ∈ L, y.base = x) ∧ RoadKit.Keep h h' [x] ∧ h'.size = h.size + 1 ∧ RoadKit.Exa Z h' x ST ∧ RoadKit.Fld Z h' x ST "value" "[B" (.ref h.size) ∧ RoadKit.Fld Z h' x ST "coder" "B" (.int 0) ∧
  (∃ V : Cell, RoadKit.Arr Z h' h.size V .byte ∧ V.vm = .none ∧ Z.vm.findClass "[B" = some V.cls ∧ V.slots.size = A.slots.size ∧ ∀ j, j < A.slots.size → V.slots[j]? = some (.int (lo8 (cv A j)))) ∧
  ∀ (O n d : String) (w : Value), RoadKit.Fld Z h x O n d w → RoadKit.slotOf Z O n d ≠ RoadKit.slotOf Z ST "value" "[B" → RoadKit.slotOf Z O n d ≠ RoadKit.slotOf Z ST "coder" "B" → RoadKit.Fld Z h' x O n d w
/-- **new String(chars) AT A CALL, IN THE ROAD'S FORM**: for specialBack behind newO: x the fresh String, b the char[] with the cell A -/
theorem back {p : Program} {l : Launch} {e : Env} {R : Room} {s : State} {args : Array Value} {below : List Frame} {len W : Nat} {Z : State} {a0 : Array Value} {h : Heap} (hZ : Z.Warmed39 s.vm) (hw : ∀ d ∈ words, d.before a0 Z = true) {kI : Nat} (wi : (Jvm.Cond.instantiable ST kI).before a0 Z = true)
    {x b : Addr} {A : Cell} {z : Int32} {v0 c0 : Value} (E : RoadKit.Exa Z h x ST) (V : RoadKit.Fld Z h x ST "value" "[B" v0) (C : RoadKit.Fld Z h x ST "coder" "B" c0) (K : RoadKit.Arr Z h b A .char) (hty : Typed .char A) (S : RoadKit.Sta Z h ST "COMPACT_STRINGS" "Z" (.int z)) (hz : ¬ z = 0)
    (l0 : 0 < A.slots.size) (l2 : A.slots.size ≤ 536870912) (hp : ∀ i, i < A.slots.size → ¬ 255 < cv A i) (hfr : 4 ≤ R.frames) (hlo : W + 65 ≤ R.locals) :
    Back l R p e below s args New1.yN len W (fun P a => a = #[.ref x, .ref b] ∧ P.U.heap = h ∧ P.cells + 1 ≤ R.cells ∧ P.slots + A.slots.size ≤ R.slots)
      (fun P _ v B => ∃ L, Q Z x A h v B.U.heap L ∧ B.locs = P.locs ++ L ∧ B.cells = P.cells + 1 ∧ B.slots = P.slots + A.slots.size) := by
  intro m meth c P g ig mk a X hg hsize hdg hW hn hp'
  obtain ⟨rfl, rfl, r1, r2⟩ := hp'
  have al : Z.vm.Alike P.U.vm := hZ.alike.trans X.warmed.alike
  obtain ⟨D, cfV, kV, iV, fV, hD, gV, stV, knV, obV, asV, slV⟩ := id V
  obtain ⟨D', cfC, kC, iC, fC, hD', gC, stC, -, -, asC, slC⟩ := id C
  cases hD.symm.trans hD'
  obtain ⟨D2, kD, e1, e2, e3, e4, e5⟩ := id E
  cases hD.symm.trans e1
  obtain ⟨c2, k2, i1, i2, i3, -⟩ := Cond.instantiable_spec wi
  cases e2.symm.trans i1
  cases e3.symm.trans i2
  obtain ⟨kU, u1, u2⟩ := al.2.2 _ _ e3
  have hB : Blank ST x D P.U := ⟨hD, ⟨knV, fun q hq => by rw [hq] at obV; cases obV⟩, by rw [al.findClass]; exact e2, kU, u1, by rw [u2]; exact i3, by rw [u2]; exact e5 i3⟩
  have F1 : Found ST "value" "[B" fV P.U := ⟨SBG.found_only al ⟨cfV, kV, iV, gV⟩, stV⟩
  have F2 : Found ST "coder" "B" fC P.U := ⟨SBG.found_only al ⟨cfC, kC, iC, gC⟩, stC⟩
  have hA : Ch b A P.U := ⟨⟨K.1, State.isArrayOf_alike al K.2.1, K.2.2, by omega⟩, hty⟩
  have hS : StaticIs P.U ST "COMPACT_STRINGS" "Z" (.int z) := by
    obtain ⟨cfS, iS, kS, fS, st, cS, t1, t2, t3, t4, t5, t6, t7⟩ := S
    exact StaticIs.there (s := { Z with heap := P.U.heap }) ⟨cfS, iS, kS, fS, st, cS, t1, t2, t3, t4, t5, (fun q => by rw [q] at t6; cases t6), t7⟩ al rfl
  obtain ⟨v, B, X', ⟨⟨hv, E', V', q1, q2, q3, q4, q5, q6, q7, q8, q9, q10, q11⟩, hl, hc, hs⟩, st⟩ := New1.pays x D fV fC b A z (tab_of (moved hZ hw)) hfr hlo m meth c P g ig mk _ X hg hsize hdg hW hn ⟨r1, r2, rfl, hB, F1, F2, hA, hS, hz, l0, l2, hp⟩
  have al' : Z.vm.Alike B.U.vm := hZ.alike.trans X'.warmed.alike
  have hsz : E'.slots.size = D.slots.size := by
    obtain ⟨-, -, -, kB, w1, w2, w3⟩ := q1
    obtain ⟨kB', y1, y2⟩ := al'.2.2 _ _ e3
    rw [q2.2.1] at w1
    cases w1.symm.trans y1
    rw [w3, e5 i3, y2]
  refine ⟨v, B, X', ⟨_, ⟨hv, ?_, ⟨by omega, fun y cy hy hn' => q10 y cy (by simpa using hn') hy, fun y cy hy => ?_⟩, q11, ⟨E', _, q1.1, by rw [q2.2.1]; exact e2, by rw [q2.2.1]; exact e3, by rw [q2.1]; exact obV, fun _ => by rw [hsz]; exact e5 i3⟩,
    ⟨E', cfV, kV, iV, fV, q1.1, gV, stV, by rw [q2.1]; exact knV, by rw [q2.1]; exact obV, by rw [q2.2.1]; exact asV, q3⟩, ⟨E', cfC, kC, iC, fC, q1.1, gC, stC, by rw [q2.1]; exact knV, by rw [q2.1]; exact obV, by rw [q2.2.1]; exact asC, q4⟩,
    ⟨V', ⟨q5.1, State.isArrayOf_alike al'.symm q5.2.1, q5.2.2.1⟩, q6, by rw [← al'.findClass]; exact q7, q8, fun j hj => by have := q9 j hj; rwa [Nat.zero_add] at this⟩, fun O n d w F n1 n2 => ?_⟩, hl, hc, hs⟩, st⟩
  · intro y hy
    simp only [List.mem_cons, List.not_mem_nil, or_false] at hy
    rcases hy with rfl | rfl <;> rfl
  · by_cases q : y = x
    · subst q
      cases hD.symm.trans hy
      exact ⟨E', q1.1, q2.2.1, q2.1, hsz⟩
    · exact ⟨cy, q10 y cy q hy, rfl, rfl, rfl⟩
  · obtain ⟨D3, cf, k, i, f, g1, g2, g3, g4, g5, g6, g7⟩ := F
    cases hD.symm.trans g1
    simp only [RoadKit.slotOf, g2, gV, gC, Option.map_some, Option.getD_some] at n1 n2
    exact ⟨E', cf, k, i, f, q1.1, g2, g3, by rw [q2.1]; exact g4, by rw [q2.1]; exact g5, by rw [q2.2.1]; exact g6, by rw [q2.2.2 f.slot (by simp [n1, n2])]; exact g7⟩
end StrChars.Road
namespace StrChars.Road
open Jvm Sem ClassFile Op Lib Jvm.Stand Jvm.Free Jvm.Free.XT
/-- WHAT COMES BACK, the byte[] as a list of values -/
def QA (Z : State) (x : Addr) (zn : Int32) (cs : List Int32) (h : Heap) (v : Option Value) (h' : Heap) (L : List Loc) : Prop := v = none ∧ (∀ y ∈ L, y.base = x) ∧ RoadKit.Keep h h' [x] ∧ h'.size = h.size + 1 ∧ RoadKit.Exa Z h' x ST ∧ RoadKit.Fld Z h' x ST "value" "[B" (.ref h.size) ∧ RoadKit.Fld Z h' x ST "coder" "B" (.int 0) ∧
  (∃ kb, Z.vm.findClass "[B" = some kb ∧ RoadKit.Arv Z h' h.size kb .byte zn (cs.map fun c => .int (lo8 c)) (.int 0)) ∧
  ∀ (O n d : String) (w : Value), RoadKit.Fld Z h x O n d w → RoadKit.slotOf Z O n d ≠ RoadKit.slotOf Z ST "value" "[B" → RoadKit.slotOf Z O n d ≠ RoadKit.slotOf Z ST "coder" "B" → RoadKit.Fld Z h' x O n d w
/-- **new String(chars) AT A CALL, THE ARRAYS AS LISTS**: the char[] at b holds cs, not empty, no char above 255 -/
theorem backArv {p : Program} {l : Launch} {e : Env} {R : Room} {s : State} {args : Array Value} {below : List Frame} {len W : Nat} {Z : State} {a0 : Array Value} {h : Heap} (hZ : Z.Warmed39 s.vm) (hw : ∀ d ∈ words, d.before a0 Z = true) {kI : Nat} (wi : (Jvm.Cond.instantiable ST kI).before a0 Z = true)
    {x b : Addr} {k : ClassId} {zn z : Int32} {cs : List Int32} {dv v0 c0 : Value} (E : RoadKit.Exa Z h x ST) (V : RoadKit.Fld Z h x ST "value" "[B" v0) (C : RoadKit.Fld Z h x ST "coder" "B" c0) (K : RoadKit.Arv Z h b k .char zn (cs.map Value.int) dv) (S : RoadKit.Sta Z h ST "COMPACT_STRINGS" "Z" (.int z)) (hz : ¬ z = 0)
    (hlen : zn.toNatClampNeg = cs.length) (h0 : 0 < cs.length) (hbig : cs.length ≤ 536870912) (hall : ∀ c ∈ cs, ¬ 255 < c) (hfr : 4 ≤ R.frames) (hlo : W + 65 ≤ R.locals) :
    Back l R p e below s args New1.yN len W (fun P a => a = #[.ref x, .ref b] ∧ P.U.heap = h ∧ P.cells + 1 ≤ R.cells ∧ P.slots + cs.length ≤ R.slots)
      (fun P _ v B => ∃ L, QA Z x zn cs h v B.U.heap L ∧ B.locs = P.locs ++ L ∧ B.cells = P.cells + 1 ∧ B.slots = P.slots + cs.length) := by
  obtain ⟨A, K1, K2, K3, K4, K5, K6⟩ := K
  have e : A.slots.size = cs.length := K3.trans hlen
  have hat : ∀ (i : Nat) (hi : i < cs.length), A.slots[i]? = some (.int cs[i]) := fun i hi => by rw [K5 i (by omega)]; simp [List.getD_eq_getElem?_getD, hi]
  have hcv : ∀ (i : Nat) (hi : i < cs.length), cv A i = cs[i] := fun i hi => by unfold cv; rw [hat i hi]
  have hty : Typed .char A := fun i v hv => by
    have hi : i < A.slots.size := (Array.getElem?_eq_some_iff.mp hv).1
    have q := K5 i hi
    rw [hv] at q
    rw [Option.some.inj q]
    exact K6 i hi
  refine Back.mono (back hZ hw wi E V C K1 hty S hz (by omega) (by omega) (fun i hi => by rw [hcv i (by omega)]; exact hall _ (List.getElem_mem _)) hfr hlo) (fun P a hp => ⟨hp.1, hp.2.1, hp.2.2.1, by rw [e]; exact hp.2.2.2⟩) (fun P a v B hp hq => ?_)
  obtain ⟨L, ⟨q1, q2, q3, q4, q5, q6, q7, ⟨V', v1, v2, v3, v4, v5⟩, q9⟩, hl, hc, hs⟩ := hq
  refine ⟨L, ⟨q1, q2, q3, q4, q5, q6, q7, ⟨V'.cls, v3, V', v1, rfl, by rw [v4, e, hlen], K4, fun i hi => ?_, fun i hi => ?_⟩, q9⟩, hl, hc, by rw [hs, e]⟩
  · have hi' : i < cs.length := by omega
    rw [v5 i (by omega), hcv i hi']; simp [List.getD_eq_getElem?_getD, hi']
  · have hi' : i < cs.length := by omega
    simp only [List.getD_eq_getElem?_getD, List.getElem?_map, List.getElem?_eq_getElem hi', Option.map_some, Option.getD_some]
    exact fits_lo8 _
end StrChars.Road
namespace StrChars.Road
open Jvm Sem ClassFile Op Lib Jvm.Stand Jvm.Free Jvm.Free.XT
/-- WHAT COMES BACK, in the writer's own shape -/
def QV (Z : State) (x : Addr) (N : Int32) (bs : List Int32) (h : Heap) (n0 : Nat) (v : Option Value) (h' : Heap) (L : List Loc) : Prop := v = none ∧ RoadKit.Fr n0 L ∧ RoadKit.Keep h h' [x] ∧ RoadKit.Exa Z h' x ST ∧ RoadKit.Fld Z h' x ST "coder" "B" (.int 0) ∧
  ∃ (t : Addr) (kb : ClassId), n0 ≤ t ∧ h.size ≤ t ∧ ¬ t = x ∧ RoadKit.Fld Z h' x ST "value" "[B" (.ref t) ∧ RoadKit.Arv Z h' t kb .byte N (bs.map Value.int) (.int 0)
/-- **new String(chars) AT A CALL, FOR THE WRITER**: a char[] of n known ints, each 0 to 255 -/
theorem backV {p : Program} {l : Launch} {e : Env} {R : Room} {s : State} {args : Array Value} {below : List Frame} {len W : Nat} {Z : State} {a0 : Array Value} {h : Heap} (hZ : Z.Warmed39 s.vm) (hw : ∀ d ∈ words, d.before a0 Z = true) {kI : Nat} (wi : (Jvm.Cond.instantiable ST kI).before a0 Z = true)
    {x b : Addr} {kC : ClassId} {cs bs : List Int32} {d v0 c0 : Value} {z N : Int32} {n n0 : Nat} (hx0 : n0 ≤ x) (hh0 : n0 ≤ h.size) (E : RoadKit.Exa Z h x ST) (V : RoadKit.Fld Z h x ST "value" "[B" v0) (C : RoadKit.Fld Z h x ST "coder" "B" c0) (K : RoadKit.Arv Z h b kC .char N (cs.map Value.int) d) (S : RoadKit.Sta Z h ST "COMPACT_STRINGS" "Z" (.int z)) (hz : ¬ z = 0)
    (hn : cs.length = n) (hN : N = Int32.ofNat n) (l0 : 0 < n) (l2 : n ≤ 4000) (hp : ∀ c ∈ cs, ¬ c < 0 ∧ ¬ (255 : Int32) < c) (hb : bs = cs.map (fun c => c.toInt8.toInt32)) (hfr : 4 ≤ R.frames) (hlo : W + 65 ≤ R.locals) :
    Back l R p e below s args (⟨"java/lang/String", "<init>", "([C)V"⟩ : MethodName) len W (fun P a => a = #[.ref x, .ref b] ∧ P.U.heap = h ∧ P.cells + 1 ≤ R.cells ∧ P.slots + n ≤ R.slots)
      (fun P _ v B => ∃ L, QV Z x N bs h n0 v B.U.heap L ∧ B.locs = P.locs ++ L ∧ B.cells = P.cells + 1 ∧ B.slots = P.slots + n) := by
  subst hn hN hb
  refine Back.mono (backArv hZ hw wi E V C K S hz (n32 (by omega)) l0 (by omega) (fun c hc => (hp c hc).2) hfr hlo) (fun P a hp => hp) (fun P a v B hp hq => ?_)
  obtain ⟨L, ⟨q1, q2, q3, q4, q5, q6, q7, ⟨kb, v1, v2⟩, q9⟩, hl, hc, hs⟩ := hq
  exact ⟨L, ⟨q1, fun y hy => by rw [q2 y hy]; exact hx0, q3, q5, q7, h.size, kb, hh0, Nat.le_refl _, Nat.ne_of_gt E.lt, q6, by rw [List.map_map]; exact v2⟩, hl, hc, hs⟩
end StrChars.Road
namespace StrChars
open Jvm Sem ClassFile Op Lib Jvm.Stand Jvm.Free.XT Jvm.Free.ALB Jvm.Free.JM Jvm.Free
open Jvm.Lib.Cold (StaticIs)
def hi8 (x : Int32) : Int32 := lo8 (x >>> ((8 : Int32) &&& 31))
/-- what StringUTF16.getChar makes of two bytes -/
def pairCh (u v : Int32) : Int32 := (((u &&& 255) <<< ((0 : Int32) &&& 31)) ||| ((v &&& 255) <<< ((8 : Int32) &&& 31))).toUInt32.toUInt16.toUInt32.toInt32
theorem shr0 (c : Int32) : c >>> ((0 : Int32) &&& 31) = c := by
  have e : ((0 : Int32) &&& 31) = 0 := by decide
  rw [e]
  apply Int32.toBitVec_inj.mp
  rw [Int32.toBitVec_shiftRight]
  have e1 : ((0 : Int32).toBitVec.smod 32) = 0#32 := by decide
  rw [e1, BitVec.sshiftRight_eq']
  exact BitVec.sshiftRight_zero
theorem lo8_and (x : Int32) : (lo8 x &&& 255).toBitVec.toNat = x.toBitVec.toNat % 256 := by
  have h : (lo8 x).toBitVec = (x.toBitVec.signExtend 8).signExtend 32 := by rw [lo8, Int8.toBitVec_toInt32, Int32.toBitVec_toInt8]
  rw [Int32.toBitVec_and, BitVec.toNat_and, h]
  have e : ((x.toBitVec.signExtend 8).signExtend 32).toNat % 256 = x.toBitVec.toNat % 256 := by
    rw [BitVec.toNat_signExtend]
    have hlt := x.toBitVec.isLt
    simp only [BitVec.toNat_setWidth, BitVec.toNat_signExtend]
    split <;> split <;> omega
  rw [← e]
  exact Nat.and_two_pow_sub_one_eq_mod _ 8
theorem pair_says {c : Int32} (h0 : ¬ c < 0) (h1 : ¬ 65535 < c) : pairCh (lo8 c) (hi8 c) = c := by
  rw [Int32.lt_iff_toInt_lt] at h0 h1
  have e0 : (0 : Int32).toInt = 0 := rfl
  have e1 : (65535 : Int32).toInt = 65535 := rfl
  have hc : c.toInt = c.toBitVec.toNat := by
    have := c.toBitVec.isLt
    have e : c.toInt = c.toBitVec.toInt := rfl
    rw [e] at h0 h1
    rw [e]
    rw [BitVec.toInt_eq_toNat_cond] at h0 h1 ⊢
    split at h0 <;> split <;> omega
  have hn : c.toBitVec.toNat < 65536 := by omega
  have a1 := lo8_and c
  have a2 : (hi8 c &&& 255).toBitVec.toNat = c.toBitVec.toNat / 256 := by
    rw [hi8, lo8_and]
    have e : ((8 : Int32) &&& 31) = 8 := by decide
    rw [e, Int32.toBitVec_shiftRight]
    have e2 : ((8 : Int32).toBitVec.smod 32) = 8#32 := by decide
    rw [e2, BitVec.sshiftRight_eq', BitVec.toNat_sshiftRight_of_msb_false (by rw [BitVec.msb_eq_false_iff_two_mul_lt]; omega)]
    show c.toBitVec.toNat >>> 8 % 256 = _
    rw [Nat.shiftRight_eq_div_pow]
    omega
  unfold pairCh
  apply Int32.toBitVec_inj.mp
  apply BitVec.eq_of_toNat_eq
  have f0 : ((0 : Int32) &&& 31) = 0 := by decide
  have f8 : ((8 : Int32) &&& 31) = 8 := by decide
  rw [f0, f8]
  have g : (((lo8 c &&& 255) <<< (0 : Int32)) ||| ((hi8 c &&& 255) <<< (8 : Int32))).toBitVec.toNat = c.toBitVec.toNat := by
    rw [Int32.toBitVec_or, Int32.toBitVec_shiftLeft, Int32.toBitVec_shiftLeft]
    have s0 : ((0 : Int32).toBitVec.smod 32) = 0#32 := by decide
    have s8 : ((8 : Int32).toBitVec.smod 32) = 8#32 := by decide
    rw [s0, s8, BitVec.toNat_or]
    simp only [BitVec.shiftLeft_eq', BitVec.toNat_shiftLeft, a1, a2]
    show (c.toBitVec.toNat % 256) <<< 0 % 2 ^ 32 ||| (c.toBitVec.toNat / 256) <<< 8 % 2 ^ 32 = _
    rw [Nat.shiftLeft_zero, Nat.mod_eq_of_lt (show c.toBitVec.toNat % 256 < 2 ^ 32 by omega), Nat.mod_eq_of_lt (show (c.toBitVec.toNat / 256) <<< 8 < 2 ^ 32 by rw [Nat.shiftLeft_eq]; omega), Nat.or_comm, ← Nat.shiftLeft_add_eq_or_of_lt (by omega), Nat.shiftLeft_eq]
    omega
  show BitVec.toNat (((((lo8 c &&& 255) <<< (0 : Int32)) ||| ((hi8 c &&& 255) <<< (8 : Int32))).toBitVec.setWidth 16).setWidth 32) = _
  rw [BitVec.toNat_setWidth, BitVec.toNat_setWidth, g]
  omega
end StrChars
namespace StrChars
open Jvm Sem ClassFile Op Lib Jvm.Stand Jvm.Free.XT Jvm.Free.ALB Jvm.Free.JM Jvm.Free
open Jvm.Lib.Cold (StaticIs)
theorem shr1 {n : Nat} (h : 2 * n < 2 ^ 31) : Int32.ofNat (2 * n) >>> ((1 : Int32) &&& 31) = Int32.ofNat n := by
  have e : ((1 : Int32) &&& 31) = 1 := by decide
  rw [e]
  apply Int32.toBitVec_inj.mp
  rw [Int32.toBitVec_shiftRight]
  have e1 : ((1 : Int32).toBitVec.smod 32) = 1#32 := by decide
  have hm : (BitVec.ofNat 32 (2 * n)).toNat = 2 * n := by rw [BitVec.toNat_ofNat, Nat.mod_eq_of_lt (by omega)]
  rw [e1, BitVec.sshiftRight_eq']
  apply BitVec.eq_of_toNat_eq
  show ((BitVec.ofNat 32 (2 * n)).sshiftRight 1).toNat = (BitVec.ofNat 32 n).toNat
  rw [BitVec.toNat_sshiftRight_of_msb_false (by rw [BitVec.msb_eq_false_iff_two_mul_lt, hm]; omega), hm, BitVec.toNat_ofNat, Nat.shiftRight_eq_div_pow]
  omega
/-- the array's cell V codes the n chars f 0 .. f (n - 1) by the coder cd, as the JDK does: coder 1 just where some char is above 255 -/
def Cod (cd : Int32) (n : Nat) (f : Nat → Int32) (V : Cell) : Prop := (cd = 0 ∧ V.slots.size = n ∧ ∀ j, j < n → V.slots[j]? = some (.int (lo8 (f j))) ∧ ¬ 255 < f j) ∨ (cd = 1 ∧ V.slots.size = 2 * n ∧ (∀ j, j < n → V.slots[2 * j]? = some (.int (lo8 (f j))) ∧ V.slots[2 * j + 1]? = some (.int (hi8 (f j)))) ∧ ∃ j, j < n ∧ 255 < f j)
theorem Cod.cd {cd : Int32} {n : Nat} {f : Nat → Int32} {V : Cell} (h : Cod cd n f V) : cd = 0 ∨ cd = 1 := h.imp (fun q => q.1) fun q => q.1
theorem Cod.len {cd : Int32} {n : Nat} {f : Nat → Int32} {V : Cell} (h : Cod cd n f V) (hs : V.slots.size < 2 ^ 31) : Int32.ofNat V.slots.size >>> (cd &&& 31) = Int32.ofNat n := by
  rcases h with ⟨rfl, h, -⟩ | ⟨rfl, h, -⟩
  · rw [shr0, h]
  · rw [h, shr1 (by omega)]
/-- **x is a String of the n chars f 0 .. f (n - 1)**, Latin-1 or UTF-16; its array at t has the cell V -/
def Txt (x t : Addr) (V : Cell) (cd : Int32) (n : Nat) (f : Nat → Int32) (U : State) : Prop := Exact "java/lang/String" x U ∧ Has x "java/lang/String" "value" "[B" (.ref t) U ∧ Has x "java/lang/String" "coder" "B" (.int cd) U ∧ XT.Arr .byte t V U ∧ Cod cd n f V ∧ ∀ j, j < n → ¬ f j < 0 ∧ ¬ 65535 < f j
theorem Txt.mv {x t : Addr} {V : Cell} {cd : Int32} {n : Nat} {f : Nat → Int32} {U U' : State} (h : Txt x t V cd n f U) (hal : U.vm.Alike U'.vm) (hh : U'.heap = U.heap) : Txt x t V cd n f U' := ⟨h.1.mv hal hh, h.2.1.mv hal hh, h.2.2.1.mv hal hh, h.2.2.2.1.mv hal hh, h.2.2.2.2⟩
namespace Cdr
def yN : MethodName := ⟨"java/lang/String", "coder", "()B"⟩
abbrev yB : ByteArray := jdk_42_method_152_code
theorem d0 : decode yB 0 = .ok (.getstatic 38, 3) := by decide +kernel
theorem d3 : decode yB 3 = .ok (.ifCond (.eq) 10, 3) := by decide +kernel
theorem d6 : decode yB 6 = .ok (.aload_n 0, 1) := by decide +kernel
theorem d7 : decode yB 7 = .ok (.getfield 15, 3) := by decide +kernel
theorem d10 : decode yB 10 = .ok (.goto 4, 3) := by decide +kernel
theorem d14 : decode yB 14 = .ok (.ireturn, 1) := by decide +kernel
def site : List Cond := [.fieldLink "java/lang/String" 38 "java/lang/String" "COMPACT_STRINGS" "Z", .fieldLink "java/lang/String" 15 "java/lang/String" "coder" "B"]
def tab : Cond := tabOf yN yB 1 (some .byte) site
def P (x : Addr) (cd z : Int32) (args : Array Value) (s : State) : Prop := args = #[.ref x] ∧ Has x "java/lang/String" "coder" "B" (.int cd) s ∧ (cd = 0 ∨ cd = 1) ∧ StaticIs s "java/lang/String" "COMPACT_STRINGS" "Z" (.int z) ∧ ¬ z = 0
def E (cd : Int32) (r : Option Value) (s u : State) : Prop := XT.PureE (some (.int cd)) r s u
theorem law (l : Launch) (x : Addr) (cd z : Int32) : Law l yN 1 0 0 0 yB 1 (some .byte) site (P x cd z) (E cd) [] 0 0 := by
  refine Law.of_walk (plainFor_of_name (by decide +kernel)) (by decide +kernel) (by decide +kernel) (by decide) (fun _ _ h => by rw [h.1]; rfl) (fun _ U U' hal hh h => ⟨h.1, h.2.1.mv hal hh, h.2.2.1, h.2.2.2.1.there hal hh, h.2.2.2.2⟩) (fun r U U' V V' h1 hal h2 h => XT.PureE.mv r U U' V V' h1 hal h2 h) ?_
  intro p e s m args below meth c s₁ X0 hexec hbytes hml hret hlk hnm hown hh0 W hP
  obtain ⟨rfl, hx, hc, s1, hz⟩ := hP
  have c1 : Steps p.tables e below (s₁.setTop (entryFrame m #[.ref x] 1)) (s₁.setTop (mkF m 0 #[.val (.ref x)] [])) := entry rfl
  obtain ⟨T2, X2, q2, st2⟩ := X0.sget hexec hown (wk W (.fieldLink "java/lang/String" 38 "java/lang/String" "COMPACT_STRINGS" "Z")) s1 (fun _ _ h => by rw [hh0]; exact h) (g := (mkF m 0 #[.val (.ref x)] [])) rfl (hb hbytes d0)
  have hh2 := q2.trans hh0
  have c3 : Steps p.tables e below (s₁.setTop (entryFrame m #[.ref x] 1)) (T2.setTop (mkF m 7 #[.val (.ref x)] [.ref x])) := (c1.trans (st2 _ (Steps.refl _))).trans (by
    refine XS.ifNo X2.here hexec rfl (hb hbytes d3) rfl (i0_eq_f hz) ?_
    refine XS.aloadN X2.here hexec rfl (hb hbytes d6) rfl rfl ?_
    exact Steps.refl _)
  obtain ⟨T4, X4, q4, st4⟩ := X2.hget hexec hown (wk W (.fieldLink "java/lang/String" 15 "java/lang/String" "coder" "B")) (hx.mv X2.warmed.alike hh2) (g := (mkF m 7 #[.val (.ref x)] [.ref x])) rfl (rest := []) rfl (hb hbytes d7)
  have c5 : Steps p.tables e below (s₁.setTop (entryFrame m #[.ref x] 1)) (T4.setTop (mkF m 14 #[.val (.ref x)] [.int cd])) := (c3.trans (st4 _ (Steps.refl _))).trans (by
    refine XS.goto X4.here hexec rfl (pc0 := 10) rfl (hb hbytes d10) (by decide) rfl ?_
    exact Steps.refl _)
  exact ⟨T4, some (.int cd), _, _, _, X4, rfl, rfl, rfl, (fun h => by cases h), ⟨rfl, q4.trans hh2⟩, fun fs hl => c5.trans (X4.ireturnOut hexec hret (by rcases hc with rfl | rfl <;> rfl) (Or.inr (Or.inr (Or.inl rfl))) (hb hbytes d14) hl)⟩
end Cdr
namespace Len
def yN : MethodName := ⟨"java/lang/String", "length", "()I"⟩
abbrev yB : ByteArray := jdk_42_method_54_code
theorem d0 : decode yB 0 = .ok (.aload_n 0, 1) := by decide +kernel
theorem d1 : decode yB 1 = .ok (.getfield 9, 3) := by decide +kernel
theorem d4 : decode yB 4 = .ok (.arraylength, 1) := by decide +kernel
theorem d5 : decode yB 5 = .ok (.aload_n 0, 1) := by decide +kernel
theorem d6 : decode yB 6 = .ok (.invokevirtual 335, 3) := by decide +kernel
theorem d9 : decode yB 9 = .ok (.ishr, 1) := by decide +kernel
theorem d10 : decode yB 10 = .ok (.ireturn, 1) := by decide +kernel
def site : List Cond := [.fieldLink "java/lang/String" 9 "java/lang/String" "value" "[B", Cdr.tab] ++ virtW "java/lang/String" 335 "java/lang/String" Cdr.yN Cdr.yN
def tab : Cond := tabOf yN yB 1 (some .int) site
def P (x t : Addr) (V : Cell) (cd : Int32) (n : Nat) (f : Nat → Int32) (z : Int32) (args : Array Value) (s : State) : Prop := args = #[.ref x] ∧ Txt x t V cd n f s ∧ StaticIs s "java/lang/String" "COMPACT_STRINGS" "Z" (.int z) ∧ ¬ z = 0
def E (n : Nat) (r : Option Value) (s u : State) : Prop := XT.PureE (some (.int (Int32.ofNat n))) r s u
/-- length() of a String of n chars, in either coding -/
theorem law (l : Launch) (x t : Addr) (V : Cell) (cd : Int32) (n : Nat) (f : Nat → Int32) (z : Int32) : Law l yN 1 0 1 13 yB 1 (some .int) site (P x t V cd n f z) (E n) [] 0 0 := by
  refine Law.of_walk (plainFor_of_name (by decide +kernel)) (by decide +kernel) (by decide +kernel) (by decide) (fun _ _ h => by rw [h.1]; rfl) (fun _ U U' hal hh h => ⟨h.1, h.2.1.mv hal hh, h.2.2.1.there hal hh, h.2.2.2⟩) (fun r U U' V V' h1 hal h2 h => XT.PureE.mv r U U' V V' h1 hal h2 h) ?_
  intro p e s m args below meth c s₁ X0 hexec hbytes hml hret hlk hnm hown hh0 W hP
  obtain ⟨rfl, hx, s1, hz⟩ := hP
  have v31 := hx.2.2.2.1.2.2.2
  have c1 : Steps p.tables e below (s₁.setTop (entryFrame m #[.ref x] 1)) (s₁.setTop (mkF m 1 #[.val (.ref x)] [.ref x])) := Steps.trans (entry rfl) (by
    show Steps p.tables e below (s₁.setTop (mkF m 0 #[.val (.ref x)] [])) _
    refine XS.aloadN X0.here hexec rfl (hb hbytes d0) rfl rfl ?_
    exact Steps.refl _)
  obtain ⟨T2, X2, q2, st2⟩ := X0.hget hexec hown (wk W (.fieldLink "java/lang/String" 9 "java/lang/String" "value" "[B")) (hx.mv X0.warmed.alike hh0).2.1 (g := (mkF m 1 #[.val (.ref x)] [.ref x])) rfl (rest := []) rfl (hb hbytes d1)
  have hh2 := q2.trans hh0
  have hx2 := hx.mv X2.warmed.alike hh2
  have c3 : Steps p.tables e below (s₁.setTop (entryFrame m #[.ref x] 1)) (T2.setTop (mkF m 6 #[.val (.ref x)] [.ref x, .int (Int32.ofNat V.slots.size)])) := (c1.trans (st2 _ (Steps.refl _))).trans (by
    refine X2.alen hexec hx2.2.2.2.1 rfl rfl (hb hbytes d4) ?_
    refine XS.aloadN X2.here hexec rfl (hb hbytes d5) rfl rfl ?_
    exact Steps.refl _)
  obtain ⟨v4, T4, X4, E4, g4⟩ := X2.callV hexec (Cdr.law l x cd z) hown (wks W (virtW "java/lang/String" 335 "java/lang/String" Cdr.yN Cdr.yN)) rfl (by decide) (wk W Cdr.tab) (W := 1) (Nat.le_of_ble_eq_true rfl) (Nat.le_of_ble_eq_true rfl) (Nat.le_refl _) (Nat.le_refl _) (hx2.1.fc X2.warmed.alike) hx2.1.is (g := (mkF m 6 #[.val (.ref x)] [.ref x, .int (Int32.ofNat V.slots.size)])) rfl (by rw [hml]; rfl) c3 (argsL := []) (rest := [.int (Int32.ofNat V.slots.size)]) rfl rfl (by show 2 * 0 + (1 + 0) ≤ _; decide) (hb hbytes d6) (⟨rfl, hx2.2.2.1, hx.2.2.2.2.1.cd, s1.there X2.warmed.alike hh2, hz⟩)
  obtain ⟨rfl, q4⟩ := E4
  have c5 : Steps p.tables e below (s₁.setTop (entryFrame m #[.ref x] 1)) (T4.setTop (mkF m 10 #[.val (.ref x)] [.int (Int32.ofNat V.slots.size >>> (cd &&& 31))])) := Steps.trans g4 (by
    refine ishr X4.here hexec rfl (hb hbytes d9) rfl ?_
    exact Steps.refl _)
  rw [hx.2.2.2.2.1.len v31] at c5
  exact ⟨T4, some (.int (Int32.ofNat n)), _, _, _, X4, rfl, rfl, rfl, (fun h => by cases h), ⟨rfl, q4.trans hh2⟩, fun fs hl => c5.trans (X4.ireturnOut hexec hret rfl (Or.inl rfl) (hb hbytes d10) hl)⟩
theorem pays {l : Launch} {R : Room} {p : Program} {e : Env} {below : List Frame} {s : State} {sargs : Array Value} {len W : Nat} (x t : Addr) (V : Cell) (cd : Int32) (n : Nat) (f : Nat → Int32) (z : Int32) (htab : tab.before sargs s = true) (hfr : 2 ≤ R.frames) (hlo : W + 25 ≤ R.locals) :
    Back l R p e below s sargs yN len W (fun A₁ a₁ => A₁.cells + 0 ≤ R.cells ∧ A₁.slots + 0 ≤ R.slots ∧ P x t V cd n f z a₁ A₁.U) (fun A₁ _ v₁ B₁ => E n v₁ A₁.U B₁.U ∧ B₁.locs = A₁.locs ++ [] ∧ B₁.cells = A₁.cells + 0 ∧ B₁.slots = A₁.slots + 0) :=
  (law l x t V cd n f z).pays htab hfr (by omega)
end Len
end StrChars
namespace StrChars.Road
open Jvm Sem ClassFile Op Lib Jvm.Stand Jvm.Free Jvm.Free.XT
open Jvm.Lib.Cold (StaticIs)
theorem consq {a : Array Value} {s : State} {c : Jvm.Cond} {L : List Jvm.Cond} (h0 : c.before a s = true) (h : ∀ w ∈ L, w.before a s = true) : ∀ w ∈ c :: L, w.before a s = true := fun w hw => (List.mem_cons.mp hw).elim (fun e => e ▸ h0) (h w)
/-- the words of String.length(), either coding -/
abbrev wordsLen : List Jvm.Cond := [.code Len.yN Len.yB 1 (some .int), .initialized ST, .fieldLink ST 9 ST "value" "[B", .fieldLink ST 38 ST "COMPACT_STRINGS" "Z", .fieldLink ST 15 ST "coder" "B", .code Cdr.yN Cdr.yB 1 (some .byte), .methodLink ST 335 Cdr.yN, .declares Cdr.yN, .selects ST Cdr.yN Cdr.yN, .instanceMethod Cdr.yN]
theorem tabLen_of {a : Array Value} {s : State} (h : ∀ w ∈ wordsLen, w.before a s = true) : Len.tab.before a s = true := by
  have hc : Cdr.tab.before a s = true := unparts (wk h (.code Cdr.yN Cdr.yB 1 (some .byte))) (wks h (.initialized Cdr.yN.cls :: Cdr.site))
  have q := consq hc h
  exact unparts (wk q (.code Len.yN Len.yB 1 (some .int))) (wks q (.initialized Len.yN.cls :: Len.site))
theorem movedLen {Z s : State} {a0 args : Array Value} (hZ : Z.Warmed39 s.vm) (hw : ∀ d ∈ wordsLen, d.before a0 Z = true) : ∀ d ∈ wordsLen, d.before args s = true := fun d hd => by
  have q := hw d hd
  have t : ∀ d ∈ wordsLen, d = .arrayClass .byte ∨ (d.onTables && d.keepsFace) = true := by decide +kernel
  rcases t d hd with rfl | t
  · exact RoadKit.mvA hZ q
  · exact RoadKit.mv hZ q t
/-- the bytes of the chars cs, low before high -/
def wideBytes : List Int32 → List Value
  | [] => []
  | c :: cs => .int (lo8 c) :: .int (hi8 c) :: wideBytes cs
theorem wide_lo (d : Value) : ∀ (cs : List Int32) (j : Nat), j < cs.length → (wideBytes cs).getD (2 * j) d = .int (lo8 (cs.getD j 0))
  | [], j, h => absurd h (Nat.not_lt_zero j)
  | c :: cs, 0, _ => rfl
  | c :: cs, j + 1, h => by
    have q := wide_lo d cs j (by simpa using h)
    rw [show 2 * (j + 1) = 2 * j + 1 + 1 from by omega]
    simpa [wideBytes] using q
theorem wide_hi (d : Value) : ∀ (cs : List Int32) (j : Nat), j < cs.length → (wideBytes cs).getD (2 * j + 1) d = .int (hi8 (cs.getD j 0))
  | [], j, h => absurd h (Nat.not_lt_zero j)
  | c :: cs, 0, _ => rfl
  | c :: cs, j + 1, h => by
    have q := wide_hi d cs j (by simpa using h)
    rw [show 2 * (j + 1) + 1 = 2 * j + 1 + 1 + 1 from by omega]
    simpa [wideBytes] using q
theorem low_at (d : Value) (cs : List Int32) (j : Nat) (h : j < cs.length) : (cs.map fun c => Value.int (lo8 c)).getD j d = .int (lo8 (cs.getD j 0)) := by
  simp [List.getD_eq_getElem?_getD, h]
/-- an array of N2 bytes vs codes the chars cs by the coder cd -/
def CodA (cs : List Int32) (cd N2 : Int32) (vs : List Value) : Prop := (cd = 0 ∧ N2 = Int32.ofNat cs.length ∧ vs = (cs.map fun c => Value.int (lo8 c)) ∧ ∀ c ∈ cs, ¬ 255 < c) ∨ (cd = 1 ∧ N2 = Int32.ofNat (2 * cs.length) ∧ vs = wideBytes cs ∧ ∃ c ∈ cs, 255 < c)
theorem CodA.cod {cs : List Int32} {cd N2 : Int32} {vs : List Value} {V : Cell} (h : CodA cs cd N2 vs) (hn : 2 * cs.length < 2 ^ 31) (hs : V.slots.size = N2.toNatClampNeg) (hv : RoadKit.Has V vs (.int 0)) : Cod cd cs.length (fun j => cs.getD j 0) V := by
  rcases h with ⟨rfl, rfl, rfl, h⟩ | ⟨rfl, rfl, rfl, c, hc, hw⟩
  · rw [n32 (by omega)] at hs
    exact Or.inl ⟨rfl, hs, fun j hj => ⟨by rw [hv j (by omega), low_at _ _ _ hj], by
      have e : cs.getD j 0 = cs[j] := by simp [List.getD_eq_getElem?_getD, hj]
      show ¬ 255 < cs.getD j 0
      rw [e]; exact h _ (List.getElem_mem _)⟩⟩
  · rw [n32 (by omega)] at hs
    obtain ⟨j, hj, rfl⟩ := List.getElem_of_mem hc
    exact Or.inr ⟨rfl, hs, fun j hj => ⟨by rw [hv _ (by omega), wide_lo _ _ _ hj], by rw [hv _ (by omega), wide_hi _ _ _ hj]⟩, j, hj, by
      have e : cs.getD j 0 = cs[j] := by simp [List.getD_eq_getElem?_getD, hj]
      show 255 < cs.getD j 0
      rw [e]; exact hw⟩
/-- an object of exactly java/lang/String, its two fields found: as the laws ask it -/
theorem strObj {Z U : State} {a0 : Array Value} {kI : Nat} (wi : (Jvm.Cond.instantiable ST kI).before a0 Z = true) (al : Z.vm.Alike U.vm) {x : Addr} {v0 c0 : Value} (E : RoadKit.Exa Z U.heap x ST) (V : RoadKit.Fld Z U.heap x ST "value" "[B" v0) (C : RoadKit.Fld Z U.heap x ST "coder" "B" c0) :
    ∃ (D : Cell) (fV fC : Field), Blank ST x D U ∧ Found ST "value" "[B" fV U ∧ Found ST "coder" "B" fC U ∧ D.slots[fV.slot]? = some v0 ∧ D.slots[fC.slot]? = some c0 ∧ RoadKit.slotOf Z ST "value" "[B" = fV.slot ∧ RoadKit.slotOf Z ST "coder" "B" = fC.slot := by
  obtain ⟨D, cfV, kV, iV, fV, hD, gV, stV, knV, obV, asV, slV⟩ := V
  obtain ⟨D', cfC, kC, iC, fC, hD', gC, stC, -, -, asC, slC⟩ := C
  cases hD.symm.trans hD'
  obtain ⟨D2, kD, e1, e2, e3, e4, e5⟩ := E
  cases hD.symm.trans e1
  obtain ⟨c2, k2, i1, i2, i3, -⟩ := Cond.instantiable_spec wi
  cases e2.symm.trans i1
  cases e3.symm.trans i2
  obtain ⟨kU, u1, u2⟩ := al.2.2 _ _ e3
  exact ⟨D, fV, fC, ⟨hD, ⟨knV, fun q hq => by rw [hq] at obV; cases obV⟩, by rw [al.findClass]; exact e2, kU, u1, by rw [u2]; exact i3, by rw [u2]; exact e5 i3⟩, ⟨SBG.found_only al ⟨cfV, kV, iV, gV⟩, stV⟩, ⟨SBG.found_only al ⟨cfC, kC, iC, gC⟩, stC⟩, slV, slC, by simp [RoadKit.slotOf, gV], by simp [RoadKit.slotOf, gC]⟩
theorem sta_is {Z U : State} (al : Z.vm.Alike U.vm) {C n d : String} {v : Value} (S : RoadKit.Sta Z U.heap C n d v) : StaticIs U C n d v := by
  obtain ⟨cfS, iS, kS, fS, st, cS, t1, t2, t3, t4, t5, t6, t7⟩ := S
  exact StaticIs.there (s := { Z with heap := U.heap }) ⟨cfS, iS, kS, fS, st, cS, t1, t2, t3, t4, t5, (fun q => by rw [q] at t6; cases t6), t7⟩ al rfl
/-- **length() OF SUCH A STRING** -/
theorem lenW {p : Program} {l : Launch} {e : Env} {R : Room} {s : State} {args : Array Value} {below : List Frame} {len W : Nat} {Z : State} {a0 : Array Value} {h : Heap} (hZ : Z.Warmed39 s.vm) (hw : ∀ d ∈ wordsLen, d.before a0 Z = true) {kI : Nat} (wi : (Jvm.Cond.instantiable ST kI).before a0 Z = true)
    {x t : Addr} {kb : ClassId} {cs : List Int32} {cd N2 z : Int32} {vs : List Value} (E : RoadKit.Exa Z h x ST) (V : RoadKit.Fld Z h x ST "value" "[B" (.ref t)) (C : RoadKit.Fld Z h x ST "coder" "B" (.int cd)) (K : RoadKit.Arv Z h t kb .byte N2 vs (.int 0)) (hc : CodA cs cd N2 vs) (hb : ∀ c ∈ cs, ¬ c < 0 ∧ ¬ (65535 : Int32) < c)
    (S : RoadKit.Sta Z h ST "COMPACT_STRINGS" "Z" (.int z)) (hz : ¬ z = 0) (l2 : cs.length ≤ 4000) (hfr : 2 ≤ R.frames) (hlo : W + 25 ≤ R.locals) :
    Back l R p e below s args (⟨"java/lang/String", "length", "()I"⟩ : MethodName) len W (fun P a => a = #[.ref x] ∧ P.U.heap = h ∧ P.cells + 0 ≤ R.cells ∧ P.slots + 0 ≤ R.slots)
      (fun P _ v B => ∃ L, (v = some (.int (Int32.ofNat cs.length)) ∧ L = [] ∧ B.U.heap = h) ∧ B.locs = P.locs ++ L ∧ B.cells = P.cells + 0 ∧ B.slots = P.slots + 0) := by
  obtain ⟨A, K1, K2, K3, K4, K5, K6⟩ := K
  have hcod := hc.cod (by omega) K3 K5
  intro m meth c P g ig mk a X hg hsize hdg hW hn hp'
  obtain ⟨rfl, rfl, r1, r2⟩ := hp'
  have al : Z.vm.Alike P.U.vm := hZ.alike.trans X.warmed.alike
  obtain ⟨D, fV, fC, hB, F1, F2, g1, g2, -, -⟩ := strObj wi al E V C
  have hx : Txt x t A cd cs.length (fun j => cs.getD j 0) P.U := ⟨⟨_, hB.2.2.1, D, hB.1, rfl, by cases q : D.vm <;> first | rfl | exact absurd q (hB.2.1.2 _)⟩, Has.of hB F1 g1, Has.of hB F2 g2, ⟨K1.1, State.isArrayOf_alike al K1.2.1, K1.2.2, by rcases hcod with ⟨-, q, -⟩ | ⟨-, q, -⟩ <;> omega⟩, hcod, fun j hj => by
    have e : cs.getD j 0 = cs[j] := by simp [List.getD_eq_getElem?_getD, hj]
    show ¬ cs.getD j 0 < 0 ∧ ¬ 65535 < cs.getD j 0
    rw [e]; exact hb _ (List.getElem_mem _)⟩
  obtain ⟨v, B, X', ⟨⟨hv, hh⟩, hl, hk, hs⟩, st⟩ := Len.pays x t A cd cs.length (fun j => cs.getD j 0) z (tabLen_of (movedLen hZ hw)) hfr hlo m meth c P g ig mk _ X hg hsize hdg hW hn ⟨r1, r2, rfl, hx, sta_is al S, hz⟩
  exact ⟨v, B, X', ⟨[], ⟨hv, rfl, hh⟩, hl, hk, hs⟩, st⟩
end StrChars.Road
namespace StrChars
open Jvm Sem ClassFile Op Lib Jvm.Stand Jvm.Free.XT Jvm.Free.ALB Jvm.Free.JM Jvm.Free
open Jvm.Lib.Cold (StaticIs)
/-- what place i of a byte[]'s cell holds -/
def yv (A : Cell) (i : Nat) : Int32 := match A.slots[i]? with | some (.int x) => x | _ => 0
theorem yv_get {a : Addr} {A : Cell} {U : State} (h : XT.Arr .byte a A U) (ht : Typed .byte A) {i : Nat} (hi : i < A.slots.size) : A.slots[i]? = some (.int (yv A i)) := by
  have e := Array.getElem?_eq_getElem hi
  have f := ht i _ e
  unfold yv; rw [e]
  generalize A.slots[i] = v at f
  cases v <;> simp [fits] at f ⊢
/-- the two arrays are equal, place for place -/
def EqC (A B : Cell) : Prop := A.slots.size = B.slots.size ∧ ∀ i, i < A.slots.size → yv A i = yv B i
/-- a boolean that says whether p -/
def Says01 (q : Prop) (r : Option Value) (s u : State) : Prop := ∃ v : Int32, r = some (.int v) ∧ u.heap = s.heap ∧ ((v = 1 ∧ q) ∨ (v = 0 ∧ ¬ q))
theorem Says01.mv {q : Prop} : ∀ r (U U' V V' : State), U'.heap = U.heap → V.vm.Alike V'.vm → V'.heap = V.heap → Says01 q r U V → Says01 q r U' V' :=
  fun r U U' V V' h1 _ h2 ⟨v, a, b, c⟩ => ⟨v, a, by rw [h1, h2]; exact b, c⟩
namespace LEq
def yN : MethodName := ⟨"java/lang/StringLatin1", "equals", "([B[B)Z"⟩
abbrev yB : ByteArray := jdk_43_method_13_code
theorem d0 : decode yB 0 = .ok (.aload_n 0, 1) := by decide +kernel
theorem d1 : decode yB 1 = .ok (.arraylength, 1) := by decide +kernel
theorem d2 : decode yB 2 = .ok (.aload_n 1, 1) := by decide +kernel
theorem d3 : decode yB 3 = .ok (.arraylength, 1) := by decide +kernel
theorem d4 : decode yB 4 = .ok (.if_icmp (.ne) 30, 3) := by decide +kernel
theorem d7 : decode yB 7 = .ok (.iconst 0, 1) := by decide +kernel
theorem d8 : decode yB 8 = .ok (.istore_n 2, 1) := by decide +kernel
theorem d9 : decode yB 9 = .ok (.iload_n 2, 1) := by decide +kernel
theorem d10 : decode yB 10 = .ok (.aload_n 0, 1) := by decide +kernel
theorem d11 : decode yB 11 = .ok (.arraylength, 1) := by decide +kernel
theorem d12 : decode yB 12 = .ok (.if_icmp (.ge) 20, 3) := by decide +kernel
theorem d15 : decode yB 15 = .ok (.aload_n 0, 1) := by decide +kernel
theorem d16 : decode yB 16 = .ok (.iload_n 2, 1) := by decide +kernel
theorem d17 : decode yB 17 = .ok (.baload, 1) := by decide +kernel
theorem d18 : decode yB 18 = .ok (.aload_n 1, 1) := by decide +kernel
theorem d19 : decode yB 19 = .ok (.iload_n 2, 1) := by decide +kernel
theorem d20 : decode yB 20 = .ok (.baload, 1) := by decide +kernel
theorem d21 : decode yB 21 = .ok (.if_icmp (.eq) 5, 3) := by decide +kernel
theorem d24 : decode yB 24 = .ok (.iconst 0, 1) := by decide +kernel
theorem d25 : decode yB 25 = .ok (.ireturn, 1) := by decide +kernel
theorem d26 : decode yB 26 = .ok (.iinc 2 1, 3) := by decide +kernel
theorem d29 : decode yB 29 = .ok (.goto (-20), 3) := by decide +kernel
theorem d32 : decode yB 32 = .ok (.iconst 1, 1) := by decide +kernel
theorem d33 : decode yB 33 = .ok (.ireturn, 1) := by decide +kernel
theorem d34 : decode yB 34 = .ok (.iconst 0, 1) := by decide +kernel
theorem d35 : decode yB 35 = .ok (.ireturn, 1) := by decide +kernel
def site : List Cond := []
def tab : Cond := tabOf yN yB 3 (some .boolean) site
def P (a : Addr) (A : Cell) (b : Addr) (B : Cell) (args : Array Value) (s : State) : Prop := args = #[.ref a, .ref b] ∧ XT.Arr .byte a A s ∧ Typed .byte A ∧ XT.Arr .byte b B s ∧ Typed .byte B
/-- whether two byte[] are equal, place for place -/
theorem law (l : Launch) (a : Addr) (A : Cell) (b : Addr) (B : Cell) : Law l yN 2 2 0 0 yB 3 (some .boolean) site (P a A b B) (Says01 (EqC A B)) [] 0 0 := by
  refine Law.of_walk (plainFor_of_name (by decide +kernel)) (by decide +kernel) (by decide +kernel) (by decide) (fun _ _ h => by rw [h.1]; rfl) (fun _ U U' hal hh h => ⟨h.1, h.2.1.mv hal hh, h.2.2.1, h.2.2.2.1.mv hal hh, h.2.2.2.2⟩) (fun r U U' V V' h1 hal h2 h => Says01.mv r U U' V V' h1 hal h2 h) ?_
  intro p e s m args below meth c s₁ X0 hexec hbytes hml hret hlk hnm hown hh0 W hP
  obtain ⟨rfl, hA, tA, hB, tB⟩ := hP
  have a31 := hA.2.2.2
  have b31 := hB.2.2.2
  have hA0 := hA.mv X0.warmed.alike hh0
  have hB0 := hB.mv X0.warmed.alike hh0
  have c1 : Steps p.tables e below (s₁.setTop (entryFrame m #[.ref a, .ref b] 3)) (s₁.setTop (mkF m 0 #[.val (.ref a), .val (.ref b), .unset] [])) := entry rfl
  have c2 : Steps p.tables e below (s₁.setTop (entryFrame m #[.ref a, .ref b] 3)) (s₁.setTop (mkF m 4 #[.val (.ref a), .val (.ref b), .unset] [.int (Int32.ofNat B.slots.size), .int (Int32.ofNat A.slots.size)])) := c1.trans (by
    refine XS.aloadN X0.here hexec rfl (hb hbytes d0) rfl rfl ?_
    refine X0.alen hexec hA0 rfl rfl (hb hbytes d1) ?_
    refine XS.aloadN X0.here hexec rfl (hb hbytes d2) rfl rfl ?_
    refine X0.alen hexec hB0 rfl rfl (hb hbytes d3) ?_
    exact Steps.refl _)
  by_cases hs : A.slots.size = B.slots.size
  · have c3 : Steps p.tables e below (s₁.setTop (entryFrame m #[.ref a, .ref b] 3)) (s₁.setTop (mkF m 9 #[.val (.ref a), .val (.ref b), .val (.int 0)] [])) := c2.trans (by
      refine XS.icmpNo X0.here hexec rfl (hb hbytes d4) rfl (ii_ne_f (by rw [hs])) ?_
      refine iconstV X0.here hexec rfl 0 (hb hbytes d7) (by decide) ?_
      refine XS.istoreN X0.here hexec rfl (hb hbytes d8) rfl rfl ?_
      exact Steps.refl _)
    have loop : ∀ (r i : Nat), i + r = A.slots.size → (∀ j, j < i → yv A j = yv B j) → Steps p.tables e below (s₁.setTop (entryFrame m #[.ref a, .ref b] 3)) (s₁.setTop (mkF m 9 #[.val (.ref a), .val (.ref b), .val (.int (Int32.ofNat i))] [])) → ∃ (pc : Nat) (Ls : Array Slot) (v : Int32), (pc = 25 ∨ pc = 33) ∧ ((v = 1 ∧ EqC A B) ∨ (v = 0 ∧ ¬ EqC A B)) ∧ Steps p.tables e below (s₁.setTop (entryFrame m #[.ref a, .ref b] 3)) (s₁.setTop (mkF m pc Ls [.int v])) := by
      intro r
      induction r with
      | zero =>
        intro i hi he cl
        exact ⟨33, _, 1, Or.inr rfl, Or.inl ⟨rfl, hs, fun j hj => he j (by omega)⟩, cl.trans (by
          refine XS.iloadN X0.here hexec rfl (hb hbytes d9) rfl ?_
          refine XS.aloadN X0.here hexec rfl (hb hbytes d10) rfl rfl ?_
          refine X0.alen hexec hA0 rfl rfl (hb hbytes d11) ?_
          refine XS.icmpYes X0.here hexec rfl (pc0 := 12) rfl (hb hbytes d12) rfl (ii_ge_t (nlt32 (by omega) (by omega))) (by decide) rfl ?_
          refine iconstV X0.here hexec rfl 1 (hb hbytes d32) (by decide) ?_
          exact Steps.refl _)⟩
      | succ r ih =>
        intro i hi he cl
        have c4 : Steps p.tables e below (s₁.setTop (entryFrame m #[.ref a, .ref b] 3)) (s₁.setTop (mkF m 21 #[.val (.ref a), .val (.ref b), .val (.int (Int32.ofNat i))] [.int (yv B i), .int (yv A i)])) := cl.trans (by
          refine XS.iloadN X0.here hexec rfl (hb hbytes d9) rfl ?_
          refine XS.aloadN X0.here hexec rfl (hb hbytes d10) rfl rfl ?_
          refine X0.alen hexec hA0 rfl rfl (hb hbytes d11) ?_
          refine XS.icmpNo X0.here hexec rfl (hb hbytes d12) rfl (ii_ge_f (lt32 (by omega) (by omega))) ?_
          refine XS.aloadN X0.here hexec rfl (hb hbytes d15) rfl rfl ?_
          refine XS.iloadN X0.here hexec rfl (hb hbytes d16) rfl ?_
          refine X0.aget hexec hA0 rfl (yv_get hA tA (i := i) (by omega)) rfl rfl (hb hbytes d17) ?_
          refine XS.aloadN X0.here hexec rfl (hb hbytes d18) rfl rfl ?_
          refine XS.iloadN X0.here hexec rfl (hb hbytes d19) rfl ?_
          refine X0.aget hexec hB0 rfl (yv_get hB tB (i := i) (by omega)) rfl rfl (hb hbytes d20) ?_
          exact Steps.refl _)
        by_cases hv : yv A i = yv B i
        · have c5 : Steps p.tables e below (s₁.setTop (entryFrame m #[.ref a, .ref b] 3)) (s₁.setTop (mkF m 9 #[.val (.ref a), .val (.ref b), .val (.int (Int32.ofNat i + 1))] [])) := c4.trans (by
            refine XS.icmpYes X0.here hexec rfl (pc0 := 21) rfl (hb hbytes d21) rfl (ii_eq_t hv) (by decide) rfl ?_
            refine iincV X0.here hexec rfl 1 (hb hbytes d26) (by decide) rfl rfl ?_
            refine XS.goto X0.here hexec rfl (pc0 := 29) rfl (hb hbytes d29) (by decide) rfl ?_
            exact Steps.refl _)
          rw [succ32] at c5
          exact ih (i + 1) (by omega) (fun j hj => by
            by_cases e : j = i
            · rw [e]; exact hv
            · exact he j (by omega)) c5
        · exact ⟨25, _, 0, Or.inl rfl, Or.inr ⟨rfl, fun q => hv (q.2 i (by omega))⟩, c4.trans (by
            refine XS.icmpNo X0.here hexec rfl (hb hbytes d21) rfl (ii_eq_f hv) ?_
            refine iconstV X0.here hexec rfl 0 (hb hbytes d24) (by decide) ?_
            exact Steps.refl _)⟩
    obtain ⟨pc, Ls, v, hpc, hv, cz⟩ := loop A.slots.size 0 (by omega) (fun j hj => absurd hj (Nat.not_lt_zero j)) c3
    have nv : narrow .boolean (.int v) = .int v := by rcases hv with ⟨rfl, -⟩ | ⟨rfl, -⟩ <;> rfl
    rcases hpc with rfl | rfl
    · exact ⟨s₁, some (.int v), _, _, _, X0, rfl, rfl, rfl, (fun h => by cases h), ⟨v, rfl, hh0, hv⟩, fun fs hl => cz.trans (X0.ireturnOut hexec hret nv (Or.inr (Or.inl rfl)) (hb hbytes d25) hl)⟩
    · exact ⟨s₁, some (.int v), _, _, _, X0, rfl, rfl, rfl, (fun h => by cases h), ⟨v, rfl, hh0, hv⟩, fun fs hl => cz.trans (X0.ireturnOut hexec hret nv (Or.inr (Or.inl rfl)) (hb hbytes d33) hl)⟩
  · have c3 : Steps p.tables e below (s₁.setTop (entryFrame m #[.ref a, .ref b] 3)) (s₁.setTop (mkF m 35 #[.val (.ref a), .val (.ref b), .unset] [.int 0])) := c2.trans (by
      refine XS.icmpYes X0.here hexec rfl (pc0 := 4) rfl (hb hbytes d4) rfl (ii_ne_t (ne32 a31 b31 hs)) (by decide) rfl ?_
      refine iconstV X0.here hexec rfl 0 (hb hbytes d34) (by decide) ?_
      exact Steps.refl _)
    exact ⟨s₁, some (.int 0), _, _, _, X0, rfl, rfl, rfl, (fun h => by cases h), ⟨0, rfl, hh0, Or.inr ⟨rfl, fun q => hs q.1⟩⟩, fun fs hl => c3.trans (X0.ireturnOut hexec hret rfl (Or.inr (Or.inl rfl)) (hb hbytes d35) hl)⟩
end LEq
theorem Cod.ty {cd : Int32} {n : Nat} {f : Nat → Int32} {V : Cell} (h : Cod cd n f V) : Typed .byte V := fun i v hv => by
  have hi : i < V.slots.size := (Array.getElem?_eq_some_iff.mp hv).1
  rcases h with ⟨-, k1, k2⟩ | ⟨-, k1, k2, -⟩
  · rw [(k2 i (by omega)).1] at hv; cases hv; exact fits_lo8 _
  · rcases Nat.mod_two_eq_zero_or_one i with e | e
    · obtain ⟨j, rfl⟩ : ∃ j, i = 2 * j := ⟨i / 2, by omega⟩
      rw [(k2 j (by omega)).1] at hv; cases hv; exact fits_lo8 _
    · obtain ⟨j, rfl⟩ : ∃ j, i = 2 * j + 1 := ⟨i / 2, by omega⟩
      rw [(k2 j (by omega)).2] at hv; cases hv; exact fits_lo8 _
/-- the same text -/
def SameT (n : Nat) (f : Nat → Int32) (k : Nat) (g : Nat → Int32) : Prop := n = k ∧ ∀ j, j < n → f j = g j
theorem lo8_inj {x y : Int32} (h0 : ¬ x < 0) (h1 : ¬ 255 < x) (k0 : ¬ y < 0) (k1 : ¬ 255 < y) (h : lo8 x = lo8 y) : x = y := by
  rw [← lo8_mask h0 h1, ← lo8_mask k0 k1, h]
/-- arrays coded by one coder are equal just where the texts are -/
theorem Cod.eqv {cd : Int32} {n k : Nat} {f g : Nat → Int32} {V V' : Cell} (h : Cod cd n f V) (h' : Cod cd k g V') (hf : ∀ j, j < n → ¬ f j < 0 ∧ ¬ 65535 < f j) (hg : ∀ j, j < k → ¬ g j < 0 ∧ ¬ 65535 < g j) : EqC V V' ↔ SameT n f k g := by
  have yvv : ∀ {W : Cell} {i : Nat} {x : Int32}, W.slots[i]? = some (.int x) → yv W i = x := fun q => by unfold yv; rw [q]
  rcases h with ⟨rfl, k1, k2⟩ | ⟨rfl, k1, k2, -⟩
  · rcases h' with ⟨-, m1, m2⟩ | ⟨e, -⟩
    · constructor
      · rintro ⟨e1, e2⟩
        refine ⟨by omega, fun j hj => ?_⟩
        have q := e2 j (by omega)
        rw [yvv (k2 j hj).1, yvv (m2 j (by omega)).1] at q
        exact lo8_inj (hf j hj).1 (k2 j hj).2 (hg j (by omega)).1 (m2 j (by omega)).2 q
      · rintro ⟨rfl, e2⟩
        refine ⟨by omega, fun j hj => ?_⟩
        rw [yvv (k2 j (by omega)).1, yvv (m2 j (by omega)).1, e2 j (by omega)]
    · exact absurd e (by decide)
  · rcases h' with ⟨e, -⟩ | ⟨-, m1, m2, -⟩
    · exact absurd e (by decide)
    · constructor
      · rintro ⟨e1, e2⟩
        refine ⟨by omega, fun j hj => ?_⟩
        have q1 := e2 (2 * j) (by omega)
        have q2 := e2 (2 * j + 1) (by omega)
        rw [yvv (k2 j hj).1, yvv (m2 j (by omega)).1] at q1
        rw [yvv (k2 j hj).2, yvv (m2 j (by omega)).2] at q2
        rw [← pair_says (hf j hj).1 (hf j hj).2, ← pair_says (hg j (by omega)).1 (hg j (by omega)).2, q1, q2]
      · rintro ⟨rfl, e2⟩
        refine ⟨by omega, fun i hi => ?_⟩
        rcases Nat.mod_two_eq_zero_or_one i with e | e
        · obtain ⟨j, rfl⟩ : ∃ j, i = 2 * j := ⟨i / 2, by omega⟩
          rw [yvv (k2 j (by omega)).1, yvv (m2 j (by omega)).1, e2 j (by omega)]
        · obtain ⟨j, rfl⟩ : ∃ j, i = 2 * j + 1 := ⟨i / 2, by omega⟩
          rw [yvv (k2 j (by omega)).2, yvv (m2 j (by omega)).2, e2 j (by omega)]
/-- two codings differ: so do the texts -/
theorem Cod.dif {cd cd' : Int32} {n k : Nat} {f g : Nat → Int32} {V V' : Cell} (h : Cod cd n f V) (h' : Cod cd' k g V') (hne : ¬ cd = cd') : ¬ SameT n f k g := by
  rintro ⟨rfl, e⟩
  rcases h with ⟨rfl, -, k2⟩ | ⟨rfl, -, -, j, hj, hw⟩
  · rcases h' with ⟨rfl, -⟩ | ⟨-, -, -, j, hj, hw⟩
    · exact hne rfl
    · exact (k2 j hj).2 (by rw [e j hj]; exact hw)
  · rcases h' with ⟨-, -, m2⟩ | ⟨rfl, -⟩
    · exact (m2 j hj).2 (by rw [← e j hj]; exact hw)
    · exact hne rfl
/-- an object of exactly C is an instance of C -/
theorem cinst {p : Program} {l : Launch} {e : Env} {R : Room} {s : State} {m : MethodId} {args : Array Value} {below : List Frame} {meth : Method} {c : Code} {T : State} {locs : List Loc} {cells slots : Nat} (X : Stand p l e R s m args below meth c T locs cells slots) (hexec : p.tables.exec = Jvm.exec) {own C : String} {index : Nat} (hown : s.vm.findClass own = some m.cls) (hlink : (Cond.classLink own index C).before args s = true) {a : Addr} (hE : Exact C a T)
    {g : JFrame} (hg : g.method = m) {rest : List Value} (hstack : g.stack = .ref a :: rest) (hdg : decode c.code g.pc = .ok (.instanceof index, 3)) :
    ∃ T', Stand p l e R s m args below meth c T' locs cells slots ∧ T'.heap = T.heap ∧ ∀ target, Steps p.tables e below (T'.setTop { g with pc := g.pc + 3, stack := .int 1 :: rest }) target → Steps p.tables e below (T.setTop g) target := by
  obtain ⟨cB, h1, D, h2, h3, h4⟩ := hE
  have h1' : s.vm.findClass C = some cB := by rw [← X.warmed.alike.findClass]; exact h1
  obtain ⟨vm', X', st⟩ := X.instanceofYes hexec hown hlink h2 h4 h1' (by rw [h3]; exact Jvm.Free.SB.assignable_self _ _) hg hstack hdg
  exact ⟨_, X', rfl, st⟩
theorem cself {p : Program} {l : Launch} {e : Env} {R : Room} {s : State} {m : MethodId} {args : Array Value} {below : List Frame} {meth : Method} {c : Code} {T : State} {locs : List Loc} {cells slots : Nat} (X : Stand p l e R s m args below meth c T locs cells slots) (hexec : p.tables.exec = Jvm.exec) {own C : String} {index : Nat} (hown : s.vm.findClass own = some m.cls) (hlink : (Cond.classLink own index C).before args s = true) {a : Addr} (hE : Exact C a T)
    {g : JFrame} (hg : g.method = m) {rest : List Value} (hstack : g.stack = .ref a :: rest) (hdg : decode c.code g.pc = .ok (.checkcast index, 3)) :
    ∃ T', Stand p l e R s m args below meth c T' locs cells slots ∧ T'.heap = T.heap ∧ ∀ target, Steps p.tables e below (T'.setTop { g with pc := g.pc + 3, stack := .ref a :: rest }) target → Steps p.tables e below (T.setTop g) target := by
  obtain ⟨cB, h1, D, h2, h3, h4⟩ := hE
  have h1' : s.vm.findClass C = some cB := by rw [← X.warmed.alike.findClass]; exact h1
  obtain ⟨vm', X', st⟩ := X.checkcastYes hexec hown hlink h2 h4 h1' (by rw [h3]; exact Jvm.Free.SB.assignable_self _ _) hg hstack hdg
  exact ⟨_, X', rfl, fun t h => st t (by rw [← hstack] at h; exact h)⟩
namespace SEq
def yN : MethodName := ⟨"java/lang/String", "equals", "(Ljava/lang/Object;)Z"⟩
abbrev yB : ByteArray := jdk_42_method_66_code
theorem d0 : decode yB 0 = .ok (.aload_n 0, 1) := by decide +kernel
theorem d1 : decode yB 1 = .ok (.aload_n 1, 1) := by decide +kernel
theorem d2 : decode yB 2 = .ok (.if_acmp (.ne) 5, 3) := by decide +kernel
theorem d5 : decode yB 5 = .ok (.iconst 1, 1) := by decide +kernel
theorem d6 : decode yB 6 = .ok (.ireturn, 1) := by decide +kernel
theorem d7 : decode yB 7 = .ok (.aload_n 1, 1) := by decide +kernel
theorem d8 : decode yB 8 = .ok (.instanceof 10, 3) := by decide +kernel
theorem d11 : decode yB 11 = .ok (.ifCond (.eq) 43, 3) := by decide +kernel
theorem d14 : decode yB 14 = .ok (.aload_n 1, 1) := by decide +kernel
theorem d15 : decode yB 15 = .ok (.checkcast 10, 3) := by decide +kernel
theorem d18 : decode yB 18 = .ok (.astore_n 2, 1) := by decide +kernel
theorem d19 : decode yB 19 = .ok (.getstatic 38, 3) := by decide +kernel
theorem d22 : decode yB 22 = .ok (.ifCond (.eq) 14, 3) := by decide +kernel
theorem d25 : decode yB 25 = .ok (.aload_n 0, 1) := by decide +kernel
theorem d26 : decode yB 26 = .ok (.getfield 15, 3) := by decide +kernel
theorem d29 : decode yB 29 = .ok (.aload_n 2, 1) := by decide +kernel
theorem d30 : decode yB 30 = .ok (.getfield 15, 3) := by decide +kernel
theorem d33 : decode yB 33 = .ok (.if_icmp (.ne) 21, 3) := by decide +kernel
theorem d36 : decode yB 36 = .ok (.aload_n 0, 1) := by decide +kernel
theorem d37 : decode yB 37 = .ok (.getfield 9, 3) := by decide +kernel
theorem d40 : decode yB 40 = .ok (.aload_n 2, 1) := by decide +kernel
theorem d41 : decode yB 41 = .ok (.getfield 9, 3) := by decide +kernel
theorem d44 : decode yB 44 = .ok (.invokestatic 541, 3) := by decide +kernel
theorem d47 : decode yB 47 = .ok (.ifCond (.eq) 7, 3) := by decide +kernel
theorem d50 : decode yB 50 = .ok (.iconst 1, 1) := by decide +kernel
theorem d51 : decode yB 51 = .ok (.goto 4, 3) := by decide +kernel
theorem d54 : decode yB 54 = .ok (.iconst 0, 1) := by decide +kernel
theorem d55 : decode yB 55 = .ok (.ireturn, 1) := by decide +kernel
def site : List Cond := [.classLink "java/lang/String" 10 "java/lang/String", .fieldLink "java/lang/String" 38 "java/lang/String" "COMPACT_STRINGS" "Z", .fieldLink "java/lang/String" 15 "java/lang/String" "coder" "B", .fieldLink "java/lang/String" 9 "java/lang/String" "value" "[B", LEq.tab] ++ staticW "java/lang/String" 541 LEq.yN
def tab : Cond := tabOf yN yB 3 (some .boolean) site
def P (x t : Addr) (V : Cell) (cd : Int32) (n : Nat) (f : Nat → Int32) (y t' : Addr) (V' : Cell) (cd' : Int32) (k : Nat) (g : Nat → Int32) (z : Int32) (args : Array Value) (s : State) : Prop := args = #[.ref x, .ref y] ∧ Txt x t V cd n f s ∧ Txt y t' V' cd' k g s ∧ StaticIs s "java/lang/String" "COMPACT_STRINGS" "Z" (.int z) ∧ ¬ z = 0
/-- equals(Object) of two Strings: whether the texts are the same -/
theorem law (l : Launch) (x t : Addr) (V : Cell) (cd : Int32) (n : Nat) (f : Nat → Int32) (y t' : Addr) (V' : Cell) (cd' : Int32) (k : Nat) (g : Nat → Int32) (z : Int32) : Law l yN 2 1 1 14 yB 3 (some .boolean) site (P x t V cd n f y t' V' cd' k g z) (Says01 (SameT n f k g)) [] 0 0 := by
  refine Law.of_walk (plainFor_of_name (by decide +kernel)) (by decide +kernel) (by decide +kernel) (by decide) (fun _ _ h => by rw [h.1]; rfl) (fun _ U U' hal hh h => ⟨h.1, h.2.1.mv hal hh, h.2.2.1.mv hal hh, h.2.2.2.1.there hal hh, h.2.2.2.2⟩) (fun r U U' V V' h1 hal h2 h => Says01.mv r U U' V V' h1 hal h2 h) ?_
  intro p e s m args below meth c s₁ X0 hexec hbytes hml hret hlk hnm hown hh0 W hP
  obtain ⟨rfl, hx, hy, s1, hz⟩ := hP
  have c1 : Steps p.tables e below (s₁.setTop (entryFrame m #[.ref x, .ref y] 3)) (s₁.setTop (mkF m 2 #[.val (.ref x), .val (.ref y), .unset] [.ref y, .ref x])) := Steps.trans (entry rfl) (by
    show Steps p.tables e below (s₁.setTop (mkF m 0 #[.val (.ref x), .val (.ref y), .unset] [])) _
    refine XS.aloadN X0.here hexec rfl (hb hbytes d0) rfl rfl ?_
    refine XS.aloadN X0.here hexec rfl (hb hbytes d1) rfl rfl ?_
    exact Steps.refl _)
  by_cases hxy : x = y
  · have c2 : Steps p.tables e below (s₁.setTop (entryFrame m #[.ref x, .ref y] 3)) (s₁.setTop (mkF m 6 #[.val (.ref x), .val (.ref y), .unset] [.int 1])) := c1.trans (by
      refine acmpNo X0.here hexec rfl (hb hbytes d2) rfl rfl rfl (by simp [acmp, hxy]) ?_
      refine iconstV X0.here hexec rfl 1 (hb hbytes d5) (by decide) ?_
      exact Steps.refl _)
    subst hxy
    have ec : cd = cd' := by
      obtain ⟨D, fd, a1, a2, a3⟩ := hx.2.2.1
      obtain ⟨D', fd', b1, b2, b3⟩ := hy.2.2.1
      cases a1.symm.trans b1
      obtain ⟨q1, q2, q3, q4⟩ := a2.1
      obtain ⟨r1, r2, r3, r4⟩ := b2.1
      cases q4.symm.trans r4
      cases a3.symm.trans b3; rfl
    have et : t = t' := by
      obtain ⟨D, fd, a1, a2, a3⟩ := hx.2.1
      obtain ⟨D', fd', b1, b2, b3⟩ := hy.2.1
      cases a1.symm.trans b1
      obtain ⟨q1, q2, q3, q4⟩ := a2.1
      obtain ⟨r1, r2, r3, r4⟩ := b2.1
      cases q4.symm.trans r4
      cases a3.symm.trans b3; rfl
    subst ec et
    have ev : V = V' := by cases hx.2.2.2.1.1.symm.trans hy.2.2.2.1.1; rfl
    subst ev
    have hs : SameT n f k g := (Cod.eqv hx.2.2.2.2.1 hy.2.2.2.2.1 hx.2.2.2.2.2 hy.2.2.2.2.2).mp ⟨rfl, fun _ _ => rfl⟩
    exact ⟨s₁, some (.int 1), _, _, _, X0, rfl, rfl, rfl, (fun h => by cases h), ⟨1, rfl, hh0, Or.inl ⟨rfl, hs⟩⟩, fun fs hl => c2.trans (X0.ireturnOut hexec hret rfl (Or.inr (Or.inl rfl)) (hb hbytes d6) hl)⟩
  · have c2 : Steps p.tables e below (s₁.setTop (entryFrame m #[.ref x, .ref y] 3)) (s₁.setTop (mkF m 8 #[.val (.ref x), .val (.ref y), .unset] [.ref y])) := c1.trans (by
      refine acmpYes X0.here hexec rfl (pc0 := 2) rfl (hb hbytes d2) rfl rfl rfl (by simp [acmp, hxy]) (by decide) rfl ?_
      refine XS.aloadN X0.here hexec rfl (hb hbytes d7) rfl rfl ?_
      exact Steps.refl _)
    obtain ⟨T3, X3, q3, st3⟩ := cinst X0 hexec hown (wk W (.classLink "java/lang/String" 10 "java/lang/String")) (hy.mv X0.warmed.alike hh0).1 (g := (mkF m 8 #[.val (.ref x), .val (.ref y), .unset] [.ref y])) rfl (rest := []) rfl (hb hbytes d8)
    have hh3 := q3.trans hh0
    have c4 : Steps p.tables e below (s₁.setTop (entryFrame m #[.ref x, .ref y] 3)) (T3.setTop (mkF m 15 #[.val (.ref x), .val (.ref y), .unset] [.ref y])) := (c2.trans (st3 _ (Steps.refl _))).trans (by
      refine XS.ifNo X3.here hexec rfl (hb hbytes d11) rfl (i0_eq_f (by decide)) ?_
      refine XS.aloadN X3.here hexec rfl (hb hbytes d14) rfl rfl ?_
      exact Steps.refl _)
    obtain ⟨T5, X5, q5, st5⟩ := cself X3 hexec hown (wk W (.classLink "java/lang/String" 10 "java/lang/String")) (hy.mv X3.warmed.alike hh3).1 (g := (mkF m 15 #[.val (.ref x), .val (.ref y), .unset] [.ref y])) rfl (rest := []) rfl (hb hbytes d15)
    have hh5 := q5.trans hh3
    have c6 : Steps p.tables e below (s₁.setTop (entryFrame m #[.ref x, .ref y] 3)) (T5.setTop (mkF m 19 #[.val (.ref x), .val (.ref y), .val (.ref y)] [])) := (c4.trans (st5 _ (Steps.refl _))).trans (by
      refine XS.astoreN X5.here hexec rfl (hb hbytes d18) rfl rfl rfl ?_
      exact Steps.refl _)
    obtain ⟨T7, X7, q7, st7⟩ := X5.sget hexec hown (wk W (.fieldLink "java/lang/String" 38 "java/lang/String" "COMPACT_STRINGS" "Z")) s1 (fun _ _ h => by rw [hh5]; exact h) (g := (mkF m 19 #[.val (.ref x), .val (.ref y), .val (.ref y)] [])) rfl (hb hbytes d19)
    have hh7 := q7.trans hh5
    have c8 : Steps p.tables e below (s₁.setTop (entryFrame m #[.ref x, .ref y] 3)) (T7.setTop (mkF m 26 #[.val (.ref x), .val (.ref y), .val (.ref y)] [.ref x])) := (c6.trans (st7 _ (Steps.refl _))).trans (by
      refine XS.ifNo X7.here hexec rfl (hb hbytes d22) rfl (i0_eq_f hz) ?_
      refine XS.aloadN X7.here hexec rfl (hb hbytes d25) rfl rfl ?_
      exact Steps.refl _)
    obtain ⟨T9, X9, q9, st9⟩ := X7.hget hexec hown (wk W (.fieldLink "java/lang/String" 15 "java/lang/String" "coder" "B")) (hx.mv X7.warmed.alike hh7).2.2.1 (g := (mkF m 26 #[.val (.ref x), .val (.ref y), .val (.ref y)] [.ref x])) rfl (rest := []) rfl (hb hbytes d26)
    have hh9 := q9.trans hh7
    have c10 : Steps p.tables e below (s₁.setTop (entryFrame m #[.ref x, .ref y] 3)) (T9.setTop (mkF m 30 #[.val (.ref x), .val (.ref y), .val (.ref y)] [.ref y, .int cd])) := (c8.trans (st9 _ (Steps.refl _))).trans (by
      refine XS.aloadN X9.here hexec rfl (hb hbytes d29) rfl rfl ?_
      exact Steps.refl _)
    obtain ⟨T11, X11, q11, st11⟩ := X9.hget hexec hown (wk W (.fieldLink "java/lang/String" 15 "java/lang/String" "coder" "B")) (hy.mv X9.warmed.alike hh9).2.2.1 (g := (mkF m 30 #[.val (.ref x), .val (.ref y), .val (.ref y)] [.ref y, .int cd])) rfl (rest := [.int cd]) rfl (hb hbytes d30)
    have hh11 := q11.trans hh9
    have c12 : Steps p.tables e below (s₁.setTop (entryFrame m #[.ref x, .ref y] 3)) (T11.setTop (mkF m 33 #[.val (.ref x), .val (.ref y), .val (.ref y)] [.int cd', .int cd])) := c10.trans (st11 _ (Steps.refl _))
    by_cases hcd : cd = cd'
    · subst hcd
      have c13 : Steps p.tables e below (s₁.setTop (entryFrame m #[.ref x, .ref y] 3)) (T11.setTop (mkF m 37 #[.val (.ref x), .val (.ref y), .val (.ref y)] [.ref x])) := c12.trans (by
        refine XS.icmpNo X11.here hexec rfl (hb hbytes d33) rfl (ii_ne_f rfl) ?_
        refine XS.aloadN X11.here hexec rfl (hb hbytes d36) rfl rfl ?_
        exact Steps.refl _)
      obtain ⟨T14, X14, q14, st14⟩ := X11.hget hexec hown (wk W (.fieldLink "java/lang/String" 9 "java/lang/String" "value" "[B")) (hx.mv X11.warmed.alike hh11).2.1 (g := (mkF m 37 #[.val (.ref x), .val (.ref y), .val (.ref y)] [.ref x])) rfl (rest := []) rfl (hb hbytes d37)
      have hh14 := q14.trans hh11
      have c15 : Steps p.tables e below (s₁.setTop (entryFrame m #[.ref x, .ref y] 3)) (T14.setTop (mkF m 41 #[.val (.ref x), .val (.ref y), .val (.ref y)] [.ref y, .ref t])) := (c13.trans (st14 _ (Steps.refl _))).trans (by
        refine XS.aloadN X14.here hexec rfl (hb hbytes d40) rfl rfl ?_
        exact Steps.refl _)
      obtain ⟨T16, X16, q16, st16⟩ := X14.hget hexec hown (wk W (.fieldLink "java/lang/String" 9 "java/lang/String" "value" "[B")) (hy.mv X14.warmed.alike hh14).2.1 (g := (mkF m 41 #[.val (.ref x), .val (.ref y), .val (.ref y)] [.ref y, .ref t])) rfl (rest := [.ref t]) rfl (hb hbytes d41)
      have hh16 := q16.trans hh14
      have c17 : Steps p.tables e below (s₁.setTop (entryFrame m #[.ref x, .ref y] 3)) (T16.setTop (mkF m 44 #[.val (.ref x), .val (.ref y), .val (.ref y)] [.ref t', .ref t])) := c15.trans (st16 _ (Steps.refl _))
      obtain ⟨v18, T18, X18, E18, g18⟩ := X16.callS hexec (LEq.law l t V t' V') hown (wks W (staticW "java/lang/String" 541 LEq.yN)) (wk W LEq.tab) (W := 0) (Nat.le_of_ble_eq_true rfl) (Nat.le_of_ble_eq_true rfl) (Nat.le_refl _) (Nat.le_refl _) (g := (mkF m 44 #[.val (.ref x), .val (.ref y), .val (.ref y)] [.ref t', .ref t])) rfl (by rw [hml]; rfl) c17 (argsL := [.ref t, .ref t']) (rest := []) rfl rfl (by show 2 * 0 + 0 ≤ _; decide) (hb hbytes d44) (⟨rfl, hx.2.2.2.1.mv X16.warmed.alike hh16, hx.2.2.2.2.1.ty, hy.2.2.2.1.mv X16.warmed.alike hh16, hy.2.2.2.2.1.ty⟩)
      obtain ⟨v, rfl, q18, hv⟩ := E18
      have iff := Cod.eqv hx.2.2.2.2.1 hy.2.2.2.2.1 hx.2.2.2.2.2 hy.2.2.2.2.2
      rcases hv with ⟨rfl, he⟩ | ⟨rfl, he⟩
      · have c19 : Steps p.tables e below (s₁.setTop (entryFrame m #[.ref x, .ref y] 3)) (T18.setTop (mkF m 55 #[.val (.ref x), .val (.ref y), .val (.ref y)] [.int 1])) := Steps.trans g18 (by
          refine XS.ifNo X18.here hexec rfl (hb hbytes d47) rfl (i0_eq_f (by decide)) ?_
          refine iconstV X18.here hexec rfl 1 (hb hbytes d50) (by decide) ?_
          refine XS.goto X18.here hexec rfl (pc0 := 51) rfl (hb hbytes d51) (by decide) rfl ?_
          exact Steps.refl _)
        exact ⟨T18, some (.int 1), _, _, _, X18, rfl, rfl, rfl, (fun h => by cases h), ⟨1, rfl, q18.trans hh16, Or.inl ⟨rfl, iff.mp he⟩⟩, fun fs hl => c19.trans (X18.ireturnOut hexec hret rfl (Or.inr (Or.inl rfl)) (hb hbytes d55) hl)⟩
      · have c19 : Steps p.tables e below (s₁.setTop (entryFrame m #[.ref x, .ref y] 3)) (T18.setTop (mkF m 55 #[.val (.ref x), .val (.ref y), .val (.ref y)] [.int 0])) := Steps.trans g18 (by
          refine XS.ifYes X18.here hexec rfl (pc0 := 47) rfl (hb hbytes d47) rfl (i0_eq_t rfl) (by decide) rfl ?_
          refine iconstV X18.here hexec rfl 0 (hb hbytes d54) (by decide) ?_
          exact Steps.refl _)
        exact ⟨T18, some (.int 0), _, _, _, X18, rfl, rfl, rfl, (fun h => by cases h), ⟨0, rfl, q18.trans hh16, Or.inr ⟨rfl, fun q => he (iff.mpr q)⟩⟩, fun fs hl => c19.trans (X18.ireturnOut hexec hret rfl (Or.inr (Or.inl rfl)) (hb hbytes d55) hl)⟩
    · have c13 : Steps p.tables e below (s₁.setTop (entryFrame m #[.ref x, .ref y] 3)) (T11.setTop (mkF m 55 #[.val (.ref x), .val (.ref y), .val (.ref y)] [.int 0])) := c12.trans (by
        refine XS.icmpYes X11.here hexec rfl (pc0 := 33) rfl (hb hbytes d33) rfl (ii_ne_t hcd) (by decide) rfl ?_
        refine iconstV X11.here hexec rfl 0 (hb hbytes d54) (by decide) ?_
        exact Steps.refl _)
      exact ⟨T11, some (.int 0), _, _, _, X11, rfl, rfl, rfl, (fun h => by cases h), ⟨0, rfl, hh11, Or.inr ⟨rfl, Cod.dif hx.2.2.2.2.1 hy.2.2.2.2.1 hcd⟩⟩, fun fs hl => c13.trans (X11.ireturnOut hexec hret rfl (Or.inr (Or.inl rfl)) (hb hbytes d55) hl)⟩
theorem pays {l : Launch} {R : Room} {p : Program} {e : Env} {below : List Frame} {s : State} {sargs : Array Value} {len W : Nat} (x t : Addr) (V : Cell) (cd : Int32) (n : Nat) (f : Nat → Int32) (y t' : Addr) (V' : Cell) (cd' : Int32) (k : Nat) (g : Nat → Int32) (z : Int32) (htab : tab.before sargs s = true) (hfr : 2 ≤ R.frames) (hlo : W + 28 ≤ R.locals) :
    Back l R p e below s sargs yN len W (fun A₁ a₁ => A₁.cells + 0 ≤ R.cells ∧ A₁.slots + 0 ≤ R.slots ∧ P x t V cd n f y t' V' cd' k g z a₁ A₁.U) (fun A₁ _ v₁ B₁ => Says01 (SameT n f k g) v₁ A₁.U B₁.U ∧ B₁.locs = A₁.locs ++ [] ∧ B₁.cells = A₁.cells + 0 ∧ B₁.slots = A₁.slots + 0) :=
  (law l x t V cd n f y t' V' cd' k g z).pays htab hfr (by omega)
end SEq
end StrChars
namespace StrChars.Road
open Jvm Sem ClassFile Op Lib Jvm.Stand Jvm.Free Jvm.Free.XT
open Jvm.Lib.Cold (StaticIs)
/-- the words of String.equals(Object) -/
abbrev wordsEq : List Jvm.Cond := [.code SEq.yN SEq.yB 3 (some .boolean), .initialized ST, .classLink ST 10 ST, .fieldLink ST 38 ST "COMPACT_STRINGS" "Z", .fieldLink ST 15 ST "coder" "B", .fieldLink ST 9 ST "value" "[B", .methodLink ST 541 LEq.yN, .static LEq.yN, .code LEq.yN LEq.yB 3 (some .boolean), .initialized "java/lang/StringLatin1"]
theorem tabEq_of {a : Array Value} {s : State} (h : ∀ w ∈ wordsEq, w.before a s = true) : SEq.tab.before a s = true := by
  have hl : LEq.tab.before a s = true := unparts (wk h (.code LEq.yN LEq.yB 3 (some .boolean))) (wks h (.initialized LEq.yN.cls :: LEq.site))
  have q := consq hl h
  exact unparts (wk q (.code SEq.yN SEq.yB 3 (some .boolean))) (wks q (.initialized SEq.yN.cls :: SEq.site))
theorem movedEq {Z s : State} {a0 args : Array Value} (hZ : Z.Warmed39 s.vm) (hw : ∀ d ∈ wordsEq, d.before a0 Z = true) : ∀ d ∈ wordsEq, d.before args s = true := fun d hd => by
  have t : ∀ d ∈ wordsEq, (d.onTables && d.keepsFace) = true := by decide +kernel
  exact RoadKit.mv hZ (hw d hd) (t d hd)
/-- the road's facts of a String, as the laws ask it -/
theorem txt_of {Z U : State} {a0 : Array Value} {kI : Nat} (wi : (Jvm.Cond.instantiable ST kI).before a0 Z = true) (al : Z.vm.Alike U.vm) {x t : Addr} {kb : ClassId} {cs : List Int32} {cd N2 : Int32} {vs : List Value} (E : RoadKit.Exa Z U.heap x ST) (V : RoadKit.Fld Z U.heap x ST "value" "[B" (.ref t)) (C : RoadKit.Fld Z U.heap x ST "coder" "B" (.int cd)) (K : RoadKit.Arv Z U.heap t kb .byte N2 vs (.int 0)) (hc : CodA cs cd N2 vs) (hb : ∀ c ∈ cs, ¬ c < 0 ∧ ¬ (65535 : Int32) < c) (l2 : cs.length ≤ 4000) :
    ∃ A, Txt x t A cd cs.length (fun j => cs.getD j 0) U := by
  obtain ⟨A, K1, K2, K3, K4, K5, K6⟩ := K
  have hcod := hc.cod (by omega) K3 K5
  obtain ⟨D, fV, fC, hB, F1, F2, g1, g2, -, -⟩ := strObj wi al E V C
  exact ⟨A, ⟨_, hB.2.2.1, D, hB.1, rfl, by cases q : D.vm <;> first | rfl | exact absurd q (hB.2.1.2 _)⟩, Has.of hB F1 g1, Has.of hB F2 g2, ⟨K1.1, State.isArrayOf_alike al K1.2.1, K1.2.2, by rcases hcod with ⟨-, q, -⟩ | ⟨-, q, -⟩ <;> omega⟩, hcod, fun j hj => by
    have e : cs.getD j 0 = cs[j] := by simp [List.getD_eq_getElem?_getD, hj]
    show ¬ cs.getD j 0 < 0 ∧ ¬ 65535 < cs.getD j 0
    rw [e]; exact hb _ (List.getElem_mem _)⟩
theorem same_list (cs ds : List Int32) : SameT cs.length (fun j => cs.getD j 0) ds.length (fun j => ds.getD j 0) ↔ cs = ds := by
  constructor
  · rintro ⟨e, q⟩
    refine List.ext_getElem e fun j h1 h2 => ?_
    have := q j h1
    simpa [List.getD_eq_getElem?_getD, h1, h2] using this
  · rintro rfl
    exact ⟨rfl, fun _ _ => rfl⟩
/-- **equals(Object) OF TWO SUCH STRINGS**: 1 just where the chars are the same -/
theorem eqW {p : Program} {l : Launch} {e : Env} {R : Room} {s : State} {args : Array Value} {below : List Frame} {len W : Nat} {Z : State} {a0 : Array Value} {h : Heap} (hZ : Z.Warmed39 s.vm) (hw : ∀ d ∈ wordsEq, d.before a0 Z = true) {kI : Nat} (wi : (Jvm.Cond.instantiable ST kI).before a0 Z = true)
    {x t : Addr} {kb : ClassId} {cs : List Int32} {cd N2 : Int32} {vs : List Value} (E : RoadKit.Exa Z h x ST) (V : RoadKit.Fld Z h x ST "value" "[B" (.ref t)) (C : RoadKit.Fld Z h x ST "coder" "B" (.int cd)) (K : RoadKit.Arv Z h t kb .byte N2 vs (.int 0)) (hc : CodA cs cd N2 vs) (hb : ∀ c ∈ cs, ¬ c < 0 ∧ ¬ (65535 : Int32) < c) (l2 : cs.length ≤ 4000)
    {y t' : Addr} {kb' : ClassId} {ds : List Int32} {cd' N2' : Int32} {vs' : List Value} (E' : RoadKit.Exa Z h y ST) (V' : RoadKit.Fld Z h y ST "value" "[B" (.ref t')) (C' : RoadKit.Fld Z h y ST "coder" "B" (.int cd')) (K' : RoadKit.Arv Z h t' kb' .byte N2' vs' (.int 0)) (hc' : CodA ds cd' N2' vs') (hb' : ∀ c ∈ ds, ¬ c < 0 ∧ ¬ (65535 : Int32) < c) (l2' : ds.length ≤ 4000)
    {z : Int32} (S : RoadKit.Sta Z h ST "COMPACT_STRINGS" "Z" (.int z)) (hz : ¬ z = 0) (hfr : 2 ≤ R.frames) (hlo : W + 28 ≤ R.locals) :
    Back l R p e below s args (⟨"java/lang/String", "equals", "(Ljava/lang/Object;)Z"⟩ : MethodName) len W (fun P a => a = #[.ref x, .ref y] ∧ P.U.heap = h ∧ P.cells + 0 ≤ R.cells ∧ P.slots + 0 ≤ R.slots)
      (fun P _ v B => ∃ L, (((v = some (.int 1) ∧ cs = ds) ∨ (v = some (.int 0) ∧ ¬ cs = ds)) ∧ L = [] ∧ B.U.heap = h) ∧ B.locs = P.locs ++ L ∧ B.cells = P.cells + 0 ∧ B.slots = P.slots + 0) := by
  intro m meth c P g ig mk a X hg hsize hdg hW hn hp'
  obtain ⟨rfl, rfl, r1, r2⟩ := hp'
  have al : Z.vm.Alike P.U.vm := hZ.alike.trans X.warmed.alike
  obtain ⟨A, hx⟩ := txt_of wi al E V C K hc hb l2
  obtain ⟨A', hy⟩ := txt_of wi al E' V' C' K' hc' hb' l2'
  obtain ⟨v, B, X', ⟨⟨w, hv, hh, hq⟩, hl, hk, hs⟩, st⟩ := SEq.pays x t A cd cs.length (fun j => cs.getD j 0) y t' A' cd' ds.length (fun j => ds.getD j 0) z (tabEq_of (movedEq hZ hw)) hfr hlo m meth c P g ig mk _ X hg hsize hdg hW hn ⟨r1, r2, rfl, hx, hy, sta_is al S, hz⟩
  refine ⟨v, B, X', ⟨[], ⟨?_, rfl, hh⟩, hl, hk, hs⟩, st⟩
  rcases hq with ⟨rfl, q⟩ | ⟨rfl, q⟩
  · exact Or.inl ⟨hv, (same_list cs ds).mp q⟩
  · exact Or.inr ⟨hv, fun e => q ((same_list cs ds).mpr e)⟩
end StrChars.Road
namespace StrChars.Road
open Jvm Sem ClassFile Op Lib Jvm.Stand Jvm.Free Jvm.Free.XT
open Jvm.Lib.Cold (StaticIs)
/-- what backV says of its String, as the contracts of this text ask it: cs's low bytes, coder 0 -/
theorem codOf {cs : List Int32} {n : Nat} (hn : cs.length = n) (hb : ∀ c ∈ cs, ¬ 255 < c) : CodA cs 0 (Int32.ofNat n) ((cs.map lo8).map Value.int) := Or.inl ⟨rfl, by rw [hn], by simp [List.map_map, Function.comp_def], hb⟩
end StrChars.Road
end Jvm.Pilot.@@N@@
namespace Jvm.Pilot.@@N@@
open Jvm Jvm.ClassFile Sem Op Lib Jvm.Free Jvm.Stand Jvm.LawKit Jvm.RoadKit Bundle Jvm.Pilot.@@N@@.Jvm.D
section OwnKit
variable {l : Launch} {Z : State} {EL : List (String × Nat)} {n0 : Nat} {p : Program} {e : Env} {R : Room} {s : State} {m : MethodId} {args : Array Value} {below : List Frame} {meth : Method} {c : Code} {own : String} {ws : List Addr} {vm : Vm} {T : State} {h h' h2 : Heap} {locs : List Loc} {cells slots : Nat} {a0 : Array Value} {Rz : Outcome → State → Prop} {A B : State}
/-- the run goes on from here to a good end -/
def oGo (p : Program) (e : Env) (below : List Frame) (Rz : Outcome → State → Prop) (A : State) : Prop :=
  ∃ s₂ o, Steps p.tables e below A s₂ ∧ s₂.status = .running ∧ Ended s₂ below o ∧ Rz o s₂
theorem oSt (h : ∀ t, Steps p.tables e below B t → Steps p.tables e below A t) (k : oGo p e below Rz B) : oGo p e below Rz A := by
  obtain ⟨s₂, o, h1, r⟩ := k
  exact ⟨s₂, o, h _ h1, r⟩
theorem oCast {g g' : JFrame} (q : g = g') (k : oGo p e below Rz (T.setTop g')) : oGo p e below Rz (T.setTop g) := q ▸ k
theorem oExtR (h : Heap) : Ext h h := ⟨Nat.le_refl _, fun _ _ q => q⟩
theorem oExtT (E : Ext h h') (E' : Ext h' h2) : Ext h h2 := ⟨Nat.le_trans E.1 E'.1, fun a c q => E'.2 a c (E.2 a c q)⟩
theorem oExtK {ws' : List Addr} (E : Ext h h') (K : Keep h' h2 ws') (q : ∀ x ∈ ws', h.size ≤ x) : Ext h h2 :=
  ⟨Nat.le_trans E.1 K.1, fun x c r => K.2.1 x c (E.2 x c r) fun z => absurd (Array.getElem?_eq_some_iff.mp r).1 (Nat.not_lt.mpr (q x z))⟩
theorem oExtW {a : Addr} {sl : Nat} {v : Value} (E : Ext h h') (W : Wr h' h2 a sl v) (q : h.size ≤ a) : Ext h h2 :=
  oExtK E (Keep.of_wr W) (allS q all0)
theorem oExt0 (K : Keep h h' []) : Ext h h' := ⟨K.1, fun x c r => K.2.1 x c r nin0⟩
theorem oKeep0 (E : Ext h h') : Keep h h' [] := (Keep.refl _ _).ext E
theorem oIn1 {P : Addr → Prop} {x : Addr} (q : P x) : ∀ y ∈ [x], P y := allS q all0
/-- where the walk stands: the run, the heap, the tables, the places written, what stood, what the literals' book says -/
def oA (l : Launch) (Z : State) (EL : List (String × Nat)) (n0 : Nat) (p : Program) (e : Env) (R : Room) (s : State) (m : MethodId) (args : Array Value) (below : List Frame) (meth : Method) (c : Code) (own : String) (ws : List Addr) (vm : Vm) (T : State) (h : Heap) (locs : List Loc) (cells slots : Nat) : Prop :=
  Stand p l e R (s.setVm vm) m args below meth c T locs cells slots ∧ T.heap = h ∧ Z.Warmed39 vm ∧ vm.findClass own = some m.cls ∧ (∃ k, s.Since vm k ∧ k ≤ h.size) ∧ Fr n0 locs ∧ Old Z n0 h ∧ Keep s.heap h ws ∧ CHr Z EL s.vm s.heap vm h
theorem oA.here (A : oA l Z EL n0 p e R s m args below meth c own ws vm T h locs cells slots) : At T m c below := A.1.here
theorem oA.al (A : oA l Z EL n0 p e R s m args below meth c own ws vm T h locs cells slots) : Z.vm.Alike vm := A.2.2.1.alike
theorem oA.old (A : oA l Z EL n0 p e R s m args below meth c own ws vm T h locs cells slots) : Ext Z.heap h := A.2.2.2.2.2.2.1.2
theorem oA.oldn (A : oA l Z EL n0 p e R s m args below meth c own ws vm T h locs cells slots) : Old Z n0 h := A.2.2.2.2.2.2.1
theorem oA.n0le (A : oA l Z EL n0 p e R s m args below meth c own ws vm T h locs cells slots) : n0 ≤ h.size := A.2.2.2.2.2.2.1.1 ▸ A.2.2.2.2.2.2.1.2.1
theorem oA.keep (A : oA l Z EL n0 p e R s m args below meth c own ws vm T h locs cells slots) : Keep s.heap h ws := A.2.2.2.2.2.2.2.1
theorem oA.ch (A : oA l Z EL n0 p e R s m args below meth c own ws vm T h locs cells slots) : CHv Z EL vm h := A.2.2.2.2.2.2.2.2.1
theorem oA.sle (A : oA l Z EL n0 p e R s m args below meth c own ws vm T h locs cells slots) : s.heap.size ≤ h.size := A.keep.1
theorem oA.mono {k n : Nat} (A : oA l Z EL n0 p e R s m args below meth c own ws vm T h locs cells slots) (h1 : cells ≤ k) (h2 : slots ≤ n) : oA l Z EL n0 p e R s m args below meth c own ws vm T h locs k n := ⟨A.1.mono h1 h2, A.2⟩
/-- the walk stands behind a step that moved the tables alone -/
theorem oA.set {T' : State} (A : oA l Z EL n0 p e R s m args below meth c own ws vm T h locs cells slots) (X : Stand p l e R (s.setVm vm) m args below meth c T' locs cells slots) (eT : T'.heap = h) : oA l Z EL n0 p e R s m args below meth c own ws vm T' h locs cells slots := ⟨X, eT, A.2.2⟩
/-- .. that made a cell or more -/
theorem oA.grow {T' : State} {k n : Nat} (A : oA l Z EL n0 p e R s m args below meth c own ws vm T h locs cells slots) (X : Stand p l e R (s.setVm vm) m args below meth c T' locs k n) (eT : T'.heap = h') (E : Ext h h') : oA l Z EL n0 p e R s m args below meth c own ws vm T' h' locs k n := by
  obtain ⟨-, -, hZ, ho, ⟨k, hS, hk⟩, N, O, K, C⟩ := A
  exact ⟨X, eT, hZ, ho, ⟨k, hS, Nat.le_trans hk E.1⟩, N, O.ext E, K.ext E, C.trans (CHr.ext E C.1)⟩
/-- .. that wrote one place -/
theorem oA.write {T' : State} {a : Addr} {sl : Nat} {v : Value} (A : oA l Z EL n0 p e R s m args below meth c own ws vm T h locs cells slots) (X : Stand p l e R (s.setVm vm) m args below meth c T' (locs ++ [⟨a, sl⟩]) cells slots) (eT : T'.heap = h') (W : Wr h h' a sl v) (q1 : n0 ≤ a) (q2 : a ∈ ws ∨ s.heap.size ≤ a) (q3 : Safe Z EL vm h a) : oA l Z EL n0 p e R s m args below meth c own ws vm T' h' (locs ++ [⟨a, sl⟩]) cells slots := by
  obtain ⟨-, -, hZ, ho, ⟨k, hS, hk⟩, N, O, K, C⟩ := A
  exact ⟨X, eT, hZ, ho, ⟨k, hS, by rw [W.size]; exact hk⟩, N.app fun y hy => by cases List.mem_singleton.mp hy; exact q1, O.wr W q1, K.wr W q2, C.trans (CHr.wr W q3 C.1)⟩
theorem oA.safeExa {x : Addr} {C : String} (A : oA l Z EL n0 p e R s m args below meth c own ws vm T h locs cells slots) (E : Exa Z h x C) (h1 : C ≠ "java/lang/String") (h2 : C ≠ "[B") : Safe Z EL vm h x := Safe.exa A.al E h1 h2
/-! single steps -/
theorem oA.getF (A : oA l Z EL n0 p e R s m args below meth c own ws vm T h locs cells slots) (hx : p.tables.exec = Jvm.exec) {R0 O n d host : String} {index : Nat} (w : (Jvm.Cond.fieldLink own index R0 n d).before a0 Z = true ∨ (Jvm.Cond.fieldLinkNest own index R0 n d host).before a0 Z = true) (via : Via Z R0 O n d) {a : Addr} {v : Value} (F : Fld Z h a O n d v) {g : JFrame} (hg : g.method = m) {rest : List Value} (hs : g.stack = .ref a :: rest) (hd : decode c.code g.pc = .ok (.getfield index, 3)) :
    ∃ T', oA l Z EL n0 p e R s m args below meth c own ws vm T' h locs cells slots ∧ ∀ t, Steps p.tables e below (T'.setTop { g with pc := g.pc + 3, stack := v :: rest }) t → Steps p.tables e below (T.setTop g) t := by
  obtain ⟨T', X', e', st⟩ := RoadKit.getF A.1 hx A.2.2.1 A.2.2.2.1 w via A.2.1 F hg hs hd
  exact ⟨T', A.set X' e', st⟩
theorem oA.putF (A : oA l Z EL n0 p e R s m args below meth c own ws vm T h locs cells slots) (hx : p.tables.exec = Jvm.exec) {R0 O n d host C : String} {index kk : Nat} {ty : FieldType} (w : (Jvm.Cond.fieldLink own index R0 n d).before a0 Z = true ∨ (Jvm.Cond.fieldLinkNest own index R0 n d host).before a0 Z = true) (via : Via Z R0 O n d) {a : Addr} {v old : Value} (F : Fld Z h a O n d old) (E : Exa Z h a C)
    (L : (Jvm.Cond.lays C O n d).before a0 Z = true ∨ ((Jvm.Cond.laysFinal C O n d).before a0 Z = true ∧ own = O ∧ meth.name = "<init>")) (wi : (Jvm.Cond.instantiable C kk).before a0 Z = true) (hty : parseFieldDescriptor d = some ty) (hn : narrow ty v = v) (hf : fits ty v = true) (q1 : n0 ≤ a) (q2 : a ∈ ws ∨ s.heap.size ≤ a) (q3 : Safe Z EL vm h a)
    {g : JFrame} (hg : g.method = m) {rest : List Value} (hs : g.stack = v :: .ref a :: rest) (hd : decode c.code g.pc = .ok (.putfield index, 3)) :
    ∃ T' h', oA l Z EL n0 p e R s m args below meth c own ws vm T' h' (locs ++ [⟨a, Jvm.RoadKit.slotOf Z O n d⟩]) cells slots ∧ Wr h h' a (Jvm.RoadKit.slotOf Z O n d) v ∧ ∀ t, Steps p.tables e below (T'.setTop { g with pc := g.pc + 3, stack := rest }) t → Steps p.tables e below (T.setTop g) t := by
  obtain ⟨T', h', X', e', W, st⟩ := RoadKit.putF A.1 hx A.2.2.1 A.2.2.2.1 w via A.2.1 F E L wi hty hn hf hg hs hd
  exact ⟨T', h', A.write X' e' W q1 q2 q3, W, st⟩
theorem oA.getS (A : oA l Z EL n0 p e R s m args below meth c own ws vm T h locs cells slots) (hx : p.tables.exec = Jvm.exec) {R0 O n d host : String} {index : Nat} (w : (Jvm.Cond.fieldLink own index R0 n d).before a0 Z = true ∨ (Jvm.Cond.fieldLinkNest own index R0 n d host).before a0 Z = true) (via : Via Z R0 O n d) {v : Value} (F : Sta Z Z.heap O n d v) {g : JFrame} (hg : g.method = m) (hd : decode c.code g.pc = .ok (.getstatic index, 3)) :
    ∃ T', oA l Z EL n0 p e R s m args below meth c own ws vm T' h locs cells slots ∧ ∀ t, Steps p.tables e below (T'.setTop { g with pc := g.pc + 3, stack := v :: g.stack }) t → Steps p.tables e below (T.setTop g) t := by
  obtain ⟨T', X', e', st⟩ := RoadKit.getS2 A.1 hx A.2.2.1 A.2.2.2.1 w via A.2.1 (F.ext A.old) hg hd
  exact ⟨T', A.set X' e', st⟩
theorem oA.newO (A : oA l Z EL n0 p e R s m args below meth c own ws vm T h locs cells slots) (hx : p.tables.exec = Jvm.exec) {C : String} {index n : Nat} (w : (Jvm.Cond.classLink own index C).before a0 Z = true) (wi : (Jvm.Cond.instantiable C n).before a0 Z = true) (wz : (Jvm.Cond.initialized C).before a0 Z = true) {g : JFrame} (hg : g.method = m) (hd : decode c.code g.pc = .ok (.new index, 3)) (hc : cells + 1 ≤ R.cells) (hl : slots + n ≤ R.slots) :
    ∃ T' h' x, x = h.size ∧ x < h'.size ∧ n0 ≤ x ∧ s.heap.size ≤ x ∧ oA l Z EL n0 p e R s m args below meth c own ws vm T' h' locs (cells + 1) (slots + n) ∧ Ext h h' ∧ Exa Z h' x C ∧ Safe Z EL vm h' x ∧ (∀ {O nm d : String} {ty : FieldType}, Laid Z a0 C O nm d → parseFieldDescriptor d = some ty → Fld Z h' x O nm d (defaultValue ty)) ∧
      ∀ t, Steps p.tables e below (T'.setTop { g with pc := g.pc + 3, stack := .ref x :: g.stack }) t → Steps p.tables e below (T.setTop g) t := by
  obtain ⟨T', h', X', e', E, Ex, D, -, st⟩ := RoadKit.newO A.1 hx A.2.2.1 A.2.2.2.1 w wi wz A.2.1 hg hd hc hl
  exact ⟨T', h', h.size, rfl, Ex.lt, A.n0le, A.sle, A.grow X' e' E, E, Ex, (Safe.new (Nat.le_refl _)).ext E A.ch, D, st⟩
theorem oA.newP (A : oA l Z EL n0 p e R s m args below meth c own ws vm T h locs cells slots) (hx : p.tables.exec = Jvm.exec) {aty : ArrayType} (w : (Jvm.Cond.arrayClass (newarray.typeOf aty)).before a0 Z = true) {g : JFrame} (hg : g.method = m) (hd : decode c.code g.pc = .ok (.newarray aty, 2)) {n : Int32} {rest : List Value} (hs : g.stack = .int n :: rest)
    (hn : ¬ n < 0) {cap : Nat} (hcap : n.toNatClampNeg ≤ cap) (hb : cap * 8 ≤ 536870912) (hc : cells + 1 ≤ R.cells) (hl : slots + cap ≤ R.slots) :
    ∃ T' h' x k, x = h.size ∧ x < h'.size ∧ n0 ≤ x ∧ s.heap.size ≤ x ∧ oA l Z EL n0 p e R s m args below meth c own ws vm T' h' locs (cells + 1) (slots + cap) ∧ Ext h h' ∧ Arv Z h' x k (newarray.typeOf aty) n [] (defaultValue (newarray.typeOf aty)) ∧ Safe Z EL vm h' x ∧
      ∀ t, Steps p.tables e below (T'.setTop { g with pc := g.pc + 2, stack := .ref x :: rest }) t → Steps p.tables e below (T.setTop g) t := by
  obtain ⟨T', h', k, X', e', E, Ar, st⟩ := RoadKit.newP A.1 hx A.2.2.1 w A.2.1 hg hd hs hn hcap hb hc hl
  exact ⟨T', h', h.size, k, rfl, Ar.lt, A.n0le, A.sle, A.grow X' e' E, E, Arv.new Ar hn, (Safe.new (Nat.le_refl _)).ext E A.ch, st⟩
theorem oA.stC (A : oA l Z EL n0 p e R s m args below meth c own ws vm T h locs cells slots) (hx : p.tables.exec = Jvm.exec) {a : Addr} {k : ClassId} {z : Int32} {vs : List Value} {d : Value} (V : Arv Z h a k .char z vs d) {j x : Int32} (i : Nat) (hj : j.toNatClampNeg = i) (hj0 : ¬ j < 0 ∧ j < z) (hi : i < vs.length) (q1 : n0 ≤ a) (q2 : a ∈ ws ∨ s.heap.size ≤ a)
    {g : JFrame} (hg : g.method = m) {rest : List Value} (hs : g.stack = .int x :: .int j :: .ref a :: rest) (hd : decode c.code g.pc = .ok (.castore, 1)) :
    ∃ T' h', oA l Z EL n0 p e R s m args below meth c own ws vm T' h' (locs ++ [⟨a, j.toNatClampNeg⟩]) cells slots ∧ Wr h h' a j.toNatClampNeg (.int (nar .char x)) ∧ Arv Z h' a k .char z (vs.set i (.int (nar .char x))) d ∧ ∀ t, Steps p.tables e below (T'.setTop { g with pc := g.pc + 1, stack := rest }) t → Steps p.tables e below (T.setTop g) t := by
  have hsafe : Safe Z EL vm h a := Safe.arv A.al V (by simp)
  obtain ⟨cl, Ar, r1, S, r3, H, G⟩ := V
  obtain ⟨T', h', X', e', W, st⟩ := RoadKit.stC A.1 hx A.2.2.1 A.2.1 Ar (inb_of S hj0) hg hs hd
  exact ⟨T', h', A.write X' e' W q1 q2 hsafe, W, Arv.set Ar r1 S r3 H G (fits_nar_char _) W i hj hi, st⟩
theorem oA.stB (A : oA l Z EL n0 p e R s m args below meth c own ws vm T h locs cells slots) (hx : p.tables.exec = Jvm.exec) {a : Addr} {k : ClassId} {z : Int32} {vs : List Value} {d : Value} (V : Arv Z h a k .byte z vs d) {j x : Int32} (i : Nat) (hj : j.toNatClampNeg = i) (hj0 : ¬ j < 0 ∧ j < z) (hi : i < vs.length) (q1 : n0 ≤ a) (q2 : a ∈ ws ∨ s.heap.size ≤ a) (q3 : Safe Z EL vm h a)
    {g : JFrame} (hg : g.method = m) {rest : List Value} (hs : g.stack = .int x :: .int j :: .ref a :: rest) (hd : decode c.code g.pc = .ok (.bastore, 1)) :
    ∃ T' h', oA l Z EL n0 p e R s m args below meth c own ws vm T' h' (locs ++ [⟨a, j.toNatClampNeg⟩]) cells slots ∧ Wr h h' a j.toNatClampNeg (.int (nar .byte x)) ∧ Arv Z h' a k .byte z (vs.set i (.int (nar .byte x))) d ∧ ∀ t, Steps p.tables e below (T'.setTop { g with pc := g.pc + 1, stack := rest }) t → Steps p.tables e below (T.setTop g) t := by
  obtain ⟨cl, Ar, r1, S, r3, H, G⟩ := V
  obtain ⟨T', h', X', e', W, st⟩ := RoadKit.stB A.1 hx A.2.2.1 A.2.1 Ar (inb_of S hj0) hg hs hd
  exact ⟨T', h', A.write X' e' W q1 q2 q3, W, Arv.set Ar r1 S r3 H G (fits_nar_byte _) W i hj hi, st⟩
theorem oA.len (A : oA l Z EL n0 p e R s m args below meth c own ws vm T h locs cells slots) (hx : p.tables.exec = Jvm.exec) {a : Addr} {k : ClassId} {ty : FieldType} {z : Int32} {vs : List Value} {d : Value} (V : Arv Z h a k ty z vs d) {g : JFrame} (hg : g.method = m) {rest : List Value} (hs : g.stack = .ref a :: rest) (hd : decode c.code g.pc = .ok (.arraylength, 1)) :
    ∀ t, Steps p.tables e below (T.setTop { g with pc := g.pc + 1, stack := .int z :: rest }) t → Steps p.tables e below (T.setTop g) t := by
  obtain ⟨cl, Ar, r1, S, r3, H, G⟩ := V
  intro t ht
  refine A.1.arraylength hx (by rw [A.2.1]; exact Ar.1) (State.isArrayOf_alike A.al Ar.2.1) hg hs hd _ ?_
  rw [len_of S r3]
  exact ht
theorem oA.ldC (A : oA l Z EL n0 p e R s m args below meth c own ws vm T h locs cells slots) (hx : p.tables.exec = Jvm.exec) {a : Addr} {k : ClassId} {z : Int32} {vs : List Value} {d v : Value} (V : Arv Z h a k .char z vs d) {j : Int32} (hj0 : ¬ j < 0 ∧ j < z) (hv : vs.getD j.toNatClampNeg d = v) {g : JFrame} (hg : g.method = m) {rest : List Value} (hs : g.stack = .int j :: .ref a :: rest) (hd : decode c.code g.pc = .ok (.caload, 1)) :
    ∀ t, Steps p.tables e below (T.setTop { g with pc := g.pc + 1, stack := v :: rest }) t → Steps p.tables e below (T.setTop g) t := by
  obtain ⟨cl, Ar, r1, S, r3, H, G⟩ := V
  intro t ht
  exact A.1.caload hx (by rw [A.2.1]; exact Ar.1) (State.isArrayOf_alike A.al Ar.2.1) Ar.2.2 (inb_of S hj0) (H.at (inb_of S hj0) hv) hg hs hd _ ht
theorem oA.ldB (A : oA l Z EL n0 p e R s m args below meth c own ws vm T h locs cells slots) (hx : p.tables.exec = Jvm.exec) {a : Addr} {k : ClassId} {z : Int32} {vs : List Value} {d v : Value} (V : Arv Z h a k .byte z vs d) {j : Int32} (hj0 : ¬ j < 0 ∧ j < z) (hv : vs.getD j.toNatClampNeg d = v) {g : JFrame} (hg : g.method = m) {rest : List Value} (hs : g.stack = .int j :: .ref a :: rest) (hd : decode c.code g.pc = .ok (.baload, 1)) :
    ∀ t, Steps p.tables e below (T.setTop { g with pc := g.pc + 1, stack := v :: rest }) t → Steps p.tables e below (T.setTop g) t := by
  obtain ⟨cl, Ar, r1, S, r3, H, G⟩ := V
  intro t ht
  exact A.1.baloadBytes hx (by rw [A.2.1]; exact Ar.1) (State.isArrayOf_alike A.al Ar.2.1) Ar.2.2 (inb_of S hj0) (H.at (inb_of S hj0) hv) hg hs hd _ ht
theorem oA.ldR (A : oA l Z EL n0 p e R s m args below meth c own ws vm T h locs cells slots) (hx : p.tables.exec = Jvm.exec) {a : Addr} {k : ClassId} {ty : FieldType} {z : Int32} {vs : List Value} {d v : Value} (V : Arv Z h a k ty z vs d) (hty : ty.isReference = true) {j : Int32} (hj0 : ¬ j < 0 ∧ j < z) (hv : vs.getD j.toNatClampNeg d = v) {g : JFrame} (hg : g.method = m) {rest : List Value} (hs : g.stack = .int j :: .ref a :: rest) (hd : decode c.code g.pc = .ok (.aaload, 1)) :
    ∀ t, Steps p.tables e below (T.setTop { g with pc := g.pc + 1, stack := v :: rest }) t → Steps p.tables e below (T.setTop g) t := by
  obtain ⟨cl, Ar, r1, S, r3, H, G⟩ := V
  intro t ht
  exact A.1.aaload hx (by rw [A.2.1]; exact Ar.1) (State.isArrayOf_alike A.al Ar.2.1) hty Ar.2.2 (inb_of S hj0) (H.at (inb_of S hj0) hv) hg hs hd _ ht
theorem oA.ldcI (A : oA l Z EL n0 p e R s m args below meth c own ws vm T h locs cells slots) (hx : p.tables.exec = Jvm.exec) {index : Nat} {v : Int32} (w : (Jvm.Cond.constant own index v).before a0 Z = true) {g : JFrame} (hg : g.method = m) (hd : decode c.code g.pc = .ok (.ldc index, 2)) :
    ∀ t, Steps p.tables e below (T.setTop { g with pc := g.pc + 2, stack := .int v :: g.stack }) t → Steps p.tables e below (T.setTop g) t :=
  A.1.ldcInt hx A.2.2.2.1 (mvT A.2.2.1 w) hg hd
theorem oA.ldcJ (A : oA l Z EL n0 p e R s m args below meth c own ws vm T h locs cells slots) (hx : p.tables.exec = Jvm.exec) {index : Nat} {v : Int64} (w : (Jvm.Cond.constantLong own index v).before a0 Z = true) {g : JFrame} (hg : g.method = m) (hd : decode c.code g.pc = .ok (.ldc2_w index, 3)) :
    ∀ t, Steps p.tables e below (T.setTop { g with pc := g.pc + 3, stack := .long v :: g.stack }) t → Steps p.tables e below (T.setTop g) t :=
  fun t ht => A.1.ldc2J hx A.2.2.2.1 (mvT A.2.2.1 w) hg hd ht
theorem oA.initO (A : oA l Z EL n0 p e R s m args below meth c own ws vm T h locs cells slots) (hx : p.tables.exec = Jvm.exec) {idx : Nat} (w1 : (Jvm.Cond.methodLink own idx Lib.objectInit).before a0 Z = true) (w2 : (Jvm.Cond.instanceMethod Lib.objectInit).before a0 Z = true) (w3 : (Jvm.Cond.code Lib.objectInit ⟨#[0xb1]⟩ 1 none).before a0 Z = true) {g : JFrame} (hg : g.method = m) (hsize : g.locals.size = c.maxLocals) {a : Addr} {rest : List Value} (hs : g.stack = .ref a :: rest) (hd : decode c.code g.pc = .ok (.invokespecial idx, 3))
    (hf : 1 ≤ R.frames) {W : Nat} (hW : 2 * g.monitorRoom + (rest.map fun v => v.category).sum ≤ W) (hl : W + 12 ≤ R.locals) :
    ∃ T', oA l Z EL n0 p e R s m args below meth c own ws vm T' h locs cells slots ∧ ∀ t, Steps p.tables e below (T'.setTop { g with pc := g.pc + 3, stack := rest }) t → Steps p.tables e below (T.setTop g) t := by
  obtain ⟨T', X', e', st⟩ := RoadKit.initO A.1 hx A.2.2.1 A.2.2.2.1 w1 w2 w3 A.2.1 hg hsize hs hd hf hW hl
  exact ⟨T', A.set X' e', st⟩
theorem oA.castY (A : oA l Z EL n0 p e R s m args below meth c own ws vm T h locs cells slots) (hx : p.tables.exec = Jvm.exec) {K : String} {index : Nat} (w : (Jvm.Cond.classLink own index K).before a0 Z = true) {a : Addr} (F : Ins Z h a K true) {g : JFrame} (hg : g.method = m) {rest : List Value} (hs : g.stack = .ref a :: rest) (hd : decode c.code g.pc = .ok (.checkcast index, 3)) :
    ∃ T', oA l Z EL n0 p e R s m args below meth c own ws vm T' h locs cells slots ∧ ∀ t, Steps p.tables e below (T'.setTop { g with pc := g.pc + 3 }) t → Steps p.tables e below (T.setTop g) t := by
  obtain ⟨T', X', e', st⟩ := RoadKit.castY A.1 hx A.2.2.1 A.2.2.2.1 w A.2.1 F hg hs hd
  exact ⟨T', A.set X' e', st⟩
theorem oA.instY (A : oA l Z EL n0 p e R s m args below meth c own ws vm T h locs cells slots) (hx : p.tables.exec = Jvm.exec) {K : String} {index : Nat} (w : (Jvm.Cond.classLink own index K).before a0 Z = true) {a : Addr} (F : Ins Z h a K true) {g : JFrame} (hg : g.method = m) {rest : List Value} (hs : g.stack = .ref a :: rest) (hd : decode c.code g.pc = .ok (.instanceof index, 3)) :
    ∃ T', oA l Z EL n0 p e R s m args below meth c own ws vm T' h locs cells slots ∧ ∀ t, Steps p.tables e below (T'.setTop { g with pc := g.pc + 3, stack := .int 1 :: rest }) t → Steps p.tables e below (T.setTop g) t := by
  obtain ⟨T', X', e', st⟩ := RoadKit.instY A.1 hx A.2.2.1 A.2.2.2.1 w A.2.1 F hg hs hd
  exact ⟨T', A.set X' e', st⟩
theorem oA.instNo (A : oA l Z EL n0 p e R s m args below meth c own ws vm T h locs cells slots) (hx : p.tables.exec = Jvm.exec) {K C : String} {index : Nat} (w : (Jvm.Cond.classLink own index K).before a0 Z = true) {a : Addr} (E : Exa Z h a C) (F : ∃ c t, Z.vm.findClass C = some c ∧ Z.vm.findClass K = some t ∧ Z.vm.assignable c t = false) {g : JFrame} (hg : g.method = m) {rest : List Value} (hs : g.stack = .ref a :: rest) (hd : decode c.code g.pc = .ok (.instanceof index, 3)) :
    ∃ T', oA l Z EL n0 p e R s m args below meth c own ws vm T' h locs cells slots ∧ ∀ t, Steps p.tables e below (T'.setTop { g with pc := g.pc + 3, stack := .int 0 :: rest }) t → Steps p.tables e below (T.setTop g) t := by
  obtain ⟨T', X', e', st⟩ := RoadKit.instNo A.1 hx A.2.2.1 A.2.2.2.1 w A.2.1 E F hg hs hd
  exact ⟨T', A.set X' e', st⟩
/-- ldc of a String constant of the book: the String, its array, its text -/
theorem oA.ldcS (A : oA l Z EL n0 p e R s m args below meth c own ws vm T h locs cells slots) (hx : p.tables.exec = Jvm.exec) {text : String} {index : Nat} (w : (Jvm.Cond.stringLink own index text).before a0 Z = true) (wS : ∀ a ∈ Bundle.stringAtoms, a.before a0 Z = true) (hEL : EW Z a0 EL) (hmem : (own, index) ∈ EL)
    {vs : List Value} {z : Int32} (ht : (∀ c ∈ text.toList, c.toNat < 256) ∧ text.toList.map (fun c => Value.int (Jvm.Lit.byteI c.toNat.toUInt16)) = vs) (hz : ¬ z < 0) (hl : z.toNatClampNeg = vs.length)
    {g : JFrame} (hg : g.method = m) (hd : decode c.code g.pc = .ok (.ldc index, 2)) {n : Nat} (hn : 4 * text.toList.length ≤ n) (hbig : n ≤ 536870912) (hc : cells + 2 ≤ R.cells) (hl' : slots + (n + 4) ≤ R.slots) :
    ∃ (x : Addr) (T' : State) (h' : Heap) (b : Addr) (k : ClassId), oA l Z EL n0 p e R s m args below meth c own ws T'.vm T' h' locs (cells + 2) (slots + (n + 4)) ∧ Ext h h' ∧ CHr Z EL vm h T'.vm h' ∧ Exa Z h' x "java/lang/String" ∧ Fld Z h' x "java/lang/String" "coder" "B" (.int 0) ∧ Fld Z h' x "java/lang/String" "value" "[B" (.ref b) ∧ Arv Z h' b k .byte z vs (.int 0) ∧ (∀ y, Safe Z EL T'.vm h' y → y ≠ x ∧ y ≠ b) ∧ Lit (s.setVm T'.vm) own index x ∧
      ∀ t, Steps p.tables e below (T'.setTop { g with pc := g.pc + 2, stack := .ref x :: g.stack }) t → Steps p.tables e below (T.setTop g) t := by
  obtain ⟨X, eT, hZ, ho, ⟨k0, hS, hk⟩, N, O, K, C⟩ := A
  obtain ⟨a, T', h', k1, b, k, r1, r2, r3, r4, r5, r6, r7, r8, r9, r10, r11, r12, r13, r14, r15, r16, st⟩ := ldcCH X hx hZ ho w wS eT hS hk hEL hmem C.1 ht hz hl hg hd hn hbig hc hl'
  exact ⟨a, T', h', b, k, ⟨r1, r2, r6, r7, ⟨k1, r4, r5⟩, N, O.ext r3, K.ext r3, C.trans r14⟩, r3, r14, r8, r9, r10, r11, r16, r15, st⟩
/-- a second load of the same constant -/
theorem oA.ldcS2 (A : oA l Z EL n0 p e R s m args below meth c own ws vm T h locs cells slots) (hx : p.tables.exec = Jvm.exec) {text : String} {index : Nat} (w : (Jvm.Cond.stringLink own index text).before a0 Z = true) {x : Addr} (L : Lit (s.setVm vm) own index x) {g : JFrame} (hg : g.method = m) (hd : decode c.code g.pc = .ok (.ldc index, 2)) :
    ∀ t, Steps p.tables e below (T.setTop { g with pc := g.pc + 2, stack := .ref x :: g.stack }) t → Steps p.tables e below (T.setTop g) t :=
  ldcAgain A.1 hx A.2.2.1 A.2.2.2.1 w L hg hd
/-! the contract of a body -/
def oMet (l : Launch) (Z : State) (EL : List (String × Nat)) (n0 : Nat) (y : MethodName) (bytes : ByteArray) (maxL : Nat) (ret : Option FieldType) (wz : List Jvm.Cond) (rm : Room) (as' : Array Value) (h0 : Heap) (ws : List Addr) (P : Option Value → Vm → Heap → Prop) : Prop :=
  MetFree l y (head1 (Jvm.Cond.code y bytes maxL ret :: wz) rm) (fun a U => a = as' ∧ Z.Warmed39 U.vm ∧ U.heap = h0 ∧ CHv Z EL U.vm h0 ∧ ∀ y ∈ ws, Safe Z EL U.vm h0 y) (fun _ _ _ _ _ => True) (fun _ U o U' => ∃ v L, o = .returned v ∧ (Fr n0 L ∧ Keep h0 U'.heap ws ∧ P v U'.vm U'.heap) ∧ CHr Z EL U.vm U.heap U'.vm U'.heap ∧ ReturnedEndW U o U' L rm.cells rm.slots)
/-- what the walk of a body must come to -/
def oEnd (Z : State) (EL : List (String × Nat)) (n0 : Nat) (rm : Room) (s : State) (ws : List Addr) (P : Option Value → Vm → Heap → Prop) (o : Outcome) (u : State) : Prop :=
  ∃ v L, o = .returned v ∧ (Fr n0 L ∧ Keep s.heap u.heap ws ∧ P v u.vm u.heap) ∧ CHr Z EL s.vm s.heap u.vm u.heap ∧ ReturnedEndW s o u L rm.cells rm.slots
theorem oMet.of {y : MethodName} {bytes : ByteArray} {maxL : Nat} {ret : Option FieldType} {wz : List Jvm.Cond} {rm : Room} {as' : Array Value} {h0 : Heap} {P : Option Value → Vm → Heap → Prop} (hpl : plainFor y = true) (hO : Old Z n0 h0)
    (body : ∀ (p : Program) (e : Env) (s : State) (m : MethodId) (below : List Frame) (meth : Method) (c : Code) (s₁ : State), p.tables.exec = Jvm.exec → c.code = bytes → c.maxLocals = maxL → meth.sig.returnType = ret → meth.name = y.name → meth.locks = false → s.heap = h0 → (∀ y ∈ ws, Safe Z EL s.vm h0 y) →
      oA l Z EL n0 p e rm s m as' below meth c y.cls ws s.vm s₁ h0 [] 0 0 → oGo p e below (oEnd Z EL n0 rm s ws P) (s₁.setTop (entryFrame m as' maxL))) : oMet l Z EL n0 y bytes maxL ret wz rm as' h0 ws P := by
  refine MetFree.of_bodySF hpl hisR ?_
  intro p e s m args below meth c s₁ Bd hml0 hP hK
  obtain ⟨ha, hZ, hh, hC, hsf⟩ := hP
  subst ha
  subst hh
  have X0 : Stand p l e rm (s.setVm s.vm) m args below meth c s₁ [] 0 0 := Stand.of_body Bd
  have e0 : s₁.heap = s.heap := by rw [Bd.state]; rfl
  exact body p e s m below meth c s₁ Bd.exec Bd.bytes hml0 Bd.returns (name_of_methodNamed Bd.named Bd.method).1 (BodyLoose.notSynchronized Bd) rfl hsf ⟨X0, e0, hZ, findClass_of_methodNamed Bd.named, ⟨0, (State.WarmedH.refl s).since _, Nat.zero_le _⟩, Fr.nil _, hO, Keep.refl _ _, CHr.refl hC⟩
/-- the end of a body's walk -/
theorem oA.leave (A : oA l Z EL n0 p e R s m args below meth c own ws vm T h locs cells slots) (hlk : meth.locks = false) (hEL : EW Z a0 EL) {v : Option Value} (hv : meth.sig.returnType = none → v = none) {P : Option Value → Vm → Heap → Prop} (hP : ∀ vm', CHr Z EL vm h vm' h → P v vm' h) (hc : cells ≤ R.cells) (hsl : slots ≤ R.slots)
    (st : ∀ fs, (∀ (f : JFrame) (acts : List Action), f.method = m → f.locked = none → f.entered = [] → (doReturn e (T.setTop f) acts v).1 = T.setFrames fs) → Steps p.tables e below B (T.setFrames fs)) : oGo p e below (oEnd Z EL n0 R s ws P) B := by
  obtain ⟨X, eT, hZ, ho, ⟨k, hS, hk⟩, N, O, K, C⟩ := A
  have C3 := CHv.at X hZ hEL C.1
  have C2 := C.trans C3
  subst eT
  obtain ⟨fs, h1, h2, h3, r1, r2, r3, r4⟩ := X.leaveW hS hk hv hlk
  exact ⟨T.setFrames fs, .returned v, st fs h1, h2, h3, v, locs, rfl, ⟨N, K, hP _ C3⟩, C2, r1, r2, r3, r4.mono hc hsl⟩
/-! calls by a contract -/
theorem oBackOf {y : MethodName} {bytes : ByteArray} {maxL : Nat} {ret : Option FieldType} {rm : Room} {len W : Nat} {as' : Array Value} {ws' : List Addr} {P : Option Value → Vm → Heap → Prop} (hM : oMet l Z EL n0 y bytes maxL ret [] rm as' h ws' P) (hZ : Z.Warmed39 vm) (wc : (Jvm.Cond.code y bytes maxL ret).before a0 Z = true) (wz : (Jvm.Cond.initialized y.cls).before a0 Z = true) (hf : rm.frames + 1 ≤ R.frames) (hl : W + (maxL + 11) + rm.locals ≤ R.locals) (hEL : EW Z a0 EL) (H : CHv Z EL vm h) (hsf : ∀ y ∈ ws', Safe Z EL vm h y) :
    BackS l R p e below (s.setVm vm) args y len W (fun A a => a = as' ∧ A.U.heap = h ∧ A.cells + rm.cells ≤ R.cells ∧ A.slots + rm.slots ≤ R.slots)
      (fun A _ v B => ∃ L, (Fr n0 L ∧ Keep h B.U.heap ws' ∧ P v B.U.vm B.U.heap) ∧ B.locs = A.locs ++ L ∧ B.cells = A.cells + rm.cells ∧ B.slots = A.slots + rm.slots ∧ CHr Z EL vm h B.U.vm B.U.heap) := by
  refine BackS.of_freeW (bytes := bytes) (maxL := maxL) (ret := ret) (E := fun _ U o t L k n => (k = rm.cells ∧ n = rm.slots) ∧ (∃ v, o = .returned v ∧ Fr n0 L ∧ Keep h t.heap ws' ∧ P v t.vm t.heap) ∧ CHr Z EL U.vm U.heap t.vm t.heap) hM hf hl ?_ ?_ (fun _ _ _ _ _ _ _ _ _ => trivial) ?_ ?_
  · intro m meth c A a Y hp
    have hU : Z.Warmed39 A.U.vm := wtrans (s := s.setVm vm) hZ Y.warmed
    exact ⟨by show (Jvm.Cond.and _ .tt).before a A.U = true; rw [Cond.before_and, mv hU wc]; rfl, mv hU wc, mv hU wz, hp.2.2.1, hp.2.2.2⟩
  · intro m meth c A a g mk Y hp
    have hC := CHv.at Y hZ hEL H
    refine ⟨hp.1, wtrans (s := s.setVm vm) hZ Y.warmed, hp.2.1, hC.1, fun y hy => ?_⟩
    by_cases q : y < h.size
    · exact hC.safe q (hsf y hy)
    · exact Safe.new (Nat.le_of_not_lt q)
  · intro _ _ _ _ ⟨v, L, h1, h2, h3, h4⟩
    exact ⟨L, _, _, h4, ⟨rfl, rfl⟩, ⟨v, h1, h2⟩, h3⟩
  · intro m meth c A a g mk v t L k n Y hp _ _ ⟨⟨e1, e2⟩, ⟨v', e3, e4⟩, e5⟩
    cases e3
    subst e1 e2
    refine ⟨L, e4, rfl, rfl, rfl, (CHv.at Y hZ hEL H).trans ?_⟩
    rw [← hp.2.1]
    exact e5
theorem oA.back (A : oA l Z EL n0 p e R s m args below meth c own ws vm T h locs cells slots) {rm : Room} {y : MethodName} {ws' : List Addr} {P : Option Value → Vm → Heap → Prop} {v : Option Value} {vm₁ : Vm} {as' : Array Value} {B : Pt} {k n : Nat}
    (X' : Stand p l e R ((s.setVm vm).setVm B.U.vm) m args below meth c B.U B.locs B.cells B.slots) (hS' : (s.setVm vm).Since B.U.vm B.U.heap.size) (hgr : T.heap.size ≤ B.U.heap.size)
    (hQ : ∃ L, (Fr n0 L ∧ Keep h B.U.heap ws' ∧ P v B.U.vm B.U.heap) ∧ B.locs = locs ++ L ∧ B.cells = cells + k ∧ B.slots = slots + n ∧ CHr Z EL vm h B.U.vm B.U.heap) (q1 : ∀ x ∈ ws', n0 ≤ x) (q2 : ∀ x ∈ ws', x ∈ ws ∨ s.heap.size ≤ x) :
    ∃ L, oA l Z EL n0 p e R s m args below meth c own ws B.U.vm B.U B.U.heap (locs ++ L) (cells + k) (slots + n) ∧ Keep h B.U.heap ws' ∧ CHr Z EL vm h B.U.vm B.U.heap ∧ P v B.U.vm B.U.heap := by
  obtain ⟨X, eT, hZ, ho, ⟨k0, hS, hk⟩, N, O, K, C⟩ := A
  obtain ⟨L, ⟨f1, f2, f3⟩, e1, e2, e3, hC⟩ := hQ
  obtain ⟨X2, S2, Z2, o2⟩ := rebS hS (show k0 ≤ T.heap.size by rw [eT]; exact hk) X' hS' hgr hZ ho
  rw [e1, e2, e3] at X2
  exact ⟨L, ⟨X2, rfl, Z2, o2, ⟨_, S2, Nat.le_refl _⟩, N.app f1, O.keep f2 q1, K.trans f2 q2, C.trans hC⟩, f2, hC, f3⟩
theorem oA.callS (A : oA l Z EL n0 p e R s m args below meth c own ws vm T h locs cells slots) (hx : p.tables.exec = Jvm.exec) {index : Nat} {y : MethodName} {bytes : ByteArray} {maxL : Nat} {ret : Option FieldType} (w1 : (Jvm.Cond.methodLink own index y).before a0 Z = true) (w2 : (Jvm.Cond.static y).before a0 Z = true) (w3 : (Jvm.Cond.initialized y.cls).before a0 Z = true) (w4 : (Jvm.Cond.code y bytes maxL ret).before a0 Z = true) (hy : y.cls ≠ "java/lang/invoke/MethodHandle" ∧ y.cls ≠ "java/lang/invoke/VarHandle") (hEL : EW Z a0 EL)
    {rm : Room} {argsL rest : List Value} {ws' : List Addr} {P : Option Value → Vm → Heap → Prop} (M : oMet l Z EL n0 y bytes maxL ret [] rm argsL.toArray h ws' P) {W : Nat} (hf : rm.frames + 1 ≤ R.frames) (hl : W + (maxL + 11) + rm.locals ≤ R.locals) (hc : cells + rm.cells ≤ R.cells) (hsl : slots + rm.slots ≤ R.slots) (q1 : ∀ x ∈ ws', n0 ≤ x) (q2 : ∀ x ∈ ws', x ∈ ws ∨ s.heap.size ≤ x) (q3 : ∀ x ∈ ws', Safe Z EL vm h x)
    {g : JFrame} (hg : g.method = m) (hsize : g.locals.size = c.maxLocals) (hlen : ∀ sig, parseMethodDescriptor y.desc = some sig → argsL.length = sig.parameters.length) (hstack : g.stack = argsL.reverse ++ rest) (hW : 2 * g.monitorRoom + (rest.map fun v => v.category).sum ≤ W) (hd : decode c.code g.pc = .ok (.invokestatic index, 3)) :
    ∃ (v : Option Value) (vm' : Vm) (T' : State) (h' : Heap) (L : List Loc), oA l Z EL n0 p e R s m args below meth c own ws vm' T' h' (locs ++ L) (cells + rm.cells) (slots + rm.slots) ∧ Keep h h' ws' ∧ CHr Z EL vm h vm' h' ∧ P v vm' h' ∧ ∀ t, Steps p.tables e below (T'.setTop { g with pc := g.pc + 3, stack := v.toList ++ rest }) t → Steps p.tables e below (T.setTop g) t := by
  have hZ := A.2.2.1
  obtain ⟨v, vm₁, B, -, X', hS', hgr, hQ, st⟩ := RoadKit.callSS (s := s.setVm vm) A.1 hx A.2.2.2.1 (mvT (s := s.setVm vm) hZ w1) (mvT (s := s.setVm vm) hZ w2) (mvT (s := s.setVm vm) hZ w3) (mvT (s := s.setVm vm) hZ w4) hy (oBackOf (s := s) (args := args) M hZ w4 w3 hf hl hEL A.ch q3) hg hsize hlen hstack hW hd (fun vm₁ _ => ⟨rfl, A.2.1, hc, hsl⟩)
  obtain ⟨L, A', r⟩ := A.back (rm := rm) (y := y) (vm₁ := vm₁) (as' := #[]) X' hS' hgr hQ q1 q2
  exact ⟨v, _, B.U, _, L, A', r.1, r.2.1, r.2.2, fun t ht => st.trans ht⟩
theorem oA.callN (A : oA l Z EL n0 p e R s m args below meth c own ws vm T h locs cells slots) (hx : p.tables.exec = Jvm.exec) {index : Nat} {y : MethodName} {bytes : ByteArray} {maxL : Nat} (hy1 : y.name = "<init>") (w1 : (Jvm.Cond.methodLink own index y).before a0 Z = true) (w2 : (Jvm.Cond.instanceMethod y).before a0 Z = true) (w3 : (Jvm.Cond.initialized y.cls).before a0 Z = true) (w4 : (Jvm.Cond.code y bytes maxL none).before a0 Z = true) (hy : y.cls ≠ "java/lang/invoke/MethodHandle" ∧ y.cls ≠ "java/lang/invoke/VarHandle") (hEL : EW Z a0 EL)
    {rm : Room} {a : Addr} {argsL rest : List Value} {ws' : List Addr} {P : Option Value → Vm → Heap → Prop} (M : oMet l Z EL n0 y bytes maxL none [] rm (.ref a :: argsL).toArray h ws' P) {W : Nat} (hf : rm.frames + 1 ≤ R.frames) (hl : W + (maxL + 11) + rm.locals ≤ R.locals) (hc : cells + rm.cells ≤ R.cells) (hsl : slots + rm.slots ≤ R.slots) (q1 : ∀ x ∈ ws', n0 ≤ x) (q2 : ∀ x ∈ ws', x ∈ ws ∨ s.heap.size ≤ x) (q3 : ∀ x ∈ ws', Safe Z EL vm h x)
    {g : JFrame} (hg : g.method = m) (hsize : g.locals.size = c.maxLocals) (hlen : ∀ sig, parseMethodDescriptor y.desc = some sig → argsL.length = sig.parameters.length) (hstack : g.stack = argsL.reverse ++ .ref a :: rest) (hW : 2 * g.monitorRoom + (rest.map fun v => v.category).sum ≤ W) (hd : decode c.code g.pc = .ok (.invokespecial index, 3)) :
    ∃ (v : Option Value) (vm' : Vm) (T' : State) (h' : Heap) (L : List Loc), oA l Z EL n0 p e R s m args below meth c own ws vm' T' h' (locs ++ L) (cells + rm.cells) (slots + rm.slots) ∧ Keep h h' ws' ∧ CHr Z EL vm h vm' h' ∧ P v vm' h' ∧ ∀ t, Steps p.tables e below (T'.setTop { g with pc := g.pc + 3, stack := v.toList ++ rest }) t → Steps p.tables e below (T.setTop g) t := by
  have hZ := A.2.2.1
  obtain ⟨v, vm₁, B, -, X', hS', hgr, hQ, st⟩ := Stand.specialBackS (s := s.setVm vm) A.1 hx hy1 A.2.2.2.1 (mvT (s := s.setVm vm) hZ w1) (mvT (s := s.setVm vm) hZ w2) (mvT (s := s.setVm vm) hZ w4) hy (oBackOf (s := s) (args := args) M hZ w4 w3 hf hl hEL A.ch q3) hg hsize (Steps.refl _) hlen hstack hW hd (fun vm₁ _ => ⟨rfl, A.2.1, hc, hsl⟩)
  obtain ⟨L, A', r⟩ := A.back (rm := rm) (y := y) (vm₁ := vm₁) (as' := #[]) X' hS' hgr hQ q1 q2
  exact ⟨v, _, B.U, _, L, A', r.1, r.2.1, r.2.2, fun t ht => st.trans ht⟩
theorem oA.callV (A : oA l Z EL n0 p e R s m args below meth c own ws vm T h locs cells slots) (hx : p.tables.exec = Jvm.exec) {index : Nat} {C : String} {y z : MethodName} {bytes : ByteArray} {maxL : Nat} {ret : Option FieldType} (w1 : (Jvm.Cond.methodLink own index y).before a0 Z = true) (w2 : (Jvm.Cond.declares y).before a0 Z = true) (nf : NotFace (s.setVm vm) y) (w5 : (Jvm.Cond.selects C y z).before a0 Z = true) (w6 : (Jvm.Cond.instanceMethod z).before a0 Z = true) (w3 : (Jvm.Cond.initialized z.cls).before a0 Z = true) (w4 : (Jvm.Cond.code z bytes maxL ret).before a0 Z = true) (hy : y.cls ≠ "java/lang/invoke/MethodHandle" ∧ y.cls ≠ "java/lang/invoke/VarHandle") (hEL : EW Z a0 EL)
    {rm : Room} {a : Addr} {argsL rest : List Value} {ws' : List Addr} {P : Option Value → Vm → Heap → Prop} (M : oMet l Z EL n0 z bytes maxL ret [] rm (.ref a :: argsL).toArray h ws' P) (E : Exa Z h a C) {W : Nat} (hf : rm.frames + 1 ≤ R.frames) (hl : W + (maxL + 11) + rm.locals ≤ R.locals) (hc : cells + rm.cells ≤ R.cells) (hsl : slots + rm.slots ≤ R.slots) (q1 : ∀ x ∈ ws', n0 ≤ x) (q2 : ∀ x ∈ ws', x ∈ ws ∨ s.heap.size ≤ x) (q3 : ∀ x ∈ ws', Safe Z EL vm h x)
    {g : JFrame} (hg : g.method = m) (hsize : g.locals.size = c.maxLocals) (hlen : ∀ sig, parseMethodDescriptor y.desc = some sig → argsL.length = sig.parameters.length) (hstack : g.stack = argsL.reverse ++ .ref a :: rest) (hW : 2 * g.monitorRoom + (rest.map fun v => v.category).sum ≤ W) (hd : decode c.code g.pc = .ok (.invokevirtual index, 3)) :
    ∃ (v : Option Value) (vm' : Vm) (T' : State) (h' : Heap) (L : List Loc), oA l Z EL n0 p e R s m args below meth c own ws vm' T' h' (locs ++ L) (cells + rm.cells) (slots + rm.slots) ∧ Keep h h' ws' ∧ CHr Z EL vm h vm' h' ∧ P v vm' h' ∧ ∀ t, Steps p.tables e below (T'.setTop { g with pc := g.pc + 3, stack := v.toList ++ rest }) t → Steps p.tables e below (T.setTop g) t := by
  have hZ := A.2.2.1
  obtain ⟨cq, kq, qa, qb, qc⟩ := isOf (s := s.setVm vm) hZ A.2.1 E
  obtain ⟨v, vm₁, B, -, X', hS', hgr, hQ, st⟩ := Stand.virtualBackS (s := s.setVm vm) A.1 hx A.2.2.2.1 (mvT (s := s.setVm vm) hZ w1) (mvT (s := s.setVm vm) hZ w2) nf (mvT (s := s.setVm vm) hZ w5) (mvT (s := s.setVm vm) hZ w6) hy (oBackOf (s := s) (args := args) M hZ w4 w3 hf hl hEL A.ch q3) qa qc hg hsize (Steps.refl _) hlen hstack hW hd (fun vm₁ _ => ⟨rfl, A.2.1, hc, hsl⟩)
  obtain ⟨L, A', r⟩ := A.back (rm := rm) (y := y) (vm₁ := vm₁) (as' := #[]) X' hS' hgr hQ q1 q2
  exact ⟨v, _, B.U, _, L, A', r.1, r.2.1, r.2.2, fun t ht => st.trans ht⟩
theorem oA.callU (A : oA l Z EL n0 p e R s m args below meth c own ws vm T h locs cells slots) (hx : p.tables.exec = Jvm.exec) {index : Nat} {K : String} {y : MethodName} {bytes : ByteArray} {maxL : Nat} {ret : Option FieldType} (w1 : (Jvm.Cond.methodLink own index y).before a0 Z = true) (w2 : (Jvm.Cond.sameMethod y.cls y.cls y.name y.desc).before a0 Z = true) (w6 : (Jvm.Cond.instanceMethod y).before a0 Z = true) (w7 : (Jvm.Cond.superclass own y.cls).before a0 Z = true) (hn : y.name ≠ "<init>") (w3 : (Jvm.Cond.initialized y.cls).before a0 Z = true) (w4 : (Jvm.Cond.code y bytes maxL ret).before a0 Z = true) (hEL : EW Z a0 EL)
    {rm : Room} {a : Addr} {argsL rest : List Value} {ws' : List Addr} {P : Option Value → Vm → Heap → Prop} (M : oMet l Z EL n0 y bytes maxL ret [] rm (.ref a :: argsL).toArray h ws' P) (F : Ins Z h a K true) {W : Nat} (hf : rm.frames + 1 ≤ R.frames) (hl : W + (maxL + 11) + rm.locals ≤ R.locals) (hc : cells + rm.cells ≤ R.cells) (hsl : slots + rm.slots ≤ R.slots) (q1 : ∀ x ∈ ws', n0 ≤ x) (q2 : ∀ x ∈ ws', x ∈ ws ∨ s.heap.size ≤ x) (q3 : ∀ x ∈ ws', Safe Z EL vm h x)
    {g : JFrame} (hg : g.method = m) (hsize : g.locals.size = c.maxLocals) (hlen : ∀ sig, parseMethodDescriptor y.desc = some sig → argsL.length = sig.parameters.length) (hstack : g.stack = argsL.reverse ++ .ref a :: rest) (hW : 2 * g.monitorRoom + (rest.map fun v => v.category).sum ≤ W) (hd : decode c.code g.pc = .ok (.invokespecial index, 3)) :
    ∃ (v : Option Value) (vm' : Vm) (T' : State) (h' : Heap) (L : List Loc), oA l Z EL n0 p e R s m args below meth c own ws vm' T' h' (locs ++ L) (cells + rm.cells) (slots + rm.slots) ∧ Keep h h' ws' ∧ CHr Z EL vm h vm' h' ∧ P v vm' h' ∧ ∀ t, Steps p.tables e below (T'.setTop { g with pc := g.pc + 3, stack := v.toList ++ rest }) t → Steps p.tables e below (T.setTop g) t := by
  have hZ := A.2.2.1
  obtain ⟨v, vm₁, B, -, X', hS', hgr, hQ, st⟩ := RoadKit.superBackS (s := s.setVm vm) A.1 hx hZ A.2.2.2.1 w1 w2 w6 w7 hn (oBackOf (s := s) (args := args) M hZ w4 w3 hf hl hEL A.ch q3) A.2.1 F hg hsize w4 hlen hstack hW hd (fun vm₁ _ => ⟨rfl, A.2.1, hc, hsl⟩)
  obtain ⟨L, A', r⟩ := A.back (rm := rm) (y := y) (vm₁ := vm₁) (as' := #[]) X' hS' hgr hQ q1 q2
  exact ⟨v, _, B.U, _, L, A', r.1, r.2.1, r.2.2, fun t ht => st.trans ht⟩
theorem oA.nf (A : oA l Z EL n0 p e R s m args below meth c own ws vm T h locs cells slots) {C : String} {y : MethodName} (w : (Jvm.Cond.selects C y y).before a0 Z = true) : NotFace (s.setVm vm) y := notFace_of_selects (args := #[]) (mvT (s := s.setVm vm) A.2.2.1 w)
theorem oDecl {y : MethodName} {bytes : ByteArray} {maxL : Nat} {ret : Option FieldType} (w1 : (Jvm.Cond.instanceMethod y).before a0 Z = true) (w2 : (Jvm.Cond.code y bytes maxL ret).before a0 Z = true) : (Jvm.Cond.declares y).before a0 Z = true := by
  obtain ⟨m, meth, h1, h2, h3, -⟩ := Cond.instanceMethod_spec w1
  obtain ⟨meth', c, g1, -, -, -, -, -, -, g2⟩ := Cond.code_spec h1 w2
  cases h2.symm.trans g1
  simp [Cond.before, Cond.holds, Cond.value, h1, h2, h3, g2]
theorem oNfZ {C : String} {y y' : MethodName} (w : (Jvm.Cond.selects C y' y').before a0 Z = true) (e : y'.cls = y.cls) : NotFace Z y := fun r0 h0 => by
  obtain ⟨-, -, m2, -, -, q3, -, kP, hkP, hkPi⟩ := Cond.selects_spec w
  have h1 := findClass_of_methodNamed h0
  have h2 := findClass_of_methodNamed q3
  rw [e, h1] at h2
  have h3 : r0.cls = m2.cls := Option.some.inj h2
  exact ⟨kP, by rw [h3]; exact hkP, hkPi⟩
theorem oA.nf2 (A : oA l Z EL n0 p e R s m args below meth c own ws vm T h locs cells slots) {C : String} {y y' : MethodName} (w : (Jvm.Cond.selects C y' y').before a0 Z = true) (e : y'.cls = y.cls) : NotFace (s.setVm vm) y := oNfZ (a0 := #[]) (mvT (s := s.setVm vm) A.2.2.1 w) e
theorem oSame {y : MethodName} (w1 : (Jvm.Cond.instanceMethod y).before a0 Z = true) (nf : NotFace Z y) (hy : y.cls ≠ "java/lang/invoke/MethodHandle" ∧ y.cls ≠ "java/lang/invoke/VarHandle") : (Jvm.Cond.sameMethod y.cls y.cls y.name y.desc).before a0 Z = true := by
  obtain ⟨m, meth, h1, -, -, -⟩ := Cond.instanceMethod_spec w1
  have hf := State.methodFound?_of_named h1 hy
  have hc := findClass_of_methodNamed h1
  obtain ⟨kr, g1, g2⟩ := nf m h1
  have h1' : Z.methodNamed? ⟨y.cls, y.name, y.desc⟩ = some m := h1
  simp [Cond.before, Cond.holds, Cond.value, hc, hf, h1', g1, g2]
/-! a call that a payer answers and that leaves all as it was -/
theorem oA.pay (A : oA l Z EL n0 p e R s m args below meth c own ws vm T h locs cells slots) {v : Option Value} {vm₁ : Vm} {B : Pt} {Qp : Option Value → Prop} (X' : Stand p l e R (s.setVm vm) m args below meth c B.U B.locs B.cells B.slots) (hQ : ∃ L, (Qp v ∧ L = [] ∧ B.U.heap = h) ∧ B.locs = locs ++ L ∧ B.cells = cells + 0 ∧ B.slots = slots + 0) : oA l Z EL n0 p e R s m args below meth c own ws vm B.U h locs cells slots ∧ Qp v := by
  obtain ⟨L, ⟨q, rfl, eh⟩, e1, e2, e3⟩ := hQ
  rw [e1, e2, e3, List.append_nil] at X'
  exact ⟨A.set X' eh, q⟩
theorem oA.payV (A : oA l Z EL n0 p e R s m args below meth c own ws vm T h locs cells slots) (hx : p.tables.exec = Jvm.exec) {index : Nat} {C : String} {y z : MethodName} (w1 : (Jvm.Cond.methodLink own index y).before a0 Z = true) (w2 : (Jvm.Cond.declares y).before a0 Z = true) (nf : NotFace (s.setVm vm) y) (w5 : (Jvm.Cond.selects C y z).before a0 Z = true) (w6 : (Jvm.Cond.instanceMethod z).before a0 Z = true) (hy : y.cls ≠ "java/lang/invoke/MethodHandle" ∧ y.cls ≠ "java/lang/invoke/VarHandle")
    {a : Addr} {argsL rest : List Value} {W : Nat} {Qp : Option Value → Prop} (M : Back l R p e below (s.setVm vm) args z 3 W (fun P a' => a' = (.ref a :: argsL).toArray ∧ P.U.heap = h ∧ P.cells + 0 ≤ R.cells ∧ P.slots + 0 ≤ R.slots) (fun P _ v B => ∃ L, (Qp v ∧ L = [] ∧ B.U.heap = h) ∧ B.locs = P.locs ++ L ∧ B.cells = P.cells + 0 ∧ B.slots = P.slots + 0)) (E : Exa Z h a C) (hc : cells + 0 ≤ R.cells) (hsl : slots + 0 ≤ R.slots)
    {g : JFrame} (hg : g.method = m) (hsize : g.locals.size = c.maxLocals) (hlen : ∀ sig, parseMethodDescriptor y.desc = some sig → argsL.length = sig.parameters.length) (hstack : g.stack = argsL.reverse ++ .ref a :: rest) (hW : 2 * g.monitorRoom + (rest.map fun v => v.category).sum ≤ W) (hd : decode c.code g.pc = .ok (.invokevirtual index, 3)) :
    ∃ (v : Option Value) (T' : State), oA l Z EL n0 p e R s m args below meth c own ws vm T' h locs cells slots ∧ Qp v ∧ ∀ t, Steps p.tables e below (T'.setTop { g with pc := g.pc + 3, stack := v.toList ++ rest }) t → Steps p.tables e below (T.setTop g) t := by
  have hZ := A.2.2.1
  obtain ⟨cq, kq, qa, qb, qc⟩ := isOf (s := s.setVm vm) hZ A.2.1 E
  obtain ⟨v, vm₁, B, -, X', hQ, st⟩ := Stand.virtualBack (s := s.setVm vm) A.1 hx A.2.2.2.1 (mvT (s := s.setVm vm) hZ w1) (mvT (s := s.setVm vm) hZ w2) nf (mvT (s := s.setVm vm) hZ w5) (mvT (s := s.setVm vm) hZ w6) hy M qa qc hg hsize (Steps.refl _) hlen hstack hW hd (fun vm₁ _ => ⟨rfl, A.2.1, hc, hsl⟩)
  obtain ⟨A', q⟩ := A.pay (vm₁ := vm₁) X' hQ
  exact ⟨v, B.U, A', q, fun t ht => st.trans ht⟩
/-! Strings of Latin-1 chars -/
def oStr (Z : State) (h : Heap) (x : Addr) (cs : List Int32) : Prop :=
  (∀ c ∈ cs, ¬ c < 0 ∧ ¬ (255 : Int32) < c) ∧ cs.length ≤ 4000 ∧ ∃ (t : Addr) (k : ClassId), Exa Z h x "java/lang/String" ∧ Fld Z h x "java/lang/String" "value" "[B" (.ref t) ∧ Fld Z h x "java/lang/String" "coder" "B" (.int 0) ∧ Arv Z h t k .byte (Int32.ofNat cs.length) ((cs.map fun c => c.toInt8.toInt32).map Value.int) (.int 0)
theorem oStr.ext {x : Addr} {cs : List Int32} (S : oStr Z h x cs) (E : Ext h h') : oStr Z h' x cs := by
  obtain ⟨r1, r2, t, k, e1, e2, e3, e4⟩ := S
  exact ⟨r1, r2, t, k, e1.ext E, e2.ext E, e3.ext E, e4.ext E⟩
theorem oStr.exa {x : Addr} {cs : List Int32} (S : oStr Z h x cs) : Exa Z h x "java/lang/String" := by
  obtain ⟨r1, r2, t, k, e1, e2, e3, e4⟩ := S
  exact e1
theorem oStr.lt {x : Addr} {cs : List Int32} (S : oStr Z h x cs) : x < h.size := S.exa.lt
theorem oUp {cs : List Int32} (h : ∀ c ∈ cs, ¬ c < 0 ∧ ¬ (255 : Int32) < c) : ∀ c ∈ cs, ¬ c < 0 ∧ ¬ (65535 : Int32) < c := fun c hc => ⟨(h c hc).1, fun q => (h c hc).2 (by rw [Int32.lt_iff_toInt_lt] at q ⊢; have e1 : (65535 : Int32).toInt = 65535 := rfl; have e2 : (255 : Int32).toInt = 255 := rfl; omega)⟩

theorem oA.sNew (A : oA l Z EL n0 p e R s m args below meth c own ws vm T h locs cells slots) (hx : p.tables.exec = Jvm.exec) (hws : ∀ d ∈ StrChars.Road.words, d.before a0 Z = true) {index : Nat} {bytes : ByteArray} (wi : (Jvm.Cond.instantiable "java/lang/String" 4).before a0 Z = true) (w1 : (Jvm.Cond.methodLink own index (⟨"java/lang/String", "<init>", "([C)V"⟩ : MethodName)).before a0 Z = true) (w2 : (Jvm.Cond.instanceMethod (⟨"java/lang/String", "<init>", "([C)V"⟩ : MethodName)).before a0 Z = true) (w4 : (Jvm.Cond.code (⟨"java/lang/String", "<init>", "([C)V"⟩ : MethodName) bytes 2 none).before a0 Z = true)
    {x b : Addr} {kC : ClassId} {cs : List Int32} {N zc : Int32} {d v0 c0 : Value} (E : Exa Z h x "java/lang/String") (V : Fld Z h x "java/lang/String" "value" "[B" v0) (Cd : Fld Z h x "java/lang/String" "coder" "B" c0) (K : Arv Z h b kC .char N (cs.map Value.int) d) (C : Sta Z Z.heap "java/lang/String" "COMPACT_STRINGS" "Z" (.int zc)) (hz : ¬ zc = 0) {n : Nat} (hn : cs.length = n) (hN : N = Int32.ofNat n) (l0 : 0 < n) (l2 : n ≤ 4000) (hp : ∀ c ∈ cs, ¬ c < 0 ∧ ¬ (255 : Int32) < c)
    (q1 : n0 ≤ x) (q2 : x ∈ ws ∨ s.heap.size ≤ x) (q3 : Safe Z EL vm h x) {W : Nat} (hfr : 4 ≤ R.frames) (hlo : W + 65 ≤ R.locals) (hc : cells + 1 ≤ R.cells) (hsl : slots + n ≤ R.slots)
    {g : JFrame} (hg : g.method = m) (hsize : g.locals.size = c.maxLocals) {rest : List Value} (hs : g.stack = .ref b :: .ref x :: rest) (hW : 2 * g.monitorRoom + (rest.map fun v => v.category).sum ≤ W) (hd : decode c.code g.pc = .ok (.invokespecial index, 3)) :
    ∃ (T' : State) (h' : Heap) (L : List Loc), oA l Z EL n0 p e R s m args below meth c own ws vm T' h' (locs ++ L) (cells + 1) (slots + n) ∧ Keep h h' [x] ∧ oStr Z h' x cs ∧ ∀ t, Steps p.tables e below (T'.setTop { g with pc := g.pc + 3, stack := rest }) t → Steps p.tables e below (T.setTop g) t := by
  have hZ := A.2.2.1
  have hn0 := A.n0le
  have hold := A.old
  obtain ⟨v, vm₁, ⟨U, Ls, kk, nn⟩, -, X', ⟨L, ⟨rfl, N', K', Ex, Cd', t, kb, -, -, -, V', Ar⟩, e1, e2, e3⟩, st⟩ := Stand.specialBack (s := s.setVm vm) (y := (⟨"java/lang/String", "<init>", "([C)V"⟩ : MethodName)) A.1 hx rfl A.2.2.2.1 (mvT (s := s.setVm vm) hZ w1) (mvT (s := s.setVm vm) hZ w2) (mvT (s := s.setVm vm) hZ w4) (by decide) (StrChars.Road.backV (s := s.setVm vm) (args := args) (W := W) hZ hws wi q1 hn0 E V Cd K (C.ext hold) hz hn hN l0 l2 hp rfl hfr hlo) hg hsize (Steps.refl _) (a := x) (argsL := [.ref b]) (rest := rest) (lenOf (by decide +kernel : parseMethodDescriptor "([C)V" = some ⟨[(.array .char)], none⟩) rfl) hs hW hd (fun vm₁ _ => ⟨rfl, A.2.1, hc, hsl⟩)
  obtain ⟨X, eT, hZ, ho, ⟨k0, hS, hk⟩, N2, O, K2, C2⟩ := A
  dsimp only [Pt.U, Pt.locs, Pt.cells, Pt.slots] at X' e1 e2 e3 K' Ex Cd' V' Ar st
  subst e1 e2 e3
  refine ⟨U, U.heap, L, ⟨X', rfl, hZ, ho, ⟨k0, hS, Nat.le_trans hk K'.1⟩, N2.app N', O.keep K' (oIn1 q1), K2.trans K' (oIn1 q2), C2.trans (CHr.keep K' (oIn1 q3) C2.1)⟩, K', ⟨hp, by omega, t, kb, Ex, V', Cd', ?_⟩, fun t ht => st.trans ht⟩
  rw [hn, ← hN]
  exact Ar

theorem oA.sLen (A : oA l Z EL n0 p e R s m args below meth c own ws vm T h locs cells slots) (hx : p.tables.exec = Jvm.exec) (hws : ∀ d ∈ StrChars.Road.wordsLen, d.before a0 Z = true) {index : Nat} (wi : (Jvm.Cond.instantiable "java/lang/String" 4).before a0 Z = true) (w1 : (Jvm.Cond.methodLink own index (⟨"java/lang/String", "length", "()I"⟩ : MethodName)).before a0 Z = true) (w2 : (Jvm.Cond.declares (⟨"java/lang/String", "length", "()I"⟩ : MethodName)).before a0 Z = true) (w5 : (Jvm.Cond.selects "java/lang/String" (⟨"java/lang/String", "length", "()I"⟩ : MethodName) (⟨"java/lang/String", "length", "()I"⟩ : MethodName)).before a0 Z = true) (w6 : (Jvm.Cond.instanceMethod (⟨"java/lang/String", "length", "()I"⟩ : MethodName)).before a0 Z = true)
    {x : Addr} {cs : List Int32} (S : oStr Z h x cs) {zc : Int32} (C : Sta Z Z.heap "java/lang/String" "COMPACT_STRINGS" "Z" (.int zc)) (hz : ¬ zc = 0) {W : Nat} (hfr : 2 ≤ R.frames) (hlo : W + 25 ≤ R.locals) (hc : cells + 0 ≤ R.cells) (hsl : slots + 0 ≤ R.slots)
    {g : JFrame} (hg : g.method = m) (hsize : g.locals.size = c.maxLocals) {rest : List Value} (hs : g.stack = .ref x :: rest) (hW : 2 * g.monitorRoom + (rest.map fun v => v.category).sum ≤ W) (hd : decode c.code g.pc = .ok (.invokevirtual index, 3)) :
    ∃ T', oA l Z EL n0 p e R s m args below meth c own ws vm T' h locs cells slots ∧ ∀ t, Steps p.tables e below (T'.setTop { g with pc := g.pc + 3, stack := (.int (Int32.ofNat cs.length)) :: rest }) t → Steps p.tables e below (T.setTop g) t := by
  have hexa := S.exa
  obtain ⟨r1, r2, t, k, e1, e2, e3, e4⟩ := S
  obtain ⟨v, T', A', hv, st⟩ := A.payV hx (y := (⟨"java/lang/String", "length", "()I"⟩ : MethodName)) (z := (⟨"java/lang/String", "length", "()I"⟩ : MethodName)) w1 w2 (A.nf w5) w5 w6 (by decide) (argsL := []) (rest := rest) (W := W) (StrChars.Road.lenW (s := s.setVm vm) (args := args) (W := W) A.2.2.1 hws wi e1 e2 e3 e4 (StrChars.Road.codOf rfl (fun c hc => (r1 c hc).2)) (oUp r1) (C.ext A.old) hz r2 hfr hlo) hexa hc hsl hg hsize (lenOf (by decide +kernel : parseMethodDescriptor "()I" = some ⟨[], some .int⟩) rfl) hs hW hd
  subst hv
  exact ⟨T', A', st⟩

theorem oA.sEq (A : oA l Z EL n0 p e R s m args below meth c own ws vm T h locs cells slots) (hx : p.tables.exec = Jvm.exec) (hws : ∀ d ∈ StrChars.Road.wordsEq, d.before a0 Z = true) {index : Nat} (wi : (Jvm.Cond.instantiable "java/lang/String" 4).before a0 Z = true) (w1 : (Jvm.Cond.methodLink own index (⟨"java/lang/String", "equals", "(Ljava/lang/Object;)Z"⟩ : MethodName)).before a0 Z = true) (w2 : (Jvm.Cond.declares (⟨"java/lang/String", "equals", "(Ljava/lang/Object;)Z"⟩ : MethodName)).before a0 Z = true) (w5 : (Jvm.Cond.selects "java/lang/String" (⟨"java/lang/String", "equals", "(Ljava/lang/Object;)Z"⟩ : MethodName) (⟨"java/lang/String", "equals", "(Ljava/lang/Object;)Z"⟩ : MethodName)).before a0 Z = true) (w6 : (Jvm.Cond.instanceMethod (⟨"java/lang/String", "equals", "(Ljava/lang/Object;)Z"⟩ : MethodName)).before a0 Z = true)
    {x : Addr} {cs : List Int32} (S : oStr Z h x cs) {y : Addr} {ds : List Int32} (S' : oStr Z h y ds) {zc : Int32} (C : Sta Z Z.heap "java/lang/String" "COMPACT_STRINGS" "Z" (.int zc)) (hz : ¬ zc = 0) {W : Nat} (hfr : 2 ≤ R.frames) (hlo : W + 28 ≤ R.locals) (hc : cells + 0 ≤ R.cells) (hsl : slots + 0 ≤ R.slots)
    {g : JFrame} (hg : g.method = m) (hsize : g.locals.size = c.maxLocals) {rest : List Value} (hs : g.stack = .ref y :: .ref x :: rest) (hW : 2 * g.monitorRoom + (rest.map fun v => v.category).sum ≤ W) (hd : decode c.code g.pc = .ok (.invokevirtual index, 3)) :
    ∃ (T' : State) (r : Int32), oA l Z EL n0 p e R s m args below meth c own ws vm T' h locs cells slots ∧ ((r = 1 ∧ cs = ds) ∨ (r = 0 ∧ ¬ cs = ds)) ∧ ∀ t, Steps p.tables e below (T'.setTop { g with pc := g.pc + 3, stack := (.int r) :: rest }) t → Steps p.tables e below (T.setTop g) t := by
  have hexa := S.exa
  obtain ⟨r1, r2, t, k, e1, e2, e3, e4⟩ := S
  obtain ⟨u1, u2, t', k', f1, f2, f3, f4⟩ := S'
  obtain ⟨v, T', A', hv, st⟩ := A.payV hx (y := (⟨"java/lang/String", "equals", "(Ljava/lang/Object;)Z"⟩ : MethodName)) (z := (⟨"java/lang/String", "equals", "(Ljava/lang/Object;)Z"⟩ : MethodName)) w1 w2 (A.nf w5) w5 w6 (by decide) (argsL := [.ref y]) (rest := rest) (W := W) (StrChars.Road.eqW (s := s.setVm vm) (args := args) (W := W) A.2.2.1 hws wi e1 e2 e3 e4 (StrChars.Road.codOf rfl (fun c hc => (r1 c hc).2)) (oUp r1) r2 f1 f2 f3 f4 (StrChars.Road.codOf rfl (fun c hc => (u1 c hc).2)) (oUp u1) u2 (C.ext A.old) hz hfr hlo) hexa hc hsl hg hsize (lenOf (by decide +kernel : parseMethodDescriptor "(Ljava/lang/Object;)Z" = some ⟨[(.object "java/lang/Object")], some .boolean⟩) rfl) hs hW hd
  rcases hv with ⟨rfl, q⟩ | ⟨rfl, q⟩
  · exact ⟨T', 1, A', Or.inl ⟨rfl, q⟩, st⟩
  · exact ⟨T', 0, A', Or.inr ⟨rfl, q⟩, st⟩

theorem oA.cpy (A : oA l Z EL n0 p e R s m args below meth c own ws vm T h locs cells slots) (hx : p.tables.exec = Jvm.exec) {index : Nat} (w1 : (Jvm.Cond.methodLink own index Jvm.Stand.acN).before a0 Z = true) (w2 : (Jvm.Cond.native Jvm.Stand.acN).before a0 Z = true) (w3 : (Jvm.Cond.static Jvm.Stand.acN).before a0 Z = true) (w4 : (Jvm.Cond.initialized "java/lang/System").before a0 Z = true)
    {a b : Addr} {k k' : ClassId} {z z' sp dp nn : Int32} {vs vd us : List Value} {dv dd : Value} (Va : Arv Z h a k .byte z vs dv) (Vb : Arv Z h b k' .byte z' vd dd)
    (h1 : ¬ sp < 0) (h2 : ¬ dp < 0) (h3 : ¬ nn < 0) (h4 : sp.toNatClampNeg + nn.toNatClampNeg ≤ z.toNatClampNeg) (h5 : dp.toNatClampNeg + nn.toNatClampNeg ≤ z'.toNatClampNeg)
    (hus : us = (List.range nn.toNatClampNeg).map fun i => vs.getD (sp.toNatClampNeg + i) dv) (hl : dp.toNatClampNeg + nn.toNatClampNeg ≤ vd.length) (q1 : n0 ≤ b) (q2 : b ∈ ws ∨ s.heap.size ≤ b) (q3 : Safe Z EL vm h b)
    {g : JFrame} (hg : g.method = m) (hsize : g.locals.size = c.maxLocals) {rest : List Value} (hs : g.stack = .int nn :: .int dp :: .ref b :: .int sp :: .ref a :: rest) (hd : decode c.code g.pc = .ok (.invokestatic index, 3))
    (hf : 1 ≤ R.frames) {W : Nat} (hW : 2 * g.monitorRoom + (rest.map fun v => v.category).sum ≤ W) (hlo : W + (nativeFrameWords "java/lang/System" "arraycopy" 5 + 11) ≤ R.locals) :
    ∃ T' h' L, oA l Z EL n0 p e R s m args below meth c own ws vm T' h' L cells slots ∧ Keep h h' [b] ∧ Arv Z h' b k' .byte z' (vd.take dp.toNatClampNeg ++ us ++ vd.drop (dp.toNatClampNeg + nn.toNatClampNeg)) dd ∧
      ∀ t, Steps p.tables e below (T'.setTop { g with pc := g.pc + 3, stack := rest }) t → Steps p.tables e below (T.setTop g) t := by
  obtain ⟨X, eT, hZ, ho, ⟨k0, hS, hk⟩, N, O, K, C⟩ := A
  obtain ⟨T', h', L, X', e', N', K', V', st⟩ := cpA X hx hZ ho w1 w2 w3 w4 eT Va Vb (Or.inl ⟨rfl, rfl⟩) h1 h2 h3 h4 h5 hus hl N q1 hg hsize hs hd hf hW hlo
  exact ⟨T', h', L, ⟨X', e', hZ, ho, ⟨k0, hS, Nat.le_trans hk K'.1⟩, N', O.keep K' (oIn1 q1), K.trans K' (oIn1 q2), C.trans (CHr.keep K' (oIn1 q3) C.1)⟩, K', V', st⟩

theorem oAnd (x : Int32) : ∃ k : Nat, k < 256 ∧ (x &&& (255 : Int32)) = Int32.ofNat k := by
  refine ⟨(x &&& 255).toBitVec.toNat, ?_, ?_⟩
  · simp only [Int32.toBitVec_and, BitVec.toNat_and]
    exact Nat.lt_succ_of_le Nat.and_le_right
  · apply Int32.toBitVec_inj.mp
    show _ = BitVec.ofNat 32 _
    rw [BitVec.ofNat_toNat]; simp
theorem oCh (x : Int32) : ¬ (x &&& (255 : Int32)).toUInt32.toUInt16.toUInt32.toInt32 < 0 ∧ ¬ (255 : Int32) < (x &&& (255 : Int32)).toUInt32.toUInt16.toUInt32.toInt32 := by
  have t : ∀ k : Fin 256, ¬ (Int32.ofNat k.val).toUInt32.toUInt16.toUInt32.toInt32 < 0 ∧ ¬ (255 : Int32) < (Int32.ofNat k.val).toUInt32.toUInt16.toUInt32.toInt32 := by decide +kernel
  obtain ⟨k, hk, e⟩ := oAnd x
  rw [e]
  exact t ⟨k, hk⟩
theorem oB8 {x : Int32} (h : ¬ x < 0 ∧ ¬ (255 : Int32) < x) : ∃ k : Nat, k < 256 ∧ x = Int32.ofNat k := by
  obtain ⟨h1, h2⟩ := h
  rw [Int32.lt_iff_toInt_lt] at h1 h2
  have e1 : (255 : Int32).toInt = 255 := rfl
  have e2 : (0 : Int32).toInt = 0 := rfl
  refine ⟨x.toInt.toNat, by omega, ?_⟩
  apply Int32.toInt_inj.mp
  rw [Int32.toInt_ofNat_small (by omega)]
  omega
theorem oNar {x : Int32} (h : ¬ x < 0 ∧ ¬ (255 : Int32) < x) : nar .char x = x := by
  have t : ∀ k : Fin 256, nar .char (Int32.ofNat k.val) = Int32.ofNat k.val := by decide +kernel
  obtain ⟨k, hk, e⟩ := oB8 h
  rw [e]
  exact t ⟨k, hk⟩
theorem oP0 : ∀ c ∈ ([] : List Int32), ¬ c < 0 ∧ ¬ (255 : Int32) < c := fun _ q => nomatch q
theorem oPS {x : Int32} {cs : List Int32} (h : ¬ x < 0 ∧ ¬ (255 : Int32) < x) (r : ∀ c ∈ cs, ¬ c < 0 ∧ ¬ (255 : Int32) < c) : ∀ c ∈ x :: cs, ¬ c < 0 ∧ ¬ (255 : Int32) < c := fun c q => by
  rcases List.mem_cons.mp q with rfl | q
  · exact h
  · exact r c q
end OwnKit
end Jvm.Pilot.@@N@@
namespace Jvm.Pilot.@@N@@
open Jvm Jvm.ClassFile Sem Op Lib Jvm.Free Jvm.Stand Jvm.LawKit Jvm.RoadKit Bundle Jvm.Pilot.@@N@@.Jvm.D
theorem own_nl {i n : Nat} (h : i < n) (hn : n ≤ 4000) : ¬ Int32.ofNat i < 0 ∧ Int32.ofNat i < Int32.ofNat n := by
  rw [Int32.lt_iff_toInt_lt, Int32.lt_iff_toInt_lt, Int32.toInt_ofNat_small (by omega), Int32.toInt_ofNat_small (by omega)]
  have e : (0 : Int32).toInt = 0 := rfl
  omega
theorem own_n32 {n : Nat} (hn : n ≤ 4000) : (Int32.ofNat n).toNatClampNeg = n := by
  have h := Int32.toInt_ofNat_small (n := n) (by omega)
  have : (Int32.ofNat n).toNatClampNeg = (Int32.ofNat n).toInt.toNat := rfl
  rw [this, h]; omega
theorem own_succ {i : Nat} (hi : i < 4000) : Int32.ofNat i + (1 : Int32) = Int32.ofNat (i + 1) := by
  apply Int32.toInt_inj.mp
  have e1 : (1 : Int32).toInt = 1 := rfl
  rw [Int32.toInt_add, Int32.toInt_ofNat_small (by omega), Int32.toInt_ofNat_small (by omega), e1]
  rw [Int.bmod_eq_of_le (by omega) (by omega)]
  omega
theorem own_drop {cs r : List Int32} {c : Int32} {i : Nat} (h : cs.drop i = c :: r) : i < cs.length ∧ cs.getD i 0 = c ∧ cs.drop (i + 1) = r := by
  have hi : i < cs.length := by
    rcases Nat.lt_or_ge i cs.length with q | q
    · exact q
    · rw [List.drop_eq_nil_of_le q] at h; cases h
  rw [List.drop_eq_getElem_cons hi] at h
  injection h with h1 h2
  exact ⟨hi, by simp [List.getD_eq_getElem?_getD, hi, h1], h2⟩
theorem own_drop0 {cs : List Int32} {i : Nat} (h : cs.drop i = []) : cs.length ≤ i := by
  rcases Nat.lt_or_ge i cs.length with q | q
  · rw [List.drop_eq_getElem_cons q] at h; cases h
  · exact q
theorem own_vs {cs : List Int32} {i : Nat} (hi : i < cs.length) (f : Int32 → Int32) : ((cs.map f).map Value.int).getD i (.int (0 : Int32)) = .int (f (cs.getD i 0)) := by
  simp [List.getD_eq_getElem?_getD, hi]
theorem own_lo8 {x y : Int32} (hx : ¬ x < 0 ∧ ¬ (255 : Int32) < x) (hy : ¬ y < 0 ∧ ¬ (255 : Int32) < y) : x.toInt8.toInt32 = y.toInt8.toInt32 ↔ x = y := by
  refine ⟨fun h => ?_, fun h => by rw [h]⟩
  have t : ∀ k : Fin 256, (Int32.ofNat k.val).toInt8.toInt32 &&& (255 : Int32) = Int32.ofNat k.val := by decide +kernel
  obtain ⟨i, hi, ei⟩ := oB8 hx
  obtain ⟨j, hj, ej⟩ := oB8 hy
  have h1 := t ⟨i, hi⟩
  have h2 := t ⟨j, hj⟩
  rw [ei, ej] at h ⊢
  rw [← h1, ← h2]
  show (Int32.ofNat i).toInt8.toInt32 &&& (255 : Int32) = _
  rw [h]
def own_find (ch : Int32) : List Int32 → Nat → Int32
  | [], _ => -1
  | c :: cs, i => if c = ch then Int32.ofNat i else own_find ch cs (i + 1)
def own_B (c : Int32) : Prop := ¬ c < 0 ∧ ¬ (255 : Int32) < c
def own_R5 (n : Int32) : Prop := n = 0 ∨ n = 1 ∨ n = 2 ∨ n = 3 ∨ n = 4
def own_mk (n a b c d : Int32) : List Int32 := if n = 0 then [] else if n = 1 then [a] else if n = 2 then [a, b] else if n = 3 then [a, b, c] else [a, b, c, d]
def own_wo (cs : List Int32) : List Int32 := if own_find 35 cs 0 < 0 then cs else cs.take (own_find 35 cs 0).toNatClampNeg
theorem own_fd (cs : List Int32) : ∀ i : Nat, i + cs.length ≤ 4 → own_find 35 cs i < 0 ∨ ∃ k, k < cs.length ∧ own_find 35 cs i = Int32.ofNat (i + k) := by
  induction cs with
  | nil => intro i _; exact Or.inl (by show (-1 : Int32) < 0; decide)
  | cons c r ih =>
    intro i hi
    simp only [List.length_cons] at hi
    by_cases h : c = 35
    · exact Or.inr ⟨0, by simp, by simp [own_find, h]⟩
    · rcases ih (i + 1) (by omega) with q | ⟨k, hk, q⟩
      · exact Or.inl (by simp only [own_find, h, if_false]; exact q)
      · exact Or.inr ⟨k + 1, by simpa using hk, by simp only [own_find, h, if_false]; rw [q]; congr 1; omega⟩
theorem own_us {cs : List Int32} {i : Nat} (hi : i ≤ cs.length) (f : Int32 → Int32) : ((List.range i).map fun j => ((cs.map f).map Value.int).getD (0 + j) (.int (0 : Int32))) = ((cs.take i).map f).map Value.int := by
  apply List.ext_getElem
  · simp [hi]
  · intro j h1 h2
    simp at h1 h2
    simp [List.getD_eq_getElem?_getD, show j < cs.length by omega]
theorem own_rem (x : Int32) : own_R5 ((x &&& (2147483647 : Int32)) % (5 : Int32)) := by
  have h0 := c_and' (2147483647 : Int32) x (by decide)
  rw [Int32.and_comm] at h0
  have h1 := (c_iremV (x &&& (2147483647 : Int32)) (5 : Int32)).1 h0.1 (by decide)
  have e3 : (5 : Int32).toInt = 5 := rfl
  have h2 := h1.1
  have h3 := h1.2.1
  rw [e3] at h3
  generalize (x &&& (2147483647 : Int32)) % (5 : Int32) = y at h2 h3
  rcases (by omega : y.toInt = 0 ∨ y.toInt = 1 ∨ y.toInt = 2 ∨ y.toInt = 3 ∨ y.toInt = 4) with q | q | q | q | q
  · exact Or.inl (Int32.toInt_inj.mp q)
  · exact Or.inr (Or.inl (Int32.toInt_inj.mp q))
  · exact Or.inr (Or.inr (Or.inl (Int32.toInt_inj.mp q)))
  · exact Or.inr (Or.inr (Or.inr (Or.inl (Int32.toInt_inj.mp q))))
  · exact Or.inr (Or.inr (Or.inr (Or.inr (Int32.toInt_inj.mp q))))
theorem d_jdk_42_m149_0 : decode jdk_42_method_149_code 0 = .ok (.aload_n 0, 1) := by decide +kernel
theorem d_jdk_42_m149_1 : decode jdk_42_method_149_code 1 = .ok (.invokespecial 1, 3) := by decide +kernel
theorem d_jdk_42_m149_4 : decode jdk_42_method_149_code 4 = .ok (.iload_n 3, 1) := by decide +kernel
theorem d_jdk_42_m149_5 : decode jdk_42_method_149_code 5 = .ok (.ifCond .ne 22, 3) := by decide +kernel
theorem d_jdk_42_m149_8 : decode jdk_42_method_149_code 8 = .ok (.aload_n 0, 1) := by decide +kernel
theorem d_jdk_42_m149_9 : decode jdk_42_method_149_code 9 = .ok (.ldc 7, 2) := by decide +kernel
theorem d_jdk_42_m149_11 : decode jdk_42_method_149_code 11 = .ok (.getfield 9, 3) := by decide +kernel
theorem d_jdk_42_m149_14 : decode jdk_42_method_149_code 14 = .ok (.putfield 9, 3) := by decide +kernel
theorem d_jdk_42_m149_17 : decode jdk_42_method_149_code 17 = .ok (.aload_n 0, 1) := by decide +kernel
theorem d_jdk_42_m149_18 : decode jdk_42_method_149_code 18 = .ok (.ldc 7, 2) := by decide +kernel
theorem d_jdk_42_m149_20 : decode jdk_42_method_149_code 20 = .ok (.getfield 15, 3) := by decide +kernel
theorem d_jdk_42_m149_23 : decode jdk_42_method_149_code 23 = .ok (.putfield 15, 3) := by decide +kernel
theorem d_jdk_42_m149_26 : decode jdk_42_method_149_code 26 = .ok (.return_, 1) := by decide +kernel
theorem d_jdk_42_m149_27 : decode jdk_42_method_149_code 27 = .ok (.getstatic 38, 3) := by decide +kernel
theorem d_jdk_42_m149_30 : decode jdk_42_method_149_code 30 = .ok (.ifCond .eq 28, 3) := by decide +kernel
theorem d_jdk_42_m149_33 : decode jdk_42_method_149_code 33 = .ok (.aload_n 1, 1) := by decide +kernel
theorem d_jdk_42_m149_34 : decode jdk_42_method_149_code 34 = .ok (.iload_n 2, 1) := by decide +kernel
theorem d_jdk_42_m149_35 : decode jdk_42_method_149_code 35 = .ok (.iload_n 3, 1) := by decide +kernel
theorem d_jdk_42_m149_36 : decode jdk_42_method_149_code 36 = .ok (.invokestatic 177, 3) := by decide +kernel
theorem d_jdk_42_m149_39 : decode jdk_42_method_149_code 39 = .ok (.astore 5, 2) := by decide +kernel
theorem d_jdk_42_m149_41 : decode jdk_42_method_149_code 41 = .ok (.aload_n 0, 1) := by decide +kernel
theorem d_jdk_42_m149_42 : decode jdk_42_method_149_code 42 = .ok (.aload 5, 2) := by decide +kernel
theorem d_jdk_42_m149_44 : decode jdk_42_method_149_code 44 = .ok (.iload_n 3, 1) := by decide +kernel
theorem d_jdk_42_m149_45 : decode jdk_42_method_149_code 45 = .ok (.invokestatic 47, 3) := by decide +kernel
theorem d_jdk_42_m149_48 : decode jdk_42_method_149_code 48 = .ok (.putfield 15, 3) := by decide +kernel
theorem d_jdk_42_m149_51 : decode jdk_42_method_149_code 51 = .ok (.aload_n 0, 1) := by decide +kernel
theorem d_jdk_42_m149_52 : decode jdk_42_method_149_code 52 = .ok (.aload 5, 2) := by decide +kernel
theorem d_jdk_42_m149_54 : decode jdk_42_method_149_code 54 = .ok (.putfield 9, 3) := by decide +kernel
theorem d_jdk_42_m149_57 : decode jdk_42_method_149_code 57 = .ok (.return_, 1) := by decide +kernel
theorem d_jdk_42_m149_58 : decode jdk_42_method_149_code 58 = .ok (.aload_n 0, 1) := by decide +kernel
theorem d_jdk_42_m149_59 : decode jdk_42_method_149_code 59 = .ok (.iconst 1, 1) := by decide +kernel
theorem d_jdk_42_m149_60 : decode jdk_42_method_149_code 60 = .ok (.putfield 15, 3) := by decide +kernel
theorem d_jdk_42_m149_63 : decode jdk_42_method_149_code 63 = .ok (.aload_n 0, 1) := by decide +kernel
theorem d_jdk_42_m149_64 : decode jdk_42_method_149_code 64 = .ok (.aload_n 1, 1) := by decide +kernel
theorem d_jdk_42_m149_65 : decode jdk_42_method_149_code 65 = .ok (.iload_n 2, 1) := by decide +kernel
theorem d_jdk_42_m149_66 : decode jdk_42_method_149_code 66 = .ok (.iload_n 3, 1) := by decide +kernel
theorem d_jdk_42_m149_67 : decode jdk_42_method_149_code 67 = .ok (.invokestatic 180, 3) := by decide +kernel
theorem d_jdk_42_m149_70 : decode jdk_42_method_149_code 70 = .ok (.putfield 9, 3) := by decide +kernel
theorem d_jdk_42_m149_73 : decode jdk_42_method_149_code 73 = .ok (.return_, 1) := by decide +kernel
theorem opn_own_E4 : plainFor (⟨"java/lang/String", "<init>", "([CIILjava/lang/Void;)V"⟩ : MethodName) = true := plainFor_of_name (by first | (simp [plainName, overriddenIn]; done) | decide +kernel)
set_option maxRecDepth 65536 in
set_option maxHeartbeats 40000000 in
theorem own_E4 (l : Launch) (Z : State) (a0 : Array Value) (hw : ∀ d ∈ tables_1, d.before a0 Z = true) (hEL : EW Z a0 consts_1) (n0 : Nat) (h : Heap) (hO : Old Z n0 h) (x b : Addr) (v0 c0 : Value) (E_x : Exa Z h x "java/lang/String") (F_value_x : Fld Z h x "java/lang/String" "value" "[B" v0) (F_coder_x : Fld Z h x "java/lang/String" "coder" "B" c0) (n0_x : n0 ≤ x) (lt_x : x < h.size) :
    oMet l Z consts_1 n0 (⟨"java/lang/String", "<init>", "([CIILjava/lang/Void;)V"⟩ : MethodName) jdk_42_method_149_code 6 none [] ({ frames := 1, cells := 2, slots := 4, locals := 14 } : Room) #[(.ref x), (.ref b), (.int (0 : Int32)), (.int (0 : Int32)), .null] h [x] (fun v _ h => v = none ∧ oStr Z h x []) := by
  refine oMet.of opn_own_E4 hO ?_
  intro p e s m below meth c T hx hby hml hret hnm hlk hh hsf A
  have hml : c.maxLocals = 6 := hml
  refine oCast (g' := mkF m 0 #[.val (.ref x), .val (.ref b), .val (.int (0 : Int32)), .val (.int (0 : Int32)), .val .null, .unset] []) (by first | (simp [entryFrame, mkF, argsToLocals, Value.category]; done) | rfl) ?_
  have hlit : ∀ d ∈ Bundle.stringAtoms, d.before a0 Z = true := fun d hd => hw d ((by decide +kernel : ∀ d ∈ Bundle.stringAtoms, d ∈ tables_1) d hd)
  have S_x := hsf x (List.mem_cons_self ..)
  have q2 : x ∈ [x] ∨ s.heap.size ≤ x := Or.inl (List.mem_cons_self ..)
  show oGo p e below _ (T.setTop (mkF m 0 #[.val (.ref x), .val (.ref b), .val (.int (0 : Int32)), .val (.int (0 : Int32)), .val .null, .unset] []))
  refine oSt (fun _ => XS.aloadN A.here hx rfl (Jvm.hb hby d_jdk_42_m149_0) rfl rfl) ?_
  show oGo p e below _ (T.setTop (mkF m 1 #[.val (.ref x), .val (.ref b), .val (.int (0 : Int32)), .val (.int (0 : Int32)), .val .null, .unset] [(.ref x)]))
  obtain ⟨T, A, st⟩ := A.initO hx (hw _ (List.mem_of_getElem? (i := 16) rfl)) (hw _ (List.mem_of_getElem? (i := 17) rfl)) (hw _ (List.mem_of_getElem? (i := 18) rfl)) (g := (mkF m 1 #[.val (.ref x), .val (.ref b), .val (.int (0 : Int32)), .val (.int (0 : Int32)), .val .null, .unset] [(.ref x)])) rfl (by rw [hml]; rfl) rfl (Jvm.hb hby d_jdk_42_m149_1) (by decide) (W := 0) (by show 2 * 0 + _ ≤ _; exact Nat.le_of_eq rfl) (by decide)
  refine oSt st ?_
  show oGo p e below _ (T.setTop (mkF m 4 #[.val (.ref x), .val (.ref b), .val (.int (0 : Int32)), .val (.int (0 : Int32)), .val .null, .unset] []))
  refine oSt (fun _ => XS.iloadN A.here hx rfl (Jvm.hb hby d_jdk_42_m149_4) rfl) ?_
  show oGo p e below _ (T.setTop (mkF m 5 #[.val (.ref x), .val (.ref b), .val (.int (0 : Int32)), .val (.int (0 : Int32)), .val .null, .unset] [(.int (0 : Int32))]))
  refine oSt (fun _ => XS.ifNo A.here hx rfl (Jvm.hb hby d_jdk_42_m149_5) rfl (Jvm.Free.XT.i0_ne_f rfl)) ?_
  show oGo p e below _ (T.setTop (mkF m 8 #[.val (.ref x), .val (.ref b), .val (.int (0 : Int32)), .val (.int (0 : Int32)), .val .null, .unset] []))
  refine oSt (fun _ => XS.aloadN A.here hx rfl (Jvm.hb hby d_jdk_42_m149_8) rfl rfl) ?_
  show oGo p e below _ (T.setTop (mkF m 9 #[.val (.ref x), .val (.ref b), .val (.int (0 : Int32)), .val (.int (0 : Int32)), .val .null, .unset] [(.ref x)]))
  obtain ⟨y, T, h, bb, kb, A, X, CR, E_y, C_y, V_y, K_y, ne_y, Li, st⟩ := A.ldcS hx (hw _ (List.mem_of_getElem? (i := 19) rfl)) hlit hEL (List.mem_of_getElem? (i := 0) rfl) (vs := []) (z := 0) (by decide +kernel) (by decide) rfl (g := (mkF m 9 #[.val (.ref x), .val (.ref b), .val (.int (0 : Int32)), .val (.int (0 : Int32)), .val .null, .unset] [(.ref x)])) rfl (Jvm.hb hby d_jdk_42_m149_9) (n := 0) (by decide +kernel) (by decide) (by decide) (by decide)
  refine oSt st ?_
  show oGo p e below _ (T.setTop (mkF m 11 #[.val (.ref x), .val (.ref b), .val (.int (0 : Int32)), .val (.int (0 : Int32)), .val .null, .unset] [(.ref y), (.ref x)]))
  have S_x := CR.safe lt_x S_x
  have E_x := E_x.ext X
  have F_value_x := F_value_x.ext X
  have F_coder_x := F_coder_x.ext X
  have hne := ne_y x S_x
  obtain ⟨T, A, st⟩ := A.getF hx (host := "") (Or.inl (hw _ (List.mem_of_getElem? (i := 25) rfl))) Via.refl V_y (g := (mkF m 11 #[.val (.ref x), .val (.ref b), .val (.int (0 : Int32)), .val (.int (0 : Int32)), .val .null, .unset] [(.ref y), (.ref x)])) rfl rfl (Jvm.hb hby d_jdk_42_m149_11)
  refine oSt st ?_
  show oGo p e below _ (T.setTop (mkF m 14 #[.val (.ref x), .val (.ref b), .val (.int (0 : Int32)), .val (.int (0 : Int32)), .val .null, .unset] [(.ref bb), (.ref x)]))
  have CH := A.ch
  obtain ⟨T, h, A, W, st⟩ := A.putF hx (host := "") (Or.inl (hw _ (List.mem_of_getElem? (i := 25) rfl))) Via.refl F_value_x E_x (Or.inr ⟨(hw _ (List.mem_of_getElem? (i := 21) rfl)), rfl, hnm⟩) (hw _ (List.mem_of_getElem? (i := 7) rfl)) (ty := (.array .byte)) (by decide) rfl rfl n0_x q2 S_x (g := (mkF m 14 #[.val (.ref x), .val (.ref b), .val (.int (0 : Int32)), .val (.int (0 : Int32)), .val .null, .unset] [(.ref bb), (.ref x)])) rfl rfl (Jvm.hb hby d_jdk_42_m149_14)
  refine oSt st ?_
  show oGo p e below _ (T.setTop (mkF m 17 #[.val (.ref x), .val (.ref b), .val (.int (0 : Int32)), .val (.int (0 : Int32)), .val .null, .unset] []))
  have C_y := C_y.other W (Or.inl (Ne.symm hne.1))
  have K_y := K_y.other W (Ne.symm hne.2)
  have E_x := E_x.wr W
  have F_coder_x := F_coder_x.other W (Or.inr (slot_ne (Or.inr (hw _ (List.mem_of_getElem? (i := 22) rfl))) (Or.inr (hw _ (List.mem_of_getElem? (i := 21) rfl))) (by decide) (t := .byte) (t' := (.array .byte)) (by decide) (by decide)))
  have F_value_x := F_value_x.same W
  refine oSt (fun _ => XS.aloadN A.here hx rfl (Jvm.hb hby d_jdk_42_m149_17) rfl rfl) ?_
  show oGo p e below _ (T.setTop (mkF m 18 #[.val (.ref x), .val (.ref b), .val (.int (0 : Int32)), .val (.int (0 : Int32)), .val .null, .unset] [(.ref x)]))
  refine oSt (A.ldcS2 hx (hw _ (List.mem_of_getElem? (i := 19) rfl)) Li (g := (mkF m 18 #[.val (.ref x), .val (.ref b), .val (.int (0 : Int32)), .val (.int (0 : Int32)), .val .null, .unset] [(.ref x)])) rfl (Jvm.hb hby d_jdk_42_m149_18)) ?_
  show oGo p e below _ (T.setTop (mkF m 20 #[.val (.ref x), .val (.ref b), .val (.int (0 : Int32)), .val (.int (0 : Int32)), .val .null, .unset] [(.ref y), (.ref x)]))
  obtain ⟨T, A, st⟩ := A.getF hx (host := "") (Or.inl (hw _ (List.mem_of_getElem? (i := 26) rfl))) Via.refl C_y (g := (mkF m 20 #[.val (.ref x), .val (.ref b), .val (.int (0 : Int32)), .val (.int (0 : Int32)), .val .null, .unset] [(.ref y), (.ref x)])) rfl rfl (Jvm.hb hby d_jdk_42_m149_20)
  refine oSt st ?_
  show oGo p e below _ (T.setTop (mkF m 23 #[.val (.ref x), .val (.ref b), .val (.int (0 : Int32)), .val (.int (0 : Int32)), .val .null, .unset] [(.int (0 : Int32)), (.ref x)]))
  obtain ⟨T, h, A, W2, st⟩ := A.putF hx (host := "") (Or.inl (hw _ (List.mem_of_getElem? (i := 26) rfl))) Via.refl F_coder_x E_x (Or.inr ⟨(hw _ (List.mem_of_getElem? (i := 22) rfl)), rfl, hnm⟩) (hw _ (List.mem_of_getElem? (i := 7) rfl)) (ty := .byte) (by decide) rfl rfl n0_x q2 (Safe.wr W S_x CH S_x) (g := (mkF m 23 #[.val (.ref x), .val (.ref b), .val (.int (0 : Int32)), .val (.int (0 : Int32)), .val .null, .unset] [(.int (0 : Int32)), (.ref x)])) rfl rfl (Jvm.hb hby d_jdk_42_m149_23)
  refine oSt st ?_
  show oGo p e below _ (T.setTop (mkF m 26 #[.val (.ref x), .val (.ref b), .val (.int (0 : Int32)), .val (.int (0 : Int32)), .val .null, .unset] []))
  have F_value_x := F_value_x.other W2 (Or.inr (slot_ne (Or.inr (hw _ (List.mem_of_getElem? (i := 21) rfl))) (Or.inr (hw _ (List.mem_of_getElem? (i := 22) rfl))) (by decide) (t := (.array .byte)) (t' := .byte) (by decide) (by decide)))
  have F_coder_x := F_coder_x.same W2
  have K_y := K_y.other W2 (Ne.symm hne.2)
  have E_x := E_x.wr W2
  exact A.leave hlk hEL (v := none) (fun _ => rfl) (fun _ _ => ⟨rfl, oP0, Nat.zero_le _, bb, kb, E_x, F_value_x, F_coder_x, K_y⟩) (by decide) (by decide) (fun fs hr => A.1.returnOut hx hret (Jvm.hb hby d_jdk_42_m149_26) hr)
theorem d_jdk_42_m3_0 : decode jdk_42_method_3_code 0 = .ok (.aload_n 0, 1) := by decide +kernel
theorem d_jdk_42_m3_1 : decode jdk_42_method_3_code 1 = .ok (.aload_n 1, 1) := by decide +kernel
theorem d_jdk_42_m3_2 : decode jdk_42_method_3_code 2 = .ok (.iconst 0, 1) := by decide +kernel
theorem d_jdk_42_m3_3 : decode jdk_42_method_3_code 3 = .ok (.aload_n 1, 1) := by decide +kernel
theorem d_jdk_42_m3_4 : decode jdk_42_method_3_code 4 = .ok (.arraylength, 1) := by decide +kernel
theorem d_jdk_42_m3_5 : decode jdk_42_method_3_code 5 = .ok (.aconst_null, 1) := by decide +kernel
theorem d_jdk_42_m3_6 : decode jdk_42_method_3_code 6 = .ok (.invokespecial 27, 3) := by decide +kernel
theorem d_jdk_42_m3_9 : decode jdk_42_method_3_code 9 = .ok (.return_, 1) := by decide +kernel
theorem opd0 : parseMethodDescriptor "([CIILjava/lang/Void;)V" = some ⟨[(.array .char), .int, .int, (.object "java/lang/Void")], none⟩ := by decide +kernel
theorem opn_own_E1 : plainFor (⟨"java/lang/String", "<init>", "([C)V"⟩ : MethodName) = true := plainFor_of_name (by first | (simp [plainName, overriddenIn]; done) | decide +kernel)
set_option maxRecDepth 65536 in
set_option maxHeartbeats 40000000 in
theorem own_E1 (l : Launch) (Z : State) (a0 : Array Value) (hw : ∀ d ∈ tables_1, d.before a0 Z = true) (hEL : EW Z a0 consts_1) (n0 : Nat) (h : Heap) (hO : Old Z n0 h) (x b : Addr) (v0 c0 : Value) (E_x : Exa Z h x "java/lang/String") (F_value_x : Fld Z h x "java/lang/String" "value" "[B" v0) (F_coder_x : Fld Z h x "java/lang/String" "coder" "B" c0) (n0_x : n0 ≤ x) (lt_x : x < h.size) (k : ClassId) (V_b : Arv Z h b k .char (0 : Int32) [] (.int (0 : Int32))) :
    oMet l Z consts_1 n0 (⟨"java/lang/String", "<init>", "([C)V"⟩ : MethodName) jdk_42_method_3_code 2 none [] ({ frames := 2, cells := 2, slots := 4, locals := 31 } : Room) #[(.ref x), (.ref b)] h [x] (fun v _ h => v = none ∧ oStr Z h x []) := by
  refine oMet.of opn_own_E1 hO ?_
  intro p e s m below meth c T hx hby hml hret hnm hlk hh hsf A
  have hml : c.maxLocals = 2 := hml
  refine oCast (g' := mkF m 0 #[.val (.ref x), .val (.ref b)] []) (by first | (simp [entryFrame, mkF, argsToLocals, Value.category]; done) | rfl) ?_
  have S_x := hsf x (List.mem_cons_self ..)
  show oGo p e below _ (T.setTop (mkF m 0 #[.val (.ref x), .val (.ref b)] []))
  refine oSt (fun _ => XS.aloadN A.here hx rfl (Jvm.hb hby d_jdk_42_m3_0) rfl rfl) ?_
  show oGo p e below _ (T.setTop (mkF m 1 #[.val (.ref x), .val (.ref b)] [(.ref x)]))
  refine oSt (fun _ => XS.aloadN A.here hx rfl (Jvm.hb hby d_jdk_42_m3_1) rfl rfl) ?_
  show oGo p e below _ (T.setTop (mkF m 2 #[.val (.ref x), .val (.ref b)] [(.ref b), (.ref x)]))
  refine oSt (fun _ => XS.iconst A.here hx rfl (Jvm.hb hby d_jdk_42_m3_2)) ?_
  show oGo p e below _ (T.setTop (mkF m 3 #[.val (.ref x), .val (.ref b)] [(.int (0 : Int32)), (.ref b), (.ref x)]))
  refine oSt (fun _ => XS.aloadN A.here hx rfl (Jvm.hb hby d_jdk_42_m3_3) rfl rfl) ?_
  show oGo p e below _ (T.setTop (mkF m 4 #[.val (.ref x), .val (.ref b)] [(.ref b), (.int (0 : Int32)), (.ref b), (.ref x)]))
  refine oSt (A.len hx V_b (g := (mkF m 4 #[.val (.ref x), .val (.ref b)] [(.ref b), (.int (0 : Int32)), (.ref b), (.ref x)])) rfl rfl (Jvm.hb hby d_jdk_42_m3_4)) ?_
  show oGo p e below _ (T.setTop (mkF m 5 #[.val (.ref x), .val (.ref b)] [(.int (0 : Int32)), (.int (0 : Int32)), (.ref b), (.ref x)]))
  refine oSt (fun _ => XS.aconstNull A.here hx rfl (Jvm.hb hby d_jdk_42_m3_5)) ?_
  show oGo p e below _ (T.setTop (mkF m 6 #[.val (.ref x), .val (.ref b)] [.null, (.int (0 : Int32)), (.int (0 : Int32)), (.ref b), (.ref x)]))
  obtain ⟨_, vm, T, h, L, A, K, CR, ⟨rfl, Q_x⟩, st⟩ := A.callN hx (y := (⟨"java/lang/String", "<init>", "([CIILjava/lang/Void;)V"⟩ : MethodName)) rfl (hw _ (List.mem_of_getElem? (i := 12) rfl)) (hw _ (List.mem_of_getElem? (i := 13) rfl)) (hw _ (List.mem_of_getElem? (i := 8) rfl)) (hw _ (List.mem_of_getElem? (i := 15) rfl)) (by decide) hEL (a := x) (argsL := [(.ref b), (.int (0 : Int32)), (.int (0 : Int32)), .null]) (rest := []) (own_E4 l Z a0 hw hEL n0 h A.oldn x b v0 c0 E_x F_value_x F_coder_x n0_x lt_x) (W := 0) (by decide) (by decide) (by decide) (by decide) (oIn1 n0_x) (oIn1 (Or.inl (List.mem_cons_self ..))) (oIn1 S_x) (g := (mkF m 6 #[.val (.ref x), .val (.ref b)] [.null, (.int (0 : Int32)), (.int (0 : Int32)), (.ref b), (.ref x)])) rfl (by rw [hml]; rfl) (lenOf opd0 rfl) rfl (by show 2 * 0 + _ ≤ _; exact Nat.le_of_eq rfl) (Jvm.hb hby d_jdk_42_m3_6)
  refine oSt st ?_
  show oGo p e below _ (T.setTop (mkF m 9 #[.val (.ref x), .val (.ref b)] []))
  exact A.leave hlk hEL (v := none) (fun _ => rfl) (fun _ _ => ⟨rfl, Q_x⟩) (by decide) (by decide) (fun fs hr => A.1.returnOut hx hret (Jvm.hb hby d_jdk_42_m3_9) hr)
theorem d_jdk_43_m4_0 : decode jdk_43_method_4_code 0 = .ok (.iload_n 0, 1) := by decide +kernel
theorem d_jdk_43_m4_1 : decode jdk_43_method_4_code 1 = .ok (.ifCond .lt 14, 3) := by decide +kernel
theorem d_jdk_43_m4_4 : decode jdk_43_method_4_code 4 = .ok (.iload_n 0, 1) := by decide +kernel
theorem d_jdk_43_m4_5 : decode jdk_43_method_4_code 5 = .ok (.sipush 255, 3) := by decide +kernel
theorem d_jdk_43_m4_8 : decode jdk_43_method_4_code 8 = .ok (.if_icmp .gt 7, 3) := by decide +kernel
theorem d_jdk_43_m4_11 : decode jdk_43_method_4_code 11 = .ok (.iconst 1, 1) := by decide +kernel
theorem d_jdk_43_m4_12 : decode jdk_43_method_4_code 12 = .ok (.goto 4, 3) := by decide +kernel
theorem d_jdk_43_m4_15 : decode jdk_43_method_4_code 15 = .ok (.iconst 0, 1) := by decide +kernel
theorem d_jdk_43_m4_16 : decode jdk_43_method_4_code 16 = .ok (.ireturn, 1) := by decide +kernel
theorem opn_own_can : plainFor (⟨"java/lang/StringLatin1", "canEncode", "(I)Z"⟩ : MethodName) = true := plainFor_of_name (by first | (simp [plainName, overriddenIn]; done) | decide +kernel)
set_option maxRecDepth 65536 in
set_option maxHeartbeats 40000000 in
theorem own_can (l : Launch) (Z : State) (a0 : Array Value) (hw : ∀ d ∈ tables_1, d.before a0 Z = true) (hEL : EW Z a0 consts_1) (n0 : Nat) (h : Heap) (hO : Old Z n0 h) (ch : Int32) (hb : ¬ ch < 0 ∧ ¬ (255 : Int32) < ch) :
    oMet l Z consts_1 n0 (⟨"java/lang/StringLatin1", "canEncode", "(I)Z"⟩ : MethodName) jdk_43_method_4_code 1 (some .boolean) [] ({ frames := 0, cells := 0, slots := 0, locals := 0 } : Room) #[(.int ch)] h [] (fun v _ h' => h = h' ∧ v = some (.int 1)) := by
  refine oMet.of opn_own_can hO ?_
  intro p e s m below meth c T hx hby hml hret hnm hlk hh hsf A
  have hml : c.maxLocals = 1 := hml
  refine oCast (g' := mkF m 0 #[.val (.int ch)] []) (by first | (simp [entryFrame, mkF, argsToLocals, Value.category]; done) | rfl) ?_
  show oGo p e below _ (T.setTop (mkF m 0 #[.val (.int ch)] []))
  refine oSt (fun _ => XS.iloadN A.here hx rfl (Jvm.hb hby d_jdk_43_m4_0) rfl) ?_
  show oGo p e below _ (T.setTop (mkF m 1 #[.val (.int ch)] [(.int ch)]))
  refine oSt (fun _ => XS.ifNo A.here hx rfl (Jvm.hb hby d_jdk_43_m4_1) rfl (Jvm.Free.XT.i0_lt_f hb.1)) ?_
  show oGo p e below _ (T.setTop (mkF m 4 #[.val (.int ch)] []))
  refine oSt (fun _ => XS.iloadN A.here hx rfl (Jvm.hb hby d_jdk_43_m4_4) rfl) ?_
  show oGo p e below _ (T.setTop (mkF m 5 #[.val (.int ch)] [(.int ch)]))
  refine oSt (fun _ => XS.sipush A.here hx rfl (Jvm.hb hby d_jdk_43_m4_5)) ?_
  show oGo p e below _ (T.setTop (mkF m 8 #[.val (.int ch)] [(.int (255 : Int32)), (.int ch)]))
  refine oSt (fun _ => XS.icmpNo A.here hx rfl (Jvm.hb hby d_jdk_43_m4_8) rfl (Jvm.Free.XT.ii_gt_f hb.2)) ?_
  show oGo p e below _ (T.setTop (mkF m 11 #[.val (.int ch)] []))
  refine oSt (fun _ => XS.iconst A.here hx rfl (Jvm.hb hby d_jdk_43_m4_11)) ?_
  show oGo p e below _ (T.setTop (mkF m 12 #[.val (.int ch)] [(.int (1 : Int32))]))
  refine oSt (fun _ => XS.goto A.here hx rfl (pc0 := 12) (pc' := 16) rfl (Jvm.hb hby d_jdk_43_m4_12) (by decide) (by decide)) ?_
  show oGo p e below _ (T.setTop (mkF m 16 #[.val (.int ch)] [(.int (1 : Int32))]))
  exact A.leave hlk hEL (v := some (.int (1 : Int32))) (fun h => by rw [hret] at h; cases h) (fun _ _ => ⟨rfl, rfl⟩) (by decide) (by decide) (fun fs hr => retN A.1 hx (t := .boolean) hret (by simp) (Jvm.hb hby d_jdk_43_m4_16) hr)
theorem d_jdk_29_m65_0 : decode jdk_29_method_65_code 0 = .ok (.iload_n 0, 1) := by decide +kernel
theorem d_jdk_29_m65_1 : decode jdk_29_method_65_code 1 = .ok (.iload_n 1, 1) := by decide +kernel
theorem d_jdk_29_m65_2 : decode jdk_29_method_65_code 2 = .ok (.if_icmp .lt 7, 3) := by decide +kernel
theorem d_jdk_29_m65_5 : decode jdk_29_method_65_code 5 = .ok (.iload_n 0, 1) := by decide +kernel
theorem d_jdk_29_m65_6 : decode jdk_29_method_65_code 6 = .ok (.goto 4, 3) := by decide +kernel
theorem d_jdk_29_m65_9 : decode jdk_29_method_65_code 9 = .ok (.iload_n 1, 1) := by decide +kernel
theorem d_jdk_29_m65_10 : decode jdk_29_method_65_code 10 = .ok (.ireturn, 1) := by decide +kernel
theorem opn_own_max : plainFor (⟨"java/lang/Math", "max", "(II)I"⟩ : MethodName) = true := (Jvm.Free.JP.mathPlain rfl (by decide +kernel))
set_option maxRecDepth 65536 in
set_option maxHeartbeats 40000000 in
theorem own_max (l : Launch) (Z : State) (a0 : Array Value) (hw : ∀ d ∈ tables_1, d.before a0 Z = true) (hEL : EW Z a0 consts_1) (n0 : Nat) (h : Heap) (hO : Old Z n0 h) (a b : Int32) (hab : ¬ a < b) :
    oMet l Z consts_1 n0 (⟨"java/lang/Math", "max", "(II)I"⟩ : MethodName) jdk_29_method_65_code 2 (some .int) [] ({ frames := 0, cells := 0, slots := 0, locals := 0 } : Room) #[(.int a), (.int b)] h [] (fun v _ h' => h = h' ∧ v = some (.int a)) := by
  refine oMet.of opn_own_max hO ?_
  intro p e s m below meth c T hx hby hml hret hnm hlk hh hsf A
  have hml : c.maxLocals = 2 := hml
  refine oCast (g' := mkF m 0 #[.val (.int a), .val (.int b)] []) (by first | (simp [entryFrame, mkF, argsToLocals, Value.category]; done) | rfl) ?_
  show oGo p e below _ (T.setTop (mkF m 0 #[.val (.int a), .val (.int b)] []))
  refine oSt (fun _ => XS.iloadN A.here hx rfl (Jvm.hb hby d_jdk_29_m65_0) rfl) ?_
  show oGo p e below _ (T.setTop (mkF m 1 #[.val (.int a), .val (.int b)] [(.int a)]))
  refine oSt (fun _ => XS.iloadN A.here hx rfl (Jvm.hb hby d_jdk_29_m65_1) rfl) ?_
  show oGo p e below _ (T.setTop (mkF m 2 #[.val (.int a), .val (.int b)] [(.int b), (.int a)]))
  refine oSt (fun _ => XS.icmpNo A.here hx rfl (Jvm.hb hby d_jdk_29_m65_2) rfl (Jvm.Free.XT.ii_lt_f hab)) ?_
  show oGo p e below _ (T.setTop (mkF m 5 #[.val (.int a), .val (.int b)] []))
  refine oSt (fun _ => XS.iloadN A.here hx rfl (Jvm.hb hby d_jdk_29_m65_5) rfl) ?_
  show oGo p e below _ (T.setTop (mkF m 6 #[.val (.int a), .val (.int b)] [(.int a)]))
  refine oSt (fun _ => XS.goto A.here hx rfl (pc0 := 6) (pc' := 10) rfl (Jvm.hb hby d_jdk_29_m65_6) (by decide) (by decide)) ?_
  show oGo p e below _ (T.setTop (mkF m 10 #[.val (.int a), .val (.int b)] [(.int a)]))
  exact A.leave hlk hEL (v := some (.int a)) (fun h => by rw [hret] at h; cases h) (fun _ _ => ⟨rfl, rfl⟩) (by decide) (by decide) (fun fs hr => retOut A.1 hx hret rfl (Or.inl ⟨rfl, Or.inl rfl, _, rfl⟩) (Jvm.hb hby d_jdk_29_m65_10) hr)
theorem d_jdk_29_m69_0 : decode jdk_29_method_69_code 0 = .ok (.iload_n 0, 1) := by decide +kernel
theorem d_jdk_29_m69_1 : decode jdk_29_method_69_code 1 = .ok (.iload_n 1, 1) := by decide +kernel
theorem d_jdk_29_m69_2 : decode jdk_29_method_69_code 2 = .ok (.if_icmp .gt 7, 3) := by decide +kernel
theorem d_jdk_29_m69_5 : decode jdk_29_method_69_code 5 = .ok (.iload_n 0, 1) := by decide +kernel
theorem d_jdk_29_m69_6 : decode jdk_29_method_69_code 6 = .ok (.goto 4, 3) := by decide +kernel
theorem d_jdk_29_m69_9 : decode jdk_29_method_69_code 9 = .ok (.iload_n 1, 1) := by decide +kernel
theorem d_jdk_29_m69_10 : decode jdk_29_method_69_code 10 = .ok (.ireturn, 1) := by decide +kernel
theorem opn_own_min : plainFor (⟨"java/lang/Math", "min", "(II)I"⟩ : MethodName) = true := (Jvm.Free.JP.mathPlain rfl (by decide +kernel))
set_option maxRecDepth 65536 in
set_option maxHeartbeats 40000000 in
theorem own_min (l : Launch) (Z : State) (a0 : Array Value) (hw : ∀ d ∈ tables_1, d.before a0 Z = true) (hEL : EW Z a0 consts_1) (n0 : Nat) (h : Heap) (hO : Old Z n0 h) (a b : Int32) (hab : ¬ b < a) :
    oMet l Z consts_1 n0 (⟨"java/lang/Math", "min", "(II)I"⟩ : MethodName) jdk_29_method_69_code 2 (some .int) [] ({ frames := 0, cells := 0, slots := 0, locals := 0 } : Room) #[(.int a), (.int b)] h [] (fun v _ h' => h = h' ∧ v = some (.int a)) := by
  refine oMet.of opn_own_min hO ?_
  intro p e s m below meth c T hx hby hml hret hnm hlk hh hsf A
  have hml : c.maxLocals = 2 := hml
  refine oCast (g' := mkF m 0 #[.val (.int a), .val (.int b)] []) (by first | (simp [entryFrame, mkF, argsToLocals, Value.category]; done) | rfl) ?_
  show oGo p e below _ (T.setTop (mkF m 0 #[.val (.int a), .val (.int b)] []))
  refine oSt (fun _ => XS.iloadN A.here hx rfl (Jvm.hb hby d_jdk_29_m69_0) rfl) ?_
  show oGo p e below _ (T.setTop (mkF m 1 #[.val (.int a), .val (.int b)] [(.int a)]))
  refine oSt (fun _ => XS.iloadN A.here hx rfl (Jvm.hb hby d_jdk_29_m69_1) rfl) ?_
  show oGo p e below _ (T.setTop (mkF m 2 #[.val (.int a), .val (.int b)] [(.int b), (.int a)]))
  refine oSt (fun _ => XS.icmpNo A.here hx rfl (Jvm.hb hby d_jdk_29_m69_2) rfl (Jvm.Free.XT.ii_gt_f hab)) ?_
  show oGo p e below _ (T.setTop (mkF m 5 #[.val (.int a), .val (.int b)] []))
  refine oSt (fun _ => XS.iloadN A.here hx rfl (Jvm.hb hby d_jdk_29_m69_5) rfl) ?_
  show oGo p e below _ (T.setTop (mkF m 6 #[.val (.int a), .val (.int b)] [(.int a)]))
  refine oSt (fun _ => XS.goto A.here hx rfl (pc0 := 6) (pc' := 10) rfl (Jvm.hb hby d_jdk_29_m69_6) (by decide) (by decide)) ?_
  show oGo p e below _ (T.setTop (mkF m 10 #[.val (.int a), .val (.int b)] [(.int a)]))
  exact A.leave hlk hEL (v := some (.int a)) (fun h => by rw [hret] at h; cases h) (fun _ _ => ⟨rfl, rfl⟩) (by decide) (by decide) (fun fs hr => retOut A.1 hx hret rfl (Or.inl ⟨rfl, Or.inl rfl, _, rfl⟩) (Jvm.hb hby d_jdk_29_m69_10) hr)
theorem d_jdk_43_m23_0 : decode jdk_43_method_23_code 0 = .ok (.iload_n 1, 1) := by decide +kernel
theorem d_jdk_43_m23_1 : decode jdk_43_method_23_code 1 = .ok (.i2b, 1) := by decide +kernel
theorem d_jdk_43_m23_2 : decode jdk_43_method_23_code 2 = .ok (.istore 4, 2) := by decide +kernel
theorem d_jdk_43_m23_4 : decode jdk_43_method_23_code 4 = .ok (.iload_n 2, 1) := by decide +kernel
theorem d_jdk_43_m23_5 : decode jdk_43_method_23_code 5 = .ok (.istore 5, 2) := by decide +kernel
theorem d_jdk_43_m23_7 : decode jdk_43_method_23_code 7 = .ok (.iload 5, 2) := by decide +kernel
theorem d_jdk_43_m23_9 : decode jdk_43_method_23_code 9 = .ok (.iload_n 3, 1) := by decide +kernel
theorem d_jdk_43_m23_10 : decode jdk_43_method_23_code 10 = .ok (.if_icmp .ge 21, 3) := by decide +kernel
theorem d_jdk_43_m23_13 : decode jdk_43_method_23_code 13 = .ok (.aload_n 0, 1) := by decide +kernel
theorem d_jdk_43_m23_14 : decode jdk_43_method_23_code 14 = .ok (.iload 5, 2) := by decide +kernel
theorem d_jdk_43_m23_16 : decode jdk_43_method_23_code 16 = .ok (.baload, 1) := by decide +kernel
theorem d_jdk_43_m23_17 : decode jdk_43_method_23_code 17 = .ok (.iload 4, 2) := by decide +kernel
theorem d_jdk_43_m23_19 : decode jdk_43_method_23_code 19 = .ok (.if_icmp .ne 6, 3) := by decide +kernel
theorem d_jdk_43_m23_22 : decode jdk_43_method_23_code 22 = .ok (.iload 5, 2) := by decide +kernel
theorem d_jdk_43_m23_24 : decode jdk_43_method_23_code 24 = .ok (.ireturn, 1) := by decide +kernel
theorem d_jdk_43_m23_25 : decode jdk_43_method_23_code 25 = .ok (.iinc 5 1, 3) := by decide +kernel
theorem d_jdk_43_m23_28 : decode jdk_43_method_23_code 28 = .ok (.goto (-21), 3) := by decide +kernel
theorem d_jdk_43_m23_31 : decode jdk_43_method_23_code 31 = .ok (.iconst (-1), 1) := by decide +kernel
theorem d_jdk_43_m23_32 : decode jdk_43_method_23_code 32 = .ok (.ireturn, 1) := by decide +kernel
theorem opn_own_ixc : plainFor (⟨"java/lang/StringLatin1", "indexOfChar", "([BIII)I"⟩ : MethodName) = true := plainFor_of_name (by first | (simp [plainName, overriddenIn]; done) | decide +kernel)
set_option maxRecDepth 65536 in
set_option maxHeartbeats 40000000 in
theorem own_ixc (l : Launch) (Z : State) (a0 : Array Value) (hw : ∀ d ∈ tables_1, d.before a0 Z = true) (hEL : EW Z a0 consts_1) (n0 : Nat) (h : Heap) (hO : Old Z n0 h) (t : Addr) (k : ClassId) (ch : Int32) (cs : List Int32) (hb : ¬ ch < 0 ∧ ¬ (255 : Int32) < ch) (hp : ∀ c ∈ cs, ¬ c < 0 ∧ ¬ (255 : Int32) < c) (hlen : cs.length ≤ 4000) (V : Arv Z h t k .byte (Int32.ofNat cs.length) ((cs.map fun c => c.toInt8.toInt32).map Value.int) (.int 0)) :
    oMet l Z consts_1 n0 (⟨"java/lang/StringLatin1", "indexOfChar", "([BIII)I"⟩ : MethodName) jdk_43_method_23_code 6 (some .int) [] ({ frames := 0, cells := 0, slots := 0, locals := 0 } : Room) #[(.ref t), (.int ch), (.int (0 : Int32)), (.int (Int32.ofNat cs.length))] h [] (fun v _ h' => h = h' ∧ v = some (.int (own_find ch cs 0))) := by
  refine oMet.of opn_own_ixc hO ?_
  intro p e s m below meth c T hx hby hml hret hnm hlk hh hsf A
  have hml : c.maxLocals = 6 := hml
  refine oCast (g' := mkF m 0 #[.val (.ref t), .val (.int ch), .val (.int (0 : Int32)), .val (.int (Int32.ofNat cs.length)), .unset, .unset] []) (by first | (simp [entryFrame, mkF, argsToLocals, Value.category]; done) | rfl) ?_
  show oGo p e below _ (T.setTop (mkF m 0 #[.val (.ref t), .val (.int ch), .val (.int (0 : Int32)), .val (.int (Int32.ofNat cs.length)), .unset, .unset] []))
  refine oSt (fun _ => XS.iloadN A.here hx rfl (Jvm.hb hby d_jdk_43_m23_0) rfl) ?_
  show oGo p e below _ (T.setTop (mkF m 1 #[.val (.ref t), .val (.int ch), .val (.int (0 : Int32)), .val (.int (Int32.ofNat cs.length)), .unset, .unset] [(.int ch)]))
  refine oSt (fun _ => XS.i2b A.here hx rfl (Jvm.hb hby d_jdk_43_m23_1) rfl) ?_
  show oGo p e below _ (T.setTop (mkF m 2 #[.val (.ref t), .val (.int ch), .val (.int (0 : Int32)), .val (.int (Int32.ofNat cs.length)), .unset, .unset] [(.int (ch.toInt8.toInt32))]))
  refine oSt (fun _ => XS.istore A.here hx rfl (Jvm.hb hby d_jdk_43_m23_2) rfl (l' := #[.val (.ref t), .val (.int ch), .val (.int (0 : Int32)), .val (.int (Int32.ofNat cs.length)), .val (.int (ch.toInt8.toInt32)), .unset]) rfl) ?_
  show oGo p e below _ (T.setTop (mkF m 4 #[.val (.ref t), .val (.int ch), .val (.int (0 : Int32)), .val (.int (Int32.ofNat cs.length)), .val (.int (ch.toInt8.toInt32)), .unset] []))
  refine oSt (fun _ => XS.iloadN A.here hx rfl (Jvm.hb hby d_jdk_43_m23_4) rfl) ?_
  show oGo p e below _ (T.setTop (mkF m 5 #[.val (.ref t), .val (.int ch), .val (.int (0 : Int32)), .val (.int (Int32.ofNat cs.length)), .val (.int (ch.toInt8.toInt32)), .unset] [(.int (0 : Int32))]))
  refine oSt (fun _ => XS.istore A.here hx rfl (Jvm.hb hby d_jdk_43_m23_5) rfl (l' := #[.val (.ref t), .val (.int ch), .val (.int (0 : Int32)), .val (.int (Int32.ofNat cs.length)), .val (.int (ch.toInt8.toInt32)), .val (.int (0 : Int32))]) rfl) ?_
  show oGo p e below _ (T.setTop (mkF m 7 #[.val (.ref t), .val (.int ch), .val (.int (0 : Int32)), .val (.int (Int32.ofNat cs.length)), .val (.int (ch.toInt8.toInt32)), .val (.int (0 : Int32))] []))
  have J : ∀ (r : List Int32) (i : Nat), i ≤ cs.length → cs.drop i = r → own_find ch cs 0 = own_find ch r i → oGo p e below (oEnd Z consts_1 n0 ({ frames := 0, cells := 0, slots := 0, locals := 0 } : Room) s [] (fun v _ h' => h = h' ∧ v = some (.int (own_find ch cs 0)))) (T.setTop (mkF m 7 #[.val (.ref t), .val (.int ch), .val (.int (0 : Int32)), .val (.int (Int32.ofNat cs.length)), .val (.int (ch.toInt8.toInt32)), .val (.int (Int32.ofNat i))] [])) := by
    intro r
    induction r with
    | nil =>
      intro i hle hd hf
      have hi := own_drop0 hd
      obtain rfl : i = cs.length := Nat.le_antisymm hle hi
      show oGo p e below _ (T.setTop (mkF m 7 #[.val (.ref t), .val (.int ch), .val (.int (0 : Int32)), .val (.int (Int32.ofNat cs.length)), .val (.int (ch.toInt8.toInt32)), .val (.int (Int32.ofNat cs.length))] []))
      refine oSt (fun _ => XS.iload A.here hx rfl (Jvm.hb hby d_jdk_43_m23_7) rfl) ?_
      show oGo p e below _ (T.setTop (mkF m 9 #[.val (.ref t), .val (.int ch), .val (.int (0 : Int32)), .val (.int (Int32.ofNat cs.length)), .val (.int (ch.toInt8.toInt32)), .val (.int (Int32.ofNat cs.length))] [(.int (Int32.ofNat cs.length))]))
      refine oSt (fun _ => XS.iloadN A.here hx rfl (Jvm.hb hby d_jdk_43_m23_9) rfl) ?_
      show oGo p e below _ (T.setTop (mkF m 10 #[.val (.ref t), .val (.int ch), .val (.int (0 : Int32)), .val (.int (Int32.ofNat cs.length)), .val (.int (ch.toInt8.toInt32)), .val (.int (Int32.ofNat cs.length))] [(.int (Int32.ofNat cs.length)), (.int (Int32.ofNat cs.length))]))
      refine oSt (fun _ => XS.icmpYes A.here hx rfl (pc0 := 10) (pc' := 31) rfl (Jvm.hb hby d_jdk_43_m23_10) rfl (Jvm.Free.XT.ii_ge_t Int32.lt_irrefl) (by decide) (by decide)) ?_
      show oGo p e below _ (T.setTop (mkF m 31 #[.val (.ref t), .val (.int ch), .val (.int (0 : Int32)), .val (.int (Int32.ofNat cs.length)), .val (.int (ch.toInt8.toInt32)), .val (.int (Int32.ofNat cs.length))] []))
      refine oSt (fun _ => XS.iconst A.here hx rfl (Jvm.hb hby d_jdk_43_m23_31)) ?_
      show oGo p e below _ (T.setTop (mkF m 32 #[.val (.ref t), .val (.int ch), .val (.int (0 : Int32)), .val (.int (Int32.ofNat cs.length)), .val (.int (ch.toInt8.toInt32)), .val (.int (Int32.ofNat cs.length))] [(.int (-1 : Int32))]))
      exact A.leave hlk hEL (v := some (.int (-1 : Int32))) (fun h => by rw [hret] at h; cases h) (fun _ _ => ⟨rfl, by rw [hf]; rfl⟩) (by decide) (by decide) (fun fs hr => retOut A.1 hx hret rfl (Or.inl ⟨rfl, Or.inl rfl, _, rfl⟩) (Jvm.hb hby d_jdk_43_m23_32) hr)
    | cons c r ih =>
      intro i hle hd hf
      obtain ⟨hi, hg, hd'⟩ := own_drop hd
      have hnl := own_nl hi hlen
      show oGo p e below _ (T.setTop (mkF m 7 #[.val (.ref t), .val (.int ch), .val (.int (0 : Int32)), .val (.int (Int32.ofNat cs.length)), .val (.int (ch.toInt8.toInt32)), .val (.int (Int32.ofNat i))] []))
      refine oSt (fun _ => XS.iload A.here hx rfl (Jvm.hb hby d_jdk_43_m23_7) rfl) ?_
      show oGo p e below _ (T.setTop (mkF m 9 #[.val (.ref t), .val (.int ch), .val (.int (0 : Int32)), .val (.int (Int32.ofNat cs.length)), .val (.int (ch.toInt8.toInt32)), .val (.int (Int32.ofNat i))] [(.int (Int32.ofNat i))]))
      refine oSt (fun _ => XS.iloadN A.here hx rfl (Jvm.hb hby d_jdk_43_m23_9) rfl) ?_
      show oGo p e below _ (T.setTop (mkF m 10 #[.val (.ref t), .val (.int ch), .val (.int (0 : Int32)), .val (.int (Int32.ofNat cs.length)), .val (.int (ch.toInt8.toInt32)), .val (.int (Int32.ofNat i))] [(.int (Int32.ofNat cs.length)), (.int (Int32.ofNat i))]))
      refine oSt (fun _ => XS.icmpNo A.here hx rfl (Jvm.hb hby d_jdk_43_m23_10) rfl (Jvm.Free.XT.ii_ge_f hnl.2)) ?_
      show oGo p e below _ (T.setTop (mkF m 13 #[.val (.ref t), .val (.int ch), .val (.int (0 : Int32)), .val (.int (Int32.ofNat cs.length)), .val (.int (ch.toInt8.toInt32)), .val (.int (Int32.ofNat i))] []))
      refine oSt (fun _ => XS.aloadN A.here hx rfl (Jvm.hb hby d_jdk_43_m23_13) rfl rfl) ?_
      show oGo p e below _ (T.setTop (mkF m 14 #[.val (.ref t), .val (.int ch), .val (.int (0 : Int32)), .val (.int (Int32.ofNat cs.length)), .val (.int (ch.toInt8.toInt32)), .val (.int (Int32.ofNat i))] [(.ref t)]))
      refine oSt (fun _ => XS.iload A.here hx rfl (Jvm.hb hby d_jdk_43_m23_14) rfl) ?_
      show oGo p e below _ (T.setTop (mkF m 16 #[.val (.ref t), .val (.int ch), .val (.int (0 : Int32)), .val (.int (Int32.ofNat cs.length)), .val (.int (ch.toInt8.toInt32)), .val (.int (Int32.ofNat i))] [(.int (Int32.ofNat i)), (.ref t)]))
      refine oSt (A.ldB hx V hnl (v := .int c.toInt8.toInt32) (by rw [own_n32 (by omega), own_vs hi, hg]) (g := (mkF m 16 #[.val (.ref t), .val (.int ch), .val (.int (0 : Int32)), .val (.int (Int32.ofNat cs.length)), .val (.int (ch.toInt8.toInt32)), .val (.int (Int32.ofNat i))] [(.int (Int32.ofNat i)), (.ref t)])) rfl rfl (Jvm.hb hby d_jdk_43_m23_16)) ?_
      show oGo p e below _ (T.setTop (mkF m 17 #[.val (.ref t), .val (.int ch), .val (.int (0 : Int32)), .val (.int (Int32.ofNat cs.length)), .val (.int (ch.toInt8.toInt32)), .val (.int (Int32.ofNat i))] [(.int c.toInt8.toInt32)]))
      refine oSt (fun _ => XS.iload A.here hx rfl (Jvm.hb hby d_jdk_43_m23_17) rfl) ?_
      show oGo p e below _ (T.setTop (mkF m 19 #[.val (.ref t), .val (.int ch), .val (.int (0 : Int32)), .val (.int (Int32.ofNat cs.length)), .val (.int (ch.toInt8.toInt32)), .val (.int (Int32.ofNat i))] [(.int (ch.toInt8.toInt32)), (.int c.toInt8.toInt32)]))
      have hpc := hp c (by rw [← hg]; simp [List.getD_eq_getElem?_getD, hi])
      have hq := own_lo8 hpc hb
      by_cases hc : c = ch
      · refine oSt (fun _ => XS.icmpNo A.here hx rfl (Jvm.hb hby d_jdk_43_m23_19) rfl (Jvm.Free.XT.ii_ne_f (hq.mpr hc))) ?_
        show oGo p e below _ (T.setTop (mkF m 22 #[.val (.ref t), .val (.int ch), .val (.int (0 : Int32)), .val (.int (Int32.ofNat cs.length)), .val (.int (ch.toInt8.toInt32)), .val (.int (Int32.ofNat i))] []))
        refine oSt (fun _ => XS.iload A.here hx rfl (Jvm.hb hby d_jdk_43_m23_22) rfl) ?_
        show oGo p e below _ (T.setTop (mkF m 24 #[.val (.ref t), .val (.int ch), .val (.int (0 : Int32)), .val (.int (Int32.ofNat cs.length)), .val (.int (ch.toInt8.toInt32)), .val (.int (Int32.ofNat i))] [(.int (Int32.ofNat i))]))
        exact A.leave hlk hEL (v := some (.int (Int32.ofNat i))) (fun h => by rw [hret] at h; cases h) (fun _ _ => ⟨rfl, by rw [hf]; simp [own_find, hc]⟩) (by decide) (by decide) (fun fs hr => retOut A.1 hx hret rfl (Or.inl ⟨rfl, Or.inl rfl, _, rfl⟩) (Jvm.hb hby d_jdk_43_m23_24) hr)
      · refine oSt (fun _ => XS.icmpYes A.here hx rfl (pc0 := 19) (pc' := 25) rfl (Jvm.hb hby d_jdk_43_m23_19) rfl (Jvm.Free.XT.ii_ne_t (fun z => hc (hq.mp z))) (by decide) (by decide)) ?_
        show oGo p e below _ (T.setTop (mkF m 25 #[.val (.ref t), .val (.int ch), .val (.int (0 : Int32)), .val (.int (Int32.ofNat cs.length)), .val (.int (ch.toInt8.toInt32)), .val (.int (Int32.ofNat i))] []))
        refine oSt (fun _ => XS.iinc A.here hx rfl (Jvm.hb hby d_jdk_43_m23_25) rfl (l' := #[.val (.ref t), .val (.int ch), .val (.int (0 : Int32)), .val (.int (Int32.ofNat cs.length)), .val (.int (ch.toInt8.toInt32)), .val (.int ((Int32.ofNat i) + (1 : Int32)))]) rfl) ?_
        show oGo p e below _ (T.setTop (mkF m 28 #[.val (.ref t), .val (.int ch), .val (.int (0 : Int32)), .val (.int (Int32.ofNat cs.length)), .val (.int (ch.toInt8.toInt32)), .val (.int ((Int32.ofNat i) + (1 : Int32)))] []))
        refine oSt (fun _ => XS.goto A.here hx rfl (pc0 := 28) (pc' := 7) rfl (Jvm.hb hby d_jdk_43_m23_28) (by decide) (by decide)) ?_
        show oGo p e below _ (T.setTop (mkF m 7 #[.val (.ref t), .val (.int ch), .val (.int (0 : Int32)), .val (.int (Int32.ofNat cs.length)), .val (.int (ch.toInt8.toInt32)), .val (.int ((Int32.ofNat i) + (1 : Int32)))] []))
        rw [own_succ (by omega)]
        exact ih (i + 1) hi hd' (by rw [hf]; simp [own_find, hc])
  exact J cs 0 (Nat.zero_le _) rfl rfl
theorem d_jdk_43_m22_0 : decode jdk_43_method_22_code 0 = .ok (.iload_n 1, 1) := by decide +kernel
theorem d_jdk_43_m22_1 : decode jdk_43_method_22_code 1 = .ok (.invokestatic 88, 3) := by decide +kernel
theorem d_jdk_43_m22_4 : decode jdk_43_method_22_code 4 = .ok (.ifCond .ne 5, 3) := by decide +kernel
theorem d_jdk_43_m22_7 : decode jdk_43_method_22_code 7 = .ok (.iconst (-1), 1) := by decide +kernel
theorem d_jdk_43_m22_8 : decode jdk_43_method_22_code 8 = .ok (.ireturn, 1) := by decide +kernel
theorem d_jdk_43_m22_9 : decode jdk_43_method_22_code 9 = .ok (.iload_n 2, 1) := by decide +kernel
theorem d_jdk_43_m22_10 : decode jdk_43_method_22_code 10 = .ok (.iconst 0, 1) := by decide +kernel
theorem d_jdk_43_m22_11 : decode jdk_43_method_22_code 11 = .ok (.invokestatic 92, 3) := by decide +kernel
theorem d_jdk_43_m22_14 : decode jdk_43_method_22_code 14 = .ok (.istore_n 2, 1) := by decide +kernel
theorem d_jdk_43_m22_15 : decode jdk_43_method_22_code 15 = .ok (.iload_n 3, 1) := by decide +kernel
theorem d_jdk_43_m22_16 : decode jdk_43_method_22_code 16 = .ok (.aload_n 0, 1) := by decide +kernel
theorem d_jdk_43_m22_17 : decode jdk_43_method_22_code 17 = .ok (.arraylength, 1) := by decide +kernel
theorem d_jdk_43_m22_18 : decode jdk_43_method_22_code 18 = .ok (.invokestatic 38, 3) := by decide +kernel
theorem d_jdk_43_m22_21 : decode jdk_43_method_22_code 21 = .ok (.istore_n 3, 1) := by decide +kernel
theorem d_jdk_43_m22_22 : decode jdk_43_method_22_code 22 = .ok (.iload_n 2, 1) := by decide +kernel
theorem d_jdk_43_m22_23 : decode jdk_43_method_22_code 23 = .ok (.iload_n 3, 1) := by decide +kernel
theorem d_jdk_43_m22_24 : decode jdk_43_method_22_code 24 = .ok (.if_icmp .lt 5, 3) := by decide +kernel
theorem d_jdk_43_m22_27 : decode jdk_43_method_22_code 27 = .ok (.iconst (-1), 1) := by decide +kernel
theorem d_jdk_43_m22_28 : decode jdk_43_method_22_code 28 = .ok (.ireturn, 1) := by decide +kernel
theorem d_jdk_43_m22_29 : decode jdk_43_method_22_code 29 = .ok (.aload_n 0, 1) := by decide +kernel
theorem d_jdk_43_m22_30 : decode jdk_43_method_22_code 30 = .ok (.iload_n 1, 1) := by decide +kernel
theorem d_jdk_43_m22_31 : decode jdk_43_method_22_code 31 = .ok (.iload_n 2, 1) := by decide +kernel
theorem d_jdk_43_m22_32 : decode jdk_43_method_22_code 32 = .ok (.iload_n 3, 1) := by decide +kernel
theorem d_jdk_43_m22_33 : decode jdk_43_method_22_code 33 = .ok (.invokestatic 95, 3) := by decide +kernel
theorem d_jdk_43_m22_36 : decode jdk_43_method_22_code 36 = .ok (.ireturn, 1) := by decide +kernel
theorem opd1 : parseMethodDescriptor "(I)Z" = some ⟨[.int], some .boolean⟩ := by decide +kernel
theorem opd2 : parseMethodDescriptor "(II)I" = some ⟨[.int, .int], some .int⟩ := by decide +kernel
theorem opd3 : parseMethodDescriptor "([BIII)I" = some ⟨[(.array .byte), .int, .int, .int], some .int⟩ := by decide +kernel
theorem opn_own_ixl : plainFor (⟨"java/lang/StringLatin1", "indexOf", "([BIII)I"⟩ : MethodName) = true := plainFor_of_name (by first | (simp [plainName, overriddenIn]; done) | decide +kernel)
set_option maxRecDepth 65536 in
set_option maxHeartbeats 40000000 in
theorem own_ixl (l : Launch) (Z : State) (a0 : Array Value) (hw : ∀ d ∈ tables_1, d.before a0 Z = true) (hEL : EW Z a0 consts_1) (n0 : Nat) (h : Heap) (hO : Old Z n0 h) (t : Addr) (k : ClassId) (ch : Int32) (cs : List Int32) (hb : ¬ ch < 0 ∧ ¬ (255 : Int32) < ch) (hp : ∀ c ∈ cs, ¬ c < 0 ∧ ¬ (255 : Int32) < c) (hlen : cs.length ≤ 4000) (V : Arv Z h t k .byte (Int32.ofNat cs.length) ((cs.map fun c => c.toInt8.toInt32).map Value.int) (.int 0)) :
    oMet l Z consts_1 n0 (⟨"java/lang/StringLatin1", "indexOf", "([BIII)I"⟩ : MethodName) jdk_43_method_22_code 4 (some .int) [] ({ frames := 1, cells := 0, slots := 0, locals := 17 } : Room) #[(.ref t), (.int ch), (.int (0 : Int32)), (.int (Int32.ofNat cs.length))] h [] (fun v _ h' => h = h' ∧ v = some (.int (own_find ch cs 0))) := by
  refine oMet.of opn_own_ixl hO ?_
  intro p e s m below meth c T hx hby hml hret hnm hlk hh hsf A
  have hml : c.maxLocals = 4 := hml
  refine oCast (g' := mkF m 0 #[.val (.ref t), .val (.int ch), .val (.int (0 : Int32)), .val (.int (Int32.ofNat cs.length))] []) (by first | (simp [entryFrame, mkF, argsToLocals, Value.category]; done) | rfl) ?_
  show oGo p e below _ (T.setTop (mkF m 0 #[.val (.ref t), .val (.int ch), .val (.int (0 : Int32)), .val (.int (Int32.ofNat cs.length))] []))
  refine oSt (fun _ => XS.iloadN A.here hx rfl (Jvm.hb hby d_jdk_43_m22_0) rfl) ?_
  show oGo p e below _ (T.setTop (mkF m 1 #[.val (.ref t), .val (.int ch), .val (.int (0 : Int32)), .val (.int (Int32.ofNat cs.length))] [(.int ch)]))
  obtain ⟨_, vm, T, h, L, A, K, CR, ⟨rfl, rfl⟩, st⟩ := A.callS hx (y := (⟨"java/lang/StringLatin1", "canEncode", "(I)Z"⟩ : MethodName)) (hw _ (List.mem_of_getElem? (i := 61) rfl)) (hw _ (List.mem_of_getElem? (i := 62) rfl)) (hw _ (List.mem_of_getElem? (i := 59) rfl)) (hw _ (List.mem_of_getElem? (i := 63) rfl)) (by decide) hEL (argsL := [(.int ch)]) (rest := []) (own_can l Z a0 hw hEL n0 _ A.oldn ch hb) (W := 0) (by decide) (by decide) (by decide) (by decide) all0 all0 all0 (g := (mkF m 1 #[.val (.ref t), .val (.int ch), .val (.int (0 : Int32)), .val (.int (Int32.ofNat cs.length))] [(.int ch)])) rfl (by rw [hml]; rfl) (lenOf opd1 rfl) rfl (by show 2 * 0 + _ ≤ _; exact Nat.le_of_eq rfl) (Jvm.hb hby d_jdk_43_m22_1)
  refine oSt st ?_
  have X := oExt0 K
  show oGo p e below _ (T.setTop (mkF m 4 #[.val (.ref t), .val (.int ch), .val (.int (0 : Int32)), .val (.int (Int32.ofNat cs.length))] [(.int (1 : Int32))]))
  refine oSt (fun _ => XS.ifYes A.here hx rfl (pc0 := 4) (pc' := 9) rfl (Jvm.hb hby d_jdk_43_m22_4) rfl (Jvm.Free.XT.i0_ne_t (by decide)) (by decide) (by decide)) ?_
  show oGo p e below _ (T.setTop (mkF m 9 #[.val (.ref t), .val (.int ch), .val (.int (0 : Int32)), .val (.int (Int32.ofNat cs.length))] []))
  refine oSt (fun _ => XS.iloadN A.here hx rfl (Jvm.hb hby d_jdk_43_m22_9) rfl) ?_
  show oGo p e below _ (T.setTop (mkF m 10 #[.val (.ref t), .val (.int ch), .val (.int (0 : Int32)), .val (.int (Int32.ofNat cs.length))] [(.int (0 : Int32))]))
  refine oSt (fun _ => XS.iconst A.here hx rfl (Jvm.hb hby d_jdk_43_m22_10)) ?_
  show oGo p e below _ (T.setTop (mkF m 11 #[.val (.ref t), .val (.int ch), .val (.int (0 : Int32)), .val (.int (Int32.ofNat cs.length))] [(.int (0 : Int32)), (.int (0 : Int32))]))
  obtain ⟨_, vm, T, h, L, A, K, CR, ⟨rfl, rfl⟩, st⟩ := A.callS hx (y := (⟨"java/lang/Math", "max", "(II)I"⟩ : MethodName)) (hw _ (List.mem_of_getElem? (i := 64) rfl)) (hw _ (List.mem_of_getElem? (i := 65) rfl)) (hw _ (List.mem_of_getElem? (i := 66) rfl)) (hw _ (List.mem_of_getElem? (i := 67) rfl)) (by decide) hEL (argsL := [(.int (0 : Int32)), (.int (0 : Int32))]) (rest := []) (own_max l Z a0 hw hEL n0 _ A.oldn 0 0 (by decide)) (W := 0) (by decide) (by decide) (by decide) (by decide) all0 all0 all0 (g := (mkF m 11 #[.val (.ref t), .val (.int ch), .val (.int (0 : Int32)), .val (.int (Int32.ofNat cs.length))] [(.int (0 : Int32)), (.int (0 : Int32))])) rfl (by rw [hml]; rfl) (lenOf opd2 rfl) rfl (by show 2 * 0 + _ ≤ _; exact Nat.le_of_eq rfl) (Jvm.hb hby d_jdk_43_m22_11)
  refine oSt st ?_
  have X := oExt0 K
  show oGo p e below _ (T.setTop (mkF m 14 #[.val (.ref t), .val (.int ch), .val (.int (0 : Int32)), .val (.int (Int32.ofNat cs.length))] [(.int (0 : Int32))]))
  refine oSt (fun _ => XS.istoreN A.here hx rfl (Jvm.hb hby d_jdk_43_m22_14) rfl (l' := #[.val (.ref t), .val (.int ch), .val (.int (0 : Int32)), .val (.int (Int32.ofNat cs.length))]) rfl) ?_
  show oGo p e below _ (T.setTop (mkF m 15 #[.val (.ref t), .val (.int ch), .val (.int (0 : Int32)), .val (.int (Int32.ofNat cs.length))] []))
  refine oSt (fun _ => XS.iloadN A.here hx rfl (Jvm.hb hby d_jdk_43_m22_15) rfl) ?_
  show oGo p e below _ (T.setTop (mkF m 16 #[.val (.ref t), .val (.int ch), .val (.int (0 : Int32)), .val (.int (Int32.ofNat cs.length))] [(.int (Int32.ofNat cs.length))]))
  refine oSt (fun _ => XS.aloadN A.here hx rfl (Jvm.hb hby d_jdk_43_m22_16) rfl rfl) ?_
  show oGo p e below _ (T.setTop (mkF m 17 #[.val (.ref t), .val (.int ch), .val (.int (0 : Int32)), .val (.int (Int32.ofNat cs.length))] [(.ref t), (.int (Int32.ofNat cs.length))]))
  refine oSt (A.len hx V (g := (mkF m 17 #[.val (.ref t), .val (.int ch), .val (.int (0 : Int32)), .val (.int (Int32.ofNat cs.length))] [(.ref t), (.int (Int32.ofNat cs.length))])) rfl rfl (Jvm.hb hby d_jdk_43_m22_17)) ?_
  show oGo p e below _ (T.setTop (mkF m 18 #[.val (.ref t), .val (.int ch), .val (.int (0 : Int32)), .val (.int (Int32.ofNat cs.length))] [(.int (Int32.ofNat cs.length)), (.int (Int32.ofNat cs.length))]))
  obtain ⟨_, vm, T, h, L, A, K, CR, ⟨rfl, rfl⟩, st⟩ := A.callS hx (y := (⟨"java/lang/Math", "min", "(II)I"⟩ : MethodName)) (hw _ (List.mem_of_getElem? (i := 68) rfl)) (hw _ (List.mem_of_getElem? (i := 69) rfl)) (hw _ (List.mem_of_getElem? (i := 66) rfl)) (hw _ (List.mem_of_getElem? (i := 70) rfl)) (by decide) hEL (argsL := [(.int (Int32.ofNat cs.length)), (.int (Int32.ofNat cs.length))]) (rest := []) (own_min l Z a0 hw hEL n0 _ A.oldn _ _ Int32.lt_irrefl) (W := 0) (by decide) (by decide) (by decide) (by decide) all0 all0 all0 (g := (mkF m 18 #[.val (.ref t), .val (.int ch), .val (.int (0 : Int32)), .val (.int (Int32.ofNat cs.length))] [(.int (Int32.ofNat cs.length)), (.int (Int32.ofNat cs.length))])) rfl (by rw [hml]; rfl) (lenOf opd2 rfl) rfl (by show 2 * 0 + _ ≤ _; exact Nat.le_of_eq rfl) (Jvm.hb hby d_jdk_43_m22_18)
  refine oSt st ?_
  have X := oExt0 K
  show oGo p e below _ (T.setTop (mkF m 21 #[.val (.ref t), .val (.int ch), .val (.int (0 : Int32)), .val (.int (Int32.ofNat cs.length))] [(.int (Int32.ofNat cs.length))]))
  refine oSt (fun _ => XS.istoreN A.here hx rfl (Jvm.hb hby d_jdk_43_m22_21) rfl (l' := #[.val (.ref t), .val (.int ch), .val (.int (0 : Int32)), .val (.int (Int32.ofNat cs.length))]) rfl) ?_
  show oGo p e below _ (T.setTop (mkF m 22 #[.val (.ref t), .val (.int ch), .val (.int (0 : Int32)), .val (.int (Int32.ofNat cs.length))] []))
  refine oSt (fun _ => XS.iloadN A.here hx rfl (Jvm.hb hby d_jdk_43_m22_22) rfl) ?_
  show oGo p e below _ (T.setTop (mkF m 23 #[.val (.ref t), .val (.int ch), .val (.int (0 : Int32)), .val (.int (Int32.ofNat cs.length))] [(.int (0 : Int32))]))
  refine oSt (fun _ => XS.iloadN A.here hx rfl (Jvm.hb hby d_jdk_43_m22_23) rfl) ?_
  show oGo p e below _ (T.setTop (mkF m 24 #[.val (.ref t), .val (.int ch), .val (.int (0 : Int32)), .val (.int (Int32.ofNat cs.length))] [(.int (Int32.ofNat cs.length)), (.int (0 : Int32))]))
  by_cases hc : (0 : Int32) < Int32.ofNat cs.length
  · refine oSt (fun _ => XS.icmpYes A.here hx rfl (pc0 := 24) (pc' := 29) rfl (Jvm.hb hby d_jdk_43_m22_24) rfl (Jvm.Free.XT.ii_lt_t hc) (by decide) (by decide)) ?_
    show oGo p e below _ (T.setTop (mkF m 29 #[.val (.ref t), .val (.int ch), .val (.int (0 : Int32)), .val (.int (Int32.ofNat cs.length))] []))
    refine oSt (fun _ => XS.aloadN A.here hx rfl (Jvm.hb hby d_jdk_43_m22_29) rfl rfl) ?_
    show oGo p e below _ (T.setTop (mkF m 30 #[.val (.ref t), .val (.int ch), .val (.int (0 : Int32)), .val (.int (Int32.ofNat cs.length))] [(.ref t)]))
    refine oSt (fun _ => XS.iloadN A.here hx rfl (Jvm.hb hby d_jdk_43_m22_30) rfl) ?_
    show oGo p e below _ (T.setTop (mkF m 31 #[.val (.ref t), .val (.int ch), .val (.int (0 : Int32)), .val (.int (Int32.ofNat cs.length))] [(.int ch), (.ref t)]))
    refine oSt (fun _ => XS.iloadN A.here hx rfl (Jvm.hb hby d_jdk_43_m22_31) rfl) ?_
    show oGo p e below _ (T.setTop (mkF m 32 #[.val (.ref t), .val (.int ch), .val (.int (0 : Int32)), .val (.int (Int32.ofNat cs.length))] [(.int (0 : Int32)), (.int ch), (.ref t)]))
    refine oSt (fun _ => XS.iloadN A.here hx rfl (Jvm.hb hby d_jdk_43_m22_32) rfl) ?_
    show oGo p e below _ (T.setTop (mkF m 33 #[.val (.ref t), .val (.int ch), .val (.int (0 : Int32)), .val (.int (Int32.ofNat cs.length))] [(.int (Int32.ofNat cs.length)), (.int (0 : Int32)), (.int ch), (.ref t)]))
    obtain ⟨_, vm, T, h, L, A, K, CR, ⟨rfl, rfl⟩, st⟩ := A.callS hx (y := (⟨"java/lang/StringLatin1", "indexOfChar", "([BIII)I"⟩ : MethodName)) (hw _ (List.mem_of_getElem? (i := 90) rfl)) (hw _ (List.mem_of_getElem? (i := 91) rfl)) (hw _ (List.mem_of_getElem? (i := 59) rfl)) (hw _ (List.mem_of_getElem? (i := 92) rfl)) (by decide) hEL (argsL := [(.ref t), (.int ch), (.int (0 : Int32)), (.int (Int32.ofNat cs.length))]) (rest := []) (own_ixc l Z a0 hw hEL n0 _ A.oldn t k ch cs hb hp hlen V) (W := 0) (by decide) (by decide) (by decide) (by decide) all0 all0 all0 (g := (mkF m 33 #[.val (.ref t), .val (.int ch), .val (.int (0 : Int32)), .val (.int (Int32.ofNat cs.length))] [(.int (Int32.ofNat cs.length)), (.int (0 : Int32)), (.int ch), (.ref t)])) rfl (by rw [hml]; rfl) (lenOf opd3 rfl) rfl (by show 2 * 0 + _ ≤ _; exact Nat.le_of_eq rfl) (Jvm.hb hby d_jdk_43_m22_33)
    refine oSt st ?_
    have X := oExt0 K
    show oGo p e below _ (T.setTop (mkF m 36 #[.val (.ref t), .val (.int ch), .val (.int (0 : Int32)), .val (.int (Int32.ofNat cs.length))] [(.int (own_find ch cs 0))]))
    exact A.leave hlk hEL (v := some (.int (own_find ch cs 0))) (fun h => by rw [hret] at h; cases h) (fun _ _ => ⟨rfl, rfl⟩) (by decide) (by decide) (fun fs hr => retOut A.1 hx hret rfl (Or.inl ⟨rfl, Or.inl rfl, _, rfl⟩) (Jvm.hb hby d_jdk_43_m22_36) hr)
  · refine oSt (fun _ => XS.icmpNo A.here hx rfl (Jvm.hb hby d_jdk_43_m22_24) rfl (Jvm.Free.XT.ii_lt_f hc)) ?_
    show oGo p e below _ (T.setTop (mkF m 27 #[.val (.ref t), .val (.int ch), .val (.int (0 : Int32)), .val (.int (Int32.ofNat cs.length))] []))
    refine oSt (fun _ => XS.iconst A.here hx rfl (Jvm.hb hby d_jdk_43_m22_27)) ?_
    show oGo p e below _ (T.setTop (mkF m 28 #[.val (.ref t), .val (.int ch), .val (.int (0 : Int32)), .val (.int (Int32.ofNat cs.length))] [(.int (-1 : Int32))]))
    have h0 : cs = [] := by
      cases cs with
      | nil => rfl
      | cons a r => exact absurd (own_nl (Nat.zero_lt_succ _ : 0 < (a :: r).length) hlen).2 hc
    exact A.leave hlk hEL (v := some (.int (-1 : Int32))) (fun h => by rw [hret] at h; cases h) (fun _ _ => ⟨rfl, by subst h0; rfl⟩) (by decide) (by decide) (fun fs hr => retOut A.1 hx hret rfl (Or.inl ⟨rfl, Or.inl rfl, _, rfl⟩) (Jvm.hb hby d_jdk_43_m22_28) hr)
theorem d_jdk_42_m154_0 : decode jdk_42_method_154_code 0 = .ok (.getstatic 38, 3) := by decide +kernel
theorem d_jdk_42_m154_3 : decode jdk_42_method_154_code 3 = .ok (.ifCond .eq 14, 3) := by decide +kernel
theorem d_jdk_42_m154_6 : decode jdk_42_method_154_code 6 = .ok (.aload_n 0, 1) := by decide +kernel
theorem d_jdk_42_m154_7 : decode jdk_42_method_154_code 7 = .ok (.getfield 15, 3) := by decide +kernel
theorem d_jdk_42_m154_10 : decode jdk_42_method_154_code 10 = .ok (.ifCond .ne 7, 3) := by decide +kernel
theorem d_jdk_42_m154_13 : decode jdk_42_method_154_code 13 = .ok (.iconst 1, 1) := by decide +kernel
theorem d_jdk_42_m154_14 : decode jdk_42_method_154_code 14 = .ok (.goto 4, 3) := by decide +kernel
theorem d_jdk_42_m154_17 : decode jdk_42_method_154_code 17 = .ok (.iconst 0, 1) := by decide +kernel
theorem d_jdk_42_m154_18 : decode jdk_42_method_154_code 18 = .ok (.ireturn, 1) := by decide +kernel
theorem opn_own_isl : plainFor (⟨"java/lang/String", "isLatin1", "()Z"⟩ : MethodName) = true := plainFor_of_name (by first | (simp [plainName, overriddenIn]; done) | decide +kernel)
set_option maxRecDepth 65536 in
set_option maxHeartbeats 40000000 in
theorem own_isl (l : Launch) (Z : State) (a0 : Array Value) (hw : ∀ d ∈ tables_1, d.before a0 Z = true) (hEL : EW Z a0 consts_1) (n0 : Nat) (h : Heap) (hO : Old Z n0 h) (x : Addr) (cs : List Int32) (zc : Int32) (hcs : Sta Z Z.heap "java/lang/String" "COMPACT_STRINGS" "Z" (.int zc)) (hcz : ¬ zc = 0) (Q : oStr Z h x cs) :
    oMet l Z consts_1 n0 (⟨"java/lang/String", "isLatin1", "()Z"⟩ : MethodName) jdk_42_method_154_code 1 (some .boolean) [] ({ frames := 0, cells := 0, slots := 0, locals := 0 } : Room) #[(.ref x)] h [] (fun v _ h' => h = h' ∧ v = some (.int 1)) := by
  refine oMet.of opn_own_isl hO ?_
  intro p e s m below meth c T hx hby hml hret hnm hlk hh hsf A
  have hml : c.maxLocals = 1 := hml
  refine oCast (g' := mkF m 0 #[.val (.ref x)] []) (by first | (simp [entryFrame, mkF, argsToLocals, Value.category]; done) | rfl) ?_
  obtain ⟨r1, r2, t, k, e1, e2, e3, e4⟩ := Q
  show oGo p e below _ (T.setTop (mkF m 0 #[.val (.ref x)] []))
  obtain ⟨T, A, st⟩ := A.getS hx (host := "") (Or.inl (hw _ (List.mem_of_getElem? (i := 46) rfl))) Via.refl hcs (g := (mkF m 0 #[.val (.ref x)] [])) rfl (Jvm.hb hby d_jdk_42_m154_0)
  refine oSt st ?_
  show oGo p e below _ (T.setTop (mkF m 3 #[.val (.ref x)] [(.int zc)]))
  refine oSt (fun _ => XS.ifNo A.here hx rfl (Jvm.hb hby d_jdk_42_m154_3) rfl (Jvm.Free.XT.i0_eq_f hcz)) ?_
  show oGo p e below _ (T.setTop (mkF m 6 #[.val (.ref x)] []))
  refine oSt (fun _ => XS.aloadN A.here hx rfl (Jvm.hb hby d_jdk_42_m154_6) rfl rfl) ?_
  show oGo p e below _ (T.setTop (mkF m 7 #[.val (.ref x)] [(.ref x)]))
  obtain ⟨T, A, st⟩ := A.getF hx (host := "") (Or.inl (hw _ (List.mem_of_getElem? (i := 26) rfl))) Via.refl e3 (g := (mkF m 7 #[.val (.ref x)] [(.ref x)])) rfl rfl (Jvm.hb hby d_jdk_42_m154_7)
  refine oSt st ?_
  show oGo p e below _ (T.setTop (mkF m 10 #[.val (.ref x)] [(.int (0 : Int32))]))
  refine oSt (fun _ => XS.ifNo A.here hx rfl (Jvm.hb hby d_jdk_42_m154_10) rfl (Jvm.Free.XT.i0_ne_f rfl)) ?_
  show oGo p e below _ (T.setTop (mkF m 13 #[.val (.ref x)] []))
  refine oSt (fun _ => XS.iconst A.here hx rfl (Jvm.hb hby d_jdk_42_m154_13)) ?_
  show oGo p e below _ (T.setTop (mkF m 14 #[.val (.ref x)] [(.int (1 : Int32))]))
  refine oSt (fun _ => XS.goto A.here hx rfl (pc0 := 14) (pc' := 18) rfl (Jvm.hb hby d_jdk_42_m154_14) (by decide) (by decide)) ?_
  show oGo p e below _ (T.setTop (mkF m 18 #[.val (.ref x)] [(.int (1 : Int32))]))
  exact A.leave hlk hEL (v := some (.int (1 : Int32))) (fun h => by rw [hret] at h; cases h) (fun _ _ => ⟨rfl, rfl⟩) (by decide) (by decide) (fun fs hr => retN A.1 hx (t := .boolean) hret (by simp) (Jvm.hb hby d_jdk_42_m154_18) hr)
theorem d_jdk_42_m80_0 : decode jdk_42_method_80_code 0 = .ok (.aload_n 0, 1) := by decide +kernel
theorem d_jdk_42_m80_1 : decode jdk_42_method_80_code 1 = .ok (.invokevirtual 492, 3) := by decide +kernel
theorem d_jdk_42_m80_4 : decode jdk_42_method_80_code 4 = .ok (.ifCond .eq 19, 3) := by decide +kernel
theorem d_jdk_42_m80_7 : decode jdk_42_method_80_code 7 = .ok (.aload_n 0, 1) := by decide +kernel
theorem d_jdk_42_m80_8 : decode jdk_42_method_80_code 8 = .ok (.getfield 9, 3) := by decide +kernel
theorem d_jdk_42_m80_11 : decode jdk_42_method_80_code 11 = .ok (.iload_n 1, 1) := by decide +kernel
theorem d_jdk_42_m80_12 : decode jdk_42_method_80_code 12 = .ok (.iload_n 2, 1) := by decide +kernel
theorem d_jdk_42_m80_13 : decode jdk_42_method_80_code 13 = .ok (.aload_n 0, 1) := by decide +kernel
theorem d_jdk_42_m80_14 : decode jdk_42_method_80_code 14 = .ok (.invokevirtual 505, 3) := by decide +kernel
theorem d_jdk_42_m80_17 : decode jdk_42_method_80_code 17 = .ok (.invokestatic 637, 3) := by decide +kernel
theorem d_jdk_42_m80_20 : decode jdk_42_method_80_code 20 = .ok (.goto 16, 3) := by decide +kernel
theorem d_jdk_42_m80_23 : decode jdk_42_method_80_code 23 = .ok (.aload_n 0, 1) := by decide +kernel
theorem d_jdk_42_m80_24 : decode jdk_42_method_80_code 24 = .ok (.getfield 9, 3) := by decide +kernel
theorem d_jdk_42_m80_27 : decode jdk_42_method_80_code 27 = .ok (.iload_n 1, 1) := by decide +kernel
theorem d_jdk_42_m80_28 : decode jdk_42_method_80_code 28 = .ok (.iload_n 2, 1) := by decide +kernel
theorem d_jdk_42_m80_29 : decode jdk_42_method_80_code 29 = .ok (.aload_n 0, 1) := by decide +kernel
theorem d_jdk_42_m80_30 : decode jdk_42_method_80_code 30 = .ok (.invokevirtual 505, 3) := by decide +kernel
theorem d_jdk_42_m80_33 : decode jdk_42_method_80_code 33 = .ok (.invokestatic 640, 3) := by decide +kernel
theorem d_jdk_42_m80_36 : decode jdk_42_method_80_code 36 = .ok (.ireturn, 1) := by decide +kernel
theorem opd4 : parseMethodDescriptor "()Z" = some ⟨[], some .boolean⟩ := by decide +kernel
theorem opn_own_ix2 : plainFor (⟨"java/lang/String", "indexOf", "(II)I"⟩ : MethodName) = true := plainFor_of_name (by first | (simp [plainName, overriddenIn]; done) | decide +kernel)
set_option maxRecDepth 65536 in
set_option maxHeartbeats 40000000 in
theorem own_ix2 (l : Launch) (Z : State) (a0 : Array Value) (hw : ∀ d ∈ tables_1, d.before a0 Z = true) (hEL : EW Z a0 consts_1) (n0 : Nat) (h : Heap) (hO : Old Z n0 h) (x : Addr) (ch : Int32) (cs : List Int32) (zc : Int32) (hcs : Sta Z Z.heap "java/lang/String" "COMPACT_STRINGS" "Z" (.int zc)) (hcz : ¬ zc = 0) (hb : ¬ ch < 0 ∧ ¬ (255 : Int32) < ch) (Q : oStr Z h x cs) :
    oMet l Z consts_1 n0 (⟨"java/lang/String", "indexOf", "(II)I"⟩ : MethodName) jdk_42_method_80_code 3 (some .int) [] ({ frames := 2, cells := 0, slots := 0, locals := 32 } : Room) #[(.ref x), (.int ch), (.int (0 : Int32))] h [] (fun v _ h' => h = h' ∧ v = some (.int (own_find ch cs 0))) := by
  refine oMet.of opn_own_ix2 hO ?_
  intro p e s m below meth c T hx hby hml hret hnm hlk hh hsf A
  have hml : c.maxLocals = 3 := hml
  refine oCast (g' := mkF m 0 #[.val (.ref x), .val (.int ch), .val (.int (0 : Int32))] []) (by first | (simp [entryFrame, mkF, argsToLocals, Value.category]; done) | rfl) ?_
  have hln : ∀ d ∈ StrChars.Road.wordsLen, d.before a0 Z = true := fun d hd => hw d ((by decide +kernel : ∀ d ∈ StrChars.Road.wordsLen, d ∈ tables_1) d hd)
  obtain ⟨r1, r2, t, k, e1, e2, e3, e4⟩ := id Q
  show oGo p e below _ (T.setTop (mkF m 0 #[.val (.ref x), .val (.int ch), .val (.int (0 : Int32))] []))
  refine oSt (fun _ => XS.aloadN A.here hx rfl (Jvm.hb hby d_jdk_42_m80_0) rfl rfl) ?_
  show oGo p e below _ (T.setTop (mkF m 1 #[.val (.ref x), .val (.int ch), .val (.int (0 : Int32))] [(.ref x)]))
  obtain ⟨_, vm, T, h, L, A, K, CR, ⟨rfl, rfl⟩, st⟩ := A.callV hx (y := (⟨"java/lang/String", "isLatin1", "()Z"⟩ : MethodName)) (z := (⟨"java/lang/String", "isLatin1", "()Z"⟩ : MethodName)) (hw _ (List.mem_of_getElem? (i := 41) rfl)) (hw _ (List.mem_of_getElem? (i := 42) rfl)) (A.nf (hw _ (List.mem_of_getElem? (i := 44) rfl))) (hw _ (List.mem_of_getElem? (i := 44) rfl)) (hw _ (List.mem_of_getElem? (i := 43) rfl)) (hw _ (List.mem_of_getElem? (i := 8) rfl)) (hw _ (List.mem_of_getElem? (i := 45) rfl)) (by decide) hEL (a := x) (argsL := []) (rest := []) (own_isl l Z a0 hw hEL n0 _ A.oldn x cs zc hcs hcz Q) Q.exa (W := 0) (by decide) (by decide) (by decide) (by decide) all0 all0 all0 (g := (mkF m 1 #[.val (.ref x), .val (.int ch), .val (.int (0 : Int32))] [(.ref x)])) rfl (by rw [hml]; rfl) (lenOf opd4 rfl) rfl (by show 2 * 0 + _ ≤ _; exact Nat.le_of_eq rfl) (Jvm.hb hby d_jdk_42_m80_1)
  refine oSt st ?_
  have X := oExt0 K
  show oGo p e below _ (T.setTop (mkF m 4 #[.val (.ref x), .val (.int ch), .val (.int (0 : Int32))] [(.int (1 : Int32))]))
  refine oSt (fun _ => XS.ifNo A.here hx rfl (Jvm.hb hby d_jdk_42_m80_4) rfl (Jvm.Free.XT.i0_eq_f (by decide))) ?_
  show oGo p e below _ (T.setTop (mkF m 7 #[.val (.ref x), .val (.int ch), .val (.int (0 : Int32))] []))
  refine oSt (fun _ => XS.aloadN A.here hx rfl (Jvm.hb hby d_jdk_42_m80_7) rfl rfl) ?_
  show oGo p e below _ (T.setTop (mkF m 8 #[.val (.ref x), .val (.int ch), .val (.int (0 : Int32))] [(.ref x)]))
  obtain ⟨T, A, st⟩ := A.getF hx (host := "") (Or.inl (hw _ (List.mem_of_getElem? (i := 25) rfl))) Via.refl e2 (g := (mkF m 8 #[.val (.ref x), .val (.int ch), .val (.int (0 : Int32))] [(.ref x)])) rfl rfl (Jvm.hb hby d_jdk_42_m80_8)
  refine oSt st ?_
  show oGo p e below _ (T.setTop (mkF m 11 #[.val (.ref x), .val (.int ch), .val (.int (0 : Int32))] [(.ref t)]))
  refine oSt (fun _ => XS.iloadN A.here hx rfl (Jvm.hb hby d_jdk_42_m80_11) rfl) ?_
  show oGo p e below _ (T.setTop (mkF m 12 #[.val (.ref x), .val (.int ch), .val (.int (0 : Int32))] [(.int ch), (.ref t)]))
  refine oSt (fun _ => XS.iloadN A.here hx rfl (Jvm.hb hby d_jdk_42_m80_12) rfl) ?_
  show oGo p e below _ (T.setTop (mkF m 13 #[.val (.ref x), .val (.int ch), .val (.int (0 : Int32))] [(.int (0 : Int32)), (.int ch), (.ref t)]))
  refine oSt (fun _ => XS.aloadN A.here hx rfl (Jvm.hb hby d_jdk_42_m80_13) rfl rfl) ?_
  show oGo p e below _ (T.setTop (mkF m 14 #[.val (.ref x), .val (.int ch), .val (.int (0 : Int32))] [(.ref x), (.int (0 : Int32)), (.int ch), (.ref t)]))
  obtain ⟨T, A, st⟩ := A.sLen hx hln (hw _ (List.mem_of_getElem? (i := 7) rfl)) (hw _ (List.mem_of_getElem? (i := 47) rfl)) (hw _ (List.mem_of_getElem? (i := 48) rfl)) (hw _ (List.mem_of_getElem? (i := 50) rfl)) (hw _ (List.mem_of_getElem? (i := 49) rfl)) Q hcs hcz (W := 3) (by decide) (by decide) (by decide) (by decide) (g := (mkF m 14 #[.val (.ref x), .val (.int ch), .val (.int (0 : Int32))] [(.ref x), (.int (0 : Int32)), (.int ch), (.ref t)])) rfl (by rw [hml]; rfl) rfl (by show 2 * 0 + _ ≤ _; exact Nat.le_of_eq rfl) (Jvm.hb hby d_jdk_42_m80_14)
  refine oSt st ?_
  show oGo p e below _ (T.setTop (mkF m 17 #[.val (.ref x), .val (.int ch), .val (.int (0 : Int32))] [(.int (Int32.ofNat cs.length)), (.int (0 : Int32)), (.int ch), (.ref t)]))
  obtain ⟨_, vm, T, h, L, A, K, CR, ⟨rfl, rfl⟩, st⟩ := A.callS hx (y := (⟨"java/lang/StringLatin1", "indexOf", "([BIII)I"⟩ : MethodName)) (hw _ (List.mem_of_getElem? (i := 57) rfl)) (hw _ (List.mem_of_getElem? (i := 58) rfl)) (hw _ (List.mem_of_getElem? (i := 59) rfl)) (hw _ (List.mem_of_getElem? (i := 60) rfl)) (by decide) hEL (argsL := [(.ref t), (.int ch), (.int (0 : Int32)), (.int (Int32.ofNat cs.length))]) (rest := []) (own_ixl l Z a0 hw hEL n0 _ A.oldn t k ch cs hb r1 r2 e4) (W := 0) (by decide) (by decide) (by decide) (by decide) all0 all0 all0 (g := (mkF m 17 #[.val (.ref x), .val (.int ch), .val (.int (0 : Int32))] [(.int (Int32.ofNat cs.length)), (.int (0 : Int32)), (.int ch), (.ref t)])) rfl (by rw [hml]; rfl) (lenOf opd3 rfl) rfl (by show 2 * 0 + _ ≤ _; exact Nat.le_of_eq rfl) (Jvm.hb hby d_jdk_42_m80_17)
  refine oSt st ?_
  have X := oExt0 K
  show oGo p e below _ (T.setTop (mkF m 20 #[.val (.ref x), .val (.int ch), .val (.int (0 : Int32))] [(.int (own_find ch cs 0))]))
  refine oSt (fun _ => XS.goto A.here hx rfl (pc0 := 20) (pc' := 36) rfl (Jvm.hb hby d_jdk_42_m80_20) (by decide) (by decide)) ?_
  show oGo p e below _ (T.setTop (mkF m 36 #[.val (.ref x), .val (.int ch), .val (.int (0 : Int32))] [(.int (own_find ch cs 0))]))
  exact A.leave hlk hEL (v := some (.int (own_find ch cs 0))) (fun h => by rw [hret] at h; cases h) (fun _ _ => ⟨rfl, rfl⟩) (by decide) (by decide) (fun fs hr => retOut A.1 hx hret rfl (Or.inl ⟨rfl, Or.inl rfl, _, rfl⟩) (Jvm.hb hby d_jdk_42_m80_36) hr)
theorem d_jdk_42_m79_0 : decode jdk_42_method_79_code 0 = .ok (.aload_n 0, 1) := by decide +kernel
theorem d_jdk_42_m79_1 : decode jdk_42_method_79_code 1 = .ok (.iload_n 1, 1) := by decide +kernel
theorem d_jdk_42_m79_2 : decode jdk_42_method_79_code 2 = .ok (.iconst 0, 1) := by decide +kernel
theorem d_jdk_42_m79_3 : decode jdk_42_method_79_code 3 = .ok (.invokevirtual 633, 3) := by decide +kernel
theorem d_jdk_42_m79_6 : decode jdk_42_method_79_code 6 = .ok (.ireturn, 1) := by decide +kernel
theorem opn_own_ix : plainFor (⟨"java/lang/String", "indexOf", "(I)I"⟩ : MethodName) = true := plainFor_of_name (by first | (simp [plainName, overriddenIn]; done) | decide +kernel)
set_option maxRecDepth 65536 in
set_option maxHeartbeats 40000000 in
theorem own_ix (l : Launch) (Z : State) (a0 : Array Value) (hw : ∀ d ∈ tables_1, d.before a0 Z = true) (hEL : EW Z a0 consts_1) (n0 : Nat) (h : Heap) (hO : Old Z n0 h) (x : Addr) (ch : Int32) (cs : List Int32) (zc : Int32) (hcs : Sta Z Z.heap "java/lang/String" "COMPACT_STRINGS" "Z" (.int zc)) (hcz : ¬ zc = 0) (hb : ¬ ch < 0 ∧ ¬ (255 : Int32) < ch) (Q : oStr Z h x cs) :
    oMet l Z consts_1 n0 (⟨"java/lang/String", "indexOf", "(I)I"⟩ : MethodName) jdk_42_method_79_code 2 (some .int) [] ({ frames := 3, cells := 0, slots := 0, locals := 46 } : Room) #[(.ref x), (.int ch)] h [] (fun v _ h' => h = h' ∧ v = some (.int (own_find ch cs 0))) := by
  refine oMet.of opn_own_ix hO ?_
  intro p e s m below meth c T hx hby hml hret hnm hlk hh hsf A
  have hml : c.maxLocals = 2 := hml
  refine oCast (g' := mkF m 0 #[.val (.ref x), .val (.int ch)] []) (by first | (simp [entryFrame, mkF, argsToLocals, Value.category]; done) | rfl) ?_
  show oGo p e below _ (T.setTop (mkF m 0 #[.val (.ref x), .val (.int ch)] []))
  refine oSt (fun _ => XS.aloadN A.here hx rfl (Jvm.hb hby d_jdk_42_m79_0) rfl rfl) ?_
  show oGo p e below _ (T.setTop (mkF m 1 #[.val (.ref x), .val (.int ch)] [(.ref x)]))
  refine oSt (fun _ => XS.iloadN A.here hx rfl (Jvm.hb hby d_jdk_42_m79_1) rfl) ?_
  show oGo p e below _ (T.setTop (mkF m 2 #[.val (.ref x), .val (.int ch)] [(.int ch), (.ref x)]))
  refine oSt (fun _ => XS.iconst A.here hx rfl (Jvm.hb hby d_jdk_42_m79_2)) ?_
  show oGo p e below _ (T.setTop (mkF m 3 #[.val (.ref x), .val (.int ch)] [(.int (0 : Int32)), (.int ch), (.ref x)]))
  obtain ⟨_, vm, T, h, L, A, K, CR, ⟨rfl, rfl⟩, st⟩ := A.callV hx (y := (⟨"java/lang/String", "indexOf", "(II)I"⟩ : MethodName)) (z := (⟨"java/lang/String", "indexOf", "(II)I"⟩ : MethodName)) (hw _ (List.mem_of_getElem? (i := 36) rfl)) (hw _ (List.mem_of_getElem? (i := 37) rfl)) (A.nf (hw _ (List.mem_of_getElem? (i := 39) rfl))) (hw _ (List.mem_of_getElem? (i := 39) rfl)) (hw _ (List.mem_of_getElem? (i := 38) rfl)) (hw _ (List.mem_of_getElem? (i := 8) rfl)) (hw _ (List.mem_of_getElem? (i := 40) rfl)) (by decide) hEL (a := x) (argsL := [(.int ch), (.int (0 : Int32))]) (rest := []) (own_ix2 l Z a0 hw hEL n0 _ A.oldn x ch cs zc hcs hcz hb Q) Q.exa (W := 0) (by decide) (by decide) (by decide) (by decide) all0 all0 all0 (g := (mkF m 3 #[.val (.ref x), .val (.int ch)] [(.int (0 : Int32)), (.int ch), (.ref x)])) rfl (by rw [hml]; rfl) (lenOf opd2 rfl) rfl (by show 2 * 0 + _ ≤ _; exact Nat.le_of_eq rfl) (Jvm.hb hby d_jdk_42_m79_3)
  refine oSt st ?_
  have X := oExt0 K
  show oGo p e below _ (T.setTop (mkF m 6 #[.val (.ref x), .val (.int ch)] [(.int (own_find ch cs 0))]))
  exact A.leave hlk hEL (v := some (.int (own_find ch cs 0))) (fun h => by rw [hret] at h; cases h) (fun _ _ => ⟨rfl, rfl⟩) (by decide) (by decide) (fun fs hr => retOut A.1 hx hret rfl (Or.inl ⟨rfl, Or.inl rfl, _, rfl⟩) (Jvm.hb hby d_jdk_42_m79_6) hr)
theorem d_jdk_42_m151_0 : decode jdk_42_method_151_code 0 = .ok (.aload_n 0, 1) := by decide +kernel
theorem d_jdk_42_m151_1 : decode jdk_42_method_151_code 1 = .ok (.invokespecial 1, 3) := by decide +kernel
theorem d_jdk_42_m151_4 : decode jdk_42_method_151_code 4 = .ok (.aload_n 0, 1) := by decide +kernel
theorem d_jdk_42_m151_5 : decode jdk_42_method_151_code 5 = .ok (.aload_n 1, 1) := by decide +kernel
theorem d_jdk_42_m151_6 : decode jdk_42_method_151_code 6 = .ok (.putfield 9, 3) := by decide +kernel
theorem d_jdk_42_m151_9 : decode jdk_42_method_151_code 9 = .ok (.aload_n 0, 1) := by decide +kernel
theorem d_jdk_42_m151_10 : decode jdk_42_method_151_code 10 = .ok (.iload_n 2, 1) := by decide +kernel
theorem d_jdk_42_m151_11 : decode jdk_42_method_151_code 11 = .ok (.putfield 15, 3) := by decide +kernel
theorem d_jdk_42_m151_14 : decode jdk_42_method_151_code 14 = .ok (.return_, 1) := by decide +kernel
theorem opn_own_bb : plainFor (⟨"java/lang/String", "<init>", "([BB)V"⟩ : MethodName) = true := plainFor_of_name (by first | (simp [plainName, overriddenIn]; done) | decide +kernel)
set_option maxRecDepth 65536 in
set_option maxHeartbeats 40000000 in
theorem own_bb (l : Launch) (Z : State) (a0 : Array Value) (hw : ∀ d ∈ tables_1, d.before a0 Z = true) (hEL : EW Z a0 consts_1) (n0 : Nat) (h : Heap) (hO : Old Z n0 h) (x b : Addr) (v0 c0 : Value) (cs : List Int32) (k : ClassId) (E_x : Exa Z h x "java/lang/String") (F_value_x : Fld Z h x "java/lang/String" "value" "[B" v0) (F_coder_x : Fld Z h x "java/lang/String" "coder" "B" c0) (n0_x : n0 ≤ x) (hp : ∀ c ∈ cs, ¬ c < 0 ∧ ¬ (255 : Int32) < c) (hlen : cs.length ≤ 4000) (V_b : Arv Z h b k .byte (Int32.ofNat cs.length) ((cs.map fun c => c.toInt8.toInt32).map Value.int) (.int 0)) :
    oMet l Z consts_1 n0 (⟨"java/lang/String", "<init>", "([BB)V"⟩ : MethodName) jdk_42_method_151_code 3 none [] ({ frames := 1, cells := 0, slots := 0, locals := 12 } : Room) #[(.ref x), (.ref b), (.int (0 : Int32))] h [x] (fun v _ h => v = none ∧ oStr Z h x cs) := by
  refine oMet.of opn_own_bb hO ?_
  intro p e s m below meth c T hx hby hml hret hnm hlk hh hsf A
  have hml : c.maxLocals = 3 := hml
  refine oCast (g' := mkF m 0 #[.val (.ref x), .val (.ref b), .val (.int (0 : Int32))] []) (by first | (simp [entryFrame, mkF, argsToLocals, Value.category]; done) | rfl) ?_
  have S_x := hsf x (List.mem_cons_self ..)
  have hne : x ≠ b := E_x.neArv V_b (hw _ (List.mem_of_getElem? (i := 7) rfl))
  show oGo p e below _ (T.setTop (mkF m 0 #[.val (.ref x), .val (.ref b), .val (.int (0 : Int32))] []))
  refine oSt (fun _ => XS.aloadN A.here hx rfl (Jvm.hb hby d_jdk_42_m151_0) rfl rfl) ?_
  show oGo p e below _ (T.setTop (mkF m 1 #[.val (.ref x), .val (.ref b), .val (.int (0 : Int32))] [(.ref x)]))
  obtain ⟨T, A, st⟩ := A.initO hx (hw _ (List.mem_of_getElem? (i := 16) rfl)) (hw _ (List.mem_of_getElem? (i := 17) rfl)) (hw _ (List.mem_of_getElem? (i := 18) rfl)) (g := (mkF m 1 #[.val (.ref x), .val (.ref b), .val (.int (0 : Int32))] [(.ref x)])) rfl (by rw [hml]; rfl) rfl (Jvm.hb hby d_jdk_42_m151_1) (by decide) (W := 0) (by show 2 * 0 + _ ≤ _; exact Nat.le_of_eq rfl) (by decide)
  refine oSt st ?_
  show oGo p e below _ (T.setTop (mkF m 4 #[.val (.ref x), .val (.ref b), .val (.int (0 : Int32))] []))
  refine oSt (fun _ => XS.aloadN A.here hx rfl (Jvm.hb hby d_jdk_42_m151_4) rfl rfl) ?_
  show oGo p e below _ (T.setTop (mkF m 5 #[.val (.ref x), .val (.ref b), .val (.int (0 : Int32))] [(.ref x)]))
  refine oSt (fun _ => XS.aloadN A.here hx rfl (Jvm.hb hby d_jdk_42_m151_5) rfl rfl) ?_
  show oGo p e below _ (T.setTop (mkF m 6 #[.val (.ref x), .val (.ref b), .val (.int (0 : Int32))] [(.ref b), (.ref x)]))
  have CH := A.ch
  obtain ⟨T, h, A, W, st⟩ := A.putF hx (host := "") (Or.inl (hw _ (List.mem_of_getElem? (i := 25) rfl))) Via.refl F_value_x E_x (Or.inr ⟨(hw _ (List.mem_of_getElem? (i := 21) rfl)), rfl, hnm⟩) (hw _ (List.mem_of_getElem? (i := 7) rfl)) (ty := (.array .byte)) (by decide) rfl rfl n0_x (Or.inl (List.mem_cons_self ..)) S_x (g := (mkF m 6 #[.val (.ref x), .val (.ref b), .val (.int (0 : Int32))] [(.ref b), (.ref x)])) rfl rfl (Jvm.hb hby d_jdk_42_m151_6)
  refine oSt st ?_
  show oGo p e below _ (T.setTop (mkF m 9 #[.val (.ref x), .val (.ref b), .val (.int (0 : Int32))] []))
  refine oSt (fun _ => XS.aloadN A.here hx rfl (Jvm.hb hby d_jdk_42_m151_9) rfl rfl) ?_
  show oGo p e below _ (T.setTop (mkF m 10 #[.val (.ref x), .val (.ref b), .val (.int (0 : Int32))] [(.ref x)]))
  refine oSt (fun _ => XS.iloadN A.here hx rfl (Jvm.hb hby d_jdk_42_m151_10) rfl) ?_
  show oGo p e below _ (T.setTop (mkF m 11 #[.val (.ref x), .val (.ref b), .val (.int (0 : Int32))] [(.int (0 : Int32)), (.ref x)]))
  have V_b := V_b.other W (Ne.symm hne)
  have E_x := E_x.wr W
  have F_coder_x := F_coder_x.other W (Or.inr (slot_ne (Or.inr (hw _ (List.mem_of_getElem? (i := 22) rfl))) (Or.inr (hw _ (List.mem_of_getElem? (i := 21) rfl))) (by decide) (t := .byte) (t' := (.array .byte)) (by decide) (by decide)))
  have F_value_x := F_value_x.same W
  obtain ⟨T, h, A, W2, st⟩ := A.putF hx (host := "") (Or.inl (hw _ (List.mem_of_getElem? (i := 26) rfl))) Via.refl F_coder_x E_x (Or.inr ⟨(hw _ (List.mem_of_getElem? (i := 22) rfl)), rfl, hnm⟩) (hw _ (List.mem_of_getElem? (i := 7) rfl)) (ty := .byte) (by decide) rfl rfl n0_x (Or.inl (List.mem_cons_self ..)) (Safe.wr W S_x CH S_x) (g := (mkF m 11 #[.val (.ref x), .val (.ref b), .val (.int (0 : Int32))] [(.int (0 : Int32)), (.ref x)])) rfl rfl (Jvm.hb hby d_jdk_42_m151_11)
  refine oSt st ?_
  show oGo p e below _ (T.setTop (mkF m 14 #[.val (.ref x), .val (.ref b), .val (.int (0 : Int32))] []))
  have F_value_x := F_value_x.other W2 (Or.inr (slot_ne (Or.inr (hw _ (List.mem_of_getElem? (i := 21) rfl))) (Or.inr (hw _ (List.mem_of_getElem? (i := 22) rfl))) (by decide) (t := (.array .byte)) (t' := .byte) (by decide) (by decide)))
  have F_coder_x := F_coder_x.same W2
  have V_b := V_b.other W2 (Ne.symm hne)
  have E_x := E_x.wr W2
  exact A.leave hlk hEL (v := none) (fun _ => rfl) (fun _ _ => ⟨rfl, hp, hlen, b, k, E_x, F_value_x, F_coder_x, V_b⟩) (by decide) (by decide) (fun fs hr => A.1.returnOut hx hret (Jvm.hb hby d_jdk_42_m151_14) hr)
theorem opd5 : parseMethodDescriptor "([C)V" = some ⟨[(.array .char)], none⟩ := by decide +kernel
section OwnAny
variable {l : Launch} {Z : State} {n0 : Nat} {p : Program} {e : Env} {R : Room} {s : State} {m : MethodId} {args : Array Value} {below : List Frame} {meth : Method} {c : Code} {own : String} {ws : List Addr} {vm : Vm} {T : State} {h : Heap} {locs : List Loc} {cells slots : Nat} {a0 : Array Value}
theorem own_sAny (A : oA l Z consts_1 n0 p e R s m args below meth c own ws vm T h locs cells slots) (hx : p.tables.exec = Jvm.exec) (hw : ∀ d ∈ tables_1, d.before a0 Z = true) (hEL : EW Z a0 consts_1) (hws : ∀ d ∈ StrChars.Road.words, d.before a0 Z = true) {index : Nat} (w1 : (Jvm.Cond.methodLink own index (⟨"java/lang/String", "<init>", "([C)V"⟩ : MethodName)).before a0 Z = true)
    {x b : Addr} {k : ClassId} {cs : List Int32} {zc N : Int32} {v0 c0 : Value} (E_x : Exa Z h x "java/lang/String") (F_value_x : Fld Z h x "java/lang/String" "value" "[B" v0) (F_coder_x : Fld Z h x "java/lang/String" "coder" "B" c0) (V_b : Arv Z h b k .char N (cs.map Value.int) (.int (0 : Int32))) (hN : N = Int32.ofNat cs.length) (hcs : Sta Z Z.heap "java/lang/String" "COMPACT_STRINGS" "Z" (.int zc)) (hcz : ¬ zc = 0) (hp : ∀ c ∈ cs, ¬ c < 0 ∧ ¬ (255 : Int32) < c)
    (q1 : n0 ≤ x) (q2 : x ∈ ws ∨ s.heap.size ≤ x) (q3 : Safe Z consts_1 vm h x) {n W : Nat} (hl : cs.length ≤ n) (hn : n ≤ 4000) (hfr : 4 ≤ R.frames) (hlo : W + 65 ≤ R.locals) (hc : cells + 2 ≤ R.cells) (hsl : slots + (n + 4) ≤ R.slots)
    {g : JFrame} (hg : g.method = m) (hsize : g.locals.size = c.maxLocals) {rest : List Value} (hs : g.stack = .ref b :: .ref x :: rest) (hW : 2 * g.monitorRoom + (rest.map fun v => v.category).sum ≤ W) (hd : decode c.code g.pc = .ok (.invokespecial index, 3)) :
    ∃ (vm' : Vm) (T' : State) (h' : Heap) (L : List Loc), oA l Z consts_1 n0 p e R s m args below meth c own ws vm' T' h' L (cells + 2) (slots + (n + 4)) ∧ Keep h h' [x] ∧ CHr Z consts_1 vm h vm' h' ∧ oStr Z h' x cs ∧ ∀ t, Steps p.tables e below (T'.setTop { g with pc := g.pc + 3, stack := rest }) t → Steps p.tables e below (T.setTop g) t := by
  cases cs with
  | nil =>
    subst hN
    obtain ⟨v, vm', T', h', L, A', K, CR, ⟨rfl, Q⟩, st⟩ := A.callN hx (y := (⟨"java/lang/String", "<init>", "([C)V"⟩ : MethodName)) rfl w1 (hw _ (List.mem_of_getElem? (i := 10) rfl)) (hw _ (List.mem_of_getElem? (i := 8) rfl)) (hw _ (List.mem_of_getElem? (i := 11) rfl)) (by decide) hEL (a := x) (argsL := [.ref b]) (rest := rest) (own_E1 l Z a0 hw hEL n0 h A.oldn x b v0 c0 E_x F_value_x F_coder_x q1 E_x.lt k V_b) (W := W) (by show 2 + 1 ≤ _; omega) (by show W + (2 + 11) + 31 ≤ _; omega) (by show cells + 2 ≤ _; omega) (by show slots + 4 ≤ _; omega) (oIn1 q1) (oIn1 q2) (oIn1 q3) hg hsize (lenOf opd5 rfl) hs hW hd
    exact ⟨vm', T', h', _, A'.mono (Nat.le_refl _) (by show slots + 4 ≤ _; omega), K, CR, Q, st⟩
  | cons a r =>
    have hC := A.ch
    obtain ⟨T', h', L, A', K, Q, st⟩ := A.sNew hx hws (hw _ (List.mem_of_getElem? (i := 7) rfl)) w1 (hw _ (List.mem_of_getElem? (i := 10) rfl)) (hw _ (List.mem_of_getElem? (i := 11) rfl)) E_x F_value_x F_coder_x (cs := a :: r) V_b hcs hcz (n := (a :: r).length) rfl hN (Nat.zero_lt_succ _) (by omega) hp q1 q2 q3 (W := W) hfr hlo (by omega) (by omega) hg hsize hs hW hd
    exact ⟨vm, T', h', _, A'.mono (by omega) (by omega), K, CHr.keep K (oIn1 q3) hC, Q, st⟩
end OwnAny
theorem d_m2_0 : decode method_2_code 0 = .ok (.iload_n 0, 1) := by decide +kernel
theorem d_m2_1 : decode method_2_code 1 = .ok (.bipush 8, 2) := by decide +kernel
theorem d_m2_3 : decode method_2_code 3 = .ok (.iushr, 1) := by decide +kernel
theorem d_m2_4 : decode method_2_code 4 = .ok (.iconst 3, 1) := by decide +kernel
theorem d_m2_5 : decode method_2_code 5 = .ok (.iand, 1) := by decide +kernel
theorem d_m2_6 : decode method_2_code 6 = .ok (.ifCond .ne 8, 3) := by decide +kernel
theorem d_m2_9 : decode method_2_code 9 = .ok (.bipush 35, 2) := by decide +kernel
theorem d_m2_11 : decode method_2_code 11 = .ok (.goto 9, 3) := by decide +kernel
theorem d_m2_14 : decode method_2_code 14 = .ok (.iload_n 0, 1) := by decide +kernel
theorem d_m2_15 : decode method_2_code 15 = .ok (.sipush 255, 3) := by decide +kernel
theorem d_m2_18 : decode method_2_code 18 = .ok (.iand, 1) := by decide +kernel
theorem d_m2_19 : decode method_2_code 19 = .ok (.i2c, 1) := by decide +kernel
theorem d_m2_20 : decode method_2_code 20 = .ok (.ireturn, 1) := by decide +kernel
theorem opn_own_ch : plainFor (⟨"com/example/applicator/applicator/IriWithoutFragmentPinLaw", "ch", "(I)C"⟩ : MethodName) = true := plainFor_of_name (by first | (simp [plainName, overriddenIn]; done) | decide +kernel)
set_option maxRecDepth 65536 in
set_option maxHeartbeats 40000000 in
theorem own_ch (l : Launch) (Z : State) (a0 : Array Value) (hw : ∀ d ∈ tables_1, d.before a0 Z = true) (hEL : EW Z a0 consts_1) (n0 : Nat) (h : Heap) (hO : Old Z n0 h) (i : Int32) :
    oMet l Z consts_1 n0 (⟨"com/example/applicator/applicator/IriWithoutFragmentPinLaw", "ch", "(I)C"⟩ : MethodName) method_2_code 1 (some .char) [] ({ frames := 0, cells := 0, slots := 0, locals := 0 } : Room) #[(.int i)] h [] (fun v _ h' => h = h' ∧ ∃ x, own_B x ∧ v = some (.int x)) := by
  refine oMet.of opn_own_ch hO ?_
  intro p e s m below meth c T hx hby hml hret hnm hlk hh hsf A
  have hml : c.maxLocals = 1 := hml
  refine oCast (g' := mkF m 0 #[.val (.int i)] []) (by first | (simp [entryFrame, mkF, argsToLocals, Value.category]; done) | rfl) ?_
  show oGo p e below _ (T.setTop (mkF m 0 #[.val (.int i)] []))
  refine oSt (fun _ => XS.iloadN A.here hx rfl (Jvm.hb hby d_m2_0) rfl) ?_
  show oGo p e below _ (T.setTop (mkF m 1 #[.val (.int i)] [(.int i)]))
  refine oSt (fun _ => XS.bipush A.here hx rfl (Jvm.hb hby d_m2_1)) ?_
  show oGo p e below _ (T.setTop (mkF m 3 #[.val (.int i)] [(.int (8 : Int32)), (.int i)]))
  refine oSt (fun _ => XS.iushr A.here hx rfl (Jvm.hb hby d_m2_3) rfl) ?_
  show oGo p e below _ (T.setTop (mkF m 4 #[.val (.int i)] [(.int ((i.toUInt32 >>> ((8 : Int32) &&& 31).toUInt32).toInt32))]))
  refine oSt (fun _ => XS.iconst A.here hx rfl (Jvm.hb hby d_m2_4)) ?_
  show oGo p e below _ (T.setTop (mkF m 5 #[.val (.int i)] [(.int (3 : Int32)), (.int ((i.toUInt32 >>> ((8 : Int32) &&& 31).toUInt32).toInt32))]))
  refine oSt (fun _ => XS.iand A.here hx rfl (Jvm.hb hby d_m2_5) rfl) ?_
  show oGo p e below _ (T.setTop (mkF m 6 #[.val (.int i)] [(.int (((i.toUInt32 >>> ((8 : Int32) &&& 31).toUInt32).toInt32) &&& (3 : Int32)))]))
  by_cases hc : (((i.toUInt32 >>> ((8 : Int32) &&& 31).toUInt32).toInt32) &&& (3 : Int32)) = (0 : Int32)
  · refine oSt (fun _ => XS.ifNo A.here hx rfl (Jvm.hb hby d_m2_6) rfl (Jvm.Free.XT.i0_ne_f hc)) ?_
    show oGo p e below _ (T.setTop (mkF m 9 #[.val (.int i)] []))
    refine oSt (fun _ => XS.bipush A.here hx rfl (Jvm.hb hby d_m2_9)) ?_
    show oGo p e below _ (T.setTop (mkF m 11 #[.val (.int i)] [(.int (35 : Int32))]))
    refine oSt (fun _ => XS.goto A.here hx rfl (pc0 := 11) (pc' := 20) rfl (Jvm.hb hby d_m2_11) (by decide) (by decide)) ?_
    show oGo p e below _ (T.setTop (mkF m 20 #[.val (.int i)] [(.int (35 : Int32))]))
    exact A.leave hlk hEL (v := some (.int (35 : Int32))) (fun h => by rw [hret] at h; cases h) (fun _ _ => ⟨rfl, 35, by unfold own_B; decide, rfl⟩) (by decide) (by decide) (fun fs hr => retN A.1 hx (t := .char) hret (by simp) (Jvm.hb hby d_m2_20) hr)
  · refine oSt (fun _ => XS.ifYes A.here hx rfl (pc0 := 6) (pc' := 14) rfl (Jvm.hb hby d_m2_6) rfl (Jvm.Free.XT.i0_ne_t hc) (by decide) (by decide)) ?_
    show oGo p e below _ (T.setTop (mkF m 14 #[.val (.int i)] []))
    refine oSt (fun _ => XS.iloadN A.here hx rfl (Jvm.hb hby d_m2_14) rfl) ?_
    show oGo p e below _ (T.setTop (mkF m 15 #[.val (.int i)] [(.int i)]))
    refine oSt (fun _ => XS.sipush A.here hx rfl (Jvm.hb hby d_m2_15)) ?_
    show oGo p e below _ (T.setTop (mkF m 18 #[.val (.int i)] [(.int (255 : Int32)), (.int i)]))
    refine oSt (fun _ => XS.iand A.here hx rfl (Jvm.hb hby d_m2_18) rfl) ?_
    show oGo p e below _ (T.setTop (mkF m 19 #[.val (.int i)] [(.int (i &&& (255 : Int32)))]))
    refine oSt (fun _ => XS.i2c A.here hx rfl (Jvm.hb hby d_m2_19) rfl) ?_
    show oGo p e below _ (T.setTop (mkF m 20 #[.val (.int i)] [(.int ((i &&& (255 : Int32)).toUInt32.toUInt16.toUInt32.toInt32))]))
    have hb := oCh i
    generalize ((i &&& (255 : Int32)).toUInt32.toUInt16.toUInt32.toInt32) = x_ at hb ⊢
    show oGo p e below _ (T.setTop (mkF m 20 #[.val (.int i)] [(.int x_)]))
    exact A.leave hlk hEL (v := some (.int (nar .char x_))) (fun h => by rw [hret] at h; cases h) (fun _ _ => ⟨rfl, x_, hb, by show some (Value.int (nar .char x_)) = _; rw [oNar hb]⟩) (by decide) (by decide) (fun fs hr => retN A.1 hx (t := .char) hret (by simp) (Jvm.hb hby d_m2_20) hr)
theorem opn_own_minB : plainFor (⟨"java/lang/Math", "min", "(II)I"⟩ : MethodName) = true := (Jvm.Free.JP.mathPlain rfl (by decide +kernel))
set_option maxRecDepth 65536 in
set_option maxHeartbeats 40000000 in
theorem own_minB (l : Launch) (Z : State) (a0 : Array Value) (hw : ∀ d ∈ tables_1, d.before a0 Z = true) (hEL : EW Z a0 consts_1) (n0 : Nat) (h : Heap) (hO : Old Z n0 h) (a b : Int32) (hab : b < a) :
    oMet l Z consts_1 n0 (⟨"java/lang/Math", "min", "(II)I"⟩ : MethodName) jdk_29_method_69_code 2 (some .int) [] ({ frames := 0, cells := 0, slots := 0, locals := 0 } : Room) #[(.int a), (.int b)] h [] (fun v _ h' => h = h' ∧ v = some (.int b)) := by
  refine oMet.of opn_own_minB hO ?_
  intro p e s m below meth c T hx hby hml hret hnm hlk hh hsf A
  have hml : c.maxLocals = 2 := hml
  refine oCast (g' := mkF m 0 #[.val (.int a), .val (.int b)] []) (by first | (simp [entryFrame, mkF, argsToLocals, Value.category]; done) | rfl) ?_
  show oGo p e below _ (T.setTop (mkF m 0 #[.val (.int a), .val (.int b)] []))
  refine oSt (fun _ => XS.iloadN A.here hx rfl (Jvm.hb hby d_jdk_29_m69_0) rfl) ?_
  show oGo p e below _ (T.setTop (mkF m 1 #[.val (.int a), .val (.int b)] [(.int a)]))
  refine oSt (fun _ => XS.iloadN A.here hx rfl (Jvm.hb hby d_jdk_29_m69_1) rfl) ?_
  show oGo p e below _ (T.setTop (mkF m 2 #[.val (.int a), .val (.int b)] [(.int b), (.int a)]))
  refine oSt (fun _ => XS.icmpYes A.here hx rfl (pc0 := 2) (pc' := 9) rfl (Jvm.hb hby d_jdk_29_m69_2) rfl (Jvm.Free.XT.ii_gt_t hab) (by decide) (by decide)) ?_
  show oGo p e below _ (T.setTop (mkF m 9 #[.val (.int a), .val (.int b)] []))
  refine oSt (fun _ => XS.iloadN A.here hx rfl (Jvm.hb hby d_jdk_29_m69_9) rfl) ?_
  show oGo p e below _ (T.setTop (mkF m 10 #[.val (.int a), .val (.int b)] [(.int b)]))
  exact A.leave hlk hEL (v := some (.int b)) (fun h => by rw [hret] at h; cases h) (fun _ _ => ⟨rfl, rfl⟩) (by decide) (by decide) (fun fs hr => retOut A.1 hx hret rfl (Or.inl ⟨rfl, Or.inl rfl, _, rfl⟩) (Jvm.hb hby d_jdk_29_m69_10) hr)
theorem d_jdk_65_m131_0 : decode jdk_65_method_131_code 0 = .ok (.iload_n 1, 1) := by decide +kernel
theorem d_jdk_65_m131_1 : decode jdk_65_method_131_code 1 = .ok (.iload_n 0, 1) := by decide +kernel
theorem d_jdk_65_m131_2 : decode jdk_65_method_131_code 2 = .ok (.if_icmp .ge 35, 3) := by decide +kernel
theorem d_jdk_65_m131_5 : decode jdk_65_method_131_code 5 = .ok (.new 43, 3) := by decide +kernel
theorem d_jdk_65_m131_8 : decode jdk_65_method_131_code 8 = .ok (.dup, 1) := by decide +kernel
theorem d_jdk_65_m131_9 : decode jdk_65_method_131_code 9 = .ok (.new 45, 3) := by decide +kernel
theorem d_jdk_65_m131_12 : decode jdk_65_method_131_code 12 = .ok (.dup, 1) := by decide +kernel
theorem d_jdk_65_m131_13 : decode jdk_65_method_131_code 13 = .ok (.invokespecial 47, 3) := by decide +kernel
theorem d_jdk_65_m131_16 : decode jdk_65_method_131_code 16 = .ok (.iload_n 0, 1) := by decide +kernel
theorem d_jdk_65_m131_17 : decode jdk_65_method_131_code 17 = .ok (.invokevirtual 54, 3) := by decide +kernel
theorem d_jdk_65_m131_20 : decode jdk_65_method_131_code 20 = .ok (.ldc_w 337, 3) := by decide +kernel
theorem d_jdk_65_m131_23 : decode jdk_65_method_131_code 23 = .ok (.invokevirtual 50, 3) := by decide +kernel
theorem d_jdk_65_m131_26 : decode jdk_65_method_131_code 26 = .ok (.iload_n 1, 1) := by decide +kernel
theorem d_jdk_65_m131_27 : decode jdk_65_method_131_code 27 = .ok (.invokevirtual 54, 3) := by decide +kernel
theorem d_jdk_65_m131_30 : decode jdk_65_method_131_code 30 = .ok (.invokevirtual 61, 3) := by decide +kernel
theorem d_jdk_65_m131_33 : decode jdk_65_method_131_code 33 = .ok (.invokespecial 65, 3) := by decide +kernel
theorem d_jdk_65_m131_36 : decode jdk_65_method_131_code 36 = .ok (.athrow, 1) := by decide +kernel
theorem d_jdk_65_m131_37 : decode jdk_65_method_131_code 37 = .ok (.return_, 1) := by decide +kernel
theorem opn_own_ckl : plainFor (⟨"java/util/Arrays", "checkLength", "(II)V"⟩ : MethodName) = true := plainFor_of_name (by first | (simp [plainName, overriddenIn]; done) | decide +kernel)
set_option maxRecDepth 65536 in
set_option maxHeartbeats 40000000 in
theorem own_ckl (l : Launch) (Z : State) (a0 : Array Value) (hw : ∀ d ∈ tables_1, d.before a0 Z = true) (hEL : EW Z a0 consts_1) (n0 : Nat) (h : Heap) (hO : Old Z n0 h) (b : Int32) (hb : ¬ b < 0) :
    oMet l Z consts_1 n0 (⟨"java/util/Arrays", "checkLength", "(II)V"⟩ : MethodName) jdk_65_method_131_code 2 none [] ({ frames := 0, cells := 0, slots := 0, locals := 0 } : Room) #[(.int (0 : Int32)), (.int b)] h [] (fun v _ h' => h = h' ∧ v = none) := by
  refine oMet.of opn_own_ckl hO ?_
  intro p e s m below meth c T hx hby hml hret hnm hlk hh hsf A
  have hml : c.maxLocals = 2 := hml
  refine oCast (g' := mkF m 0 #[.val (.int (0 : Int32)), .val (.int b)] []) (by first | (simp [entryFrame, mkF, argsToLocals, Value.category]; done) | rfl) ?_
  show oGo p e below _ (T.setTop (mkF m 0 #[.val (.int (0 : Int32)), .val (.int b)] []))
  refine oSt (fun _ => XS.iloadN A.here hx rfl (Jvm.hb hby d_jdk_65_m131_0) rfl) ?_
  show oGo p e below _ (T.setTop (mkF m 1 #[.val (.int (0 : Int32)), .val (.int b)] [(.int b)]))
  refine oSt (fun _ => XS.iloadN A.here hx rfl (Jvm.hb hby d_jdk_65_m131_1) rfl) ?_
  show oGo p e below _ (T.setTop (mkF m 2 #[.val (.int (0 : Int32)), .val (.int b)] [(.int (0 : Int32)), (.int b)]))
  refine oSt (fun _ => XS.icmpYes A.here hx rfl (pc0 := 2) (pc' := 37) rfl (Jvm.hb hby d_jdk_65_m131_2) rfl (Jvm.Free.XT.ii_ge_t hb) (by decide) (by decide)) ?_
  show oGo p e below _ (T.setTop (mkF m 37 #[.val (.int (0 : Int32)), .val (.int b)] []))
  exact A.leave hlk hEL (v := none) (fun _ => rfl) (fun _ _ => ⟨rfl, rfl⟩) (by decide) (by decide) (fun fs hr => A.1.returnOut hx hret (Jvm.hb hby d_jdk_65_m131_37) hr)
theorem d_jdk_65_m133_0 : decode jdk_65_method_133_code 0 = .ok (.iload_n 1, 1) := by decide +kernel
theorem d_jdk_65_m133_1 : decode jdk_65_method_133_code 1 = .ok (.iload_n 2, 1) := by decide +kernel
theorem d_jdk_65_m133_2 : decode jdk_65_method_133_code 2 = .ok (.invokestatic 343, 3) := by decide +kernel
theorem d_jdk_65_m133_5 : decode jdk_65_method_133_code 5 = .ok (.iload_n 2, 1) := by decide +kernel
theorem d_jdk_65_m133_6 : decode jdk_65_method_133_code 6 = .ok (.iload_n 1, 1) := by decide +kernel
theorem d_jdk_65_m133_7 : decode jdk_65_method_133_code 7 = .ok (.isub, 1) := by decide +kernel
theorem d_jdk_65_m133_8 : decode jdk_65_method_133_code 8 = .ok (.istore_n 3, 1) := by decide +kernel
theorem d_jdk_65_m133_9 : decode jdk_65_method_133_code 9 = .ok (.iload_n 3, 1) := by decide +kernel
theorem d_jdk_65_m133_10 : decode jdk_65_method_133_code 10 = .ok (.newarray .byte, 2) := by decide +kernel
theorem d_jdk_65_m133_12 : decode jdk_65_method_133_code 12 = .ok (.astore 4, 2) := by decide +kernel
theorem d_jdk_65_m133_14 : decode jdk_65_method_133_code 14 = .ok (.aload_n 0, 1) := by decide +kernel
theorem d_jdk_65_m133_15 : decode jdk_65_method_133_code 15 = .ok (.iload_n 1, 1) := by decide +kernel
theorem d_jdk_65_m133_16 : decode jdk_65_method_133_code 16 = .ok (.aload 4, 2) := by decide +kernel
theorem d_jdk_65_m133_18 : decode jdk_65_method_133_code 18 = .ok (.iconst 0, 1) := by decide +kernel
theorem d_jdk_65_m133_19 : decode jdk_65_method_133_code 19 = .ok (.aload_n 0, 1) := by decide +kernel
theorem d_jdk_65_m133_20 : decode jdk_65_method_133_code 20 = .ok (.arraylength, 1) := by decide +kernel
theorem d_jdk_65_m133_21 : decode jdk_65_method_133_code 21 = .ok (.iload_n 1, 1) := by decide +kernel
theorem d_jdk_65_m133_22 : decode jdk_65_method_133_code 22 = .ok (.isub, 1) := by decide +kernel
theorem d_jdk_65_m133_23 : decode jdk_65_method_133_code 23 = .ok (.iload_n 3, 1) := by decide +kernel
theorem d_jdk_65_m133_24 : decode jdk_65_method_133_code 24 = .ok (.invokestatic 304, 3) := by decide +kernel
theorem d_jdk_65_m133_27 : decode jdk_65_method_133_code 27 = .ok (.invokestatic 150, 3) := by decide +kernel
theorem d_jdk_65_m133_30 : decode jdk_65_method_133_code 30 = .ok (.aload 4, 2) := by decide +kernel
theorem d_jdk_65_m133_32 : decode jdk_65_method_133_code 32 = .ok (.areturn, 1) := by decide +kernel
theorem opd6 : parseMethodDescriptor "(II)V" = some ⟨[.int, .int], none⟩ := by decide +kernel
theorem opn_own_cpb : plainFor (⟨"java/util/Arrays", "copyOfRangeByte", "([BII)[B"⟩ : MethodName) = true := plainFor_of_name (by first | (simp [plainName, overriddenIn]; done) | decide +kernel)
set_option maxRecDepth 65536 in
set_option maxHeartbeats 40000000 in
theorem own_cpb (l : Launch) (Z : State) (a0 : Array Value) (hw : ∀ d ∈ tables_1, d.before a0 Z = true) (hEL : EW Z a0 consts_1) (n0 : Nat) (h : Heap) (hO : Old Z n0 h) (t : Addr) (k : ClassId) (cs : List Int32) (i : Nat) (hi : i < cs.length) (hlen : cs.length ≤ 4) (V : Arv Z h t k .byte (Int32.ofNat cs.length) ((cs.map fun c => c.toInt8.toInt32).map Value.int) (.int 0)) :
    oMet l Z consts_1 n0 (⟨"java/util/Arrays", "copyOfRangeByte", "([BII)[B"⟩ : MethodName) jdk_65_method_133_code 5 (some (.array .byte)) [] ({ frames := 1, cells := 1, slots := 4, locals := 30 } : Room) #[(.ref t), (.int (0 : Int32)), (.int (Int32.ofNat i))] h [] (fun v _ h' => ∃ b k', v = some (.ref b) ∧ Arv Z h' b k' .byte (Int32.ofNat (cs.take i).length) (((cs.take i).map fun c => c.toInt8.toInt32).map Value.int) (.int 0)) := by
  refine oMet.of opn_own_cpb hO ?_
  intro p e s m below meth c T hx hby hml hret hnm hlk hh hsf A
  have hml : c.maxLocals = 5 := hml
  refine oCast (g' := mkF m 0 #[.val (.ref t), .val (.int (0 : Int32)), .val (.int (Int32.ofNat i)), .unset, .unset] []) (by first | (simp [entryFrame, mkF, argsToLocals, Value.category]; done) | rfl) ?_
  have hni := own_nl hi (by omega)
  have e0 : ∀ x : Int32, x - 0 = x := fun x => by simp
  show oGo p e below _ (T.setTop (mkF m 0 #[.val (.ref t), .val (.int (0 : Int32)), .val (.int (Int32.ofNat i)), .unset, .unset] []))
  refine oSt (fun _ => XS.iloadN A.here hx rfl (Jvm.hb hby d_jdk_65_m133_0) rfl) ?_
  show oGo p e below _ (T.setTop (mkF m 1 #[.val (.ref t), .val (.int (0 : Int32)), .val (.int (Int32.ofNat i)), .unset, .unset] [(.int (0 : Int32))]))
  refine oSt (fun _ => XS.iloadN A.here hx rfl (Jvm.hb hby d_jdk_65_m133_1) rfl) ?_
  show oGo p e below _ (T.setTop (mkF m 2 #[.val (.ref t), .val (.int (0 : Int32)), .val (.int (Int32.ofNat i)), .unset, .unset] [(.int (Int32.ofNat i)), (.int (0 : Int32))]))
  obtain ⟨_, vm, T, h, L, A, K, CR, ⟨rfl, rfl⟩, st⟩ := A.callS hx (y := (⟨"java/util/Arrays", "checkLength", "(II)V"⟩ : MethodName)) (hw _ (List.mem_of_getElem? (i := 118) rfl)) (hw _ (List.mem_of_getElem? (i := 119) rfl)) (hw _ (List.mem_of_getElem? (i := 113) rfl)) (hw _ (List.mem_of_getElem? (i := 120) rfl)) (by decide) hEL (argsL := [(.int (0 : Int32)), (.int (Int32.ofNat i))]) (rest := []) (own_ckl l Z a0 hw hEL n0 _ A.oldn _ hni.1) (W := 0) (by decide) (by decide) (by decide) (by decide) all0 all0 all0 (g := (mkF m 2 #[.val (.ref t), .val (.int (0 : Int32)), .val (.int (Int32.ofNat i)), .unset, .unset] [(.int (Int32.ofNat i)), (.int (0 : Int32))])) rfl (by rw [hml]; rfl) (lenOf opd6 rfl) rfl (by show 2 * 0 + _ ≤ _; exact Nat.le_of_eq rfl) (Jvm.hb hby d_jdk_65_m133_2)
  refine oSt st ?_
  have X := oExt0 K
  show oGo p e below _ (T.setTop (mkF m 5 #[.val (.ref t), .val (.int (0 : Int32)), .val (.int (Int32.ofNat i)), .unset, .unset] []))
  refine oSt (fun _ => XS.iloadN A.here hx rfl (Jvm.hb hby d_jdk_65_m133_5) rfl) ?_
  show oGo p e below _ (T.setTop (mkF m 6 #[.val (.ref t), .val (.int (0 : Int32)), .val (.int (Int32.ofNat i)), .unset, .unset] [(.int (Int32.ofNat i))]))
  refine oSt (fun _ => XS.iloadN A.here hx rfl (Jvm.hb hby d_jdk_65_m133_6) rfl) ?_
  show oGo p e below _ (T.setTop (mkF m 7 #[.val (.ref t), .val (.int (0 : Int32)), .val (.int (Int32.ofNat i)), .unset, .unset] [(.int (0 : Int32)), (.int (Int32.ofNat i))]))
  refine oSt (fun _ => XS.isub A.here hx rfl (Jvm.hb hby d_jdk_65_m133_7) rfl) ?_
  show oGo p e below _ (T.setTop (mkF m 8 #[.val (.ref t), .val (.int (0 : Int32)), .val (.int (Int32.ofNat i)), .unset, .unset] [(.int ((Int32.ofNat i) - (0 : Int32)))]))
  refine oSt (fun _ => XS.istoreN A.here hx rfl (Jvm.hb hby d_jdk_65_m133_8) rfl (l' := #[.val (.ref t), .val (.int (0 : Int32)), .val (.int (Int32.ofNat i)), .val (.int ((Int32.ofNat i) - (0 : Int32))), .unset]) rfl) ?_
  show oGo p e below _ (T.setTop (mkF m 9 #[.val (.ref t), .val (.int (0 : Int32)), .val (.int (Int32.ofNat i)), .val (.int ((Int32.ofNat i) - (0 : Int32))), .unset] []))
  refine oSt (fun _ => XS.iloadN A.here hx rfl (Jvm.hb hby d_jdk_65_m133_9) rfl) ?_
  show oGo p e below _ (T.setTop (mkF m 10 #[.val (.ref t), .val (.int (0 : Int32)), .val (.int (Int32.ofNat i)), .val (.int ((Int32.ofNat i) - (0 : Int32))), .unset] [(.int ((Int32.ofNat i) - (0 : Int32)))]))
  rw [e0]
  show oGo p e below _ (T.setTop (mkF m 10 #[.val (.ref t), .val (.int (0 : Int32)), .val (.int (Int32.ofNat i)), .val (.int (Int32.ofNat i)), .unset] [(.int (Int32.ofNat i))]))
  obtain ⟨T, h, b, k_b, g_b, lt_b, n0_b, s_b, A, E, V_b, S_b, st⟩ := A.newP hx (hw _ (List.mem_of_getElem? (i := 20) rfl)) (g := (mkF m 10 #[.val (.ref t), .val (.int (0 : Int32)), .val (.int (Int32.ofNat i)), .val (.int (Int32.ofNat i)), .unset] [(.int (Int32.ofNat i))])) rfl (Jvm.hb hby d_jdk_65_m133_10) rfl hni.1 (cap := 4) (by rw [own_n32 (by omega)]; omega) (by decide) (by decide) (by decide)
  refine oSt st ?_
  show oGo p e below _ (T.setTop (mkF m 12 #[.val (.ref t), .val (.int (0 : Int32)), .val (.int (Int32.ofNat i)), .val (.int (Int32.ofNat i)), .unset] [(.ref b)]))
  have V := V.ext E
  have V_b : Arv Z h b k_b .byte (Int32.ofNat i) ([] ++ List.replicate i (.int (0 : Int32))) (.int (0 : Int32)) := V_b.pad (pad_rep [] (.int (0 : Int32)) i)
  refine oSt (fun _ => XS.astore A.here hx rfl (Jvm.hb hby d_jdk_65_m133_12) rfl rfl (l' := #[.val (.ref t), .val (.int (0 : Int32)), .val (.int (Int32.ofNat i)), .val (.int (Int32.ofNat i)), .val (.ref b)]) rfl) ?_
  show oGo p e below _ (T.setTop (mkF m 14 #[.val (.ref t), .val (.int (0 : Int32)), .val (.int (Int32.ofNat i)), .val (.int (Int32.ofNat i)), .val (.ref b)] []))
  refine oSt (fun _ => XS.aloadN A.here hx rfl (Jvm.hb hby d_jdk_65_m133_14) rfl rfl) ?_
  show oGo p e below _ (T.setTop (mkF m 15 #[.val (.ref t), .val (.int (0 : Int32)), .val (.int (Int32.ofNat i)), .val (.int (Int32.ofNat i)), .val (.ref b)] [(.ref t)]))
  refine oSt (fun _ => XS.iloadN A.here hx rfl (Jvm.hb hby d_jdk_65_m133_15) rfl) ?_
  show oGo p e below _ (T.setTop (mkF m 16 #[.val (.ref t), .val (.int (0 : Int32)), .val (.int (Int32.ofNat i)), .val (.int (Int32.ofNat i)), .val (.ref b)] [(.int (0 : Int32)), (.ref t)]))
  refine oSt (fun _ => XS.aload A.here hx rfl (Jvm.hb hby d_jdk_65_m133_16) rfl rfl) ?_
  show oGo p e below _ (T.setTop (mkF m 18 #[.val (.ref t), .val (.int (0 : Int32)), .val (.int (Int32.ofNat i)), .val (.int (Int32.ofNat i)), .val (.ref b)] [(.ref b), (.int (0 : Int32)), (.ref t)]))
  refine oSt (fun _ => XS.iconst A.here hx rfl (Jvm.hb hby d_jdk_65_m133_18)) ?_
  show oGo p e below _ (T.setTop (mkF m 19 #[.val (.ref t), .val (.int (0 : Int32)), .val (.int (Int32.ofNat i)), .val (.int (Int32.ofNat i)), .val (.ref b)] [(.int (0 : Int32)), (.ref b), (.int (0 : Int32)), (.ref t)]))
  refine oSt (fun _ => XS.aloadN A.here hx rfl (Jvm.hb hby d_jdk_65_m133_19) rfl rfl) ?_
  show oGo p e below _ (T.setTop (mkF m 20 #[.val (.ref t), .val (.int (0 : Int32)), .val (.int (Int32.ofNat i)), .val (.int (Int32.ofNat i)), .val (.ref b)] [(.ref t), (.int (0 : Int32)), (.ref b), (.int (0 : Int32)), (.ref t)]))
  refine oSt (A.len hx V (g := (mkF m 20 #[.val (.ref t), .val (.int (0 : Int32)), .val (.int (Int32.ofNat i)), .val (.int (Int32.ofNat i)), .val (.ref b)] [(.ref t), (.int (0 : Int32)), (.ref b), (.int (0 : Int32)), (.ref t)])) rfl rfl (Jvm.hb hby d_jdk_65_m133_20)) ?_
  show oGo p e below _ (T.setTop (mkF m 21 #[.val (.ref t), .val (.int (0 : Int32)), .val (.int (Int32.ofNat i)), .val (.int (Int32.ofNat i)), .val (.ref b)] [(.int (Int32.ofNat cs.length)), (.int (0 : Int32)), (.ref b), (.int (0 : Int32)), (.ref t)]))
  refine oSt (fun _ => XS.iloadN A.here hx rfl (Jvm.hb hby d_jdk_65_m133_21) rfl) ?_
  show oGo p e below _ (T.setTop (mkF m 22 #[.val (.ref t), .val (.int (0 : Int32)), .val (.int (Int32.ofNat i)), .val (.int (Int32.ofNat i)), .val (.ref b)] [(.int (0 : Int32)), (.int (Int32.ofNat cs.length)), (.int (0 : Int32)), (.ref b), (.int (0 : Int32)), (.ref t)]))
  refine oSt (fun _ => XS.isub A.here hx rfl (Jvm.hb hby d_jdk_65_m133_22) rfl) ?_
  show oGo p e below _ (T.setTop (mkF m 23 #[.val (.ref t), .val (.int (0 : Int32)), .val (.int (Int32.ofNat i)), .val (.int (Int32.ofNat i)), .val (.ref b)] [(.int ((Int32.ofNat cs.length) - (0 : Int32))), (.int (0 : Int32)), (.ref b), (.int (0 : Int32)), (.ref t)]))
  refine oSt (fun _ => XS.iloadN A.here hx rfl (Jvm.hb hby d_jdk_65_m133_23) rfl) ?_
  show oGo p e below _ (T.setTop (mkF m 24 #[.val (.ref t), .val (.int (0 : Int32)), .val (.int (Int32.ofNat i)), .val (.int (Int32.ofNat i)), .val (.ref b)] [(.int (Int32.ofNat i)), (.int ((Int32.ofNat cs.length) - (0 : Int32))), (.int (0 : Int32)), (.ref b), (.int (0 : Int32)), (.ref t)]))
  rw [e0]
  show oGo p e below _ (T.setTop (mkF m 24 #[.val (.ref t), .val (.int (0 : Int32)), .val (.int (Int32.ofNat i)), .val (.int (Int32.ofNat i)), .val (.ref b)] [(.int (Int32.ofNat i)), (.int (Int32.ofNat cs.length)), (.int (0 : Int32)), (.ref b), (.int (0 : Int32)), (.ref t)]))
  obtain ⟨_, vm, T, h, L, A, K, CR, ⟨rfl, rfl⟩, st⟩ := A.callS hx (y := (⟨"java/lang/Math", "min", "(II)I"⟩ : MethodName)) (hw _ (List.mem_of_getElem? (i := 121) rfl)) (hw _ (List.mem_of_getElem? (i := 69) rfl)) (hw _ (List.mem_of_getElem? (i := 66) rfl)) (hw _ (List.mem_of_getElem? (i := 70) rfl)) (by decide) hEL (argsL := [(.int (Int32.ofNat cs.length)), (.int (Int32.ofNat i))]) (rest := [(.int (0 : Int32)), (.ref b), (.int (0 : Int32)), (.ref t)]) (own_minB l Z a0 hw hEL n0 _ A.oldn _ _ hni.2) (W := 4) (by decide) (by decide) (by decide) (by decide) all0 all0 all0 (g := (mkF m 24 #[.val (.ref t), .val (.int (0 : Int32)), .val (.int (Int32.ofNat i)), .val (.int (Int32.ofNat i)), .val (.ref b)] [(.int (Int32.ofNat i)), (.int (Int32.ofNat cs.length)), (.int (0 : Int32)), (.ref b), (.int (0 : Int32)), (.ref t)])) rfl (by rw [hml]; rfl) (lenOf opd2 rfl) rfl (by show 2 * 0 + _ ≤ _; exact Nat.le_of_eq rfl) (Jvm.hb hby d_jdk_65_m133_24)
  refine oSt st ?_
  have X := oExt0 K
  show oGo p e below _ (T.setTop (mkF m 27 #[.val (.ref t), .val (.int (0 : Int32)), .val (.int (Int32.ofNat i)), .val (.int (Int32.ofNat i)), .val (.ref b)] [(.int (Int32.ofNat i)), (.int (0 : Int32)), (.ref b), (.int (0 : Int32)), (.ref t)]))
  have S_b := CR.safe lt_b S_b
  have hz : (Int32.ofNat i).toNatClampNeg = i := own_n32 (by omega)
  obtain ⟨T, h, L, A, K, V_b, st⟩ := A.cpy hx (hw _ (List.mem_of_getElem? (i := 122) rfl)) (hw _ (List.mem_of_getElem? (i := 125) rfl)) (hw _ (List.mem_of_getElem? (i := 123) rfl)) (hw _ (List.mem_of_getElem? (i := 124) rfl)) V V_b (us := ((cs.take i).map fun c => c.toInt8.toInt32).map Value.int) (by decide) (by decide) hni.1 (by rw [hz, own_n32 (by omega)]; show 0 + i ≤ _; omega) (by rw [hz]; show 0 + i ≤ _; omega) (by rw [hz]; exact (own_us (by omega) _).symm) (by rw [hz]; show 0 + i ≤ _; simp) n0_b (Or.inr s_b) S_b (g := (mkF m 27 #[.val (.ref t), .val (.int (0 : Int32)), .val (.int (Int32.ofNat i)), .val (.int (Int32.ofNat i)), .val (.ref b)] [(.int (Int32.ofNat i)), (.int (0 : Int32)), (.ref b), (.int (0 : Int32)), (.ref t)])) rfl (by rw [hml]; rfl) rfl (Jvm.hb hby d_jdk_65_m133_27) (by decide) (W := 0) (by show 2 * 0 + _ ≤ _; exact Nat.le_of_eq rfl) (by decide +kernel)
  refine oSt st ?_
  show oGo p e below _ (T.setTop (mkF m 30 #[.val (.ref t), .val (.int (0 : Int32)), .val (.int (Int32.ofNat i)), .val (.int (Int32.ofNat i)), .val (.ref b)] []))
  refine oSt (fun _ => XS.aload A.here hx rfl (Jvm.hb hby d_jdk_65_m133_30) rfl rfl) ?_
  show oGo p e below _ (T.setTop (mkF m 32 #[.val (.ref t), .val (.int (0 : Int32)), .val (.int (Int32.ofNat i)), .val (.int (Int32.ofNat i)), .val (.ref b)] [(.ref b)]))
  rw [hz] at V_b
  exact A.leave hlk hEL (v := some (.ref b)) (fun h => by rw [hret] at h; cases h) (fun _ _ => ⟨b, k_b, rfl, by simpa [List.length_take, Nat.min_eq_left (Nat.le_of_lt hi)] using V_b⟩) (by decide) (by decide) (fun fs hr => retOut A.1 hx hret rfl (Or.inr (Or.inr (Or.inr (Or.inr ⟨rfl, rfl, rfl⟩)))) (Jvm.hb hby d_jdk_65_m133_32) hr)
theorem d_jdk_65_m132_0 : decode jdk_65_method_132_code 0 = .ok (.iload_n 1, 1) := by decide +kernel
theorem d_jdk_65_m132_1 : decode jdk_65_method_132_code 1 = .ok (.ifCond .ne 9, 3) := by decide +kernel
theorem d_jdk_65_m132_4 : decode jdk_65_method_132_code 4 = .ok (.iload_n 2, 1) := by decide +kernel
theorem d_jdk_65_m132_5 : decode jdk_65_method_132_code 5 = .ok (.aload_n 0, 1) := by decide +kernel
theorem d_jdk_65_m132_6 : decode jdk_65_method_132_code 6 = .ok (.arraylength, 1) := by decide +kernel
theorem d_jdk_65_m132_7 : decode jdk_65_method_132_code 7 = .ok (.if_icmp .eq 10, 3) := by decide +kernel
theorem d_jdk_65_m132_10 : decode jdk_65_method_132_code 10 = .ok (.aload_n 0, 1) := by decide +kernel
theorem d_jdk_65_m132_11 : decode jdk_65_method_132_code 11 = .ok (.iload_n 1, 1) := by decide +kernel
theorem d_jdk_65_m132_12 : decode jdk_65_method_132_code 12 = .ok (.iload_n 2, 1) := by decide +kernel
theorem d_jdk_65_m132_13 : decode jdk_65_method_132_code 13 = .ok (.invokestatic 339, 3) := by decide +kernel
theorem d_jdk_65_m132_16 : decode jdk_65_method_132_code 16 = .ok (.areturn, 1) := by decide +kernel
theorem d_jdk_65_m132_17 : decode jdk_65_method_132_code 17 = .ok (.aload_n 0, 1) := by decide +kernel
theorem d_jdk_65_m132_18 : decode jdk_65_method_132_code 18 = .ok (.invokevirtual 310, 3) := by decide +kernel
theorem d_jdk_65_m132_21 : decode jdk_65_method_132_code 21 = .ok (.checkcast 311, 3) := by decide +kernel
theorem d_jdk_65_m132_24 : decode jdk_65_method_132_code 24 = .ok (.areturn, 1) := by decide +kernel
theorem opd7 : parseMethodDescriptor "([BII)[B" = some ⟨[(.array .byte), .int, .int], some (.array .byte)⟩ := by decide +kernel
theorem opn_own_cpr : plainFor (⟨"java/util/Arrays", "copyOfRange", "([BII)[B"⟩ : MethodName) = true := plainFor_of_name (by first | (simp [plainName, overriddenIn]; done) | decide +kernel)
set_option maxRecDepth 65536 in
set_option maxHeartbeats 40000000 in
theorem own_cpr (l : Launch) (Z : State) (a0 : Array Value) (hw : ∀ d ∈ tables_1, d.before a0 Z = true) (hEL : EW Z a0 consts_1) (n0 : Nat) (h : Heap) (hO : Old Z n0 h) (t : Addr) (k : ClassId) (cs : List Int32) (i : Nat) (hi : i < cs.length) (hlen : cs.length ≤ 4) (V : Arv Z h t k .byte (Int32.ofNat cs.length) ((cs.map fun c => c.toInt8.toInt32).map Value.int) (.int 0)) :
    oMet l Z consts_1 n0 (⟨"java/util/Arrays", "copyOfRange", "([BII)[B"⟩ : MethodName) jdk_65_method_132_code 3 (some (.array .byte)) [] ({ frames := 2, cells := 1, slots := 4, locals := 46 } : Room) #[(.ref t), (.int (0 : Int32)), (.int (Int32.ofNat i))] h [] (fun v _ h' => ∃ b k', v = some (.ref b) ∧ Arv Z h' b k' .byte (Int32.ofNat (cs.take i).length) (((cs.take i).map fun c => c.toInt8.toInt32).map Value.int) (.int 0)) := by
  refine oMet.of opn_own_cpr hO ?_
  intro p e s m below meth c T hx hby hml hret hnm hlk hh hsf A
  have hml : c.maxLocals = 3 := hml
  refine oCast (g' := mkF m 0 #[.val (.ref t), .val (.int (0 : Int32)), .val (.int (Int32.ofNat i))] []) (by first | (simp [entryFrame, mkF, argsToLocals, Value.category]; done) | rfl) ?_
  have hni := own_nl hi (by omega)
  show oGo p e below _ (T.setTop (mkF m 0 #[.val (.ref t), .val (.int (0 : Int32)), .val (.int (Int32.ofNat i))] []))
  refine oSt (fun _ => XS.iloadN A.here hx rfl (Jvm.hb hby d_jdk_65_m132_0) rfl) ?_
  show oGo p e below _ (T.setTop (mkF m 1 #[.val (.ref t), .val (.int (0 : Int32)), .val (.int (Int32.ofNat i))] [(.int (0 : Int32))]))
  refine oSt (fun _ => XS.ifNo A.here hx rfl (Jvm.hb hby d_jdk_65_m132_1) rfl (Jvm.Free.XT.i0_ne_f rfl)) ?_
  show oGo p e below _ (T.setTop (mkF m 4 #[.val (.ref t), .val (.int (0 : Int32)), .val (.int (Int32.ofNat i))] []))
  refine oSt (fun _ => XS.iloadN A.here hx rfl (Jvm.hb hby d_jdk_65_m132_4) rfl) ?_
  show oGo p e below _ (T.setTop (mkF m 5 #[.val (.ref t), .val (.int (0 : Int32)), .val (.int (Int32.ofNat i))] [(.int (Int32.ofNat i))]))
  refine oSt (fun _ => XS.aloadN A.here hx rfl (Jvm.hb hby d_jdk_65_m132_5) rfl rfl) ?_
  show oGo p e below _ (T.setTop (mkF m 6 #[.val (.ref t), .val (.int (0 : Int32)), .val (.int (Int32.ofNat i))] [(.ref t), (.int (Int32.ofNat i))]))
  refine oSt (A.len hx V (g := (mkF m 6 #[.val (.ref t), .val (.int (0 : Int32)), .val (.int (Int32.ofNat i))] [(.ref t), (.int (Int32.ofNat i))])) rfl rfl (Jvm.hb hby d_jdk_65_m132_6)) ?_
  show oGo p e below _ (T.setTop (mkF m 7 #[.val (.ref t), .val (.int (0 : Int32)), .val (.int (Int32.ofNat i))] [(.int (Int32.ofNat cs.length)), (.int (Int32.ofNat i))]))
  refine oSt (fun _ => XS.icmpNo A.here hx rfl (Jvm.hb hby d_jdk_65_m132_7) rfl (Jvm.Free.XT.ii_eq_f (fun q => Int32.lt_irrefl (q ▸ hni.2)))) ?_
  show oGo p e below _ (T.setTop (mkF m 10 #[.val (.ref t), .val (.int (0 : Int32)), .val (.int (Int32.ofNat i))] []))
  refine oSt (fun _ => XS.aloadN A.here hx rfl (Jvm.hb hby d_jdk_65_m132_10) rfl rfl) ?_
  show oGo p e below _ (T.setTop (mkF m 11 #[.val (.ref t), .val (.int (0 : Int32)), .val (.int (Int32.ofNat i))] [(.ref t)]))
  refine oSt (fun _ => XS.iloadN A.here hx rfl (Jvm.hb hby d_jdk_65_m132_11) rfl) ?_
  show oGo p e below _ (T.setTop (mkF m 12 #[.val (.ref t), .val (.int (0 : Int32)), .val (.int (Int32.ofNat i))] [(.int (0 : Int32)), (.ref t)]))
  refine oSt (fun _ => XS.iloadN A.here hx rfl (Jvm.hb hby d_jdk_65_m132_12) rfl) ?_
  show oGo p e below _ (T.setTop (mkF m 13 #[.val (.ref t), .val (.int (0 : Int32)), .val (.int (Int32.ofNat i))] [(.int (Int32.ofNat i)), (.int (0 : Int32)), (.ref t)]))
  obtain ⟨_, vm, T, h, L, A, K, CR, ⟨b, k', rfl, V_b⟩, st⟩ := A.callS hx (y := (⟨"java/util/Arrays", "copyOfRangeByte", "([BII)[B"⟩ : MethodName)) (hw _ (List.mem_of_getElem? (i := 115) rfl)) (hw _ (List.mem_of_getElem? (i := 116) rfl)) (hw _ (List.mem_of_getElem? (i := 113) rfl)) (hw _ (List.mem_of_getElem? (i := 117) rfl)) (by decide) hEL (argsL := [(.ref t), (.int (0 : Int32)), (.int (Int32.ofNat i))]) (rest := []) (own_cpb l Z a0 hw hEL n0 _ A.oldn t k cs i hi hlen V) (W := 0) (by decide) (by decide) (by decide) (by decide) all0 all0 all0 (g := (mkF m 13 #[.val (.ref t), .val (.int (0 : Int32)), .val (.int (Int32.ofNat i))] [(.int (Int32.ofNat i)), (.int (0 : Int32)), (.ref t)])) rfl (by rw [hml]; rfl) (lenOf opd7 rfl) rfl (by show 2 * 0 + _ ≤ _; exact Nat.le_of_eq rfl) (Jvm.hb hby d_jdk_65_m132_13)
  refine oSt st ?_
  have X := oExt0 K
  show oGo p e below _ (T.setTop (mkF m 16 #[.val (.ref t), .val (.int (0 : Int32)), .val (.int (Int32.ofNat i))] [(.ref b)]))
  exact A.leave hlk hEL (v := some (.ref b)) (fun h => by rw [hret] at h; cases h) (fun _ _ => ⟨b, k', rfl, V_b⟩) (by decide) (by decide) (fun fs hr => retOut A.1 hx hret rfl (Or.inr (Or.inr (Or.inr (Or.inr ⟨rfl, rfl, rfl⟩)))) (Jvm.hb hby d_jdk_65_m132_16) hr)
theorem d_jdk_43_m47_0 : decode jdk_43_method_47_code 0 = .ok (.iload_n 2, 1) := by decide +kernel
theorem d_jdk_43_m47_1 : decode jdk_43_method_47_code 1 = .ok (.ifCond .ne 6, 3) := by decide +kernel
theorem d_jdk_43_m47_4 : decode jdk_43_method_47_code 4 = .ok (.ldc 151, 2) := by decide +kernel
theorem d_jdk_43_m47_6 : decode jdk_43_method_47_code 6 = .ok (.areturn, 1) := by decide +kernel
theorem d_jdk_43_m47_7 : decode jdk_43_method_47_code 7 = .ok (.new 1, 3) := by decide +kernel
theorem d_jdk_43_m47_10 : decode jdk_43_method_47_code 10 = .ok (.dup, 1) := by decide +kernel
theorem d_jdk_43_m47_11 : decode jdk_43_method_47_code 11 = .ok (.aload_n 0, 1) := by decide +kernel
theorem d_jdk_43_m47_12 : decode jdk_43_method_47_code 12 = .ok (.iload_n 1, 1) := by decide +kernel
theorem d_jdk_43_m47_13 : decode jdk_43_method_47_code 13 = .ok (.iload_n 1, 1) := by decide +kernel
theorem d_jdk_43_m47_14 : decode jdk_43_method_47_code 14 = .ok (.iload_n 2, 1) := by decide +kernel
theorem d_jdk_43_m47_15 : decode jdk_43_method_47_code 15 = .ok (.iadd, 1) := by decide +kernel
theorem d_jdk_43_m47_16 : decode jdk_43_method_47_code 16 = .ok (.invokestatic 232, 3) := by decide +kernel
theorem d_jdk_43_m47_19 : decode jdk_43_method_47_code 19 = .ok (.iconst 0, 1) := by decide +kernel
theorem d_jdk_43_m47_20 : decode jdk_43_method_47_code 20 = .ok (.invokespecial 112, 3) := by decide +kernel
theorem d_jdk_43_m47_23 : decode jdk_43_method_47_code 23 = .ok (.areturn, 1) := by decide +kernel
theorem opd8 : parseMethodDescriptor "([BB)V" = some ⟨[(.array .byte), .byte], none⟩ := by decide +kernel
theorem opn_own_nst : plainFor (⟨"java/lang/StringLatin1", "newString", "([BII)Ljava/lang/String;"⟩ : MethodName) = true := plainFor_of_name (by first | (simp [plainName, overriddenIn]; done) | decide +kernel)
set_option maxRecDepth 65536 in
set_option maxHeartbeats 40000000 in
theorem own_nst (l : Launch) (Z : State) (a0 : Array Value) (hw : ∀ d ∈ tables_1, d.before a0 Z = true) (hEL : EW Z a0 consts_1) (n0 : Nat) (h : Heap) (hO : Old Z n0 h) (t : Addr) (k : ClassId) (cs : List Int32) (i : Nat) (hi : i < cs.length) (hlen : cs.length ≤ 4) (V : Arv Z h t k .byte (Int32.ofNat cs.length) ((cs.map fun c => c.toInt8.toInt32).map Value.int) (.int 0)) (hp : ∀ c ∈ cs, ¬ c < 0 ∧ ¬ (255 : Int32) < c) :
    oMet l Z consts_1 n0 (⟨"java/lang/StringLatin1", "newString", "([BII)Ljava/lang/String;"⟩ : MethodName) jdk_43_method_47_code 3 (some (.object "java/lang/String")) [] ({ frames := 3, cells := 2, slots := 8, locals := 64 } : Room) #[(.ref t), (.int (0 : Int32)), (.int (Int32.ofNat i))] h [] (fun v _ h' => ∃ x, v = some (.ref x) ∧ oStr Z h' x (cs.take i)) := by
  refine oMet.of opn_own_nst hO ?_
  intro p e s m below meth c T hx hby hml hret hnm hlk hh hsf A
  have hml : c.maxLocals = 3 := hml
  refine oCast (g' := mkF m 0 #[.val (.ref t), .val (.int (0 : Int32)), .val (.int (Int32.ofNat i))] []) (by first | (simp [entryFrame, mkF, argsToLocals, Value.category]; done) | rfl) ?_
  have hlit : ∀ d ∈ Bundle.stringAtoms, d.before a0 Z = true := fun d hd => hw d ((by decide +kernel : ∀ d ∈ Bundle.stringAtoms, d ∈ tables_1) d hd)
  have hni := own_nl hi (by omega)
  have e0 : ∀ x : Int32, (0 : Int32) + x = x := fun x => by simp
  show oGo p e below _ (T.setTop (mkF m 0 #[.val (.ref t), .val (.int (0 : Int32)), .val (.int (Int32.ofNat i))] []))
  refine oSt (fun _ => XS.iloadN A.here hx rfl (Jvm.hb hby d_jdk_43_m47_0) rfl) ?_
  show oGo p e below _ (T.setTop (mkF m 1 #[.val (.ref t), .val (.int (0 : Int32)), .val (.int (Int32.ofNat i))] [(.int (Int32.ofNat i))]))
  by_cases hc : i = 0
  · refine oSt (fun _ => XS.ifNo A.here hx rfl (Jvm.hb hby d_jdk_43_m47_1) rfl (Jvm.Free.XT.i0_ne_f (by rw [hc]; rfl))) ?_
    show oGo p e below _ (T.setTop (mkF m 4 #[.val (.ref t), .val (.int (0 : Int32)), .val (.int (Int32.ofNat i))] []))
    obtain ⟨nm, T, h, bb, kb, A, X, CR, E_nm, C_nm, V_nm, K_nm, ne_nm, Li, st⟩ := A.ldcS hx (hw _ (List.mem_of_getElem? (i := 109) rfl)) hlit hEL (List.mem_of_getElem? (i := 1) rfl) (vs := []) (z := 0) (by decide +kernel) (by decide) rfl (g := (mkF m 4 #[.val (.ref t), .val (.int (0 : Int32)), .val (.int (Int32.ofNat i))] [])) rfl (Jvm.hb hby d_jdk_43_m47_4) (n := 0) (by decide +kernel) (by decide) (by decide) (by decide)
    refine oSt st ?_
    show oGo p e below _ (T.setTop (mkF m 6 #[.val (.ref t), .val (.int (0 : Int32)), .val (.int (Int32.ofNat i))] [(.ref nm)]))
    exact A.leave hlk hEL (v := some (.ref nm)) (fun h => by rw [hret] at h; cases h) (fun _ _ => ⟨nm, rfl, by subst hc; exact ⟨oP0, Nat.zero_le _, bb, kb, E_nm, V_nm, C_nm, K_nm⟩⟩) (by decide) (by decide) (fun fs hr => retOut A.1 hx hret rfl (Or.inr (Or.inr (Or.inr (Or.inr ⟨rfl, rfl, rfl⟩)))) (Jvm.hb hby d_jdk_43_m47_6) hr)
  · refine oSt (fun _ => XS.ifYes A.here hx rfl (pc0 := 1) (pc' := 7) rfl (Jvm.hb hby d_jdk_43_m47_1) rfl (Jvm.Free.XT.i0_ne_t (fun q => hc (by have q2 := congrArg Int32.toNatClampNeg q; rw [own_n32 (by omega)] at q2; exact q2))) (by decide) (by decide)) ?_
    show oGo p e below _ (T.setTop (mkF m 7 #[.val (.ref t), .val (.int (0 : Int32)), .val (.int (Int32.ofNat i))] []))
    obtain ⟨T, h, x, g_x, lt_x, n0_x, s_x, A, E, E_x, S_x, D_x, st⟩ := A.newO hx (hw _ (List.mem_of_getElem? (i := 110) rfl)) (hw _ (List.mem_of_getElem? (i := 7) rfl)) (hw _ (List.mem_of_getElem? (i := 8) rfl)) (g := (mkF m 7 #[.val (.ref t), .val (.int (0 : Int32)), .val (.int (Int32.ofNat i))] [])) rfl (Jvm.hb hby d_jdk_43_m47_7) (by decide) (by decide)
    refine oSt st ?_
    show oGo p e below _ (T.setTop (mkF m 10 #[.val (.ref t), .val (.int (0 : Int32)), .val (.int (Int32.ofNat i))] [(.ref x)]))
    have F_value_x : Fld Z h x "java/lang/String" "value" "[B" .null := D_x (Or.inr (hw _ (List.mem_of_getElem? (i := 21) rfl))) (ty := (.array .byte)) (by decide)
    have F_coder_x : Fld Z h x "java/lang/String" "coder" "B" (.int (0 : Int32)) := D_x (Or.inr (hw _ (List.mem_of_getElem? (i := 22) rfl))) (ty := .byte) (by decide)
    have V := V.ext E
    refine oSt (fun _ => XS.dup A.here hx rfl (Jvm.hb hby d_jdk_43_m47_10) rfl rfl) ?_
    show oGo p e below _ (T.setTop (mkF m 11 #[.val (.ref t), .val (.int (0 : Int32)), .val (.int (Int32.ofNat i))] [(.ref x), (.ref x)]))
    refine oSt (fun _ => XS.aloadN A.here hx rfl (Jvm.hb hby d_jdk_43_m47_11) rfl rfl) ?_
    show oGo p e below _ (T.setTop (mkF m 12 #[.val (.ref t), .val (.int (0 : Int32)), .val (.int (Int32.ofNat i))] [(.ref t), (.ref x), (.ref x)]))
    refine oSt (fun _ => XS.iloadN A.here hx rfl (Jvm.hb hby d_jdk_43_m47_12) rfl) ?_
    show oGo p e below _ (T.setTop (mkF m 13 #[.val (.ref t), .val (.int (0 : Int32)), .val (.int (Int32.ofNat i))] [(.int (0 : Int32)), (.ref t), (.ref x), (.ref x)]))
    refine oSt (fun _ => XS.iloadN A.here hx rfl (Jvm.hb hby d_jdk_43_m47_13) rfl) ?_
    show oGo p e below _ (T.setTop (mkF m 14 #[.val (.ref t), .val (.int (0 : Int32)), .val (.int (Int32.ofNat i))] [(.int (0 : Int32)), (.int (0 : Int32)), (.ref t), (.ref x), (.ref x)]))
    refine oSt (fun _ => XS.iloadN A.here hx rfl (Jvm.hb hby d_jdk_43_m47_14) rfl) ?_
    show oGo p e below _ (T.setTop (mkF m 15 #[.val (.ref t), .val (.int (0 : Int32)), .val (.int (Int32.ofNat i))] [(.int (Int32.ofNat i)), (.int (0 : Int32)), (.int (0 : Int32)), (.ref t), (.ref x), (.ref x)]))
    refine oSt (fun _ => XS.iadd A.here hx rfl (Jvm.hb hby d_jdk_43_m47_15) rfl) ?_
    show oGo p e below _ (T.setTop (mkF m 16 #[.val (.ref t), .val (.int (0 : Int32)), .val (.int (Int32.ofNat i))] [(.int ((0 : Int32) + (Int32.ofNat i))), (.int (0 : Int32)), (.ref t), (.ref x), (.ref x)]))
    rw [e0]
    show oGo p e below _ (T.setTop (mkF m 16 #[.val (.ref t), .val (.int (0 : Int32)), .val (.int (Int32.ofNat i))] [(.int (Int32.ofNat i)), (.int (0 : Int32)), (.ref t), (.ref x), (.ref x)]))
    obtain ⟨_, vm, T, h, L, A, K, CR, ⟨b, k', rfl, V_b⟩, st⟩ := A.callS hx (y := (⟨"java/util/Arrays", "copyOfRange", "([BII)[B"⟩ : MethodName)) (hw _ (List.mem_of_getElem? (i := 111) rfl)) (hw _ (List.mem_of_getElem? (i := 112) rfl)) (hw _ (List.mem_of_getElem? (i := 113) rfl)) (hw _ (List.mem_of_getElem? (i := 114) rfl)) (by decide) hEL (argsL := [(.ref t), (.int (0 : Int32)), (.int (Int32.ofNat i))]) (rest := [(.ref x), (.ref x)]) (own_cpr l Z a0 hw hEL n0 _ A.oldn t k cs i hi hlen V) (W := 2) (by decide) (by decide) (by decide) (by decide) all0 all0 all0 (g := (mkF m 16 #[.val (.ref t), .val (.int (0 : Int32)), .val (.int (Int32.ofNat i))] [(.int (Int32.ofNat i)), (.int (0 : Int32)), (.ref t), (.ref x), (.ref x)])) rfl (by rw [hml]; rfl) (lenOf opd7 rfl) rfl (by show 2 * 0 + _ ≤ _; exact Nat.le_of_eq rfl) (Jvm.hb hby d_jdk_43_m47_16)
    refine oSt st ?_
    have X := oExt0 K
    have E_x := E_x.ext X
    have F_value_x := F_value_x.ext X
    have F_coder_x := F_coder_x.ext X
    show oGo p e below _ (T.setTop (mkF m 19 #[.val (.ref t), .val (.int (0 : Int32)), .val (.int (Int32.ofNat i))] [(.ref b), (.ref x), (.ref x)]))
    have S_x := CR.safe lt_x S_x
    refine oSt (fun _ => XS.iconst A.here hx rfl (Jvm.hb hby d_jdk_43_m47_19)) ?_
    show oGo p e below _ (T.setTop (mkF m 20 #[.val (.ref t), .val (.int (0 : Int32)), .val (.int (Int32.ofNat i))] [(.int (0 : Int32)), (.ref b), (.ref x), (.ref x)]))
    obtain ⟨_, vm, T, h, L, A, K, CR, ⟨rfl, Q_x⟩, st⟩ := A.callN hx (y := (⟨"java/lang/String", "<init>", "([BB)V"⟩ : MethodName)) rfl (hw _ (List.mem_of_getElem? (i := 126) rfl)) (hw _ (List.mem_of_getElem? (i := 127) rfl)) (hw _ (List.mem_of_getElem? (i := 8) rfl)) (hw _ (List.mem_of_getElem? (i := 128) rfl)) (by decide) hEL (a := x) (argsL := [(.ref b), (.int (0 : Int32))]) (rest := [(.ref x)]) (own_bb l Z a0 hw hEL n0 _ A.oldn x b _ _ (cs.take i) k' E_x F_value_x F_coder_x n0_x (fun c hc => hp c (List.mem_of_mem_take hc)) (by simp; omega) V_b) (W := 1) (by decide) (by decide) (by decide) (by decide) (oIn1 n0_x) (oIn1 (Or.inr s_x)) (oIn1 S_x) (g := (mkF m 20 #[.val (.ref t), .val (.int (0 : Int32)), .val (.int (Int32.ofNat i))] [(.int (0 : Int32)), (.ref b), (.ref x), (.ref x)])) rfl (by rw [hml]; rfl) (lenOf opd8 rfl) rfl (by show 2 * 0 + _ ≤ _; exact Nat.le_of_eq rfl) (Jvm.hb hby d_jdk_43_m47_20)
    refine oSt st ?_
    show oGo p e below _ (T.setTop (mkF m 23 #[.val (.ref t), .val (.int (0 : Int32)), .val (.int (Int32.ofNat i))] [(.ref x)]))
    exact A.leave hlk hEL (v := some (.ref x)) (fun h => by rw [hret] at h; cases h) (fun _ _ => ⟨x, rfl, Q_x⟩) (by decide) (by decide) (fun fs hr => retOut A.1 hx hret rfl (Or.inr (Or.inr (Or.inr (Or.inr ⟨rfl, rfl, rfl⟩)))) (Jvm.hb hby d_jdk_43_m47_23) hr)
theorem d_jdk_41_m12_0 : decode jdk_41_method_12_code 0 = .ok (.iload_n 0, 1) := by decide +kernel
theorem d_jdk_41_m12_1 : decode jdk_41_method_12_code 1 = .ok (.ifCond .lt 13, 3) := by decide +kernel
theorem d_jdk_41_m12_4 : decode jdk_41_method_12_code 4 = .ok (.iload_n 0, 1) := by decide +kernel
theorem d_jdk_41_m12_5 : decode jdk_41_method_12_code 5 = .ok (.iload_n 1, 1) := by decide +kernel
theorem d_jdk_41_m12_6 : decode jdk_41_method_12_code 6 = .ok (.if_icmp .gt 8, 3) := by decide +kernel
theorem d_jdk_41_m12_9 : decode jdk_41_method_12_code 9 = .ok (.iload_n 1, 1) := by decide +kernel
theorem d_jdk_41_m12_10 : decode jdk_41_method_12_code 10 = .ok (.iload_n 2, 1) := by decide +kernel
theorem d_jdk_41_m12_11 : decode jdk_41_method_12_code 11 = .ok (.if_icmp .le 11, 3) := by decide +kernel
theorem d_jdk_41_m12_14 : decode jdk_41_method_12_code 14 = .ok (.aload_n 3, 1) := by decide +kernel
theorem d_jdk_41_m12_15 : decode jdk_41_method_12_code 15 = .ok (.iload_n 0, 1) := by decide +kernel
theorem d_jdk_41_m12_16 : decode jdk_41_method_12_code 16 = .ok (.iload_n 1, 1) := by decide +kernel
theorem d_jdk_41_m12_17 : decode jdk_41_method_12_code 17 = .ok (.iload_n 2, 1) := by decide +kernel
theorem d_jdk_41_m12_18 : decode jdk_41_method_12_code 18 = .ok (.invokestatic 99, 3) := by decide +kernel
theorem d_jdk_41_m12_21 : decode jdk_41_method_12_code 21 = .ok (.athrow, 1) := by decide +kernel
theorem d_jdk_41_m12_22 : decode jdk_41_method_12_code 22 = .ok (.iload_n 0, 1) := by decide +kernel
theorem d_jdk_41_m12_23 : decode jdk_41_method_12_code 23 = .ok (.ireturn, 1) := by decide +kernel
theorem opn_own_cft : plainFor (⟨"jdk/internal/util/Preconditions", "checkFromToIndex", "(IIILjava/util/function/BiFunction;)I"⟩ : MethodName) = true := plainFor_of_name (by first | (simp [plainName, overriddenIn]; done) | decide +kernel)
set_option maxRecDepth 65536 in
set_option maxHeartbeats 40000000 in
theorem own_cft (l : Launch) (Z : State) (a0 : Array Value) (hw : ∀ d ∈ tables_1, d.before a0 Z = true) (hEL : EW Z a0 consts_1) (n0 : Nat) (h : Heap) (hO : Old Z n0 h) (b n : Int32) (fm : Value) (rfm : fm.isRef = true) (hb : ¬ b < 0) (hbn : ¬ n < b) :
    oMet l Z consts_1 n0 (⟨"jdk/internal/util/Preconditions", "checkFromToIndex", "(IIILjava/util/function/BiFunction;)I"⟩ : MethodName) jdk_41_method_12_code 4 (some .int) [] ({ frames := 0, cells := 0, slots := 0, locals := 0 } : Room) #[(.int (0 : Int32)), (.int b), (.int n), fm] h [] (fun v _ h' => h = h' ∧ v = some (.int 0)) := by
  refine oMet.of opn_own_cft hO ?_
  intro p e s m below meth c T hx hby hml hret hnm hlk hh hsf A
  have hml : c.maxLocals = 4 := hml
  refine oCast (g' := mkF m 0 #[.val (.int (0 : Int32)), .val (.int b), .val (.int n), .val fm] []) (by rcases ref_cases rfm with rfl | ⟨a, rfl⟩ <;> first | (simp [entryFrame, mkF, argsToLocals, Value.category]; done) | rfl) ?_
  show oGo p e below _ (T.setTop (mkF m 0 #[.val (.int (0 : Int32)), .val (.int b), .val (.int n), .val fm] []))
  refine oSt (fun _ => XS.iloadN A.here hx rfl (Jvm.hb hby d_jdk_41_m12_0) rfl) ?_
  show oGo p e below _ (T.setTop (mkF m 1 #[.val (.int (0 : Int32)), .val (.int b), .val (.int n), .val fm] [(.int (0 : Int32))]))
  refine oSt (fun _ => XS.ifNo A.here hx rfl (Jvm.hb hby d_jdk_41_m12_1) rfl (Jvm.Free.XT.i0_lt_f (by decide))) ?_
  show oGo p e below _ (T.setTop (mkF m 4 #[.val (.int (0 : Int32)), .val (.int b), .val (.int n), .val fm] []))
  refine oSt (fun _ => XS.iloadN A.here hx rfl (Jvm.hb hby d_jdk_41_m12_4) rfl) ?_
  show oGo p e below _ (T.setTop (mkF m 5 #[.val (.int (0 : Int32)), .val (.int b), .val (.int n), .val fm] [(.int (0 : Int32))]))
  refine oSt (fun _ => XS.iloadN A.here hx rfl (Jvm.hb hby d_jdk_41_m12_5) rfl) ?_
  show oGo p e below _ (T.setTop (mkF m 6 #[.val (.int (0 : Int32)), .val (.int b), .val (.int n), .val fm] [(.int b), (.int (0 : Int32))]))
  refine oSt (fun _ => XS.icmpNo A.here hx rfl (Jvm.hb hby d_jdk_41_m12_6) rfl (Jvm.Free.XT.ii_gt_f hb)) ?_
  show oGo p e below _ (T.setTop (mkF m 9 #[.val (.int (0 : Int32)), .val (.int b), .val (.int n), .val fm] []))
  refine oSt (fun _ => XS.iloadN A.here hx rfl (Jvm.hb hby d_jdk_41_m12_9) rfl) ?_
  show oGo p e below _ (T.setTop (mkF m 10 #[.val (.int (0 : Int32)), .val (.int b), .val (.int n), .val fm] [(.int b)]))
  refine oSt (fun _ => XS.iloadN A.here hx rfl (Jvm.hb hby d_jdk_41_m12_10) rfl) ?_
  show oGo p e below _ (T.setTop (mkF m 11 #[.val (.int (0 : Int32)), .val (.int b), .val (.int n), .val fm] [(.int n), (.int b)]))
  refine oSt (fun _ => XS.icmpYes A.here hx rfl (pc0 := 11) (pc' := 22) rfl (Jvm.hb hby d_jdk_41_m12_11) rfl (Jvm.Free.XT.ii_le_t hbn) (by decide) (by decide)) ?_
  show oGo p e below _ (T.setTop (mkF m 22 #[.val (.int (0 : Int32)), .val (.int b), .val (.int n), .val fm] []))
  refine oSt (fun _ => XS.iloadN A.here hx rfl (Jvm.hb hby d_jdk_41_m12_22) rfl) ?_
  show oGo p e below _ (T.setTop (mkF m 23 #[.val (.int (0 : Int32)), .val (.int b), .val (.int n), .val fm] [(.int (0 : Int32))]))
  exact A.leave hlk hEL (v := some (.int (0 : Int32))) (fun h => by rw [hret] at h; cases h) (fun _ _ => ⟨rfl, rfl⟩) (by decide) (by decide) (fun fs hr => retOut A.1 hx hret rfl (Or.inl ⟨rfl, Or.inl rfl, _, rfl⟩) (Jvm.hb hby d_jdk_41_m12_23) hr)
theorem d_jdk_42_m158_0 : decode jdk_42_method_158_code 0 = .ok (.iload_n 0, 1) := by decide +kernel
theorem d_jdk_42_m158_1 : decode jdk_42_method_158_code 1 = .ok (.iload_n 1, 1) := by decide +kernel
theorem d_jdk_42_m158_2 : decode jdk_42_method_158_code 2 = .ok (.iload_n 2, 1) := by decide +kernel
theorem d_jdk_42_m158_3 : decode jdk_42_method_158_code 3 = .ok (.getstatic 1053, 3) := by decide +kernel
theorem d_jdk_42_m158_6 : decode jdk_42_method_158_code 6 = .ok (.invokestatic 1062, 3) := by decide +kernel
theorem d_jdk_42_m158_9 : decode jdk_42_method_158_code 9 = .ok (.pop, 1) := by decide +kernel
theorem d_jdk_42_m158_10 : decode jdk_42_method_158_code 10 = .ok (.return_, 1) := by decide +kernel
theorem opd9 : parseMethodDescriptor "(IIILjava/util/function/BiFunction;)I" = some ⟨[.int, .int, .int, (.object "java/util/function/BiFunction")], some .int⟩ := by decide +kernel
theorem opn_own_cbe : plainFor (⟨"java/lang/String", "checkBoundsBeginEnd", "(III)V"⟩ : MethodName) = true := plainFor_of_name (by first | (simp [plainName, overriddenIn]; done) | decide +kernel)
set_option maxRecDepth 65536 in
set_option maxHeartbeats 40000000 in
theorem own_cbe (l : Launch) (Z : State) (a0 : Array Value) (hw : ∀ d ∈ tables_1, d.before a0 Z = true) (hEL : EW Z a0 consts_1) (n0 : Nat) (h : Heap) (hO : Old Z n0 h) (b n : Int32) (fm : Value) (hfm : Sta Z Z.heap "jdk/internal/util/Preconditions" "SIOOBE_FORMATTER" "Ljava/util/function/BiFunction;" fm) (rfm : fm.isRef = true) (hb : ¬ b < 0) (hbn : ¬ n < b) :
    oMet l Z consts_1 n0 (⟨"java/lang/String", "checkBoundsBeginEnd", "(III)V"⟩ : MethodName) jdk_42_method_158_code 3 none [] ({ frames := 1, cells := 0, slots := 0, locals := 15 } : Room) #[(.int (0 : Int32)), (.int b), (.int n)] h [] (fun v _ h' => h = h' ∧ v = none) := by
  refine oMet.of opn_own_cbe hO ?_
  intro p e s m below meth c T hx hby hml hret hnm hlk hh hsf A
  have hml : c.maxLocals = 3 := hml
  refine oCast (g' := mkF m 0 #[.val (.int (0 : Int32)), .val (.int b), .val (.int n)] []) (by first | (simp [entryFrame, mkF, argsToLocals, Value.category]; done) | rfl) ?_
  show oGo p e below _ (T.setTop (mkF m 0 #[.val (.int (0 : Int32)), .val (.int b), .val (.int n)] []))
  refine oSt (fun _ => XS.iloadN A.here hx rfl (Jvm.hb hby d_jdk_42_m158_0) rfl) ?_
  show oGo p e below _ (T.setTop (mkF m 1 #[.val (.int (0 : Int32)), .val (.int b), .val (.int n)] [(.int (0 : Int32))]))
  refine oSt (fun _ => XS.iloadN A.here hx rfl (Jvm.hb hby d_jdk_42_m158_1) rfl) ?_
  show oGo p e below _ (T.setTop (mkF m 2 #[.val (.int (0 : Int32)), .val (.int b), .val (.int n)] [(.int b), (.int (0 : Int32))]))
  refine oSt (fun _ => XS.iloadN A.here hx rfl (Jvm.hb hby d_jdk_42_m158_2) rfl) ?_
  show oGo p e below _ (T.setTop (mkF m 3 #[.val (.int (0 : Int32)), .val (.int b), .val (.int n)] [(.int n), (.int b), (.int (0 : Int32))]))
  obtain ⟨T, A, st⟩ := A.getS hx (host := "") (Or.inl (hw _ (List.mem_of_getElem? (i := 101) rfl))) Via.refl hfm (g := (mkF m 3 #[.val (.int (0 : Int32)), .val (.int b), .val (.int n)] [(.int n), (.int b), (.int (0 : Int32))])) rfl (Jvm.hb hby d_jdk_42_m158_3)
  refine oSt st ?_
  show oGo p e below _ (T.setTop (mkF m 6 #[.val (.int (0 : Int32)), .val (.int b), .val (.int n)] [fm, (.int n), (.int b), (.int (0 : Int32))]))
  obtain ⟨_, vm, T, h, L, A, K, CR, ⟨rfl, rfl⟩, st⟩ := A.callS hx (y := (⟨"jdk/internal/util/Preconditions", "checkFromToIndex", "(IIILjava/util/function/BiFunction;)I"⟩ : MethodName)) (hw _ (List.mem_of_getElem? (i := 103) rfl)) (hw _ (List.mem_of_getElem? (i := 104) rfl)) (hw _ (List.mem_of_getElem? (i := 102) rfl)) (hw _ (List.mem_of_getElem? (i := 105) rfl)) (by decide) hEL (argsL := [(.int (0 : Int32)), (.int b), (.int n), fm]) (rest := []) (own_cft l Z a0 hw hEL n0 _ A.oldn b n fm rfm hb hbn) (W := 0) (by decide) (by decide) (by decide) (by decide) all0 all0 all0 (g := (mkF m 6 #[.val (.int (0 : Int32)), .val (.int b), .val (.int n)] [fm, (.int n), (.int b), (.int (0 : Int32))])) rfl (by rw [hml]; rfl) (lenOf opd9 rfl) rfl (by show 2 * 0 + _ ≤ _; exact Nat.le_of_eq rfl) (Jvm.hb hby d_jdk_42_m158_6)
  refine oSt st ?_
  have X := oExt0 K
  show oGo p e below _ (T.setTop (mkF m 9 #[.val (.int (0 : Int32)), .val (.int b), .val (.int n)] [(.int (0 : Int32))]))
  refine oSt (fun _ => XS.pop A.here hx rfl (Jvm.hb hby d_jdk_42_m158_9) rfl rfl) ?_
  show oGo p e below _ (T.setTop (mkF m 10 #[.val (.int (0 : Int32)), .val (.int b), .val (.int n)] []))
  exact A.leave hlk hEL (v := none) (fun _ => rfl) (fun _ _ => ⟨rfl, rfl⟩) (by decide) (by decide) (fun fs hr => A.1.returnOut hx hret (Jvm.hb hby d_jdk_42_m158_10) hr)
theorem d_jdk_42_m92_0 : decode jdk_42_method_92_code 0 = .ok (.aload_n 0, 1) := by decide +kernel
theorem d_jdk_42_m92_1 : decode jdk_42_method_92_code 1 = .ok (.invokevirtual 505, 3) := by decide +kernel
theorem d_jdk_42_m92_4 : decode jdk_42_method_92_code 4 = .ok (.istore_n 3, 1) := by decide +kernel
theorem d_jdk_42_m92_5 : decode jdk_42_method_92_code 5 = .ok (.iload_n 1, 1) := by decide +kernel
theorem d_jdk_42_m92_6 : decode jdk_42_method_92_code 6 = .ok (.iload_n 2, 1) := by decide +kernel
theorem d_jdk_42_m92_7 : decode jdk_42_method_92_code 7 = .ok (.iload_n 3, 1) := by decide +kernel
theorem d_jdk_42_m92_8 : decode jdk_42_method_92_code 8 = .ok (.invokestatic 521, 3) := by decide +kernel
theorem d_jdk_42_m92_11 : decode jdk_42_method_92_code 11 = .ok (.iload_n 1, 1) := by decide +kernel
theorem d_jdk_42_m92_12 : decode jdk_42_method_92_code 12 = .ok (.ifCond .ne 10, 3) := by decide +kernel
theorem d_jdk_42_m92_15 : decode jdk_42_method_92_code 15 = .ok (.iload_n 2, 1) := by decide +kernel
theorem d_jdk_42_m92_16 : decode jdk_42_method_92_code 16 = .ok (.iload_n 3, 1) := by decide +kernel
theorem d_jdk_42_m92_17 : decode jdk_42_method_92_code 17 = .ok (.if_icmp .ne 5, 3) := by decide +kernel
theorem d_jdk_42_m92_20 : decode jdk_42_method_92_code 20 = .ok (.aload_n 0, 1) := by decide +kernel
theorem d_jdk_42_m92_21 : decode jdk_42_method_92_code 21 = .ok (.areturn, 1) := by decide +kernel
theorem d_jdk_42_m92_22 : decode jdk_42_method_92_code 22 = .ok (.iload_n 2, 1) := by decide +kernel
theorem d_jdk_42_m92_23 : decode jdk_42_method_92_code 23 = .ok (.iload_n 1, 1) := by decide +kernel
theorem d_jdk_42_m92_24 : decode jdk_42_method_92_code 24 = .ok (.isub, 1) := by decide +kernel
theorem d_jdk_42_m92_25 : decode jdk_42_method_92_code 25 = .ok (.istore 4, 2) := by decide +kernel
theorem d_jdk_42_m92_27 : decode jdk_42_method_92_code 27 = .ok (.aload_n 0, 1) := by decide +kernel
theorem d_jdk_42_m92_28 : decode jdk_42_method_92_code 28 = .ok (.invokevirtual 492, 3) := by decide +kernel
theorem d_jdk_42_m92_31 : decode jdk_42_method_92_code 31 = .ok (.ifCond .eq 16, 3) := by decide +kernel
theorem d_jdk_42_m92_34 : decode jdk_42_method_92_code 34 = .ok (.aload_n 0, 1) := by decide +kernel
theorem d_jdk_42_m92_35 : decode jdk_42_method_92_code 35 = .ok (.getfield 9, 3) := by decide +kernel
theorem d_jdk_42_m92_38 : decode jdk_42_method_92_code 38 = .ok (.iload_n 1, 1) := by decide +kernel
theorem d_jdk_42_m92_39 : decode jdk_42_method_92_code 39 = .ok (.iload 4, 2) := by decide +kernel
theorem d_jdk_42_m92_41 : decode jdk_42_method_92_code 41 = .ok (.invokestatic 685, 3) := by decide +kernel
theorem d_jdk_42_m92_44 : decode jdk_42_method_92_code 44 = .ok (.goto 13, 3) := by decide +kernel
theorem d_jdk_42_m92_47 : decode jdk_42_method_92_code 47 = .ok (.aload_n 0, 1) := by decide +kernel
theorem d_jdk_42_m92_48 : decode jdk_42_method_92_code 48 = .ok (.getfield 9, 3) := by decide +kernel
theorem d_jdk_42_m92_51 : decode jdk_42_method_92_code 51 = .ok (.iload_n 1, 1) := by decide +kernel
theorem d_jdk_42_m92_52 : decode jdk_42_method_92_code 52 = .ok (.iload 4, 2) := by decide +kernel
theorem d_jdk_42_m92_54 : decode jdk_42_method_92_code 54 = .ok (.invokestatic 689, 3) := by decide +kernel
theorem d_jdk_42_m92_57 : decode jdk_42_method_92_code 57 = .ok (.areturn, 1) := by decide +kernel
theorem opd10 : parseMethodDescriptor "(III)V" = some ⟨[.int, .int, .int], none⟩ := by decide +kernel
theorem opd11 : parseMethodDescriptor "([BII)Ljava/lang/String;" = some ⟨[(.array .byte), .int, .int], some (.object "java/lang/String")⟩ := by decide +kernel
theorem opn_own_sub : plainFor (⟨"java/lang/String", "substring", "(II)Ljava/lang/String;"⟩ : MethodName) = true := plainFor_of_name (by first | (simp [plainName, overriddenIn]; done) | decide +kernel)
set_option maxRecDepth 65536 in
set_option maxHeartbeats 40000000 in
theorem own_sub (l : Launch) (Z : State) (a0 : Array Value) (hw : ∀ d ∈ tables_1, d.before a0 Z = true) (hEL : EW Z a0 consts_1) (n0 : Nat) (h : Heap) (hO : Old Z n0 h) (x : Addr) (cs : List Int32) (i : Nat) (zc : Int32) (hcs : Sta Z Z.heap "java/lang/String" "COMPACT_STRINGS" "Z" (.int zc)) (hcz : ¬ zc = 0) (fm : Value) (hfm : Sta Z Z.heap "jdk/internal/util/Preconditions" "SIOOBE_FORMATTER" "Ljava/util/function/BiFunction;" fm) (rfm : fm.isRef = true) (hi : i < cs.length) (hlen : cs.length ≤ 4) (Q : oStr Z h x cs) :
    oMet l Z consts_1 n0 (⟨"java/lang/String", "substring", "(II)Ljava/lang/String;"⟩ : MethodName) jdk_42_method_92_code 5 (some (.object "java/lang/String")) [] ({ frames := 4, cells := 2, slots := 8, locals := 80 } : Room) #[(.ref x), (.int (0 : Int32)), (.int (Int32.ofNat i))] h [] (fun v _ h' => ∃ x, v = some (.ref x) ∧ oStr Z h' x (cs.take i)) := by
  refine oMet.of opn_own_sub hO ?_
  intro p e s m below meth c T hx hby hml hret hnm hlk hh hsf A
  have hml : c.maxLocals = 5 := hml
  refine oCast (g' := mkF m 0 #[.val (.ref x), .val (.int (0 : Int32)), .val (.int (Int32.ofNat i)), .unset, .unset] []) (by first | (simp [entryFrame, mkF, argsToLocals, Value.category]; done) | rfl) ?_
  have hln : ∀ d ∈ StrChars.Road.wordsLen, d.before a0 Z = true := fun d hd => hw d ((by decide +kernel : ∀ d ∈ StrChars.Road.wordsLen, d ∈ tables_1) d hd)
  have hni := own_nl hi (by omega)
  have e0 : ∀ x : Int32, x - 0 = x := fun x => by simp
  have hlt : ¬ Int32.ofNat cs.length < Int32.ofNat i := fun q => by
    rw [Int32.lt_iff_toInt_lt, Int32.toInt_ofNat_small (by omega), Int32.toInt_ofNat_small (by omega)] at q
    omega
  show oGo p e below _ (T.setTop (mkF m 0 #[.val (.ref x), .val (.int (0 : Int32)), .val (.int (Int32.ofNat i)), .unset, .unset] []))
  refine oSt (fun _ => XS.aloadN A.here hx rfl (Jvm.hb hby d_jdk_42_m92_0) rfl rfl) ?_
  show oGo p e below _ (T.setTop (mkF m 1 #[.val (.ref x), .val (.int (0 : Int32)), .val (.int (Int32.ofNat i)), .unset, .unset] [(.ref x)]))
  obtain ⟨T, A, st⟩ := A.sLen hx hln (hw _ (List.mem_of_getElem? (i := 7) rfl)) (hw _ (List.mem_of_getElem? (i := 47) rfl)) (hw _ (List.mem_of_getElem? (i := 48) rfl)) (hw _ (List.mem_of_getElem? (i := 50) rfl)) (hw _ (List.mem_of_getElem? (i := 49) rfl)) Q hcs hcz (W := 0) (by decide) (by decide) (by decide) (by decide) (g := (mkF m 1 #[.val (.ref x), .val (.int (0 : Int32)), .val (.int (Int32.ofNat i)), .unset, .unset] [(.ref x)])) rfl (by rw [hml]; rfl) rfl (by show 2 * 0 + _ ≤ _; exact Nat.le_of_eq rfl) (Jvm.hb hby d_jdk_42_m92_1)
  refine oSt st ?_
  show oGo p e below _ (T.setTop (mkF m 4 #[.val (.ref x), .val (.int (0 : Int32)), .val (.int (Int32.ofNat i)), .unset, .unset] [(.int (Int32.ofNat cs.length))]))
  refine oSt (fun _ => XS.istoreN A.here hx rfl (Jvm.hb hby d_jdk_42_m92_4) rfl (l' := #[.val (.ref x), .val (.int (0 : Int32)), .val (.int (Int32.ofNat i)), .val (.int (Int32.ofNat cs.length)), .unset]) rfl) ?_
  show oGo p e below _ (T.setTop (mkF m 5 #[.val (.ref x), .val (.int (0 : Int32)), .val (.int (Int32.ofNat i)), .val (.int (Int32.ofNat cs.length)), .unset] []))
  refine oSt (fun _ => XS.iloadN A.here hx rfl (Jvm.hb hby d_jdk_42_m92_5) rfl) ?_
  show oGo p e below _ (T.setTop (mkF m 6 #[.val (.ref x), .val (.int (0 : Int32)), .val (.int (Int32.ofNat i)), .val (.int (Int32.ofNat cs.length)), .unset] [(.int (0 : Int32))]))
  refine oSt (fun _ => XS.iloadN A.here hx rfl (Jvm.hb hby d_jdk_42_m92_6) rfl) ?_
  show oGo p e below _ (T.setTop (mkF m 7 #[.val (.ref x), .val (.int (0 : Int32)), .val (.int (Int32.ofNat i)), .val (.int (Int32.ofNat cs.length)), .unset] [(.int (Int32.ofNat i)), (.int (0 : Int32))]))
  refine oSt (fun _ => XS.iloadN A.here hx rfl (Jvm.hb hby d_jdk_42_m92_7) rfl) ?_
  show oGo p e below _ (T.setTop (mkF m 8 #[.val (.ref x), .val (.int (0 : Int32)), .val (.int (Int32.ofNat i)), .val (.int (Int32.ofNat cs.length)), .unset] [(.int (Int32.ofNat cs.length)), (.int (Int32.ofNat i)), (.int (0 : Int32))]))
  obtain ⟨_, vm, T, h, L, A, K, CR, ⟨rfl, rfl⟩, st⟩ := A.callS hx (y := (⟨"java/lang/String", "checkBoundsBeginEnd", "(III)V"⟩ : MethodName)) (hw _ (List.mem_of_getElem? (i := 98) rfl)) (hw _ (List.mem_of_getElem? (i := 99) rfl)) (hw _ (List.mem_of_getElem? (i := 8) rfl)) (hw _ (List.mem_of_getElem? (i := 100) rfl)) (by decide) hEL (argsL := [(.int (0 : Int32)), (.int (Int32.ofNat i)), (.int (Int32.ofNat cs.length))]) (rest := []) (own_cbe l Z a0 hw hEL n0 _ A.oldn _ _ fm hfm rfm hni.1 hlt) (W := 0) (by decide) (by decide) (by decide) (by decide) all0 all0 all0 (g := (mkF m 8 #[.val (.ref x), .val (.int (0 : Int32)), .val (.int (Int32.ofNat i)), .val (.int (Int32.ofNat cs.length)), .unset] [(.int (Int32.ofNat cs.length)), (.int (Int32.ofNat i)), (.int (0 : Int32))])) rfl (by rw [hml]; rfl) (lenOf opd10 rfl) rfl (by show 2 * 0 + _ ≤ _; exact Nat.le_of_eq rfl) (Jvm.hb hby d_jdk_42_m92_8)
  refine oSt st ?_
  have X := oExt0 K
  show oGo p e below _ (T.setTop (mkF m 11 #[.val (.ref x), .val (.int (0 : Int32)), .val (.int (Int32.ofNat i)), .val (.int (Int32.ofNat cs.length)), .unset] []))
  refine oSt (fun _ => XS.iloadN A.here hx rfl (Jvm.hb hby d_jdk_42_m92_11) rfl) ?_
  show oGo p e below _ (T.setTop (mkF m 12 #[.val (.ref x), .val (.int (0 : Int32)), .val (.int (Int32.ofNat i)), .val (.int (Int32.ofNat cs.length)), .unset] [(.int (0 : Int32))]))
  refine oSt (fun _ => XS.ifNo A.here hx rfl (Jvm.hb hby d_jdk_42_m92_12) rfl (Jvm.Free.XT.i0_ne_f rfl)) ?_
  show oGo p e below _ (T.setTop (mkF m 15 #[.val (.ref x), .val (.int (0 : Int32)), .val (.int (Int32.ofNat i)), .val (.int (Int32.ofNat cs.length)), .unset] []))
  refine oSt (fun _ => XS.iloadN A.here hx rfl (Jvm.hb hby d_jdk_42_m92_15) rfl) ?_
  show oGo p e below _ (T.setTop (mkF m 16 #[.val (.ref x), .val (.int (0 : Int32)), .val (.int (Int32.ofNat i)), .val (.int (Int32.ofNat cs.length)), .unset] [(.int (Int32.ofNat i))]))
  refine oSt (fun _ => XS.iloadN A.here hx rfl (Jvm.hb hby d_jdk_42_m92_16) rfl) ?_
  show oGo p e below _ (T.setTop (mkF m 17 #[.val (.ref x), .val (.int (0 : Int32)), .val (.int (Int32.ofNat i)), .val (.int (Int32.ofNat cs.length)), .unset] [(.int (Int32.ofNat cs.length)), (.int (Int32.ofNat i))]))
  refine oSt (fun _ => XS.icmpYes A.here hx rfl (pc0 := 17) (pc' := 22) rfl (Jvm.hb hby d_jdk_42_m92_17) rfl (Jvm.Free.XT.ii_ne_t (fun q => Int32.lt_irrefl (q ▸ hni.2))) (by decide) (by decide)) ?_
  show oGo p e below _ (T.setTop (mkF m 22 #[.val (.ref x), .val (.int (0 : Int32)), .val (.int (Int32.ofNat i)), .val (.int (Int32.ofNat cs.length)), .unset] []))
  refine oSt (fun _ => XS.iloadN A.here hx rfl (Jvm.hb hby d_jdk_42_m92_22) rfl) ?_
  show oGo p e below _ (T.setTop (mkF m 23 #[.val (.ref x), .val (.int (0 : Int32)), .val (.int (Int32.ofNat i)), .val (.int (Int32.ofNat cs.length)), .unset] [(.int (Int32.ofNat i))]))
  refine oSt (fun _ => XS.iloadN A.here hx rfl (Jvm.hb hby d_jdk_42_m92_23) rfl) ?_
  show oGo p e below _ (T.setTop (mkF m 24 #[.val (.ref x), .val (.int (0 : Int32)), .val (.int (Int32.ofNat i)), .val (.int (Int32.ofNat cs.length)), .unset] [(.int (0 : Int32)), (.int (Int32.ofNat i))]))
  refine oSt (fun _ => XS.isub A.here hx rfl (Jvm.hb hby d_jdk_42_m92_24) rfl) ?_
  show oGo p e below _ (T.setTop (mkF m 25 #[.val (.ref x), .val (.int (0 : Int32)), .val (.int (Int32.ofNat i)), .val (.int (Int32.ofNat cs.length)), .unset] [(.int ((Int32.ofNat i) - (0 : Int32)))]))
  refine oSt (fun _ => XS.istore A.here hx rfl (Jvm.hb hby d_jdk_42_m92_25) rfl (l' := #[.val (.ref x), .val (.int (0 : Int32)), .val (.int (Int32.ofNat i)), .val (.int (Int32.ofNat cs.length)), .val (.int ((Int32.ofNat i) - (0 : Int32)))]) rfl) ?_
  show oGo p e below _ (T.setTop (mkF m 27 #[.val (.ref x), .val (.int (0 : Int32)), .val (.int (Int32.ofNat i)), .val (.int (Int32.ofNat cs.length)), .val (.int ((Int32.ofNat i) - (0 : Int32)))] []))
  refine oSt (fun _ => XS.aloadN A.here hx rfl (Jvm.hb hby d_jdk_42_m92_27) rfl rfl) ?_
  show oGo p e below _ (T.setTop (mkF m 28 #[.val (.ref x), .val (.int (0 : Int32)), .val (.int (Int32.ofNat i)), .val (.int (Int32.ofNat cs.length)), .val (.int ((Int32.ofNat i) - (0 : Int32)))] [(.ref x)]))
  rw [e0]
  show oGo p e below _ (T.setTop (mkF m 28 #[.val (.ref x), .val (.int (0 : Int32)), .val (.int (Int32.ofNat i)), .val (.int (Int32.ofNat cs.length)), .val (.int (Int32.ofNat i))] [(.ref x)]))
  obtain ⟨_, vm, T, h, L, A, K, CR, ⟨rfl, rfl⟩, st⟩ := A.callV hx (y := (⟨"java/lang/String", "isLatin1", "()Z"⟩ : MethodName)) (z := (⟨"java/lang/String", "isLatin1", "()Z"⟩ : MethodName)) (hw _ (List.mem_of_getElem? (i := 41) rfl)) (hw _ (List.mem_of_getElem? (i := 42) rfl)) (A.nf (hw _ (List.mem_of_getElem? (i := 44) rfl))) (hw _ (List.mem_of_getElem? (i := 44) rfl)) (hw _ (List.mem_of_getElem? (i := 43) rfl)) (hw _ (List.mem_of_getElem? (i := 8) rfl)) (hw _ (List.mem_of_getElem? (i := 45) rfl)) (by decide) hEL (a := x) (argsL := []) (rest := []) (own_isl l Z a0 hw hEL n0 _ A.oldn x cs zc hcs hcz Q) Q.exa (W := 0) (by decide) (by decide) (by decide) (by decide) all0 all0 all0 (g := (mkF m 28 #[.val (.ref x), .val (.int (0 : Int32)), .val (.int (Int32.ofNat i)), .val (.int (Int32.ofNat cs.length)), .val (.int (Int32.ofNat i))] [(.ref x)])) rfl (by rw [hml]; rfl) (lenOf opd4 rfl) rfl (by show 2 * 0 + _ ≤ _; exact Nat.le_of_eq rfl) (Jvm.hb hby d_jdk_42_m92_28)
  refine oSt st ?_
  have X := oExt0 K
  show oGo p e below _ (T.setTop (mkF m 31 #[.val (.ref x), .val (.int (0 : Int32)), .val (.int (Int32.ofNat i)), .val (.int (Int32.ofNat cs.length)), .val (.int (Int32.ofNat i))] [(.int (1 : Int32))]))
  refine oSt (fun _ => XS.ifNo A.here hx rfl (Jvm.hb hby d_jdk_42_m92_31) rfl (Jvm.Free.XT.i0_eq_f (by decide))) ?_
  show oGo p e below _ (T.setTop (mkF m 34 #[.val (.ref x), .val (.int (0 : Int32)), .val (.int (Int32.ofNat i)), .val (.int (Int32.ofNat cs.length)), .val (.int (Int32.ofNat i))] []))
  refine oSt (fun _ => XS.aloadN A.here hx rfl (Jvm.hb hby d_jdk_42_m92_34) rfl rfl) ?_
  show oGo p e below _ (T.setTop (mkF m 35 #[.val (.ref x), .val (.int (0 : Int32)), .val (.int (Int32.ofNat i)), .val (.int (Int32.ofNat cs.length)), .val (.int (Int32.ofNat i))] [(.ref x)]))
  obtain ⟨r1, r2, t, k, e1, e2, e3, e4⟩ := id Q
  obtain ⟨T, A, st⟩ := A.getF hx (host := "") (Or.inl (hw _ (List.mem_of_getElem? (i := 25) rfl))) Via.refl e2 (g := (mkF m 35 #[.val (.ref x), .val (.int (0 : Int32)), .val (.int (Int32.ofNat i)), .val (.int (Int32.ofNat cs.length)), .val (.int (Int32.ofNat i))] [(.ref x)])) rfl rfl (Jvm.hb hby d_jdk_42_m92_35)
  refine oSt st ?_
  show oGo p e below _ (T.setTop (mkF m 38 #[.val (.ref x), .val (.int (0 : Int32)), .val (.int (Int32.ofNat i)), .val (.int (Int32.ofNat cs.length)), .val (.int (Int32.ofNat i))] [(.ref t)]))
  refine oSt (fun _ => XS.iloadN A.here hx rfl (Jvm.hb hby d_jdk_42_m92_38) rfl) ?_
  show oGo p e below _ (T.setTop (mkF m 39 #[.val (.ref x), .val (.int (0 : Int32)), .val (.int (Int32.ofNat i)), .val (.int (Int32.ofNat cs.length)), .val (.int (Int32.ofNat i))] [(.int (0 : Int32)), (.ref t)]))
  refine oSt (fun _ => XS.iload A.here hx rfl (Jvm.hb hby d_jdk_42_m92_39) rfl) ?_
  show oGo p e below _ (T.setTop (mkF m 41 #[.val (.ref x), .val (.int (0 : Int32)), .val (.int (Int32.ofNat i)), .val (.int (Int32.ofNat cs.length)), .val (.int (Int32.ofNat i))] [(.int (Int32.ofNat i)), (.int (0 : Int32)), (.ref t)]))
  obtain ⟨_, vm, T, h, L, A, K, CR, ⟨z, rfl, Q_z⟩, st⟩ := A.callS hx (y := (⟨"java/lang/StringLatin1", "newString", "([BII)Ljava/lang/String;"⟩ : MethodName)) (hw _ (List.mem_of_getElem? (i := 106) rfl)) (hw _ (List.mem_of_getElem? (i := 107) rfl)) (hw _ (List.mem_of_getElem? (i := 59) rfl)) (hw _ (List.mem_of_getElem? (i := 108) rfl)) (by decide) hEL (argsL := [(.ref t), (.int (0 : Int32)), (.int (Int32.ofNat i))]) (rest := []) (own_nst l Z a0 hw hEL n0 _ A.oldn t k cs i hi hlen e4 r1) (W := 0) (by decide) (by decide) (by decide) (by decide) all0 all0 all0 (g := (mkF m 41 #[.val (.ref x), .val (.int (0 : Int32)), .val (.int (Int32.ofNat i)), .val (.int (Int32.ofNat cs.length)), .val (.int (Int32.ofNat i))] [(.int (Int32.ofNat i)), (.int (0 : Int32)), (.ref t)])) rfl (by rw [hml]; rfl) (lenOf opd11 rfl) rfl (by show 2 * 0 + _ ≤ _; exact Nat.le_of_eq rfl) (Jvm.hb hby d_jdk_42_m92_41)
  refine oSt st ?_
  have X := oExt0 K
  show oGo p e below _ (T.setTop (mkF m 44 #[.val (.ref x), .val (.int (0 : Int32)), .val (.int (Int32.ofNat i)), .val (.int (Int32.ofNat cs.length)), .val (.int (Int32.ofNat i))] [(.ref z)]))
  refine oSt (fun _ => XS.goto A.here hx rfl (pc0 := 44) (pc' := 57) rfl (Jvm.hb hby d_jdk_42_m92_44) (by decide) (by decide)) ?_
  show oGo p e below _ (T.setTop (mkF m 57 #[.val (.ref x), .val (.int (0 : Int32)), .val (.int (Int32.ofNat i)), .val (.int (Int32.ofNat cs.length)), .val (.int (Int32.ofNat i))] [(.ref z)]))
  exact A.leave hlk hEL (v := some (.ref z)) (fun h => by rw [hret] at h; cases h) (fun _ _ => ⟨z, rfl, Q_z⟩) (by decide) (by decide) (fun fs hr => retOut A.1 hx hret rfl (Or.inr (Or.inr (Or.inr (Or.inr ⟨rfl, rfl, rfl⟩)))) (Jvm.hb hby d_jdk_42_m92_57) hr)
theorem d_prog_9_m6_0 : decode prog_9_method_6_code 0 = .ok (.aload_n 0, 1) := by decide +kernel
theorem d_prog_9_m6_1 : decode prog_9_method_6_code 1 = .ok (.bipush 35, 2) := by decide +kernel
theorem d_prog_9_m6_3 : decode prog_9_method_6_code 3 = .ok (.invokevirtual 81, 3) := by decide +kernel
theorem d_prog_9_m6_6 : decode prog_9_method_6_code 6 = .ok (.istore_n 1, 1) := by decide +kernel
theorem d_prog_9_m6_7 : decode prog_9_method_6_code 7 = .ok (.iload_n 1, 1) := by decide +kernel
theorem d_prog_9_m6_8 : decode prog_9_method_6_code 8 = .ok (.ifCond .ge 7, 3) := by decide +kernel
theorem d_prog_9_m6_11 : decode prog_9_method_6_code 11 = .ok (.aload_n 0, 1) := by decide +kernel
theorem d_prog_9_m6_12 : decode prog_9_method_6_code 12 = .ok (.goto 9, 3) := by decide +kernel
theorem d_prog_9_m6_15 : decode prog_9_method_6_code 15 = .ok (.aload_n 0, 1) := by decide +kernel
theorem d_prog_9_m6_16 : decode prog_9_method_6_code 16 = .ok (.iconst 0, 1) := by decide +kernel
theorem d_prog_9_m6_17 : decode prog_9_method_6_code 17 = .ok (.iload_n 1, 1) := by decide +kernel
theorem d_prog_9_m6_18 : decode prog_9_method_6_code 18 = .ok (.invokevirtual 85, 3) := by decide +kernel
theorem d_prog_9_m6_21 : decode prog_9_method_6_code 21 = .ok (.areturn, 1) := by decide +kernel
theorem opd12 : parseMethodDescriptor "(I)I" = some ⟨[.int], some .int⟩ := by decide +kernel
theorem opd13 : parseMethodDescriptor "(II)Ljava/lang/String;" = some ⟨[.int, .int], some (.object "java/lang/String")⟩ := by decide +kernel
theorem opn_own_wof : plainFor (⟨"com/example/applicator/applicator/Iri", "withoutFragment", "(Ljava/lang/String;)Ljava/lang/String;"⟩ : MethodName) = true := plainFor_of_name (by first | (simp [plainName, overriddenIn]; done) | decide +kernel)
set_option maxRecDepth 65536 in
set_option maxHeartbeats 40000000 in
theorem own_wof (l : Launch) (Z : State) (a0 : Array Value) (hw : ∀ d ∈ tables_1, d.before a0 Z = true) (hEL : EW Z a0 consts_1) (n0 : Nat) (h : Heap) (hO : Old Z n0 h) (x : Addr) (cs : List Int32) (zc : Int32) (hcs : Sta Z Z.heap "java/lang/String" "COMPACT_STRINGS" "Z" (.int zc)) (hcz : ¬ zc = 0) (fm : Value) (hfm : Sta Z Z.heap "jdk/internal/util/Preconditions" "SIOOBE_FORMATTER" "Ljava/util/function/BiFunction;" fm) (rfm : fm.isRef = true) (hlen : cs.length ≤ 4) (Q : oStr Z h x cs) :
    oMet l Z consts_1 n0 (⟨"com/example/applicator/applicator/Iri", "withoutFragment", "(Ljava/lang/String;)Ljava/lang/String;"⟩ : MethodName) prog_9_method_6_code 2 (some (.object "java/lang/String")) [] ({ frames := 5, cells := 2, slots := 8, locals := 98 } : Room) #[(.ref x)] h [] (fun v _ h' => ∃ z, v = some (.ref z) ∧ oStr Z h' z (own_wo cs)) := by
  refine oMet.of opn_own_wof hO ?_
  intro p e s m below meth c T hx hby hml hret hnm hlk hh hsf A
  have hml : c.maxLocals = 2 := hml
  refine oCast (g' := mkF m 0 #[.val (.ref x), .unset] []) (by first | (simp [entryFrame, mkF, argsToLocals, Value.category]; done) | rfl) ?_
  show oGo p e below _ (T.setTop (mkF m 0 #[.val (.ref x), .unset] []))
  refine oSt (fun _ => XS.aloadN A.here hx rfl (Jvm.hb hby d_prog_9_m6_0) rfl rfl) ?_
  show oGo p e below _ (T.setTop (mkF m 1 #[.val (.ref x), .unset] [(.ref x)]))
  refine oSt (fun _ => XS.bipush A.here hx rfl (Jvm.hb hby d_prog_9_m6_1)) ?_
  show oGo p e below _ (T.setTop (mkF m 3 #[.val (.ref x), .unset] [(.int (35 : Int32)), (.ref x)]))
  obtain ⟨_, vm, T, h, L, A, K, CR, ⟨rfl, rfl⟩, st⟩ := A.callV hx (y := (⟨"java/lang/String", "indexOf", "(I)I"⟩ : MethodName)) (z := (⟨"java/lang/String", "indexOf", "(I)I"⟩ : MethodName)) (hw _ (List.mem_of_getElem? (i := 31) rfl)) (hw _ (List.mem_of_getElem? (i := 32) rfl)) (A.nf (hw _ (List.mem_of_getElem? (i := 34) rfl))) (hw _ (List.mem_of_getElem? (i := 34) rfl)) (hw _ (List.mem_of_getElem? (i := 33) rfl)) (hw _ (List.mem_of_getElem? (i := 8) rfl)) (hw _ (List.mem_of_getElem? (i := 35) rfl)) (by decide) hEL (a := x) (argsL := [(.int (35 : Int32))]) (rest := []) (own_ix l Z a0 hw hEL n0 _ A.oldn x 35 cs zc hcs hcz (by decide) Q) Q.exa (W := 0) (by decide) (by decide) (by decide) (by decide) all0 all0 all0 (g := (mkF m 3 #[.val (.ref x), .unset] [(.int (35 : Int32)), (.ref x)])) rfl (by rw [hml]; rfl) (lenOf opd12 rfl) rfl (by show 2 * 0 + _ ≤ _; exact Nat.le_of_eq rfl) (Jvm.hb hby d_prog_9_m6_3)
  refine oSt st ?_
  have X := oExt0 K
  show oGo p e below _ (T.setTop (mkF m 6 #[.val (.ref x), .unset] [(.int (own_find (35 : Int32) cs 0))]))
  refine oSt (fun _ => XS.istoreN A.here hx rfl (Jvm.hb hby d_prog_9_m6_6) rfl (l' := #[.val (.ref x), .val (.int (own_find (35 : Int32) cs 0))]) rfl) ?_
  show oGo p e below _ (T.setTop (mkF m 7 #[.val (.ref x), .val (.int (own_find (35 : Int32) cs 0))] []))
  refine oSt (fun _ => XS.iloadN A.here hx rfl (Jvm.hb hby d_prog_9_m6_7) rfl) ?_
  show oGo p e below _ (T.setTop (mkF m 8 #[.val (.ref x), .val (.int (own_find (35 : Int32) cs 0))] [(.int (own_find (35 : Int32) cs 0))]))
  by_cases h1 : own_find (35 : Int32) cs 0 < 0
  · refine oSt (fun _ => XS.ifNo A.here hx rfl (Jvm.hb hby d_prog_9_m6_8) rfl (Jvm.Free.XT.i0_ge_f h1)) ?_
    show oGo p e below _ (T.setTop (mkF m 11 #[.val (.ref x), .val (.int (own_find (35 : Int32) cs 0))] []))
    refine oSt (fun _ => XS.aloadN A.here hx rfl (Jvm.hb hby d_prog_9_m6_11) rfl rfl) ?_
    show oGo p e below _ (T.setTop (mkF m 12 #[.val (.ref x), .val (.int (own_find (35 : Int32) cs 0))] [(.ref x)]))
    refine oSt (fun _ => XS.goto A.here hx rfl (pc0 := 12) (pc' := 21) rfl (Jvm.hb hby d_prog_9_m6_12) (by decide) (by decide)) ?_
    show oGo p e below _ (T.setTop (mkF m 21 #[.val (.ref x), .val (.int (own_find (35 : Int32) cs 0))] [(.ref x)]))
    exact A.leave hlk hEL (v := some (.ref x)) (fun h => by rw [hret] at h; cases h) (fun _ _ => ⟨x, rfl, by rw [own_wo, if_pos h1]; exact Q⟩) (by decide) (by decide) (fun fs hr => retOut A.1 hx hret rfl (Or.inr (Or.inr (Or.inr (Or.inr ⟨rfl, rfl, rfl⟩)))) (Jvm.hb hby d_prog_9_m6_21) hr)
  · refine oSt (fun _ => XS.ifYes A.here hx rfl (pc0 := 8) (pc' := 15) rfl (Jvm.hb hby d_prog_9_m6_8) rfl (Jvm.Free.XT.i0_ge_t h1) (by decide) (by decide)) ?_
    show oGo p e below _ (T.setTop (mkF m 15 #[.val (.ref x), .val (.int (own_find (35 : Int32) cs 0))] []))
    refine oSt (fun _ => XS.aloadN A.here hx rfl (Jvm.hb hby d_prog_9_m6_15) rfl rfl) ?_
    show oGo p e below _ (T.setTop (mkF m 16 #[.val (.ref x), .val (.int (own_find (35 : Int32) cs 0))] [(.ref x)]))
    refine oSt (fun _ => XS.iconst A.here hx rfl (Jvm.hb hby d_prog_9_m6_16)) ?_
    show oGo p e below _ (T.setTop (mkF m 17 #[.val (.ref x), .val (.int (own_find (35 : Int32) cs 0))] [(.int (0 : Int32)), (.ref x)]))
    refine oSt (fun _ => XS.iloadN A.here hx rfl (Jvm.hb hby d_prog_9_m6_17) rfl) ?_
    show oGo p e below _ (T.setTop (mkF m 18 #[.val (.ref x), .val (.int (own_find (35 : Int32) cs 0))] [(.int (own_find (35 : Int32) cs 0)), (.int (0 : Int32)), (.ref x)]))
    obtain ⟨i, hi, hq⟩ : ∃ i, i < cs.length ∧ own_find (35 : Int32) cs 0 = Int32.ofNat i := by
      rcases own_fd cs 0 (by omega) with q | ⟨k, hk, q⟩
      · exact absurd q h1
      · exact ⟨k, hk, by rw [q, Nat.zero_add]⟩
    have hwo : own_wo cs = cs.take i := by rw [own_wo, if_neg h1, hq, own_n32 (by omega)]
    rw [hwo, hq]
    show oGo p e below _ (T.setTop (mkF m 18 #[.val (.ref x), .val (.int (Int32.ofNat i))] [(.int (Int32.ofNat i)), (.int (0 : Int32)), (.ref x)]))
    obtain ⟨_, vm, T, h, L, A, K, CR, ⟨z, rfl, Q_z⟩, st⟩ := A.callV hx (y := (⟨"java/lang/String", "substring", "(II)Ljava/lang/String;"⟩ : MethodName)) (z := (⟨"java/lang/String", "substring", "(II)Ljava/lang/String;"⟩ : MethodName)) (hw _ (List.mem_of_getElem? (i := 93) rfl)) (hw _ (List.mem_of_getElem? (i := 94) rfl)) (A.nf (hw _ (List.mem_of_getElem? (i := 96) rfl))) (hw _ (List.mem_of_getElem? (i := 96) rfl)) (hw _ (List.mem_of_getElem? (i := 95) rfl)) (hw _ (List.mem_of_getElem? (i := 8) rfl)) (hw _ (List.mem_of_getElem? (i := 97) rfl)) (by decide) hEL (a := x) (argsL := [(.int (0 : Int32)), (.int (Int32.ofNat i))]) (rest := []) (own_sub l Z a0 hw hEL n0 _ A.oldn x cs i zc hcs hcz fm hfm rfm hi hlen Q) Q.exa (W := 0) (by decide) (by decide) (by decide) (by decide) all0 all0 all0 (g := (mkF m 18 #[.val (.ref x), .val (.int (Int32.ofNat i))] [(.int (Int32.ofNat i)), (.int (0 : Int32)), (.ref x)])) rfl (by rw [hml]; rfl) (lenOf opd13 rfl) rfl (by show 2 * 0 + _ ≤ _; exact Nat.le_of_eq rfl) (Jvm.hb hby d_prog_9_m6_18)
    refine oSt st ?_
    have X := oExt0 K
    show oGo p e below _ (T.setTop (mkF m 21 #[.val (.ref x), .val (.int (Int32.ofNat i))] [(.ref z)]))
    exact A.leave hlk hEL (v := some (.ref z)) (fun h => by rw [hret] at h; cases h) (fun _ _ => ⟨z, rfl, Q_z⟩) (by decide) (by decide) (fun fs hr => retOut A.1 hx hret rfl (Or.inr (Or.inr (Or.inr (Or.inr ⟨rfl, rfl, rfl⟩)))) (Jvm.hb hby d_prog_9_m6_21) hr)
theorem opd14 : parseMethodDescriptor "(I)C" = some ⟨[.int], some .char⟩ := by decide +kernel
theorem opd15 : parseMethodDescriptor "(Ljava/lang/String;)Ljava/lang/String;" = some ⟨[(.object "java/lang/String")], some (.object "java/lang/String")⟩ := by decide +kernel
theorem own_wo0 {n x0 x1 x2 x3 : Int32} (rn : own_R5 n) (c : (0 : Int32) < n) (d : x0 = (35 : Int32)) : own_wo (own_mk n x0 x1 x2 x3) = own_mk 0 x0 x1 x2 x3 := by
  rcases rn with rfl | rfl | rfl | rfl | rfl <;> simp_all [own_wo, own_mk, own_find] <;> decide
theorem own_wo1 {n x0 x1 x2 x3 : Int32} (rn : own_R5 n) (c : (1 : Int32) < n) (d : x1 = (35 : Int32)) (g0 : ¬ ((0 : Int32) < n ∧ x0 = (35 : Int32))) : own_wo (own_mk n x0 x1 x2 x3) = own_mk 1 x0 x1 x2 x3 := by
  rcases rn with rfl | rfl | rfl | rfl | rfl <;> simp_all [own_wo, own_mk, own_find] <;> decide
theorem own_wo2 {n x0 x1 x2 x3 : Int32} (rn : own_R5 n) (c : (2 : Int32) < n) (d : x2 = (35 : Int32)) (g0 : ¬ ((0 : Int32) < n ∧ x0 = (35 : Int32))) (g1 : ¬ ((1 : Int32) < n ∧ x1 = (35 : Int32))) : own_wo (own_mk n x0 x1 x2 x3) = own_mk 2 x0 x1 x2 x3 := by
  rcases rn with rfl | rfl | rfl | rfl | rfl <;> simp_all [own_wo, own_mk, own_find] <;> decide
theorem own_wo3 {n x0 x1 x2 x3 : Int32} (rn : own_R5 n) (c : (3 : Int32) < n) (d : x3 = (35 : Int32)) (g0 : ¬ ((0 : Int32) < n ∧ x0 = (35 : Int32))) (g1 : ¬ ((1 : Int32) < n ∧ x1 = (35 : Int32))) (g2 : ¬ ((2 : Int32) < n ∧ x2 = (35 : Int32))) : own_wo (own_mk n x0 x1 x2 x3) = own_mk 3 x0 x1 x2 x3 := by
  rcases rn with rfl | rfl | rfl | rfl | rfl <;> simp_all [own_wo, own_mk, own_find] <;> decide
theorem own_woN {n x0 x1 x2 x3 : Int32} (rn : own_R5 n) (g0 : ¬ ((0 : Int32) < n ∧ x0 = (35 : Int32))) (g1 : ¬ ((1 : Int32) < n ∧ x1 = (35 : Int32))) (g2 : ¬ ((2 : Int32) < n ∧ x2 = (35 : Int32))) (g3 : ¬ ((3 : Int32) < n ∧ x3 = (35 : Int32))) : own_wo (own_mk n x0 x1 x2 x3) = own_mk n x0 x1 x2 x3 := by
  rcases rn with rfl | rfl | rfl | rfl | rfl <;> simp_all [own_wo, own_mk, own_find]
theorem opn_own_law : plainFor x = true := plainFor_of_name (by first | (simp [plainName, overriddenIn, x]; done) | decide +kernel)
set_option maxRecDepth 65536 in
set_option maxHeartbeats 40000000 in
theorem own_law (l : Launch) (Z : State) (a0 : Array Value) (hw : ∀ d ∈ tables_1, d.before a0 Z = true) (hEL : EW Z a0 consts_1) (n0 : Nat) (h : Heap) (hO : Old Z n0 h) (i0 i1 i2 i3 i4 : Int32) (zc : Int32) (hcs : Sta Z Z.heap "java/lang/String" "COMPACT_STRINGS" "Z" (.int zc)) (hcz : ¬ zc = 0) (fm : Value) (hfm : Sta Z Z.heap "jdk/internal/util/Preconditions" "SIOOBE_FORMATTER" "Ljava/util/function/BiFunction;" fm) (rfm : fm.isRef = true) :
    oMet l Z consts_1 n0 x code maxLocals ret tables_1 room_1 #[(.int i0), (.int i1), (.int i2), (.int i3), (.int i4)] h [] (fun v _ h => v = some (.int 1)) := by
  refine oMet.of opn_own_law hO ?_
  intro p e s m below meth c T hx hby hml hret hnm hlk hh hsf A
  have hml : c.maxLocals = 14 := hml
  refine oCast (g' := mkF m 0 #[.val (.int i0), .val (.int i1), .val (.int i2), .val (.int i3), .val (.int i4), .unset, .unset, .unset, .unset, .unset, .unset, .unset, .unset, .unset] []) (by first | (simp [entryFrame, mkF, argsToLocals, Value.category, maxLocals]; done) | rfl) ?_
  have hws : ∀ d ∈ StrChars.Road.words, d.before a0 Z = true := fun d hd => hw d ((by decide +kernel : ∀ d ∈ StrChars.Road.words, d ∈ tables_1) d hd)
  have heq : ∀ d ∈ StrChars.Road.wordsEq, d.before a0 Z = true := fun d hd => hw d ((by decide +kernel : ∀ d ∈ StrChars.Road.wordsEq, d ∈ tables_1) d hd)
  show oGo p e below _ (T.setTop (mkF m 0 #[.val (.int i0), .val (.int i1), .val (.int i2), .val (.int i3), .val (.int i4), .unset, .unset, .unset, .unset, .unset, .unset, .unset, .unset, .unset] []))
  refine oSt (fun _ => XS.iload A.here hx rfl (Jvm.hb hby at_0) rfl) ?_
  show oGo p e below _ (T.setTop (mkF m 2 #[.val (.int i0), .val (.int i1), .val (.int i2), .val (.int i3), .val (.int i4), .unset, .unset, .unset, .unset, .unset, .unset, .unset, .unset, .unset] [(.int i4)]))
  refine oSt (A.ldcI hx (hw _ (List.mem_of_getElem? (i := 0) rfl)) (g := (mkF m 2 #[.val (.int i0), .val (.int i1), .val (.int i2), .val (.int i3), .val (.int i4), .unset, .unset, .unset, .unset, .unset, .unset, .unset, .unset, .unset] [(.int i4)])) rfl (Jvm.hb hby at_2)) ?_
  show oGo p e below _ (T.setTop (mkF m 4 #[.val (.int i0), .val (.int i1), .val (.int i2), .val (.int i3), .val (.int i4), .unset, .unset, .unset, .unset, .unset, .unset, .unset, .unset, .unset] [(.int (2147483647 : Int32)), (.int i4)]))
  refine oSt (fun _ => XS.iand A.here hx rfl (Jvm.hb hby at_4) rfl) ?_
  show oGo p e below _ (T.setTop (mkF m 5 #[.val (.int i0), .val (.int i1), .val (.int i2), .val (.int i3), .val (.int i4), .unset, .unset, .unset, .unset, .unset, .unset, .unset, .unset, .unset] [(.int (i4 &&& (2147483647 : Int32)))]))
  refine oSt (fun _ => XS.iconst A.here hx rfl (Jvm.hb hby at_5)) ?_
  show oGo p e below _ (T.setTop (mkF m 6 #[.val (.int i0), .val (.int i1), .val (.int i2), .val (.int i3), .val (.int i4), .unset, .unset, .unset, .unset, .unset, .unset, .unset, .unset, .unset] [(.int (5 : Int32)), (.int (i4 &&& (2147483647 : Int32)))]))
  refine oSt (fun _ => iremM A.1 hx rfl (Jvm.hb hby at_6) rfl (by decide)) ?_
  show oGo p e below _ (T.setTop (mkF m 7 #[.val (.int i0), .val (.int i1), .val (.int i2), .val (.int i3), .val (.int i4), .unset, .unset, .unset, .unset, .unset, .unset, .unset, .unset, .unset] [(.int ((i4 &&& (2147483647 : Int32)) % (5 : Int32)))]))
  refine oSt (fun _ => XS.istore A.here hx rfl (Jvm.hb hby at_7) rfl (l' := #[.val (.int i0), .val (.int i1), .val (.int i2), .val (.int i3), .val (.int i4), .val (.int ((i4 &&& (2147483647 : Int32)) % (5 : Int32))), .unset, .unset, .unset, .unset, .unset, .unset, .unset, .unset]) rfl) ?_
  show oGo p e below _ (T.setTop (mkF m 9 #[.val (.int i0), .val (.int i1), .val (.int i2), .val (.int i3), .val (.int i4), .val (.int ((i4 &&& (2147483647 : Int32)) % (5 : Int32))), .unset, .unset, .unset, .unset, .unset, .unset, .unset, .unset] []))
  refine oSt (fun _ => XS.iloadN A.here hx rfl (Jvm.hb hby at_9) rfl) ?_
  show oGo p e below _ (T.setTop (mkF m 10 #[.val (.int i0), .val (.int i1), .val (.int i2), .val (.int i3), .val (.int i4), .val (.int ((i4 &&& (2147483647 : Int32)) % (5 : Int32))), .unset, .unset, .unset, .unset, .unset, .unset, .unset, .unset] [(.int i0)]))
  generalize e_n : ((i4 &&& (2147483647 : Int32)) % (5 : Int32)) = n
  show oGo p e below _ (T.setTop (mkF m 10 #[.val (.int i0), .val (.int i1), .val (.int i2), .val (.int i3), .val (.int i4), .val (.int n), .unset, .unset, .unset, .unset, .unset, .unset, .unset, .unset] [(.int i0)]))
  have rn : own_R5 n := by rw [← e_n]; exact own_rem _
  obtain ⟨_, vm, T, h, L, A, K, CR, ⟨rfl, x0, hb0, rfl⟩, st⟩ := A.callS hx (y := (⟨"com/example/applicator/applicator/IriWithoutFragmentPinLaw", "ch", "(I)C"⟩ : MethodName)) (hw _ (List.mem_of_getElem? (i := 1) rfl)) (hw _ (List.mem_of_getElem? (i := 2) rfl)) (hw _ (List.mem_of_getElem? (i := 3) rfl)) (hw _ (List.mem_of_getElem? (i := 4) rfl)) (by decide) hEL (argsL := [(.int i0)]) (rest := []) (own_ch l Z a0 hw hEL n0 _ A.oldn _) (W := 0) (by decide) (by decide) (by decide) (by decide) all0 all0 all0 (g := (mkF m 10 #[.val (.int i0), .val (.int i1), .val (.int i2), .val (.int i3), .val (.int i4), .val (.int n), .unset, .unset, .unset, .unset, .unset, .unset, .unset, .unset] [(.int i0)])) rfl (by rw [hml]; rfl) (lenOf opd14 rfl) rfl (by show 2 * 0 + _ ≤ _; exact Nat.le_of_eq rfl) (Jvm.hb hby at_10)
  refine oSt st ?_
  have X := oExt0 K
  show oGo p e below _ (T.setTop (mkF m 13 #[.val (.int i0), .val (.int i1), .val (.int i2), .val (.int i3), .val (.int i4), .val (.int n), .unset, .unset, .unset, .unset, .unset, .unset, .unset, .unset] [(.int x0)]))
  refine oSt (fun _ => XS.istore A.here hx rfl (Jvm.hb hby at_13) rfl (l' := #[.val (.int i0), .val (.int i1), .val (.int i2), .val (.int i3), .val (.int i4), .val (.int n), .val (.int x0), .unset, .unset, .unset, .unset, .unset, .unset, .unset]) rfl) ?_
  show oGo p e below _ (T.setTop (mkF m 15 #[.val (.int i0), .val (.int i1), .val (.int i2), .val (.int i3), .val (.int i4), .val (.int n), .val (.int x0), .unset, .unset, .unset, .unset, .unset, .unset, .unset] []))
  refine oSt (fun _ => XS.iloadN A.here hx rfl (Jvm.hb hby at_15) rfl) ?_
  show oGo p e below _ (T.setTop (mkF m 16 #[.val (.int i0), .val (.int i1), .val (.int i2), .val (.int i3), .val (.int i4), .val (.int n), .val (.int x0), .unset, .unset, .unset, .unset, .unset, .unset, .unset] [(.int i1)]))
  obtain ⟨_, vm, T, h, L, A, K, CR, ⟨rfl, x1, hb1, rfl⟩, st⟩ := A.callS hx (y := (⟨"com/example/applicator/applicator/IriWithoutFragmentPinLaw", "ch", "(I)C"⟩ : MethodName)) (hw _ (List.mem_of_getElem? (i := 1) rfl)) (hw _ (List.mem_of_getElem? (i := 2) rfl)) (hw _ (List.mem_of_getElem? (i := 3) rfl)) (hw _ (List.mem_of_getElem? (i := 4) rfl)) (by decide) hEL (argsL := [(.int i1)]) (rest := []) (own_ch l Z a0 hw hEL n0 _ A.oldn _) (W := 0) (by decide) (by decide) (by decide) (by decide) all0 all0 all0 (g := (mkF m 16 #[.val (.int i0), .val (.int i1), .val (.int i2), .val (.int i3), .val (.int i4), .val (.int n), .val (.int x0), .unset, .unset, .unset, .unset, .unset, .unset, .unset] [(.int i1)])) rfl (by rw [hml]; rfl) (lenOf opd14 rfl) rfl (by show 2 * 0 + _ ≤ _; exact Nat.le_of_eq rfl) (Jvm.hb hby at_16)
  refine oSt st ?_
  have X := oExt0 K
  show oGo p e below _ (T.setTop (mkF m 19 #[.val (.int i0), .val (.int i1), .val (.int i2), .val (.int i3), .val (.int i4), .val (.int n), .val (.int x0), .unset, .unset, .unset, .unset, .unset, .unset, .unset] [(.int x1)]))
  refine oSt (fun _ => XS.istore A.here hx rfl (Jvm.hb hby at_19) rfl (l' := #[.val (.int i0), .val (.int i1), .val (.int i2), .val (.int i3), .val (.int i4), .val (.int n), .val (.int x0), .val (.int x1), .unset, .unset, .unset, .unset, .unset, .unset]) rfl) ?_
  show oGo p e below _ (T.setTop (mkF m 21 #[.val (.int i0), .val (.int i1), .val (.int i2), .val (.int i3), .val (.int i4), .val (.int n), .val (.int x0), .val (.int x1), .unset, .unset, .unset, .unset, .unset, .unset] []))
  refine oSt (fun _ => XS.iloadN A.here hx rfl (Jvm.hb hby at_21) rfl) ?_
  show oGo p e below _ (T.setTop (mkF m 22 #[.val (.int i0), .val (.int i1), .val (.int i2), .val (.int i3), .val (.int i4), .val (.int n), .val (.int x0), .val (.int x1), .unset, .unset, .unset, .unset, .unset, .unset] [(.int i2)]))
  obtain ⟨_, vm, T, h, L, A, K, CR, ⟨rfl, x2, hb2, rfl⟩, st⟩ := A.callS hx (y := (⟨"com/example/applicator/applicator/IriWithoutFragmentPinLaw", "ch", "(I)C"⟩ : MethodName)) (hw _ (List.mem_of_getElem? (i := 1) rfl)) (hw _ (List.mem_of_getElem? (i := 2) rfl)) (hw _ (List.mem_of_getElem? (i := 3) rfl)) (hw _ (List.mem_of_getElem? (i := 4) rfl)) (by decide) hEL (argsL := [(.int i2)]) (rest := []) (own_ch l Z a0 hw hEL n0 _ A.oldn _) (W := 0) (by decide) (by decide) (by decide) (by decide) all0 all0 all0 (g := (mkF m 22 #[.val (.int i0), .val (.int i1), .val (.int i2), .val (.int i3), .val (.int i4), .val (.int n), .val (.int x0), .val (.int x1), .unset, .unset, .unset, .unset, .unset, .unset] [(.int i2)])) rfl (by rw [hml]; rfl) (lenOf opd14 rfl) rfl (by show 2 * 0 + _ ≤ _; exact Nat.le_of_eq rfl) (Jvm.hb hby at_22)
  refine oSt st ?_
  have X := oExt0 K
  show oGo p e below _ (T.setTop (mkF m 25 #[.val (.int i0), .val (.int i1), .val (.int i2), .val (.int i3), .val (.int i4), .val (.int n), .val (.int x0), .val (.int x1), .unset, .unset, .unset, .unset, .unset, .unset] [(.int x2)]))
  refine oSt (fun _ => XS.istore A.here hx rfl (Jvm.hb hby at_25) rfl (l' := #[.val (.int i0), .val (.int i1), .val (.int i2), .val (.int i3), .val (.int i4), .val (.int n), .val (.int x0), .val (.int x1), .val (.int x2), .unset, .unset, .unset, .unset, .unset]) rfl) ?_
  show oGo p e below _ (T.setTop (mkF m 27 #[.val (.int i0), .val (.int i1), .val (.int i2), .val (.int i3), .val (.int i4), .val (.int n), .val (.int x0), .val (.int x1), .val (.int x2), .unset, .unset, .unset, .unset, .unset] []))
  refine oSt (fun _ => XS.iloadN A.here hx rfl (Jvm.hb hby at_27) rfl) ?_
  show oGo p e below _ (T.setTop (mkF m 28 #[.val (.int i0), .val (.int i1), .val (.int i2), .val (.int i3), .val (.int i4), .val (.int n), .val (.int x0), .val (.int x1), .val (.int x2), .unset, .unset, .unset, .unset, .unset] [(.int i3)]))
  obtain ⟨_, vm, T, h, L, A, K, CR, ⟨rfl, x3, hb3, rfl⟩, st⟩ := A.callS hx (y := (⟨"com/example/applicator/applicator/IriWithoutFragmentPinLaw", "ch", "(I)C"⟩ : MethodName)) (hw _ (List.mem_of_getElem? (i := 1) rfl)) (hw _ (List.mem_of_getElem? (i := 2) rfl)) (hw _ (List.mem_of_getElem? (i := 3) rfl)) (hw _ (List.mem_of_getElem? (i := 4) rfl)) (by decide) hEL (argsL := [(.int i3)]) (rest := []) (own_ch l Z a0 hw hEL n0 _ A.oldn _) (W := 0) (by decide) (by decide) (by decide) (by decide) all0 all0 all0 (g := (mkF m 28 #[.val (.int i0), .val (.int i1), .val (.int i2), .val (.int i3), .val (.int i4), .val (.int n), .val (.int x0), .val (.int x1), .val (.int x2), .unset, .unset, .unset, .unset, .unset] [(.int i3)])) rfl (by rw [hml]; rfl) (lenOf opd14 rfl) rfl (by show 2 * 0 + _ ≤ _; exact Nat.le_of_eq rfl) (Jvm.hb hby at_28)
  refine oSt st ?_
  have X := oExt0 K
  show oGo p e below _ (T.setTop (mkF m 31 #[.val (.int i0), .val (.int i1), .val (.int i2), .val (.int i3), .val (.int i4), .val (.int n), .val (.int x0), .val (.int x1), .val (.int x2), .unset, .unset, .unset, .unset, .unset] [(.int x3)]))
  refine oSt (fun _ => XS.istore A.here hx rfl (Jvm.hb hby at_31) rfl (l' := #[.val (.int i0), .val (.int i1), .val (.int i2), .val (.int i3), .val (.int i4), .val (.int n), .val (.int x0), .val (.int x1), .val (.int x2), .val (.int x3), .unset, .unset, .unset, .unset]) rfl) ?_
  show oGo p e below _ (T.setTop (mkF m 33 #[.val (.int i0), .val (.int i1), .val (.int i2), .val (.int i3), .val (.int i4), .val (.int n), .val (.int x0), .val (.int x1), .val (.int x2), .val (.int x3), .unset, .unset, .unset, .unset] []))
  refine oSt (fun _ => XS.iload A.here hx rfl (Jvm.hb hby at_33) rfl) ?_
  show oGo p e below _ (T.setTop (mkF m 35 #[.val (.int i0), .val (.int i1), .val (.int i2), .val (.int i3), .val (.int i4), .val (.int n), .val (.int x0), .val (.int x1), .val (.int x2), .val (.int x3), .unset, .unset, .unset, .unset] [(.int n)]))
  have hpm : ∀ n : Int32, ∀ c ∈ own_mk n x0 x1 x2 x3, ¬ c < 0 ∧ ¬ (255 : Int32) < c := fun n => by
    unfold own_mk
    split
    · exact oP0
    · split
      · exact oPS hb0 oP0
      · split
        · exact oPS hb0 (oPS hb1 oP0)
        · split
          · exact oPS hb0 (oPS hb1 (oPS hb2 oP0))
          · exact oPS hb0 (oPS hb1 (oPS hb2 (oPS hb3 oP0)))
  have hlm : ∀ n : Int32, (own_mk n x0 x1 x2 x3).length ≤ 4 := fun n => by
    unfold own_mk
    split
    · simp
    · split
      · simp
      · split
        · simp
        · split <;> simp
  have J218 : ∀ (vm : Vm) (T : State) (h : Heap) (locs : List Loc) (b b2 : Addr) (k k2 : ClassId) (hh_ : Int32), oA l Z consts_1 n0 p e room_1 s m #[(.int i0), (.int i1), (.int i2), (.int i3), (.int i4)] below meth c "com/example/applicator/applicator/IriWithoutFragmentPinLaw" [] vm T h locs 2 8 → Arv Z h b k .char (Int32.ofNat (own_mk n x0 x1 x2 x3).length) ((own_mk n x0 x1 x2 x3).map Value.int) (.int (0 : Int32)) → Arv Z h b2 k2 .char (Int32.ofNat (own_mk hh_ x0 x1 x2 x3).length) ((own_mk hh_ x0 x1 x2 x3).map Value.int) (.int (0 : Int32)) → own_wo (own_mk n x0 x1 x2 x3) = own_mk hh_ x0 x1 x2 x3 → oGo p e below (oEnd Z consts_1 n0 room_1 s [] (fun v _ h => v = some (.int 1))) (T.setTop (mkF m 218 #[.val (.int i0), .val (.int i1), .val (.int i2), .val (.int i3), .val (.int i4), .val (.int n), .val (.int x0), .val (.int x1), .val (.int x2), .val (.int x3), .val (.ref b), .val (.int hh_), .val (.ref b2), .unset] [])) := by
    intro vm T h locs b b2 k k2 hh_ A V_b V_b2 hwo
    show oGo p e below _ (T.setTop (mkF m 218 #[.val (.int i0), .val (.int i1), .val (.int i2), .val (.int i3), .val (.int i4), .val (.int n), .val (.int x0), .val (.int x1), .val (.int x2), .val (.int x3), .val (.ref b), .val (.int hh_), .val (.ref b2), .unset] []))
    have EB := oExtR h
    obtain ⟨T, h, x, g_x, lt_x, n0_x, s_x, A, E, E_x, S_x, D_x, st⟩ := A.newO hx (hw _ (List.mem_of_getElem? (i := 6) rfl)) (hw _ (List.mem_of_getElem? (i := 7) rfl)) (hw _ (List.mem_of_getElem? (i := 8) rfl)) (g := (mkF m 218 #[.val (.int i0), .val (.int i1), .val (.int i2), .val (.int i3), .val (.int i4), .val (.int n), .val (.int x0), .val (.int x1), .val (.int x2), .val (.int x3), .val (.ref b), .val (.int hh_), .val (.ref b2), .unset] [])) rfl (Jvm.hb hby at_218) (by decide) (by decide)
    refine oSt st ?_
    show oGo p e below _ (T.setTop (mkF m 221 #[.val (.int i0), .val (.int i1), .val (.int i2), .val (.int i3), .val (.int i4), .val (.int n), .val (.int x0), .val (.int x1), .val (.int x2), .val (.int x3), .val (.ref b), .val (.int hh_), .val (.ref b2), .unset] [(.ref x)]))
    have hEB_x := Nat.le_trans EB.1 (Nat.le_of_eq g_x.symm)
    have EB := oExtT EB E
    have F_value_x : Fld Z h x "java/lang/String" "value" "[B" .null := D_x (Or.inr (hw _ (List.mem_of_getElem? (i := 21) rfl))) (ty := (.array .byte)) (by decide)
    have F_coder_x : Fld Z h x "java/lang/String" "coder" "B" (.int (0 : Int32)) := D_x (Or.inr (hw _ (List.mem_of_getElem? (i := 22) rfl))) (ty := .byte) (by decide)
    have V_b := V_b.ext E
    refine oSt (fun _ => XS.dup A.here hx rfl (Jvm.hb hby at_221) rfl rfl) ?_
    show oGo p e below _ (T.setTop (mkF m 222 #[.val (.int i0), .val (.int i1), .val (.int i2), .val (.int i3), .val (.int i4), .val (.int n), .val (.int x0), .val (.int x1), .val (.int x2), .val (.int x3), .val (.ref b), .val (.int hh_), .val (.ref b2), .unset] [(.ref x), (.ref x)]))
    refine oSt (fun _ => XS.aload A.here hx rfl (Jvm.hb hby at_222) rfl rfl) ?_
    show oGo p e below _ (T.setTop (mkF m 224 #[.val (.int i0), .val (.int i1), .val (.int i2), .val (.int i3), .val (.int i4), .val (.int n), .val (.int x0), .val (.int x1), .val (.int x2), .val (.int x3), .val (.ref b), .val (.int hh_), .val (.ref b2), .unset] [(.ref b), (.ref x), (.ref x)]))
    obtain ⟨vm, T, h, L, A, K, CR, Q_x, st⟩ := own_sAny A hx hw hEL hws (hw _ (List.mem_of_getElem? (i := 9) rfl)) E_x F_value_x F_coder_x V_b rfl hcs hcz (hpm n) n0_x (Or.inr s_x) S_x (n := 4) (W := 1) (hlm n) (by decide) (by decide) (by decide) (by decide) (by decide) (g := (mkF m 224 #[.val (.int i0), .val (.int i1), .val (.int i2), .val (.int i3), .val (.int i4), .val (.int n), .val (.int x0), .val (.int x1), .val (.int x2), .val (.int x3), .val (.ref b), .val (.int hh_), .val (.ref b2), .unset] [(.ref b), (.ref x), (.ref x)])) rfl (by rw [hml]; rfl) rfl (by show 2 * 0 + _ ≤ _; exact Nat.le_of_eq rfl) (Jvm.hb hby at_224)
    refine oSt st ?_
    show oGo p e below _ (T.setTop (mkF m 227 #[.val (.int i0), .val (.int i1), .val (.int i2), .val (.int i3), .val (.int i4), .val (.int n), .val (.int x0), .val (.int x1), .val (.int x2), .val (.int x3), .val (.ref b), .val (.int hh_), .val (.ref b2), .unset] [(.ref x)]))
    have EB := oExtK EB K (oIn1 hEB_x)
    have V_b2 := V_b2.ext EB
    obtain ⟨_, vm, T, h, L, A, K, CR, ⟨y, rfl, Q_y⟩, st⟩ := A.callS hx (y := (⟨"com/example/applicator/applicator/Iri", "withoutFragment", "(Ljava/lang/String;)Ljava/lang/String;"⟩ : MethodName)) (hw _ (List.mem_of_getElem? (i := 27) rfl)) (hw _ (List.mem_of_getElem? (i := 28) rfl)) (hw _ (List.mem_of_getElem? (i := 29) rfl)) (hw _ (List.mem_of_getElem? (i := 30) rfl)) (by decide) hEL (argsL := [(.ref x)]) (rest := []) (own_wof l Z a0 hw hEL n0 _ A.oldn x _ zc hcs hcz fm hfm rfm (hlm n) Q_x) (W := 0) (by decide) (by decide) (by decide) (by decide) all0 all0 all0 (g := (mkF m 227 #[.val (.int i0), .val (.int i1), .val (.int i2), .val (.int i3), .val (.int i4), .val (.int n), .val (.int x0), .val (.int x1), .val (.int x2), .val (.int x3), .val (.ref b), .val (.int hh_), .val (.ref b2), .unset] [(.ref x)])) rfl (by rw [hml]; rfl) (lenOf opd15 rfl) rfl (by show 2 * 0 + _ ≤ _; exact Nat.le_of_eq rfl) (Jvm.hb hby at_227)
    refine oSt st ?_
    have X := oExt0 K
    have V_b2 := V_b2.ext X
    show oGo p e below _ (T.setTop (mkF m 230 #[.val (.int i0), .val (.int i1), .val (.int i2), .val (.int i3), .val (.int i4), .val (.int n), .val (.int x0), .val (.int x1), .val (.int x2), .val (.int x3), .val (.ref b), .val (.int hh_), .val (.ref b2), .unset] [(.ref y)]))
    rw [hwo] at Q_y
    refine oSt (fun _ => XS.astore A.here hx rfl (Jvm.hb hby at_230) rfl rfl (l' := #[.val (.int i0), .val (.int i1), .val (.int i2), .val (.int i3), .val (.int i4), .val (.int n), .val (.int x0), .val (.int x1), .val (.int x2), .val (.int x3), .val (.ref b), .val (.int hh_), .val (.ref b2), .val (.ref y)]) rfl) ?_
    show oGo p e below _ (T.setTop (mkF m 232 #[.val (.int i0), .val (.int i1), .val (.int i2), .val (.int i3), .val (.int i4), .val (.int n), .val (.int x0), .val (.int x1), .val (.int x2), .val (.int x3), .val (.ref b), .val (.int hh_), .val (.ref b2), .val (.ref y)] []))
    refine oSt (fun _ => XS.aload A.here hx rfl (Jvm.hb hby at_232) rfl rfl) ?_
    show oGo p e below _ (T.setTop (mkF m 234 #[.val (.int i0), .val (.int i1), .val (.int i2), .val (.int i3), .val (.int i4), .val (.int n), .val (.int x0), .val (.int x1), .val (.int x2), .val (.int x3), .val (.ref b), .val (.int hh_), .val (.ref b2), .val (.ref y)] [(.ref y)]))
    have EB := oExtR h
    obtain ⟨T, h, x2_, g_x2_, lt_x2_, n0_x2_, s_x2_, A, E, E_x2_, S_x2_, D_x2_, st⟩ := A.newO hx (hw _ (List.mem_of_getElem? (i := 6) rfl)) (hw _ (List.mem_of_getElem? (i := 7) rfl)) (hw _ (List.mem_of_getElem? (i := 8) rfl)) (g := (mkF m 234 #[.val (.int i0), .val (.int i1), .val (.int i2), .val (.int i3), .val (.int i4), .val (.int n), .val (.int x0), .val (.int x1), .val (.int x2), .val (.int x3), .val (.ref b), .val (.int hh_), .val (.ref b2), .val (.ref y)] [(.ref y)])) rfl (Jvm.hb hby at_234) (by decide) (by decide)
    refine oSt st ?_
    show oGo p e below _ (T.setTop (mkF m 237 #[.val (.int i0), .val (.int i1), .val (.int i2), .val (.int i3), .val (.int i4), .val (.int n), .val (.int x0), .val (.int x1), .val (.int x2), .val (.int x3), .val (.ref b), .val (.int hh_), .val (.ref b2), .val (.ref y)] [(.ref x2_), (.ref y)]))
    have hEB_x2_ := Nat.le_trans EB.1 (Nat.le_of_eq g_x2_.symm)
    have EB := oExtT EB E
    have F_value_x2_ : Fld Z h x2_ "java/lang/String" "value" "[B" .null := D_x2_ (Or.inr (hw _ (List.mem_of_getElem? (i := 21) rfl))) (ty := (.array .byte)) (by decide)
    have F_coder_x2_ : Fld Z h x2_ "java/lang/String" "coder" "B" (.int (0 : Int32)) := D_x2_ (Or.inr (hw _ (List.mem_of_getElem? (i := 22) rfl))) (ty := .byte) (by decide)
    have V_b2 := V_b2.ext E
    refine oSt (fun _ => XS.dup A.here hx rfl (Jvm.hb hby at_237) rfl rfl) ?_
    show oGo p e below _ (T.setTop (mkF m 238 #[.val (.int i0), .val (.int i1), .val (.int i2), .val (.int i3), .val (.int i4), .val (.int n), .val (.int x0), .val (.int x1), .val (.int x2), .val (.int x3), .val (.ref b), .val (.int hh_), .val (.ref b2), .val (.ref y)] [(.ref x2_), (.ref x2_), (.ref y)]))
    refine oSt (fun _ => XS.aload A.here hx rfl (Jvm.hb hby at_238) rfl rfl) ?_
    show oGo p e below _ (T.setTop (mkF m 240 #[.val (.int i0), .val (.int i1), .val (.int i2), .val (.int i3), .val (.int i4), .val (.int n), .val (.int x0), .val (.int x1), .val (.int x2), .val (.int x3), .val (.ref b), .val (.int hh_), .val (.ref b2), .val (.ref y)] [(.ref b2), (.ref x2_), (.ref x2_), (.ref y)]))
    obtain ⟨vm, T, h, L, A, K, CR, Q_x2_, st⟩ := own_sAny A hx hw hEL hws (hw _ (List.mem_of_getElem? (i := 9) rfl)) E_x2_ F_value_x2_ F_coder_x2_ V_b2 rfl hcs hcz (hpm hh_) n0_x2_ (Or.inr s_x2_) S_x2_ (n := 4) (W := 2) (hlm hh_) (by decide) (by decide) (by decide) (by decide) (by decide) (g := (mkF m 240 #[.val (.int i0), .val (.int i1), .val (.int i2), .val (.int i3), .val (.int i4), .val (.int n), .val (.int x0), .val (.int x1), .val (.int x2), .val (.int x3), .val (.ref b), .val (.int hh_), .val (.ref b2), .val (.ref y)] [(.ref b2), (.ref x2_), (.ref x2_), (.ref y)])) rfl (by rw [hml]; rfl) rfl (by show 2 * 0 + _ ≤ _; exact Nat.le_of_eq rfl) (Jvm.hb hby at_240)
    refine oSt st ?_
    show oGo p e below _ (T.setTop (mkF m 243 #[.val (.int i0), .val (.int i1), .val (.int i2), .val (.int i3), .val (.int i4), .val (.int n), .val (.int x0), .val (.int x1), .val (.int x2), .val (.int x3), .val (.ref b), .val (.int hh_), .val (.ref b2), .val (.ref y)] [(.ref x2_), (.ref y)]))
    have EB := oExtK EB K (oIn1 hEB_x2_)
    have Q_y := Q_y.ext EB
    obtain ⟨T, r_eq, A, h_eq, st⟩ := A.sEq hx heq (hw _ (List.mem_of_getElem? (i := 7) rfl)) (hw _ (List.mem_of_getElem? (i := 71) rfl)) (hw _ (List.mem_of_getElem? (i := 72) rfl)) (hw _ (List.mem_of_getElem? (i := 74) rfl)) (hw _ (List.mem_of_getElem? (i := 73) rfl)) Q_y Q_x2_ hcs hcz (W := 0) (by decide) (by decide) (by decide) (by decide) (g := (mkF m 243 #[.val (.int i0), .val (.int i1), .val (.int i2), .val (.int i3), .val (.int i4), .val (.int n), .val (.int x0), .val (.int x1), .val (.int x2), .val (.int x3), .val (.ref b), .val (.int hh_), .val (.ref b2), .val (.ref y)] [(.ref x2_), (.ref y)])) rfl (by rw [hml]; rfl) rfl (by show 2 * 0 + _ ≤ _; exact Nat.le_of_eq rfl) (Jvm.hb hby at_243)
    refine oSt st ?_
    show oGo p e below _ (T.setTop (mkF m 246 #[.val (.int i0), .val (.int i1), .val (.int i2), .val (.int i3), .val (.int i4), .val (.int n), .val (.int x0), .val (.int x1), .val (.int x2), .val (.int x3), .val (.ref b), .val (.int hh_), .val (.ref b2), .val (.ref y)] [(.int r_eq)]))
    rcases h_eq with ⟨rfl, hq⟩ | ⟨rfl, hq⟩
    · show oGo p e below _ (T.setTop (mkF m 246 #[.val (.int i0), .val (.int i1), .val (.int i2), .val (.int i3), .val (.int i4), .val (.int n), .val (.int x0), .val (.int x1), .val (.int x2), .val (.int x3), .val (.ref b), .val (.int hh_), .val (.ref b2), .val (.ref y)] [(.int (1 : Int32))]))
      exact A.leave hlk hEL (v := some (.int (1 : Int32))) (fun h => by rw [hret] at h; cases h) (fun _ _ => rfl) (by decide) (by decide) (fun fs hr => retN A.1 hx (t := .boolean) hret (by simp) (Jvm.hb hby at_246) hr)
    · exact absurd rfl hq
  have J165 : ∀ (vm : Vm) (T : State) (h : Heap) (locs : List Loc) (b : Addr) (k : ClassId) (hh_ : Int32), oA l Z consts_1 n0 p e room_1 s m #[(.int i0), (.int i1), (.int i2), (.int i3), (.int i4)] below meth c "com/example/applicator/applicator/IriWithoutFragmentPinLaw" [] vm T h locs 1 4 → Arv Z h b k .char (Int32.ofNat (own_mk n x0 x1 x2 x3).length) ((own_mk n x0 x1 x2 x3).map Value.int) (.int (0 : Int32)) → own_R5 hh_ → own_wo (own_mk n x0 x1 x2 x3) = own_mk hh_ x0 x1 x2 x3 → oGo p e below (oEnd Z consts_1 n0 room_1 s [] (fun v _ h => v = some (.int 1))) (T.setTop (mkF m 165 #[.val (.int i0), .val (.int i1), .val (.int i2), .val (.int i3), .val (.int i4), .val (.int n), .val (.int x0), .val (.int x1), .val (.int x2), .val (.int x3), .val (.ref b), .val (.int hh_), .unset, .unset] [])) := by
    intro vm T h locs b k hh_ A V_b r5 hwo
    rcases r5 with rfl | rfl | rfl | rfl | rfl
    · show oGo p e below _ (T.setTop (mkF m 165 #[.val (.int i0), .val (.int i1), .val (.int i2), .val (.int i3), .val (.int i4), .val (.int n), .val (.int x0), .val (.int x1), .val (.int x2), .val (.int x3), .val (.ref b), .val (.int (0 : Int32)), .unset, .unset] []))
      refine oSt (fun _ => XS.iload A.here hx rfl (Jvm.hb hby at_165) rfl) ?_
      show oGo p e below _ (T.setTop (mkF m 167 #[.val (.int i0), .val (.int i1), .val (.int i2), .val (.int i3), .val (.int i4), .val (.int n), .val (.int x0), .val (.int x1), .val (.int x2), .val (.int x3), .val (.ref b), .val (.int (0 : Int32)), .unset, .unset] [(.int (0 : Int32))]))
      have EB := oExtR h
      obtain ⟨T, h, b2, k_b2, g_b2, lt_b2, n0_b2, s_b2, A, E, V_b2, S_b2, st⟩ := A.newP hx (hw _ (List.mem_of_getElem? (i := 5) rfl)) (g := (mkF m 167 #[.val (.int i0), .val (.int i1), .val (.int i2), .val (.int i3), .val (.int i4), .val (.int n), .val (.int x0), .val (.int x1), .val (.int x2), .val (.int x3), .val (.ref b), .val (.int (0 : Int32)), .unset, .unset] [(.int (0 : Int32))])) rfl (Jvm.hb hby at_167) rfl (by decide) (cap := 0) (by decide) (by decide) (by decide) (by decide)
      refine oSt st ?_
      show oGo p e below _ (T.setTop (mkF m 169 #[.val (.int i0), .val (.int i1), .val (.int i2), .val (.int i3), .val (.int i4), .val (.int n), .val (.int x0), .val (.int x1), .val (.int x2), .val (.int x3), .val (.ref b), .val (.int (0 : Int32)), .unset, .unset] [(.ref b2)]))
      have hEB_b2 := Nat.le_trans EB.1 (Nat.le_of_eq g_b2.symm)
      have EB := oExtT EB E
      refine oSt (fun _ => XS.astore A.here hx rfl (Jvm.hb hby at_169) rfl rfl (l' := #[.val (.int i0), .val (.int i1), .val (.int i2), .val (.int i3), .val (.int i4), .val (.int n), .val (.int x0), .val (.int x1), .val (.int x2), .val (.int x3), .val (.ref b), .val (.int (0 : Int32)), .val (.ref b2), .unset]) rfl) ?_
      show oGo p e below _ (T.setTop (mkF m 171 #[.val (.int i0), .val (.int i1), .val (.int i2), .val (.int i3), .val (.int i4), .val (.int n), .val (.int x0), .val (.int x1), .val (.int x2), .val (.int x3), .val (.ref b), .val (.int (0 : Int32)), .val (.ref b2), .unset] []))
      refine oSt (fun _ => XS.iload A.here hx rfl (Jvm.hb hby at_171) rfl) ?_
      show oGo p e below _ (T.setTop (mkF m 173 #[.val (.int i0), .val (.int i1), .val (.int i2), .val (.int i3), .val (.int i4), .val (.int n), .val (.int x0), .val (.int x1), .val (.int x2), .val (.int x3), .val (.ref b), .val (.int (0 : Int32)), .val (.ref b2), .unset] [(.int (0 : Int32))]))
      refine oSt (fun _ => XS.ifYes A.here hx rfl (pc0 := 173) (pc' := 182) rfl (Jvm.hb hby at_173) rfl (Jvm.Free.XT.i0_le_t (by decide)) (by decide) (by decide)) ?_
      show oGo p e below _ (T.setTop (mkF m 182 #[.val (.int i0), .val (.int i1), .val (.int i2), .val (.int i3), .val (.int i4), .val (.int n), .val (.int x0), .val (.int x1), .val (.int x2), .val (.int x3), .val (.ref b), .val (.int (0 : Int32)), .val (.ref b2), .unset] []))
      refine oSt (fun _ => XS.iload A.here hx rfl (Jvm.hb hby at_182) rfl) ?_
      show oGo p e below _ (T.setTop (mkF m 184 #[.val (.int i0), .val (.int i1), .val (.int i2), .val (.int i3), .val (.int i4), .val (.int n), .val (.int x0), .val (.int x1), .val (.int x2), .val (.int x3), .val (.ref b), .val (.int (0 : Int32)), .val (.ref b2), .unset] [(.int (0 : Int32))]))
      refine oSt (fun _ => XS.iconst A.here hx rfl (Jvm.hb hby at_184)) ?_
      show oGo p e below _ (T.setTop (mkF m 185 #[.val (.int i0), .val (.int i1), .val (.int i2), .val (.int i3), .val (.int i4), .val (.int n), .val (.int x0), .val (.int x1), .val (.int x2), .val (.int x3), .val (.ref b), .val (.int (0 : Int32)), .val (.ref b2), .unset] [(.int (1 : Int32)), (.int (0 : Int32))]))
      refine oSt (fun _ => XS.icmpYes A.here hx rfl (pc0 := 185) (pc' := 194) rfl (Jvm.hb hby at_185) rfl (Jvm.Free.XT.ii_le_t (by decide)) (by decide) (by decide)) ?_
      show oGo p e below _ (T.setTop (mkF m 194 #[.val (.int i0), .val (.int i1), .val (.int i2), .val (.int i3), .val (.int i4), .val (.int n), .val (.int x0), .val (.int x1), .val (.int x2), .val (.int x3), .val (.ref b), .val (.int (0 : Int32)), .val (.ref b2), .unset] []))
      refine oSt (fun _ => XS.iload A.here hx rfl (Jvm.hb hby at_194) rfl) ?_
      show oGo p e below _ (T.setTop (mkF m 196 #[.val (.int i0), .val (.int i1), .val (.int i2), .val (.int i3), .val (.int i4), .val (.int n), .val (.int x0), .val (.int x1), .val (.int x2), .val (.int x3), .val (.ref b), .val (.int (0 : Int32)), .val (.ref b2), .unset] [(.int (0 : Int32))]))
      refine oSt (fun _ => XS.iconst A.here hx rfl (Jvm.hb hby at_196)) ?_
      show oGo p e below _ (T.setTop (mkF m 197 #[.val (.int i0), .val (.int i1), .val (.int i2), .val (.int i3), .val (.int i4), .val (.int n), .val (.int x0), .val (.int x1), .val (.int x2), .val (.int x3), .val (.ref b), .val (.int (0 : Int32)), .val (.ref b2), .unset] [(.int (2 : Int32)), (.int (0 : Int32))]))
      refine oSt (fun _ => XS.icmpYes A.here hx rfl (pc0 := 197) (pc' := 206) rfl (Jvm.hb hby at_197) rfl (Jvm.Free.XT.ii_le_t (by decide)) (by decide) (by decide)) ?_
      show oGo p e below _ (T.setTop (mkF m 206 #[.val (.int i0), .val (.int i1), .val (.int i2), .val (.int i3), .val (.int i4), .val (.int n), .val (.int x0), .val (.int x1), .val (.int x2), .val (.int x3), .val (.ref b), .val (.int (0 : Int32)), .val (.ref b2), .unset] []))
      refine oSt (fun _ => XS.iload A.here hx rfl (Jvm.hb hby at_206) rfl) ?_
      show oGo p e below _ (T.setTop (mkF m 208 #[.val (.int i0), .val (.int i1), .val (.int i2), .val (.int i3), .val (.int i4), .val (.int n), .val (.int x0), .val (.int x1), .val (.int x2), .val (.int x3), .val (.ref b), .val (.int (0 : Int32)), .val (.ref b2), .unset] [(.int (0 : Int32))]))
      refine oSt (fun _ => XS.iconst A.here hx rfl (Jvm.hb hby at_208)) ?_
      show oGo p e below _ (T.setTop (mkF m 209 #[.val (.int i0), .val (.int i1), .val (.int i2), .val (.int i3), .val (.int i4), .val (.int n), .val (.int x0), .val (.int x1), .val (.int x2), .val (.int x3), .val (.ref b), .val (.int (0 : Int32)), .val (.ref b2), .unset] [(.int (3 : Int32)), (.int (0 : Int32))]))
      refine oSt (fun _ => XS.icmpYes A.here hx rfl (pc0 := 209) (pc' := 218) rfl (Jvm.hb hby at_209) rfl (Jvm.Free.XT.ii_le_t (by decide)) (by decide) (by decide)) ?_
      show oGo p e below _ (T.setTop (mkF m 218 #[.val (.int i0), .val (.int i1), .val (.int i2), .val (.int i3), .val (.int i4), .val (.int n), .val (.int x0), .val (.int x1), .val (.int x2), .val (.int x3), .val (.ref b), .val (.int (0 : Int32)), .val (.ref b2), .unset] []))
      have V_b := V_b.ext EB
      exact J218 _ _ _ _ _ _ _ _ _ (A.mono (by decide) (by decide)) V_b V_b2 hwo
    · show oGo p e below _ (T.setTop (mkF m 165 #[.val (.int i0), .val (.int i1), .val (.int i2), .val (.int i3), .val (.int i4), .val (.int n), .val (.int x0), .val (.int x1), .val (.int x2), .val (.int x3), .val (.ref b), .val (.int (1 : Int32)), .unset, .unset] []))
      refine oSt (fun _ => XS.iload A.here hx rfl (Jvm.hb hby at_165) rfl) ?_
      show oGo p e below _ (T.setTop (mkF m 167 #[.val (.int i0), .val (.int i1), .val (.int i2), .val (.int i3), .val (.int i4), .val (.int n), .val (.int x0), .val (.int x1), .val (.int x2), .val (.int x3), .val (.ref b), .val (.int (1 : Int32)), .unset, .unset] [(.int (1 : Int32))]))
      have EB := oExtR h
      obtain ⟨T, h, b2, k_b2, g_b2, lt_b2, n0_b2, s_b2, A, E, V_b2, S_b2, st⟩ := A.newP hx (hw _ (List.mem_of_getElem? (i := 5) rfl)) (g := (mkF m 167 #[.val (.int i0), .val (.int i1), .val (.int i2), .val (.int i3), .val (.int i4), .val (.int n), .val (.int x0), .val (.int x1), .val (.int x2), .val (.int x3), .val (.ref b), .val (.int (1 : Int32)), .unset, .unset] [(.int (1 : Int32))])) rfl (Jvm.hb hby at_167) rfl (by decide) (cap := 1) (by decide) (by decide) (by decide) (by decide)
      refine oSt st ?_
      show oGo p e below _ (T.setTop (mkF m 169 #[.val (.int i0), .val (.int i1), .val (.int i2), .val (.int i3), .val (.int i4), .val (.int n), .val (.int x0), .val (.int x1), .val (.int x2), .val (.int x3), .val (.ref b), .val (.int (1 : Int32)), .unset, .unset] [(.ref b2)]))
      have hEB_b2 := Nat.le_trans EB.1 (Nat.le_of_eq g_b2.symm)
      have EB := oExtT EB E
      have V_b2 : Arv Z h b2 k_b2 .char (1 : Int32) [(.int (0 : Int32))] (.int (0 : Int32)) := V_b2.pad (pad_rep [] (.int (0 : Int32)) 1)
      refine oSt (fun _ => XS.astore A.here hx rfl (Jvm.hb hby at_169) rfl rfl (l' := #[.val (.int i0), .val (.int i1), .val (.int i2), .val (.int i3), .val (.int i4), .val (.int n), .val (.int x0), .val (.int x1), .val (.int x2), .val (.int x3), .val (.ref b), .val (.int (1 : Int32)), .val (.ref b2), .unset]) rfl) ?_
      show oGo p e below _ (T.setTop (mkF m 171 #[.val (.int i0), .val (.int i1), .val (.int i2), .val (.int i3), .val (.int i4), .val (.int n), .val (.int x0), .val (.int x1), .val (.int x2), .val (.int x3), .val (.ref b), .val (.int (1 : Int32)), .val (.ref b2), .unset] []))
      refine oSt (fun _ => XS.iload A.here hx rfl (Jvm.hb hby at_171) rfl) ?_
      show oGo p e below _ (T.setTop (mkF m 173 #[.val (.int i0), .val (.int i1), .val (.int i2), .val (.int i3), .val (.int i4), .val (.int n), .val (.int x0), .val (.int x1), .val (.int x2), .val (.int x3), .val (.ref b), .val (.int (1 : Int32)), .val (.ref b2), .unset] [(.int (1 : Int32))]))
      refine oSt (fun _ => XS.ifNo A.here hx rfl (Jvm.hb hby at_173) rfl (Jvm.Free.XT.i0_le_f (by decide))) ?_
      show oGo p e below _ (T.setTop (mkF m 176 #[.val (.int i0), .val (.int i1), .val (.int i2), .val (.int i3), .val (.int i4), .val (.int n), .val (.int x0), .val (.int x1), .val (.int x2), .val (.int x3), .val (.ref b), .val (.int (1 : Int32)), .val (.ref b2), .unset] []))
      refine oSt (fun _ => XS.aload A.here hx rfl (Jvm.hb hby at_176) rfl rfl) ?_
      show oGo p e below _ (T.setTop (mkF m 178 #[.val (.int i0), .val (.int i1), .val (.int i2), .val (.int i3), .val (.int i4), .val (.int n), .val (.int x0), .val (.int x1), .val (.int x2), .val (.int x3), .val (.ref b), .val (.int (1 : Int32)), .val (.ref b2), .unset] [(.ref b2)]))
      refine oSt (fun _ => XS.iconst A.here hx rfl (Jvm.hb hby at_178)) ?_
      show oGo p e below _ (T.setTop (mkF m 179 #[.val (.int i0), .val (.int i1), .val (.int i2), .val (.int i3), .val (.int i4), .val (.int n), .val (.int x0), .val (.int x1), .val (.int x2), .val (.int x3), .val (.ref b), .val (.int (1 : Int32)), .val (.ref b2), .unset] [(.int (0 : Int32)), (.ref b2)]))
      refine oSt (fun _ => XS.iload A.here hx rfl (Jvm.hb hby at_179) rfl) ?_
      show oGo p e below _ (T.setTop (mkF m 181 #[.val (.int i0), .val (.int i1), .val (.int i2), .val (.int i3), .val (.int i4), .val (.int n), .val (.int x0), .val (.int x1), .val (.int x2), .val (.int x3), .val (.ref b), .val (.int (1 : Int32)), .val (.ref b2), .unset] [(.int x0), (.int (0 : Int32)), (.ref b2)]))
      obtain ⟨T, h, A, W, V_b2, st⟩ := A.stC hx V_b2 0 rfl ⟨by decide, by decide⟩ (by simp) n0_b2 (Or.inr s_b2) (g := (mkF m 181 #[.val (.int i0), .val (.int i1), .val (.int i2), .val (.int i3), .val (.int i4), .val (.int n), .val (.int x0), .val (.int x1), .val (.int x2), .val (.int x3), .val (.ref b), .val (.int (1 : Int32)), .val (.ref b2), .unset] [(.int x0), (.int (0 : Int32)), (.ref b2)])) rfl rfl (Jvm.hb hby at_181)
      refine oSt st ?_
      show oGo p e below _ (T.setTop (mkF m 182 #[.val (.int i0), .val (.int i1), .val (.int i2), .val (.int i3), .val (.int i4), .val (.int n), .val (.int x0), .val (.int x1), .val (.int x2), .val (.int x3), .val (.ref b), .val (.int (1 : Int32)), .val (.ref b2), .unset] []))
      have EB := oExtW EB W hEB_b2
      rw [oNar hb0] at V_b2
      have V_b2 : Arv Z h b2 k_b2 .char (1 : Int32) [(.int x0)] (.int (0 : Int32)) := V_b2
      refine oSt (fun _ => XS.iload A.here hx rfl (Jvm.hb hby at_182) rfl) ?_
      show oGo p e below _ (T.setTop (mkF m 184 #[.val (.int i0), .val (.int i1), .val (.int i2), .val (.int i3), .val (.int i4), .val (.int n), .val (.int x0), .val (.int x1), .val (.int x2), .val (.int x3), .val (.ref b), .val (.int (1 : Int32)), .val (.ref b2), .unset] [(.int (1 : Int32))]))
      refine oSt (fun _ => XS.iconst A.here hx rfl (Jvm.hb hby at_184)) ?_
      show oGo p e below _ (T.setTop (mkF m 185 #[.val (.int i0), .val (.int i1), .val (.int i2), .val (.int i3), .val (.int i4), .val (.int n), .val (.int x0), .val (.int x1), .val (.int x2), .val (.int x3), .val (.ref b), .val (.int (1 : Int32)), .val (.ref b2), .unset] [(.int (1 : Int32)), (.int (1 : Int32))]))
      refine oSt (fun _ => XS.icmpYes A.here hx rfl (pc0 := 185) (pc' := 194) rfl (Jvm.hb hby at_185) rfl (Jvm.Free.XT.ii_le_t (by decide)) (by decide) (by decide)) ?_
      show oGo p e below _ (T.setTop (mkF m 194 #[.val (.int i0), .val (.int i1), .val (.int i2), .val (.int i3), .val (.int i4), .val (.int n), .val (.int x0), .val (.int x1), .val (.int x2), .val (.int x3), .val (.ref b), .val (.int (1 : Int32)), .val (.ref b2), .unset] []))
      refine oSt (fun _ => XS.iload A.here hx rfl (Jvm.hb hby at_194) rfl) ?_
      show oGo p e below _ (T.setTop (mkF m 196 #[.val (.int i0), .val (.int i1), .val (.int i2), .val (.int i3), .val (.int i4), .val (.int n), .val (.int x0), .val (.int x1), .val (.int x2), .val (.int x3), .val (.ref b), .val (.int (1 : Int32)), .val (.ref b2), .unset] [(.int (1 : Int32))]))
      refine oSt (fun _ => XS.iconst A.here hx rfl (Jvm.hb hby at_196)) ?_
      show oGo p e below _ (T.setTop (mkF m 197 #[.val (.int i0), .val (.int i1), .val (.int i2), .val (.int i3), .val (.int i4), .val (.int n), .val (.int x0), .val (.int x1), .val (.int x2), .val (.int x3), .val (.ref b), .val (.int (1 : Int32)), .val (.ref b2), .unset] [(.int (2 : Int32)), (.int (1 : Int32))]))
      refine oSt (fun _ => XS.icmpYes A.here hx rfl (pc0 := 197) (pc' := 206) rfl (Jvm.hb hby at_197) rfl (Jvm.Free.XT.ii_le_t (by decide)) (by decide) (by decide)) ?_
      show oGo p e below _ (T.setTop (mkF m 206 #[.val (.int i0), .val (.int i1), .val (.int i2), .val (.int i3), .val (.int i4), .val (.int n), .val (.int x0), .val (.int x1), .val (.int x2), .val (.int x3), .val (.ref b), .val (.int (1 : Int32)), .val (.ref b2), .unset] []))
      refine oSt (fun _ => XS.iload A.here hx rfl (Jvm.hb hby at_206) rfl) ?_
      show oGo p e below _ (T.setTop (mkF m 208 #[.val (.int i0), .val (.int i1), .val (.int i2), .val (.int i3), .val (.int i4), .val (.int n), .val (.int x0), .val (.int x1), .val (.int x2), .val (.int x3), .val (.ref b), .val (.int (1 : Int32)), .val (.ref b2), .unset] [(.int (1 : Int32))]))
      refine oSt (fun _ => XS.iconst A.here hx rfl (Jvm.hb hby at_208)) ?_
      show oGo p e below _ (T.setTop (mkF m 209 #[.val (.int i0), .val (.int i1), .val (.int i2), .val (.int i3), .val (.int i4), .val (.int n), .val (.int x0), .val (.int x1), .val (.int x2), .val (.int x3), .val (.ref b), .val (.int (1 : Int32)), .val (.ref b2), .unset] [(.int (3 : Int32)), (.int (1 : Int32))]))
      refine oSt (fun _ => XS.icmpYes A.here hx rfl (pc0 := 209) (pc' := 218) rfl (Jvm.hb hby at_209) rfl (Jvm.Free.XT.ii_le_t (by decide)) (by decide) (by decide)) ?_
      show oGo p e below _ (T.setTop (mkF m 218 #[.val (.int i0), .val (.int i1), .val (.int i2), .val (.int i3), .val (.int i4), .val (.int n), .val (.int x0), .val (.int x1), .val (.int x2), .val (.int x3), .val (.ref b), .val (.int (1 : Int32)), .val (.ref b2), .unset] []))
      have V_b := V_b.ext EB
      exact J218 _ _ _ _ _ _ _ _ _ (A.mono (by decide) (by decide)) V_b V_b2 hwo
    · show oGo p e below _ (T.setTop (mkF m 165 #[.val (.int i0), .val (.int i1), .val (.int i2), .val (.int i3), .val (.int i4), .val (.int n), .val (.int x0), .val (.int x1), .val (.int x2), .val (.int x3), .val (.ref b), .val (.int (2 : Int32)), .unset, .unset] []))
      refine oSt (fun _ => XS.iload A.here hx rfl (Jvm.hb hby at_165) rfl) ?_
      show oGo p e below _ (T.setTop (mkF m 167 #[.val (.int i0), .val (.int i1), .val (.int i2), .val (.int i3), .val (.int i4), .val (.int n), .val (.int x0), .val (.int x1), .val (.int x2), .val (.int x3), .val (.ref b), .val (.int (2 : Int32)), .unset, .unset] [(.int (2 : Int32))]))
      have EB := oExtR h
      obtain ⟨T, h, b2, k_b2, g_b2, lt_b2, n0_b2, s_b2, A, E, V_b2, S_b2, st⟩ := A.newP hx (hw _ (List.mem_of_getElem? (i := 5) rfl)) (g := (mkF m 167 #[.val (.int i0), .val (.int i1), .val (.int i2), .val (.int i3), .val (.int i4), .val (.int n), .val (.int x0), .val (.int x1), .val (.int x2), .val (.int x3), .val (.ref b), .val (.int (2 : Int32)), .unset, .unset] [(.int (2 : Int32))])) rfl (Jvm.hb hby at_167) rfl (by decide) (cap := 2) (by decide) (by decide) (by decide) (by decide)
      refine oSt st ?_
      show oGo p e below _ (T.setTop (mkF m 169 #[.val (.int i0), .val (.int i1), .val (.int i2), .val (.int i3), .val (.int i4), .val (.int n), .val (.int x0), .val (.int x1), .val (.int x2), .val (.int x3), .val (.ref b), .val (.int (2 : Int32)), .unset, .unset] [(.ref b2)]))
      have hEB_b2 := Nat.le_trans EB.1 (Nat.le_of_eq g_b2.symm)
      have EB := oExtT EB E
      have V_b2 : Arv Z h b2 k_b2 .char (2 : Int32) [(.int (0 : Int32)), (.int (0 : Int32))] (.int (0 : Int32)) := V_b2.pad (pad_rep [] (.int (0 : Int32)) 2)
      refine oSt (fun _ => XS.astore A.here hx rfl (Jvm.hb hby at_169) rfl rfl (l' := #[.val (.int i0), .val (.int i1), .val (.int i2), .val (.int i3), .val (.int i4), .val (.int n), .val (.int x0), .val (.int x1), .val (.int x2), .val (.int x3), .val (.ref b), .val (.int (2 : Int32)), .val (.ref b2), .unset]) rfl) ?_
      show oGo p e below _ (T.setTop (mkF m 171 #[.val (.int i0), .val (.int i1), .val (.int i2), .val (.int i3), .val (.int i4), .val (.int n), .val (.int x0), .val (.int x1), .val (.int x2), .val (.int x3), .val (.ref b), .val (.int (2 : Int32)), .val (.ref b2), .unset] []))
      refine oSt (fun _ => XS.iload A.here hx rfl (Jvm.hb hby at_171) rfl) ?_
      show oGo p e below _ (T.setTop (mkF m 173 #[.val (.int i0), .val (.int i1), .val (.int i2), .val (.int i3), .val (.int i4), .val (.int n), .val (.int x0), .val (.int x1), .val (.int x2), .val (.int x3), .val (.ref b), .val (.int (2 : Int32)), .val (.ref b2), .unset] [(.int (2 : Int32))]))
      refine oSt (fun _ => XS.ifNo A.here hx rfl (Jvm.hb hby at_173) rfl (Jvm.Free.XT.i0_le_f (by decide))) ?_
      show oGo p e below _ (T.setTop (mkF m 176 #[.val (.int i0), .val (.int i1), .val (.int i2), .val (.int i3), .val (.int i4), .val (.int n), .val (.int x0), .val (.int x1), .val (.int x2), .val (.int x3), .val (.ref b), .val (.int (2 : Int32)), .val (.ref b2), .unset] []))
      refine oSt (fun _ => XS.aload A.here hx rfl (Jvm.hb hby at_176) rfl rfl) ?_
      show oGo p e below _ (T.setTop (mkF m 178 #[.val (.int i0), .val (.int i1), .val (.int i2), .val (.int i3), .val (.int i4), .val (.int n), .val (.int x0), .val (.int x1), .val (.int x2), .val (.int x3), .val (.ref b), .val (.int (2 : Int32)), .val (.ref b2), .unset] [(.ref b2)]))
      refine oSt (fun _ => XS.iconst A.here hx rfl (Jvm.hb hby at_178)) ?_
      show oGo p e below _ (T.setTop (mkF m 179 #[.val (.int i0), .val (.int i1), .val (.int i2), .val (.int i3), .val (.int i4), .val (.int n), .val (.int x0), .val (.int x1), .val (.int x2), .val (.int x3), .val (.ref b), .val (.int (2 : Int32)), .val (.ref b2), .unset] [(.int (0 : Int32)), (.ref b2)]))
      refine oSt (fun _ => XS.iload A.here hx rfl (Jvm.hb hby at_179) rfl) ?_
      show oGo p e below _ (T.setTop (mkF m 181 #[.val (.int i0), .val (.int i1), .val (.int i2), .val (.int i3), .val (.int i4), .val (.int n), .val (.int x0), .val (.int x1), .val (.int x2), .val (.int x3), .val (.ref b), .val (.int (2 : Int32)), .val (.ref b2), .unset] [(.int x0), (.int (0 : Int32)), (.ref b2)]))
      obtain ⟨T, h, A, W, V_b2, st⟩ := A.stC hx V_b2 0 rfl ⟨by decide, by decide⟩ (by simp) n0_b2 (Or.inr s_b2) (g := (mkF m 181 #[.val (.int i0), .val (.int i1), .val (.int i2), .val (.int i3), .val (.int i4), .val (.int n), .val (.int x0), .val (.int x1), .val (.int x2), .val (.int x3), .val (.ref b), .val (.int (2 : Int32)), .val (.ref b2), .unset] [(.int x0), (.int (0 : Int32)), (.ref b2)])) rfl rfl (Jvm.hb hby at_181)
      refine oSt st ?_
      show oGo p e below _ (T.setTop (mkF m 182 #[.val (.int i0), .val (.int i1), .val (.int i2), .val (.int i3), .val (.int i4), .val (.int n), .val (.int x0), .val (.int x1), .val (.int x2), .val (.int x3), .val (.ref b), .val (.int (2 : Int32)), .val (.ref b2), .unset] []))
      have EB := oExtW EB W hEB_b2
      rw [oNar hb0] at V_b2
      have V_b2 : Arv Z h b2 k_b2 .char (2 : Int32) [(.int x0), (.int (0 : Int32))] (.int (0 : Int32)) := V_b2
      refine oSt (fun _ => XS.iload A.here hx rfl (Jvm.hb hby at_182) rfl) ?_
      show oGo p e below _ (T.setTop (mkF m 184 #[.val (.int i0), .val (.int i1), .val (.int i2), .val (.int i3), .val (.int i4), .val (.int n), .val (.int x0), .val (.int x1), .val (.int x2), .val (.int x3), .val (.ref b), .val (.int (2 : Int32)), .val (.ref b2), .unset] [(.int (2 : Int32))]))
      refine oSt (fun _ => XS.iconst A.here hx rfl (Jvm.hb hby at_184)) ?_
      show oGo p e below _ (T.setTop (mkF m 185 #[.val (.int i0), .val (.int i1), .val (.int i2), .val (.int i3), .val (.int i4), .val (.int n), .val (.int x0), .val (.int x1), .val (.int x2), .val (.int x3), .val (.ref b), .val (.int (2 : Int32)), .val (.ref b2), .unset] [(.int (1 : Int32)), (.int (2 : Int32))]))
      refine oSt (fun _ => XS.icmpNo A.here hx rfl (Jvm.hb hby at_185) rfl (Jvm.Free.XT.ii_le_f (by decide))) ?_
      show oGo p e below _ (T.setTop (mkF m 188 #[.val (.int i0), .val (.int i1), .val (.int i2), .val (.int i3), .val (.int i4), .val (.int n), .val (.int x0), .val (.int x1), .val (.int x2), .val (.int x3), .val (.ref b), .val (.int (2 : Int32)), .val (.ref b2), .unset] []))
      refine oSt (fun _ => XS.aload A.here hx rfl (Jvm.hb hby at_188) rfl rfl) ?_
      show oGo p e below _ (T.setTop (mkF m 190 #[.val (.int i0), .val (.int i1), .val (.int i2), .val (.int i3), .val (.int i4), .val (.int n), .val (.int x0), .val (.int x1), .val (.int x2), .val (.int x3), .val (.ref b), .val (.int (2 : Int32)), .val (.ref b2), .unset] [(.ref b2)]))
      refine oSt (fun _ => XS.iconst A.here hx rfl (Jvm.hb hby at_190)) ?_
      show oGo p e below _ (T.setTop (mkF m 191 #[.val (.int i0), .val (.int i1), .val (.int i2), .val (.int i3), .val (.int i4), .val (.int n), .val (.int x0), .val (.int x1), .val (.int x2), .val (.int x3), .val (.ref b), .val (.int (2 : Int32)), .val (.ref b2), .unset] [(.int (1 : Int32)), (.ref b2)]))
      refine oSt (fun _ => XS.iload A.here hx rfl (Jvm.hb hby at_191) rfl) ?_
      show oGo p e below _ (T.setTop (mkF m 193 #[.val (.int i0), .val (.int i1), .val (.int i2), .val (.int i3), .val (.int i4), .val (.int n), .val (.int x0), .val (.int x1), .val (.int x2), .val (.int x3), .val (.ref b), .val (.int (2 : Int32)), .val (.ref b2), .unset] [(.int x1), (.int (1 : Int32)), (.ref b2)]))
      obtain ⟨T, h, A, W, V_b2, st⟩ := A.stC hx V_b2 1 rfl ⟨by decide, by decide⟩ (by simp) n0_b2 (Or.inr s_b2) (g := (mkF m 193 #[.val (.int i0), .val (.int i1), .val (.int i2), .val (.int i3), .val (.int i4), .val (.int n), .val (.int x0), .val (.int x1), .val (.int x2), .val (.int x3), .val (.ref b), .val (.int (2 : Int32)), .val (.ref b2), .unset] [(.int x1), (.int (1 : Int32)), (.ref b2)])) rfl rfl (Jvm.hb hby at_193)
      refine oSt st ?_
      show oGo p e below _ (T.setTop (mkF m 194 #[.val (.int i0), .val (.int i1), .val (.int i2), .val (.int i3), .val (.int i4), .val (.int n), .val (.int x0), .val (.int x1), .val (.int x2), .val (.int x3), .val (.ref b), .val (.int (2 : Int32)), .val (.ref b2), .unset] []))
      have EB := oExtW EB W hEB_b2
      rw [oNar hb1] at V_b2
      have V_b2 : Arv Z h b2 k_b2 .char (2 : Int32) [(.int x0), (.int x1)] (.int (0 : Int32)) := V_b2
      refine oSt (fun _ => XS.iload A.here hx rfl (Jvm.hb hby at_194) rfl) ?_
      show oGo p e below _ (T.setTop (mkF m 196 #[.val (.int i0), .val (.int i1), .val (.int i2), .val (.int i3), .val (.int i4), .val (.int n), .val (.int x0), .val (.int x1), .val (.int x2), .val (.int x3), .val (.ref b), .val (.int (2 : Int32)), .val (.ref b2), .unset] [(.int (2 : Int32))]))
      refine oSt (fun _ => XS.iconst A.here hx rfl (Jvm.hb hby at_196)) ?_
      show oGo p e below _ (T.setTop (mkF m 197 #[.val (.int i0), .val (.int i1), .val (.int i2), .val (.int i3), .val (.int i4), .val (.int n), .val (.int x0), .val (.int x1), .val (.int x2), .val (.int x3), .val (.ref b), .val (.int (2 : Int32)), .val (.ref b2), .unset] [(.int (2 : Int32)), (.int (2 : Int32))]))
      refine oSt (fun _ => XS.icmpYes A.here hx rfl (pc0 := 197) (pc' := 206) rfl (Jvm.hb hby at_197) rfl (Jvm.Free.XT.ii_le_t (by decide)) (by decide) (by decide)) ?_
      show oGo p e below _ (T.setTop (mkF m 206 #[.val (.int i0), .val (.int i1), .val (.int i2), .val (.int i3), .val (.int i4), .val (.int n), .val (.int x0), .val (.int x1), .val (.int x2), .val (.int x3), .val (.ref b), .val (.int (2 : Int32)), .val (.ref b2), .unset] []))
      refine oSt (fun _ => XS.iload A.here hx rfl (Jvm.hb hby at_206) rfl) ?_
      show oGo p e below _ (T.setTop (mkF m 208 #[.val (.int i0), .val (.int i1), .val (.int i2), .val (.int i3), .val (.int i4), .val (.int n), .val (.int x0), .val (.int x1), .val (.int x2), .val (.int x3), .val (.ref b), .val (.int (2 : Int32)), .val (.ref b2), .unset] [(.int (2 : Int32))]))
      refine oSt (fun _ => XS.iconst A.here hx rfl (Jvm.hb hby at_208)) ?_
      show oGo p e below _ (T.setTop (mkF m 209 #[.val (.int i0), .val (.int i1), .val (.int i2), .val (.int i3), .val (.int i4), .val (.int n), .val (.int x0), .val (.int x1), .val (.int x2), .val (.int x3), .val (.ref b), .val (.int (2 : Int32)), .val (.ref b2), .unset] [(.int (3 : Int32)), (.int (2 : Int32))]))
      refine oSt (fun _ => XS.icmpYes A.here hx rfl (pc0 := 209) (pc' := 218) rfl (Jvm.hb hby at_209) rfl (Jvm.Free.XT.ii_le_t (by decide)) (by decide) (by decide)) ?_
      show oGo p e below _ (T.setTop (mkF m 218 #[.val (.int i0), .val (.int i1), .val (.int i2), .val (.int i3), .val (.int i4), .val (.int n), .val (.int x0), .val (.int x1), .val (.int x2), .val (.int x3), .val (.ref b), .val (.int (2 : Int32)), .val (.ref b2), .unset] []))
      have V_b := V_b.ext EB
      exact J218 _ _ _ _ _ _ _ _ _ (A.mono (by decide) (by decide)) V_b V_b2 hwo
    · show oGo p e below _ (T.setTop (mkF m 165 #[.val (.int i0), .val (.int i1), .val (.int i2), .val (.int i3), .val (.int i4), .val (.int n), .val (.int x0), .val (.int x1), .val (.int x2), .val (.int x3), .val (.ref b), .val (.int (3 : Int32)), .unset, .unset] []))
      refine oSt (fun _ => XS.iload A.here hx rfl (Jvm.hb hby at_165) rfl) ?_
      show oGo p e below _ (T.setTop (mkF m 167 #[.val (.int i0), .val (.int i1), .val (.int i2), .val (.int i3), .val (.int i4), .val (.int n), .val (.int x0), .val (.int x1), .val (.int x2), .val (.int x3), .val (.ref b), .val (.int (3 : Int32)), .unset, .unset] [(.int (3 : Int32))]))
      have EB := oExtR h
      obtain ⟨T, h, b2, k_b2, g_b2, lt_b2, n0_b2, s_b2, A, E, V_b2, S_b2, st⟩ := A.newP hx (hw _ (List.mem_of_getElem? (i := 5) rfl)) (g := (mkF m 167 #[.val (.int i0), .val (.int i1), .val (.int i2), .val (.int i3), .val (.int i4), .val (.int n), .val (.int x0), .val (.int x1), .val (.int x2), .val (.int x3), .val (.ref b), .val (.int (3 : Int32)), .unset, .unset] [(.int (3 : Int32))])) rfl (Jvm.hb hby at_167) rfl (by decide) (cap := 3) (by decide) (by decide) (by decide) (by decide)
      refine oSt st ?_
      show oGo p e below _ (T.setTop (mkF m 169 #[.val (.int i0), .val (.int i1), .val (.int i2), .val (.int i3), .val (.int i4), .val (.int n), .val (.int x0), .val (.int x1), .val (.int x2), .val (.int x3), .val (.ref b), .val (.int (3 : Int32)), .unset, .unset] [(.ref b2)]))
      have hEB_b2 := Nat.le_trans EB.1 (Nat.le_of_eq g_b2.symm)
      have EB := oExtT EB E
      have V_b2 : Arv Z h b2 k_b2 .char (3 : Int32) [(.int (0 : Int32)), (.int (0 : Int32)), (.int (0 : Int32))] (.int (0 : Int32)) := V_b2.pad (pad_rep [] (.int (0 : Int32)) 3)
      refine oSt (fun _ => XS.astore A.here hx rfl (Jvm.hb hby at_169) rfl rfl (l' := #[.val (.int i0), .val (.int i1), .val (.int i2), .val (.int i3), .val (.int i4), .val (.int n), .val (.int x0), .val (.int x1), .val (.int x2), .val (.int x3), .val (.ref b), .val (.int (3 : Int32)), .val (.ref b2), .unset]) rfl) ?_
      show oGo p e below _ (T.setTop (mkF m 171 #[.val (.int i0), .val (.int i1), .val (.int i2), .val (.int i3), .val (.int i4), .val (.int n), .val (.int x0), .val (.int x1), .val (.int x2), .val (.int x3), .val (.ref b), .val (.int (3 : Int32)), .val (.ref b2), .unset] []))
      refine oSt (fun _ => XS.iload A.here hx rfl (Jvm.hb hby at_171) rfl) ?_
      show oGo p e below _ (T.setTop (mkF m 173 #[.val (.int i0), .val (.int i1), .val (.int i2), .val (.int i3), .val (.int i4), .val (.int n), .val (.int x0), .val (.int x1), .val (.int x2), .val (.int x3), .val (.ref b), .val (.int (3 : Int32)), .val (.ref b2), .unset] [(.int (3 : Int32))]))
      refine oSt (fun _ => XS.ifNo A.here hx rfl (Jvm.hb hby at_173) rfl (Jvm.Free.XT.i0_le_f (by decide))) ?_
      show oGo p e below _ (T.setTop (mkF m 176 #[.val (.int i0), .val (.int i1), .val (.int i2), .val (.int i3), .val (.int i4), .val (.int n), .val (.int x0), .val (.int x1), .val (.int x2), .val (.int x3), .val (.ref b), .val (.int (3 : Int32)), .val (.ref b2), .unset] []))
      refine oSt (fun _ => XS.aload A.here hx rfl (Jvm.hb hby at_176) rfl rfl) ?_
      show oGo p e below _ (T.setTop (mkF m 178 #[.val (.int i0), .val (.int i1), .val (.int i2), .val (.int i3), .val (.int i4), .val (.int n), .val (.int x0), .val (.int x1), .val (.int x2), .val (.int x3), .val (.ref b), .val (.int (3 : Int32)), .val (.ref b2), .unset] [(.ref b2)]))
      refine oSt (fun _ => XS.iconst A.here hx rfl (Jvm.hb hby at_178)) ?_
      show oGo p e below _ (T.setTop (mkF m 179 #[.val (.int i0), .val (.int i1), .val (.int i2), .val (.int i3), .val (.int i4), .val (.int n), .val (.int x0), .val (.int x1), .val (.int x2), .val (.int x3), .val (.ref b), .val (.int (3 : Int32)), .val (.ref b2), .unset] [(.int (0 : Int32)), (.ref b2)]))
      refine oSt (fun _ => XS.iload A.here hx rfl (Jvm.hb hby at_179) rfl) ?_
      show oGo p e below _ (T.setTop (mkF m 181 #[.val (.int i0), .val (.int i1), .val (.int i2), .val (.int i3), .val (.int i4), .val (.int n), .val (.int x0), .val (.int x1), .val (.int x2), .val (.int x3), .val (.ref b), .val (.int (3 : Int32)), .val (.ref b2), .unset] [(.int x0), (.int (0 : Int32)), (.ref b2)]))
      obtain ⟨T, h, A, W, V_b2, st⟩ := A.stC hx V_b2 0 rfl ⟨by decide, by decide⟩ (by simp) n0_b2 (Or.inr s_b2) (g := (mkF m 181 #[.val (.int i0), .val (.int i1), .val (.int i2), .val (.int i3), .val (.int i4), .val (.int n), .val (.int x0), .val (.int x1), .val (.int x2), .val (.int x3), .val (.ref b), .val (.int (3 : Int32)), .val (.ref b2), .unset] [(.int x0), (.int (0 : Int32)), (.ref b2)])) rfl rfl (Jvm.hb hby at_181)
      refine oSt st ?_
      show oGo p e below _ (T.setTop (mkF m 182 #[.val (.int i0), .val (.int i1), .val (.int i2), .val (.int i3), .val (.int i4), .val (.int n), .val (.int x0), .val (.int x1), .val (.int x2), .val (.int x3), .val (.ref b), .val (.int (3 : Int32)), .val (.ref b2), .unset] []))
      have EB := oExtW EB W hEB_b2
      rw [oNar hb0] at V_b2
      have V_b2 : Arv Z h b2 k_b2 .char (3 : Int32) [(.int x0), (.int (0 : Int32)), (.int (0 : Int32))] (.int (0 : Int32)) := V_b2
      refine oSt (fun _ => XS.iload A.here hx rfl (Jvm.hb hby at_182) rfl) ?_
      show oGo p e below _ (T.setTop (mkF m 184 #[.val (.int i0), .val (.int i1), .val (.int i2), .val (.int i3), .val (.int i4), .val (.int n), .val (.int x0), .val (.int x1), .val (.int x2), .val (.int x3), .val (.ref b), .val (.int (3 : Int32)), .val (.ref b2), .unset] [(.int (3 : Int32))]))
      refine oSt (fun _ => XS.iconst A.here hx rfl (Jvm.hb hby at_184)) ?_
      show oGo p e below _ (T.setTop (mkF m 185 #[.val (.int i0), .val (.int i1), .val (.int i2), .val (.int i3), .val (.int i4), .val (.int n), .val (.int x0), .val (.int x1), .val (.int x2), .val (.int x3), .val (.ref b), .val (.int (3 : Int32)), .val (.ref b2), .unset] [(.int (1 : Int32)), (.int (3 : Int32))]))
      refine oSt (fun _ => XS.icmpNo A.here hx rfl (Jvm.hb hby at_185) rfl (Jvm.Free.XT.ii_le_f (by decide))) ?_
      show oGo p e below _ (T.setTop (mkF m 188 #[.val (.int i0), .val (.int i1), .val (.int i2), .val (.int i3), .val (.int i4), .val (.int n), .val (.int x0), .val (.int x1), .val (.int x2), .val (.int x3), .val (.ref b), .val (.int (3 : Int32)), .val (.ref b2), .unset] []))
      refine oSt (fun _ => XS.aload A.here hx rfl (Jvm.hb hby at_188) rfl rfl) ?_
      show oGo p e below _ (T.setTop (mkF m 190 #[.val (.int i0), .val (.int i1), .val (.int i2), .val (.int i3), .val (.int i4), .val (.int n), .val (.int x0), .val (.int x1), .val (.int x2), .val (.int x3), .val (.ref b), .val (.int (3 : Int32)), .val (.ref b2), .unset] [(.ref b2)]))
      refine oSt (fun _ => XS.iconst A.here hx rfl (Jvm.hb hby at_190)) ?_
      show oGo p e below _ (T.setTop (mkF m 191 #[.val (.int i0), .val (.int i1), .val (.int i2), .val (.int i3), .val (.int i4), .val (.int n), .val (.int x0), .val (.int x1), .val (.int x2), .val (.int x3), .val (.ref b), .val (.int (3 : Int32)), .val (.ref b2), .unset] [(.int (1 : Int32)), (.ref b2)]))
      refine oSt (fun _ => XS.iload A.here hx rfl (Jvm.hb hby at_191) rfl) ?_
      show oGo p e below _ (T.setTop (mkF m 193 #[.val (.int i0), .val (.int i1), .val (.int i2), .val (.int i3), .val (.int i4), .val (.int n), .val (.int x0), .val (.int x1), .val (.int x2), .val (.int x3), .val (.ref b), .val (.int (3 : Int32)), .val (.ref b2), .unset] [(.int x1), (.int (1 : Int32)), (.ref b2)]))
      obtain ⟨T, h, A, W, V_b2, st⟩ := A.stC hx V_b2 1 rfl ⟨by decide, by decide⟩ (by simp) n0_b2 (Or.inr s_b2) (g := (mkF m 193 #[.val (.int i0), .val (.int i1), .val (.int i2), .val (.int i3), .val (.int i4), .val (.int n), .val (.int x0), .val (.int x1), .val (.int x2), .val (.int x3), .val (.ref b), .val (.int (3 : Int32)), .val (.ref b2), .unset] [(.int x1), (.int (1 : Int32)), (.ref b2)])) rfl rfl (Jvm.hb hby at_193)
      refine oSt st ?_
      show oGo p e below _ (T.setTop (mkF m 194 #[.val (.int i0), .val (.int i1), .val (.int i2), .val (.int i3), .val (.int i4), .val (.int n), .val (.int x0), .val (.int x1), .val (.int x2), .val (.int x3), .val (.ref b), .val (.int (3 : Int32)), .val (.ref b2), .unset] []))
      have EB := oExtW EB W hEB_b2
      rw [oNar hb1] at V_b2
      have V_b2 : Arv Z h b2 k_b2 .char (3 : Int32) [(.int x0), (.int x1), (.int (0 : Int32))] (.int (0 : Int32)) := V_b2
      refine oSt (fun _ => XS.iload A.here hx rfl (Jvm.hb hby at_194) rfl) ?_
      show oGo p e below _ (T.setTop (mkF m 196 #[.val (.int i0), .val (.int i1), .val (.int i2), .val (.int i3), .val (.int i4), .val (.int n), .val (.int x0), .val (.int x1), .val (.int x2), .val (.int x3), .val (.ref b), .val (.int (3 : Int32)), .val (.ref b2), .unset] [(.int (3 : Int32))]))
      refine oSt (fun _ => XS.iconst A.here hx rfl (Jvm.hb hby at_196)) ?_
      show oGo p e below _ (T.setTop (mkF m 197 #[.val (.int i0), .val (.int i1), .val (.int i2), .val (.int i3), .val (.int i4), .val (.int n), .val (.int x0), .val (.int x1), .val (.int x2), .val (.int x3), .val (.ref b), .val (.int (3 : Int32)), .val (.ref b2), .unset] [(.int (2 : Int32)), (.int (3 : Int32))]))
      refine oSt (fun _ => XS.icmpNo A.here hx rfl (Jvm.hb hby at_197) rfl (Jvm.Free.XT.ii_le_f (by decide))) ?_
      show oGo p e below _ (T.setTop (mkF m 200 #[.val (.int i0), .val (.int i1), .val (.int i2), .val (.int i3), .val (.int i4), .val (.int n), .val (.int x0), .val (.int x1), .val (.int x2), .val (.int x3), .val (.ref b), .val (.int (3 : Int32)), .val (.ref b2), .unset] []))
      refine oSt (fun _ => XS.aload A.here hx rfl (Jvm.hb hby at_200) rfl rfl) ?_
      show oGo p e below _ (T.setTop (mkF m 202 #[.val (.int i0), .val (.int i1), .val (.int i2), .val (.int i3), .val (.int i4), .val (.int n), .val (.int x0), .val (.int x1), .val (.int x2), .val (.int x3), .val (.ref b), .val (.int (3 : Int32)), .val (.ref b2), .unset] [(.ref b2)]))
      refine oSt (fun _ => XS.iconst A.here hx rfl (Jvm.hb hby at_202)) ?_
      show oGo p e below _ (T.setTop (mkF m 203 #[.val (.int i0), .val (.int i1), .val (.int i2), .val (.int i3), .val (.int i4), .val (.int n), .val (.int x0), .val (.int x1), .val (.int x2), .val (.int x3), .val (.ref b), .val (.int (3 : Int32)), .val (.ref b2), .unset] [(.int (2 : Int32)), (.ref b2)]))
      refine oSt (fun _ => XS.iload A.here hx rfl (Jvm.hb hby at_203) rfl) ?_
      show oGo p e below _ (T.setTop (mkF m 205 #[.val (.int i0), .val (.int i1), .val (.int i2), .val (.int i3), .val (.int i4), .val (.int n), .val (.int x0), .val (.int x1), .val (.int x2), .val (.int x3), .val (.ref b), .val (.int (3 : Int32)), .val (.ref b2), .unset] [(.int x2), (.int (2 : Int32)), (.ref b2)]))
      obtain ⟨T, h, A, W, V_b2, st⟩ := A.stC hx V_b2 2 rfl ⟨by decide, by decide⟩ (by simp) n0_b2 (Or.inr s_b2) (g := (mkF m 205 #[.val (.int i0), .val (.int i1), .val (.int i2), .val (.int i3), .val (.int i4), .val (.int n), .val (.int x0), .val (.int x1), .val (.int x2), .val (.int x3), .val (.ref b), .val (.int (3 : Int32)), .val (.ref b2), .unset] [(.int x2), (.int (2 : Int32)), (.ref b2)])) rfl rfl (Jvm.hb hby at_205)
      refine oSt st ?_
      show oGo p e below _ (T.setTop (mkF m 206 #[.val (.int i0), .val (.int i1), .val (.int i2), .val (.int i3), .val (.int i4), .val (.int n), .val (.int x0), .val (.int x1), .val (.int x2), .val (.int x3), .val (.ref b), .val (.int (3 : Int32)), .val (.ref b2), .unset] []))
      have EB := oExtW EB W hEB_b2
      rw [oNar hb2] at V_b2
      have V_b2 : Arv Z h b2 k_b2 .char (3 : Int32) [(.int x0), (.int x1), (.int x2)] (.int (0 : Int32)) := V_b2
      refine oSt (fun _ => XS.iload A.here hx rfl (Jvm.hb hby at_206) rfl) ?_
      show oGo p e below _ (T.setTop (mkF m 208 #[.val (.int i0), .val (.int i1), .val (.int i2), .val (.int i3), .val (.int i4), .val (.int n), .val (.int x0), .val (.int x1), .val (.int x2), .val (.int x3), .val (.ref b), .val (.int (3 : Int32)), .val (.ref b2), .unset] [(.int (3 : Int32))]))
      refine oSt (fun _ => XS.iconst A.here hx rfl (Jvm.hb hby at_208)) ?_
      show oGo p e below _ (T.setTop (mkF m 209 #[.val (.int i0), .val (.int i1), .val (.int i2), .val (.int i3), .val (.int i4), .val (.int n), .val (.int x0), .val (.int x1), .val (.int x2), .val (.int x3), .val (.ref b), .val (.int (3 : Int32)), .val (.ref b2), .unset] [(.int (3 : Int32)), (.int (3 : Int32))]))
      refine oSt (fun _ => XS.icmpYes A.here hx rfl (pc0 := 209) (pc' := 218) rfl (Jvm.hb hby at_209) rfl (Jvm.Free.XT.ii_le_t (by decide)) (by decide) (by decide)) ?_
      show oGo p e below _ (T.setTop (mkF m 218 #[.val (.int i0), .val (.int i1), .val (.int i2), .val (.int i3), .val (.int i4), .val (.int n), .val (.int x0), .val (.int x1), .val (.int x2), .val (.int x3), .val (.ref b), .val (.int (3 : Int32)), .val (.ref b2), .unset] []))
      have V_b := V_b.ext EB
      exact J218 _ _ _ _ _ _ _ _ _ (A.mono (by decide) (by decide)) V_b V_b2 hwo
    · show oGo p e below _ (T.setTop (mkF m 165 #[.val (.int i0), .val (.int i1), .val (.int i2), .val (.int i3), .val (.int i4), .val (.int n), .val (.int x0), .val (.int x1), .val (.int x2), .val (.int x3), .val (.ref b), .val (.int (4 : Int32)), .unset, .unset] []))
      refine oSt (fun _ => XS.iload A.here hx rfl (Jvm.hb hby at_165) rfl) ?_
      show oGo p e below _ (T.setTop (mkF m 167 #[.val (.int i0), .val (.int i1), .val (.int i2), .val (.int i3), .val (.int i4), .val (.int n), .val (.int x0), .val (.int x1), .val (.int x2), .val (.int x3), .val (.ref b), .val (.int (4 : Int32)), .unset, .unset] [(.int (4 : Int32))]))
      have EB := oExtR h
      obtain ⟨T, h, b2, k_b2, g_b2, lt_b2, n0_b2, s_b2, A, E, V_b2, S_b2, st⟩ := A.newP hx (hw _ (List.mem_of_getElem? (i := 5) rfl)) (g := (mkF m 167 #[.val (.int i0), .val (.int i1), .val (.int i2), .val (.int i3), .val (.int i4), .val (.int n), .val (.int x0), .val (.int x1), .val (.int x2), .val (.int x3), .val (.ref b), .val (.int (4 : Int32)), .unset, .unset] [(.int (4 : Int32))])) rfl (Jvm.hb hby at_167) rfl (by decide) (cap := 4) (by decide) (by decide) (by decide) (by decide)
      refine oSt st ?_
      show oGo p e below _ (T.setTop (mkF m 169 #[.val (.int i0), .val (.int i1), .val (.int i2), .val (.int i3), .val (.int i4), .val (.int n), .val (.int x0), .val (.int x1), .val (.int x2), .val (.int x3), .val (.ref b), .val (.int (4 : Int32)), .unset, .unset] [(.ref b2)]))
      have hEB_b2 := Nat.le_trans EB.1 (Nat.le_of_eq g_b2.symm)
      have EB := oExtT EB E
      have V_b2 : Arv Z h b2 k_b2 .char (4 : Int32) [(.int (0 : Int32)), (.int (0 : Int32)), (.int (0 : Int32)), (.int (0 : Int32))] (.int (0 : Int32)) := V_b2.pad (pad_rep [] (.int (0 : Int32)) 4)
      refine oSt (fun _ => XS.astore A.here hx rfl (Jvm.hb hby at_169) rfl rfl (l' := #[.val (.int i0), .val (.int i1), .val (.int i2), .val (.int i3), .val (.int i4), .val (.int n), .val (.int x0), .val (.int x1), .val (.int x2), .val (.int x3), .val (.ref b), .val (.int (4 : Int32)), .val (.ref b2), .unset]) rfl) ?_
      show oGo p e below _ (T.setTop (mkF m 171 #[.val (.int i0), .val (.int i1), .val (.int i2), .val (.int i3), .val (.int i4), .val (.int n), .val (.int x0), .val (.int x1), .val (.int x2), .val (.int x3), .val (.ref b), .val (.int (4 : Int32)), .val (.ref b2), .unset] []))
      refine oSt (fun _ => XS.iload A.here hx rfl (Jvm.hb hby at_171) rfl) ?_
      show oGo p e below _ (T.setTop (mkF m 173 #[.val (.int i0), .val (.int i1), .val (.int i2), .val (.int i3), .val (.int i4), .val (.int n), .val (.int x0), .val (.int x1), .val (.int x2), .val (.int x3), .val (.ref b), .val (.int (4 : Int32)), .val (.ref b2), .unset] [(.int (4 : Int32))]))
      refine oSt (fun _ => XS.ifNo A.here hx rfl (Jvm.hb hby at_173) rfl (Jvm.Free.XT.i0_le_f (by decide))) ?_
      show oGo p e below _ (T.setTop (mkF m 176 #[.val (.int i0), .val (.int i1), .val (.int i2), .val (.int i3), .val (.int i4), .val (.int n), .val (.int x0), .val (.int x1), .val (.int x2), .val (.int x3), .val (.ref b), .val (.int (4 : Int32)), .val (.ref b2), .unset] []))
      refine oSt (fun _ => XS.aload A.here hx rfl (Jvm.hb hby at_176) rfl rfl) ?_
      show oGo p e below _ (T.setTop (mkF m 178 #[.val (.int i0), .val (.int i1), .val (.int i2), .val (.int i3), .val (.int i4), .val (.int n), .val (.int x0), .val (.int x1), .val (.int x2), .val (.int x3), .val (.ref b), .val (.int (4 : Int32)), .val (.ref b2), .unset] [(.ref b2)]))
      refine oSt (fun _ => XS.iconst A.here hx rfl (Jvm.hb hby at_178)) ?_
      show oGo p e below _ (T.setTop (mkF m 179 #[.val (.int i0), .val (.int i1), .val (.int i2), .val (.int i3), .val (.int i4), .val (.int n), .val (.int x0), .val (.int x1), .val (.int x2), .val (.int x3), .val (.ref b), .val (.int (4 : Int32)), .val (.ref b2), .unset] [(.int (0 : Int32)), (.ref b2)]))
      refine oSt (fun _ => XS.iload A.here hx rfl (Jvm.hb hby at_179) rfl) ?_
      show oGo p e below _ (T.setTop (mkF m 181 #[.val (.int i0), .val (.int i1), .val (.int i2), .val (.int i3), .val (.int i4), .val (.int n), .val (.int x0), .val (.int x1), .val (.int x2), .val (.int x3), .val (.ref b), .val (.int (4 : Int32)), .val (.ref b2), .unset] [(.int x0), (.int (0 : Int32)), (.ref b2)]))
      obtain ⟨T, h, A, W, V_b2, st⟩ := A.stC hx V_b2 0 rfl ⟨by decide, by decide⟩ (by simp) n0_b2 (Or.inr s_b2) (g := (mkF m 181 #[.val (.int i0), .val (.int i1), .val (.int i2), .val (.int i3), .val (.int i4), .val (.int n), .val (.int x0), .val (.int x1), .val (.int x2), .val (.int x3), .val (.ref b), .val (.int (4 : Int32)), .val (.ref b2), .unset] [(.int x0), (.int (0 : Int32)), (.ref b2)])) rfl rfl (Jvm.hb hby at_181)
      refine oSt st ?_
      show oGo p e below _ (T.setTop (mkF m 182 #[.val (.int i0), .val (.int i1), .val (.int i2), .val (.int i3), .val (.int i4), .val (.int n), .val (.int x0), .val (.int x1), .val (.int x2), .val (.int x3), .val (.ref b), .val (.int (4 : Int32)), .val (.ref b2), .unset] []))
      have EB := oExtW EB W hEB_b2
      rw [oNar hb0] at V_b2
      have V_b2 : Arv Z h b2 k_b2 .char (4 : Int32) [(.int x0), (.int (0 : Int32)), (.int (0 : Int32)), (.int (0 : Int32))] (.int (0 : Int32)) := V_b2
      refine oSt (fun _ => XS.iload A.here hx rfl (Jvm.hb hby at_182) rfl) ?_
      show oGo p e below _ (T.setTop (mkF m 184 #[.val (.int i0), .val (.int i1), .val (.int i2), .val (.int i3), .val (.int i4), .val (.int n), .val (.int x0), .val (.int x1), .val (.int x2), .val (.int x3), .val (.ref b), .val (.int (4 : Int32)), .val (.ref b2), .unset] [(.int (4 : Int32))]))
      refine oSt (fun _ => XS.iconst A.here hx rfl (Jvm.hb hby at_184)) ?_
      show oGo p e below _ (T.setTop (mkF m 185 #[.val (.int i0), .val (.int i1), .val (.int i2), .val (.int i3), .val (.int i4), .val (.int n), .val (.int x0), .val (.int x1), .val (.int x2), .val (.int x3), .val (.ref b), .val (.int (4 : Int32)), .val (.ref b2), .unset] [(.int (1 : Int32)), (.int (4 : Int32))]))
      refine oSt (fun _ => XS.icmpNo A.here hx rfl (Jvm.hb hby at_185) rfl (Jvm.Free.XT.ii_le_f (by decide))) ?_
      show oGo p e below _ (T.setTop (mkF m 188 #[.val (.int i0), .val (.int i1), .val (.int i2), .val (.int i3), .val (.int i4), .val (.int n), .val (.int x0), .val (.int x1), .val (.int x2), .val (.int x3), .val (.ref b), .val (.int (4 : Int32)), .val (.ref b2), .unset] []))
      refine oSt (fun _ => XS.aload A.here hx rfl (Jvm.hb hby at_188) rfl rfl) ?_
      show oGo p e below _ (T.setTop (mkF m 190 #[.val (.int i0), .val (.int i1), .val (.int i2), .val (.int i3), .val (.int i4), .val (.int n), .val (.int x0), .val (.int x1), .val (.int x2), .val (.int x3), .val (.ref b), .val (.int (4 : Int32)), .val (.ref b2), .unset] [(.ref b2)]))
      refine oSt (fun _ => XS.iconst A.here hx rfl (Jvm.hb hby at_190)) ?_
      show oGo p e below _ (T.setTop (mkF m 191 #[.val (.int i0), .val (.int i1), .val (.int i2), .val (.int i3), .val (.int i4), .val (.int n), .val (.int x0), .val (.int x1), .val (.int x2), .val (.int x3), .val (.ref b), .val (.int (4 : Int32)), .val (.ref b2), .unset] [(.int (1 : Int32)), (.ref b2)]))
      refine oSt (fun _ => XS.iload A.here hx rfl (Jvm.hb hby at_191) rfl) ?_
      show oGo p e below _ (T.setTop (mkF m 193 #[.val (.int i0), .val (.int i1), .val (.int i2), .val (.int i3), .val (.int i4), .val (.int n), .val (.int x0), .val (.int x1), .val (.int x2), .val (.int x3), .val (.ref b), .val (.int (4 : Int32)), .val (.ref b2), .unset] [(.int x1), (.int (1 : Int32)), (.ref b2)]))
      obtain ⟨T, h, A, W, V_b2, st⟩ := A.stC hx V_b2 1 rfl ⟨by decide, by decide⟩ (by simp) n0_b2 (Or.inr s_b2) (g := (mkF m 193 #[.val (.int i0), .val (.int i1), .val (.int i2), .val (.int i3), .val (.int i4), .val (.int n), .val (.int x0), .val (.int x1), .val (.int x2), .val (.int x3), .val (.ref b), .val (.int (4 : Int32)), .val (.ref b2), .unset] [(.int x1), (.int (1 : Int32)), (.ref b2)])) rfl rfl (Jvm.hb hby at_193)
      refine oSt st ?_
      show oGo p e below _ (T.setTop (mkF m 194 #[.val (.int i0), .val (.int i1), .val (.int i2), .val (.int i3), .val (.int i4), .val (.int n), .val (.int x0), .val (.int x1), .val (.int x2), .val (.int x3), .val (.ref b), .val (.int (4 : Int32)), .val (.ref b2), .unset] []))
      have EB := oExtW EB W hEB_b2
      rw [oNar hb1] at V_b2
      have V_b2 : Arv Z h b2 k_b2 .char (4 : Int32) [(.int x0), (.int x1), (.int (0 : Int32)), (.int (0 : Int32))] (.int (0 : Int32)) := V_b2
      refine oSt (fun _ => XS.iload A.here hx rfl (Jvm.hb hby at_194) rfl) ?_
      show oGo p e below _ (T.setTop (mkF m 196 #[.val (.int i0), .val (.int i1), .val (.int i2), .val (.int i3), .val (.int i4), .val (.int n), .val (.int x0), .val (.int x1), .val (.int x2), .val (.int x3), .val (.ref b), .val (.int (4 : Int32)), .val (.ref b2), .unset] [(.int (4 : Int32))]))
      refine oSt (fun _ => XS.iconst A.here hx rfl (Jvm.hb hby at_196)) ?_
      show oGo p e below _ (T.setTop (mkF m 197 #[.val (.int i0), .val (.int i1), .val (.int i2), .val (.int i3), .val (.int i4), .val (.int n), .val (.int x0), .val (.int x1), .val (.int x2), .val (.int x3), .val (.ref b), .val (.int (4 : Int32)), .val (.ref b2), .unset] [(.int (2 : Int32)), (.int (4 : Int32))]))
      refine oSt (fun _ => XS.icmpNo A.here hx rfl (Jvm.hb hby at_197) rfl (Jvm.Free.XT.ii_le_f (by decide))) ?_
      show oGo p e below _ (T.setTop (mkF m 200 #[.val (.int i0), .val (.int i1), .val (.int i2), .val (.int i3), .val (.int i4), .val (.int n), .val (.int x0), .val (.int x1), .val (.int x2), .val (.int x3), .val (.ref b), .val (.int (4 : Int32)), .val (.ref b2), .unset] []))
      refine oSt (fun _ => XS.aload A.here hx rfl (Jvm.hb hby at_200) rfl rfl) ?_
      show oGo p e below _ (T.setTop (mkF m 202 #[.val (.int i0), .val (.int i1), .val (.int i2), .val (.int i3), .val (.int i4), .val (.int n), .val (.int x0), .val (.int x1), .val (.int x2), .val (.int x3), .val (.ref b), .val (.int (4 : Int32)), .val (.ref b2), .unset] [(.ref b2)]))
      refine oSt (fun _ => XS.iconst A.here hx rfl (Jvm.hb hby at_202)) ?_
      show oGo p e below _ (T.setTop (mkF m 203 #[.val (.int i0), .val (.int i1), .val (.int i2), .val (.int i3), .val (.int i4), .val (.int n), .val (.int x0), .val (.int x1), .val (.int x2), .val (.int x3), .val (.ref b), .val (.int (4 : Int32)), .val (.ref b2), .unset] [(.int (2 : Int32)), (.ref b2)]))
      refine oSt (fun _ => XS.iload A.here hx rfl (Jvm.hb hby at_203) rfl) ?_
      show oGo p e below _ (T.setTop (mkF m 205 #[.val (.int i0), .val (.int i1), .val (.int i2), .val (.int i3), .val (.int i4), .val (.int n), .val (.int x0), .val (.int x1), .val (.int x2), .val (.int x3), .val (.ref b), .val (.int (4 : Int32)), .val (.ref b2), .unset] [(.int x2), (.int (2 : Int32)), (.ref b2)]))
      obtain ⟨T, h, A, W, V_b2, st⟩ := A.stC hx V_b2 2 rfl ⟨by decide, by decide⟩ (by simp) n0_b2 (Or.inr s_b2) (g := (mkF m 205 #[.val (.int i0), .val (.int i1), .val (.int i2), .val (.int i3), .val (.int i4), .val (.int n), .val (.int x0), .val (.int x1), .val (.int x2), .val (.int x3), .val (.ref b), .val (.int (4 : Int32)), .val (.ref b2), .unset] [(.int x2), (.int (2 : Int32)), (.ref b2)])) rfl rfl (Jvm.hb hby at_205)
      refine oSt st ?_
      show oGo p e below _ (T.setTop (mkF m 206 #[.val (.int i0), .val (.int i1), .val (.int i2), .val (.int i3), .val (.int i4), .val (.int n), .val (.int x0), .val (.int x1), .val (.int x2), .val (.int x3), .val (.ref b), .val (.int (4 : Int32)), .val (.ref b2), .unset] []))
      have EB := oExtW EB W hEB_b2
      rw [oNar hb2] at V_b2
      have V_b2 : Arv Z h b2 k_b2 .char (4 : Int32) [(.int x0), (.int x1), (.int x2), (.int (0 : Int32))] (.int (0 : Int32)) := V_b2
      refine oSt (fun _ => XS.iload A.here hx rfl (Jvm.hb hby at_206) rfl) ?_
      show oGo p e below _ (T.setTop (mkF m 208 #[.val (.int i0), .val (.int i1), .val (.int i2), .val (.int i3), .val (.int i4), .val (.int n), .val (.int x0), .val (.int x1), .val (.int x2), .val (.int x3), .val (.ref b), .val (.int (4 : Int32)), .val (.ref b2), .unset] [(.int (4 : Int32))]))
      refine oSt (fun _ => XS.iconst A.here hx rfl (Jvm.hb hby at_208)) ?_
      show oGo p e below _ (T.setTop (mkF m 209 #[.val (.int i0), .val (.int i1), .val (.int i2), .val (.int i3), .val (.int i4), .val (.int n), .val (.int x0), .val (.int x1), .val (.int x2), .val (.int x3), .val (.ref b), .val (.int (4 : Int32)), .val (.ref b2), .unset] [(.int (3 : Int32)), (.int (4 : Int32))]))
      refine oSt (fun _ => XS.icmpNo A.here hx rfl (Jvm.hb hby at_209) rfl (Jvm.Free.XT.ii_le_f (by decide))) ?_
      show oGo p e below _ (T.setTop (mkF m 212 #[.val (.int i0), .val (.int i1), .val (.int i2), .val (.int i3), .val (.int i4), .val (.int n), .val (.int x0), .val (.int x1), .val (.int x2), .val (.int x3), .val (.ref b), .val (.int (4 : Int32)), .val (.ref b2), .unset] []))
      refine oSt (fun _ => XS.aload A.here hx rfl (Jvm.hb hby at_212) rfl rfl) ?_
      show oGo p e below _ (T.setTop (mkF m 214 #[.val (.int i0), .val (.int i1), .val (.int i2), .val (.int i3), .val (.int i4), .val (.int n), .val (.int x0), .val (.int x1), .val (.int x2), .val (.int x3), .val (.ref b), .val (.int (4 : Int32)), .val (.ref b2), .unset] [(.ref b2)]))
      refine oSt (fun _ => XS.iconst A.here hx rfl (Jvm.hb hby at_214)) ?_
      show oGo p e below _ (T.setTop (mkF m 215 #[.val (.int i0), .val (.int i1), .val (.int i2), .val (.int i3), .val (.int i4), .val (.int n), .val (.int x0), .val (.int x1), .val (.int x2), .val (.int x3), .val (.ref b), .val (.int (4 : Int32)), .val (.ref b2), .unset] [(.int (3 : Int32)), (.ref b2)]))
      refine oSt (fun _ => XS.iload A.here hx rfl (Jvm.hb hby at_215) rfl) ?_
      show oGo p e below _ (T.setTop (mkF m 217 #[.val (.int i0), .val (.int i1), .val (.int i2), .val (.int i3), .val (.int i4), .val (.int n), .val (.int x0), .val (.int x1), .val (.int x2), .val (.int x3), .val (.ref b), .val (.int (4 : Int32)), .val (.ref b2), .unset] [(.int x3), (.int (3 : Int32)), (.ref b2)]))
      obtain ⟨T, h, A, W, V_b2, st⟩ := A.stC hx V_b2 3 rfl ⟨by decide, by decide⟩ (by simp) n0_b2 (Or.inr s_b2) (g := (mkF m 217 #[.val (.int i0), .val (.int i1), .val (.int i2), .val (.int i3), .val (.int i4), .val (.int n), .val (.int x0), .val (.int x1), .val (.int x2), .val (.int x3), .val (.ref b), .val (.int (4 : Int32)), .val (.ref b2), .unset] [(.int x3), (.int (3 : Int32)), (.ref b2)])) rfl rfl (Jvm.hb hby at_217)
      refine oSt st ?_
      show oGo p e below _ (T.setTop (mkF m 218 #[.val (.int i0), .val (.int i1), .val (.int i2), .val (.int i3), .val (.int i4), .val (.int n), .val (.int x0), .val (.int x1), .val (.int x2), .val (.int x3), .val (.ref b), .val (.int (4 : Int32)), .val (.ref b2), .unset] []))
      have EB := oExtW EB W hEB_b2
      rw [oNar hb3] at V_b2
      have V_b2 : Arv Z h b2 k_b2 .char (4 : Int32) [(.int x0), (.int x1), (.int x2), (.int x3)] (.int (0 : Int32)) := V_b2
      have V_b := V_b.ext EB
      exact J218 _ _ _ _ _ _ _ _ _ (A.mono (by decide) (by decide)) V_b V_b2 hwo
  have J86 : ∀ (vm : Vm) (T : State) (h : Heap) (locs : List Loc) (b : Addr) (k : ClassId), oA l Z consts_1 n0 p e room_1 s m #[(.int i0), (.int i1), (.int i2), (.int i3), (.int i4)] below meth c "com/example/applicator/applicator/IriWithoutFragmentPinLaw" [] vm T h locs 1 4 → Arv Z h b k .char (Int32.ofNat (own_mk n x0 x1 x2 x3).length) ((own_mk n x0 x1 x2 x3).map Value.int) (.int (0 : Int32)) → oGo p e below (oEnd Z consts_1 n0 room_1 s [] (fun v _ h => v = some (.int 1))) (T.setTop (mkF m 86 #[.val (.int i0), .val (.int i1), .val (.int i2), .val (.int i3), .val (.int i4), .val (.int n), .val (.int x0), .val (.int x1), .val (.int x2), .val (.int x3), .val (.ref b), .unset, .unset, .unset] [])) := by
    intro vm T h locs b k A V_b
    show oGo p e below _ (T.setTop (mkF m 86 #[.val (.int i0), .val (.int i1), .val (.int i2), .val (.int i3), .val (.int i4), .val (.int n), .val (.int x0), .val (.int x1), .val (.int x2), .val (.int x3), .val (.ref b), .unset, .unset, .unset] []))
    refine oSt (fun _ => XS.iload A.here hx rfl (Jvm.hb hby at_86) rfl) ?_
    show oGo p e below _ (T.setTop (mkF m 88 #[.val (.int i0), .val (.int i1), .val (.int i2), .val (.int i3), .val (.int i4), .val (.int n), .val (.int x0), .val (.int x1), .val (.int x2), .val (.int x3), .val (.ref b), .unset, .unset, .unset] [(.int n)]))
    by_cases c0 : (0 : Int32) < n
    · refine oSt (fun _ => XS.ifNo A.here hx rfl (Jvm.hb hby at_88) rfl (Jvm.Free.XT.i0_le_f c0)) ?_
      show oGo p e below _ (T.setTop (mkF m 91 #[.val (.int i0), .val (.int i1), .val (.int i2), .val (.int i3), .val (.int i4), .val (.int n), .val (.int x0), .val (.int x1), .val (.int x2), .val (.int x3), .val (.ref b), .unset, .unset, .unset] []))
      refine oSt (fun _ => XS.iload A.here hx rfl (Jvm.hb hby at_91) rfl) ?_
      show oGo p e below _ (T.setTop (mkF m 93 #[.val (.int i0), .val (.int i1), .val (.int i2), .val (.int i3), .val (.int i4), .val (.int n), .val (.int x0), .val (.int x1), .val (.int x2), .val (.int x3), .val (.ref b), .unset, .unset, .unset] [(.int x0)]))
      refine oSt (fun _ => XS.bipush A.here hx rfl (Jvm.hb hby at_93)) ?_
      show oGo p e below _ (T.setTop (mkF m 95 #[.val (.int i0), .val (.int i1), .val (.int i2), .val (.int i3), .val (.int i4), .val (.int n), .val (.int x0), .val (.int x1), .val (.int x2), .val (.int x3), .val (.ref b), .unset, .unset, .unset] [(.int (35 : Int32)), (.int x0)]))
      by_cases d0 : x0 = (35 : Int32)
      · refine oSt (fun _ => XS.icmpNo A.here hx rfl (Jvm.hb hby at_95) rfl (Jvm.Free.XT.ii_ne_f d0)) ?_
        show oGo p e below _ (T.setTop (mkF m 98 #[.val (.int i0), .val (.int i1), .val (.int i2), .val (.int i3), .val (.int i4), .val (.int n), .val (.int x0), .val (.int x1), .val (.int x2), .val (.int x3), .val (.ref b), .unset, .unset, .unset] []))
        refine oSt (fun _ => XS.iconst A.here hx rfl (Jvm.hb hby at_98)) ?_
        show oGo p e below _ (T.setTop (mkF m 99 #[.val (.int i0), .val (.int i1), .val (.int i2), .val (.int i3), .val (.int i4), .val (.int n), .val (.int x0), .val (.int x1), .val (.int x2), .val (.int x3), .val (.ref b), .unset, .unset, .unset] [(.int (0 : Int32))]))
        refine oSt (fun _ => XS.istore A.here hx rfl (Jvm.hb hby at_99) rfl (l' := #[.val (.int i0), .val (.int i1), .val (.int i2), .val (.int i3), .val (.int i4), .val (.int n), .val (.int x0), .val (.int x1), .val (.int x2), .val (.int x3), .val (.ref b), .val (.int (0 : Int32)), .unset, .unset]) rfl) ?_
        show oGo p e below _ (T.setTop (mkF m 101 #[.val (.int i0), .val (.int i1), .val (.int i2), .val (.int i3), .val (.int i4), .val (.int n), .val (.int x0), .val (.int x1), .val (.int x2), .val (.int x3), .val (.ref b), .val (.int (0 : Int32)), .unset, .unset] []))
        refine oSt (fun _ => XS.goto A.here hx rfl (pc0 := 101) (pc' := 165) rfl (Jvm.hb hby at_101) (by decide) (by decide)) ?_
        show oGo p e below _ (T.setTop (mkF m 165 #[.val (.int i0), .val (.int i1), .val (.int i2), .val (.int i3), .val (.int i4), .val (.int n), .val (.int x0), .val (.int x1), .val (.int x2), .val (.int x3), .val (.ref b), .val (.int (0 : Int32)), .unset, .unset] []))
        exact J165 _ _ _ _ _ _ _ A V_b (Or.inl rfl) (own_wo0 rn c0 d0)
      · refine oSt (fun _ => XS.icmpYes A.here hx rfl (pc0 := 95) (pc' := 104) rfl (Jvm.hb hby at_95) rfl (Jvm.Free.XT.ii_ne_t d0) (by decide) (by decide)) ?_
        show oGo p e below _ (T.setTop (mkF m 104 #[.val (.int i0), .val (.int i1), .val (.int i2), .val (.int i3), .val (.int i4), .val (.int n), .val (.int x0), .val (.int x1), .val (.int x2), .val (.int x3), .val (.ref b), .unset, .unset, .unset] []))
        have g0 : ¬ ((0 : Int32) < n ∧ x0 = (35 : Int32)) := fun q => d0 q.2
        refine oSt (fun _ => XS.iload A.here hx rfl (Jvm.hb hby at_104) rfl) ?_
        show oGo p e below _ (T.setTop (mkF m 106 #[.val (.int i0), .val (.int i1), .val (.int i2), .val (.int i3), .val (.int i4), .val (.int n), .val (.int x0), .val (.int x1), .val (.int x2), .val (.int x3), .val (.ref b), .unset, .unset, .unset] [(.int n)]))
        refine oSt (fun _ => XS.iconst A.here hx rfl (Jvm.hb hby at_106)) ?_
        show oGo p e below _ (T.setTop (mkF m 107 #[.val (.int i0), .val (.int i1), .val (.int i2), .val (.int i3), .val (.int i4), .val (.int n), .val (.int x0), .val (.int x1), .val (.int x2), .val (.int x3), .val (.ref b), .unset, .unset, .unset] [(.int (1 : Int32)), (.int n)]))
        by_cases c1 : (1 : Int32) < n
        · refine oSt (fun _ => XS.icmpNo A.here hx rfl (Jvm.hb hby at_107) rfl (Jvm.Free.XT.ii_le_f c1)) ?_
          show oGo p e below _ (T.setTop (mkF m 110 #[.val (.int i0), .val (.int i1), .val (.int i2), .val (.int i3), .val (.int i4), .val (.int n), .val (.int x0), .val (.int x1), .val (.int x2), .val (.int x3), .val (.ref b), .unset, .unset, .unset] []))
          refine oSt (fun _ => XS.iload A.here hx rfl (Jvm.hb hby at_110) rfl) ?_
          show oGo p e below _ (T.setTop (mkF m 112 #[.val (.int i0), .val (.int i1), .val (.int i2), .val (.int i3), .val (.int i4), .val (.int n), .val (.int x0), .val (.int x1), .val (.int x2), .val (.int x3), .val (.ref b), .unset, .unset, .unset] [(.int x1)]))
          refine oSt (fun _ => XS.bipush A.here hx rfl (Jvm.hb hby at_112)) ?_
          show oGo p e below _ (T.setTop (mkF m 114 #[.val (.int i0), .val (.int i1), .val (.int i2), .val (.int i3), .val (.int i4), .val (.int n), .val (.int x0), .val (.int x1), .val (.int x2), .val (.int x3), .val (.ref b), .unset, .unset, .unset] [(.int (35 : Int32)), (.int x1)]))
          by_cases d1 : x1 = (35 : Int32)
          · refine oSt (fun _ => XS.icmpNo A.here hx rfl (Jvm.hb hby at_114) rfl (Jvm.Free.XT.ii_ne_f d1)) ?_
            show oGo p e below _ (T.setTop (mkF m 117 #[.val (.int i0), .val (.int i1), .val (.int i2), .val (.int i3), .val (.int i4), .val (.int n), .val (.int x0), .val (.int x1), .val (.int x2), .val (.int x3), .val (.ref b), .unset, .unset, .unset] []))
            refine oSt (fun _ => XS.iconst A.here hx rfl (Jvm.hb hby at_117)) ?_
            show oGo p e below _ (T.setTop (mkF m 118 #[.val (.int i0), .val (.int i1), .val (.int i2), .val (.int i3), .val (.int i4), .val (.int n), .val (.int x0), .val (.int x1), .val (.int x2), .val (.int x3), .val (.ref b), .unset, .unset, .unset] [(.int (1 : Int32))]))
            refine oSt (fun _ => XS.istore A.here hx rfl (Jvm.hb hby at_118) rfl (l' := #[.val (.int i0), .val (.int i1), .val (.int i2), .val (.int i3), .val (.int i4), .val (.int n), .val (.int x0), .val (.int x1), .val (.int x2), .val (.int x3), .val (.ref b), .val (.int (1 : Int32)), .unset, .unset]) rfl) ?_
            show oGo p e below _ (T.setTop (mkF m 120 #[.val (.int i0), .val (.int i1), .val (.int i2), .val (.int i3), .val (.int i4), .val (.int n), .val (.int x0), .val (.int x1), .val (.int x2), .val (.int x3), .val (.ref b), .val (.int (1 : Int32)), .unset, .unset] []))
            refine oSt (fun _ => XS.goto A.here hx rfl (pc0 := 120) (pc' := 165) rfl (Jvm.hb hby at_120) (by decide) (by decide)) ?_
            show oGo p e below _ (T.setTop (mkF m 165 #[.val (.int i0), .val (.int i1), .val (.int i2), .val (.int i3), .val (.int i4), .val (.int n), .val (.int x0), .val (.int x1), .val (.int x2), .val (.int x3), .val (.ref b), .val (.int (1 : Int32)), .unset, .unset] []))
            exact J165 _ _ _ _ _ _ _ A V_b (Or.inr (Or.inl rfl)) (own_wo1 rn c1 d1 g0)
          · refine oSt (fun _ => XS.icmpYes A.here hx rfl (pc0 := 114) (pc' := 123) rfl (Jvm.hb hby at_114) rfl (Jvm.Free.XT.ii_ne_t d1) (by decide) (by decide)) ?_
            show oGo p e below _ (T.setTop (mkF m 123 #[.val (.int i0), .val (.int i1), .val (.int i2), .val (.int i3), .val (.int i4), .val (.int n), .val (.int x0), .val (.int x1), .val (.int x2), .val (.int x3), .val (.ref b), .unset, .unset, .unset] []))
            have g1 : ¬ ((1 : Int32) < n ∧ x1 = (35 : Int32)) := fun q => d1 q.2
            refine oSt (fun _ => XS.iload A.here hx rfl (Jvm.hb hby at_123) rfl) ?_
            show oGo p e below _ (T.setTop (mkF m 125 #[.val (.int i0), .val (.int i1), .val (.int i2), .val (.int i3), .val (.int i4), .val (.int n), .val (.int x0), .val (.int x1), .val (.int x2), .val (.int x3), .val (.ref b), .unset, .unset, .unset] [(.int n)]))
            refine oSt (fun _ => XS.iconst A.here hx rfl (Jvm.hb hby at_125)) ?_
            show oGo p e below _ (T.setTop (mkF m 126 #[.val (.int i0), .val (.int i1), .val (.int i2), .val (.int i3), .val (.int i4), .val (.int n), .val (.int x0), .val (.int x1), .val (.int x2), .val (.int x3), .val (.ref b), .unset, .unset, .unset] [(.int (2 : Int32)), (.int n)]))
            by_cases c2 : (2 : Int32) < n
            · refine oSt (fun _ => XS.icmpNo A.here hx rfl (Jvm.hb hby at_126) rfl (Jvm.Free.XT.ii_le_f c2)) ?_
              show oGo p e below _ (T.setTop (mkF m 129 #[.val (.int i0), .val (.int i1), .val (.int i2), .val (.int i3), .val (.int i4), .val (.int n), .val (.int x0), .val (.int x1), .val (.int x2), .val (.int x3), .val (.ref b), .unset, .unset, .unset] []))
              refine oSt (fun _ => XS.iload A.here hx rfl (Jvm.hb hby at_129) rfl) ?_
              show oGo p e below _ (T.setTop (mkF m 131 #[.val (.int i0), .val (.int i1), .val (.int i2), .val (.int i3), .val (.int i4), .val (.int n), .val (.int x0), .val (.int x1), .val (.int x2), .val (.int x3), .val (.ref b), .unset, .unset, .unset] [(.int x2)]))
              refine oSt (fun _ => XS.bipush A.here hx rfl (Jvm.hb hby at_131)) ?_
              show oGo p e below _ (T.setTop (mkF m 133 #[.val (.int i0), .val (.int i1), .val (.int i2), .val (.int i3), .val (.int i4), .val (.int n), .val (.int x0), .val (.int x1), .val (.int x2), .val (.int x3), .val (.ref b), .unset, .unset, .unset] [(.int (35 : Int32)), (.int x2)]))
              by_cases d2 : x2 = (35 : Int32)
              · refine oSt (fun _ => XS.icmpNo A.here hx rfl (Jvm.hb hby at_133) rfl (Jvm.Free.XT.ii_ne_f d2)) ?_
                show oGo p e below _ (T.setTop (mkF m 136 #[.val (.int i0), .val (.int i1), .val (.int i2), .val (.int i3), .val (.int i4), .val (.int n), .val (.int x0), .val (.int x1), .val (.int x2), .val (.int x3), .val (.ref b), .unset, .unset, .unset] []))
                refine oSt (fun _ => XS.iconst A.here hx rfl (Jvm.hb hby at_136)) ?_
                show oGo p e below _ (T.setTop (mkF m 137 #[.val (.int i0), .val (.int i1), .val (.int i2), .val (.int i3), .val (.int i4), .val (.int n), .val (.int x0), .val (.int x1), .val (.int x2), .val (.int x3), .val (.ref b), .unset, .unset, .unset] [(.int (2 : Int32))]))
                refine oSt (fun _ => XS.istore A.here hx rfl (Jvm.hb hby at_137) rfl (l' := #[.val (.int i0), .val (.int i1), .val (.int i2), .val (.int i3), .val (.int i4), .val (.int n), .val (.int x0), .val (.int x1), .val (.int x2), .val (.int x3), .val (.ref b), .val (.int (2 : Int32)), .unset, .unset]) rfl) ?_
                show oGo p e below _ (T.setTop (mkF m 139 #[.val (.int i0), .val (.int i1), .val (.int i2), .val (.int i3), .val (.int i4), .val (.int n), .val (.int x0), .val (.int x1), .val (.int x2), .val (.int x3), .val (.ref b), .val (.int (2 : Int32)), .unset, .unset] []))
                refine oSt (fun _ => XS.goto A.here hx rfl (pc0 := 139) (pc' := 165) rfl (Jvm.hb hby at_139) (by decide) (by decide)) ?_
                show oGo p e below _ (T.setTop (mkF m 165 #[.val (.int i0), .val (.int i1), .val (.int i2), .val (.int i3), .val (.int i4), .val (.int n), .val (.int x0), .val (.int x1), .val (.int x2), .val (.int x3), .val (.ref b), .val (.int (2 : Int32)), .unset, .unset] []))
                exact J165 _ _ _ _ _ _ _ A V_b (Or.inr (Or.inr (Or.inl rfl))) (own_wo2 rn c2 d2 g0 g1)
              · refine oSt (fun _ => XS.icmpYes A.here hx rfl (pc0 := 133) (pc' := 142) rfl (Jvm.hb hby at_133) rfl (Jvm.Free.XT.ii_ne_t d2) (by decide) (by decide)) ?_
                show oGo p e below _ (T.setTop (mkF m 142 #[.val (.int i0), .val (.int i1), .val (.int i2), .val (.int i3), .val (.int i4), .val (.int n), .val (.int x0), .val (.int x1), .val (.int x2), .val (.int x3), .val (.ref b), .unset, .unset, .unset] []))
                have g2 : ¬ ((2 : Int32) < n ∧ x2 = (35 : Int32)) := fun q => d2 q.2
                refine oSt (fun _ => XS.iload A.here hx rfl (Jvm.hb hby at_142) rfl) ?_
                show oGo p e below _ (T.setTop (mkF m 144 #[.val (.int i0), .val (.int i1), .val (.int i2), .val (.int i3), .val (.int i4), .val (.int n), .val (.int x0), .val (.int x1), .val (.int x2), .val (.int x3), .val (.ref b), .unset, .unset, .unset] [(.int n)]))
                refine oSt (fun _ => XS.iconst A.here hx rfl (Jvm.hb hby at_144)) ?_
                show oGo p e below _ (T.setTop (mkF m 145 #[.val (.int i0), .val (.int i1), .val (.int i2), .val (.int i3), .val (.int i4), .val (.int n), .val (.int x0), .val (.int x1), .val (.int x2), .val (.int x3), .val (.ref b), .unset, .unset, .unset] [(.int (3 : Int32)), (.int n)]))
                by_cases c3 : (3 : Int32) < n
                · refine oSt (fun _ => XS.icmpNo A.here hx rfl (Jvm.hb hby at_145) rfl (Jvm.Free.XT.ii_le_f c3)) ?_
                  show oGo p e below _ (T.setTop (mkF m 148 #[.val (.int i0), .val (.int i1), .val (.int i2), .val (.int i3), .val (.int i4), .val (.int n), .val (.int x0), .val (.int x1), .val (.int x2), .val (.int x3), .val (.ref b), .unset, .unset, .unset] []))
                  refine oSt (fun _ => XS.iload A.here hx rfl (Jvm.hb hby at_148) rfl) ?_
                  show oGo p e below _ (T.setTop (mkF m 150 #[.val (.int i0), .val (.int i1), .val (.int i2), .val (.int i3), .val (.int i4), .val (.int n), .val (.int x0), .val (.int x1), .val (.int x2), .val (.int x3), .val (.ref b), .unset, .unset, .unset] [(.int x3)]))
                  refine oSt (fun _ => XS.bipush A.here hx rfl (Jvm.hb hby at_150)) ?_
                  show oGo p e below _ (T.setTop (mkF m 152 #[.val (.int i0), .val (.int i1), .val (.int i2), .val (.int i3), .val (.int i4), .val (.int n), .val (.int x0), .val (.int x1), .val (.int x2), .val (.int x3), .val (.ref b), .unset, .unset, .unset] [(.int (35 : Int32)), (.int x3)]))
                  by_cases d3 : x3 = (35 : Int32)
                  · refine oSt (fun _ => XS.icmpNo A.here hx rfl (Jvm.hb hby at_152) rfl (Jvm.Free.XT.ii_ne_f d3)) ?_
                    show oGo p e below _ (T.setTop (mkF m 155 #[.val (.int i0), .val (.int i1), .val (.int i2), .val (.int i3), .val (.int i4), .val (.int n), .val (.int x0), .val (.int x1), .val (.int x2), .val (.int x3), .val (.ref b), .unset, .unset, .unset] []))
                    refine oSt (fun _ => XS.iconst A.here hx rfl (Jvm.hb hby at_155)) ?_
                    show oGo p e below _ (T.setTop (mkF m 156 #[.val (.int i0), .val (.int i1), .val (.int i2), .val (.int i3), .val (.int i4), .val (.int n), .val (.int x0), .val (.int x1), .val (.int x2), .val (.int x3), .val (.ref b), .unset, .unset, .unset] [(.int (3 : Int32))]))
                    refine oSt (fun _ => XS.istore A.here hx rfl (Jvm.hb hby at_156) rfl (l' := #[.val (.int i0), .val (.int i1), .val (.int i2), .val (.int i3), .val (.int i4), .val (.int n), .val (.int x0), .val (.int x1), .val (.int x2), .val (.int x3), .val (.ref b), .val (.int (3 : Int32)), .unset, .unset]) rfl) ?_
                    show oGo p e below _ (T.setTop (mkF m 158 #[.val (.int i0), .val (.int i1), .val (.int i2), .val (.int i3), .val (.int i4), .val (.int n), .val (.int x0), .val (.int x1), .val (.int x2), .val (.int x3), .val (.ref b), .val (.int (3 : Int32)), .unset, .unset] []))
                    refine oSt (fun _ => XS.goto A.here hx rfl (pc0 := 158) (pc' := 165) rfl (Jvm.hb hby at_158) (by decide) (by decide)) ?_
                    show oGo p e below _ (T.setTop (mkF m 165 #[.val (.int i0), .val (.int i1), .val (.int i2), .val (.int i3), .val (.int i4), .val (.int n), .val (.int x0), .val (.int x1), .val (.int x2), .val (.int x3), .val (.ref b), .val (.int (3 : Int32)), .unset, .unset] []))
                    exact J165 _ _ _ _ _ _ _ A V_b (Or.inr (Or.inr (Or.inr (Or.inl rfl)))) (own_wo3 rn c3 d3 g0 g1 g2)
                  · refine oSt (fun _ => XS.icmpYes A.here hx rfl (pc0 := 152) (pc' := 161) rfl (Jvm.hb hby at_152) rfl (Jvm.Free.XT.ii_ne_t d3) (by decide) (by decide)) ?_
                    show oGo p e below _ (T.setTop (mkF m 161 #[.val (.int i0), .val (.int i1), .val (.int i2), .val (.int i3), .val (.int i4), .val (.int n), .val (.int x0), .val (.int x1), .val (.int x2), .val (.int x3), .val (.ref b), .unset, .unset, .unset] []))
                    have g3 : ¬ ((3 : Int32) < n ∧ x3 = (35 : Int32)) := fun q => d3 q.2
                    refine oSt (fun _ => XS.iload A.here hx rfl (Jvm.hb hby at_161) rfl) ?_
                    show oGo p e below _ (T.setTop (mkF m 163 #[.val (.int i0), .val (.int i1), .val (.int i2), .val (.int i3), .val (.int i4), .val (.int n), .val (.int x0), .val (.int x1), .val (.int x2), .val (.int x3), .val (.ref b), .unset, .unset, .unset] [(.int n)]))
                    refine oSt (fun _ => XS.istore A.here hx rfl (Jvm.hb hby at_163) rfl (l' := #[.val (.int i0), .val (.int i1), .val (.int i2), .val (.int i3), .val (.int i4), .val (.int n), .val (.int x0), .val (.int x1), .val (.int x2), .val (.int x3), .val (.ref b), .val (.int n), .unset, .unset]) rfl) ?_
                    show oGo p e below _ (T.setTop (mkF m 165 #[.val (.int i0), .val (.int i1), .val (.int i2), .val (.int i3), .val (.int i4), .val (.int n), .val (.int x0), .val (.int x1), .val (.int x2), .val (.int x3), .val (.ref b), .val (.int n), .unset, .unset] []))
                    exact J165 _ _ _ _ _ _ _ A V_b rn (own_woN rn g0 g1 g2 g3)
                · refine oSt (fun _ => XS.icmpYes A.here hx rfl (pc0 := 145) (pc' := 161) rfl (Jvm.hb hby at_145) rfl (Jvm.Free.XT.ii_le_t c3) (by decide) (by decide)) ?_
                  show oGo p e below _ (T.setTop (mkF m 161 #[.val (.int i0), .val (.int i1), .val (.int i2), .val (.int i3), .val (.int i4), .val (.int n), .val (.int x0), .val (.int x1), .val (.int x2), .val (.int x3), .val (.ref b), .unset, .unset, .unset] []))
                  have g3 : ¬ ((3 : Int32) < n ∧ x3 = (35 : Int32)) := fun q => c3 q.1
                  refine oSt (fun _ => XS.iload A.here hx rfl (Jvm.hb hby at_161) rfl) ?_
                  show oGo p e below _ (T.setTop (mkF m 163 #[.val (.int i0), .val (.int i1), .val (.int i2), .val (.int i3), .val (.int i4), .val (.int n), .val (.int x0), .val (.int x1), .val (.int x2), .val (.int x3), .val (.ref b), .unset, .unset, .unset] [(.int n)]))
                  refine oSt (fun _ => XS.istore A.here hx rfl (Jvm.hb hby at_163) rfl (l' := #[.val (.int i0), .val (.int i1), .val (.int i2), .val (.int i3), .val (.int i4), .val (.int n), .val (.int x0), .val (.int x1), .val (.int x2), .val (.int x3), .val (.ref b), .val (.int n), .unset, .unset]) rfl) ?_
                  show oGo p e below _ (T.setTop (mkF m 165 #[.val (.int i0), .val (.int i1), .val (.int i2), .val (.int i3), .val (.int i4), .val (.int n), .val (.int x0), .val (.int x1), .val (.int x2), .val (.int x3), .val (.ref b), .val (.int n), .unset, .unset] []))
                  exact J165 _ _ _ _ _ _ _ A V_b rn (own_woN rn g0 g1 g2 g3)
            · refine oSt (fun _ => XS.icmpYes A.here hx rfl (pc0 := 126) (pc' := 142) rfl (Jvm.hb hby at_126) rfl (Jvm.Free.XT.ii_le_t c2) (by decide) (by decide)) ?_
              show oGo p e below _ (T.setTop (mkF m 142 #[.val (.int i0), .val (.int i1), .val (.int i2), .val (.int i3), .val (.int i4), .val (.int n), .val (.int x0), .val (.int x1), .val (.int x2), .val (.int x3), .val (.ref b), .unset, .unset, .unset] []))
              have g2 : ¬ ((2 : Int32) < n ∧ x2 = (35 : Int32)) := fun q => c2 q.1
              refine oSt (fun _ => XS.iload A.here hx rfl (Jvm.hb hby at_142) rfl) ?_
              show oGo p e below _ (T.setTop (mkF m 144 #[.val (.int i0), .val (.int i1), .val (.int i2), .val (.int i3), .val (.int i4), .val (.int n), .val (.int x0), .val (.int x1), .val (.int x2), .val (.int x3), .val (.ref b), .unset, .unset, .unset] [(.int n)]))
              refine oSt (fun _ => XS.iconst A.here hx rfl (Jvm.hb hby at_144)) ?_
              show oGo p e below _ (T.setTop (mkF m 145 #[.val (.int i0), .val (.int i1), .val (.int i2), .val (.int i3), .val (.int i4), .val (.int n), .val (.int x0), .val (.int x1), .val (.int x2), .val (.int x3), .val (.ref b), .unset, .unset, .unset] [(.int (3 : Int32)), (.int n)]))
              by_cases c3 : (3 : Int32) < n
              · refine oSt (fun _ => XS.icmpNo A.here hx rfl (Jvm.hb hby at_145) rfl (Jvm.Free.XT.ii_le_f c3)) ?_
                show oGo p e below _ (T.setTop (mkF m 148 #[.val (.int i0), .val (.int i1), .val (.int i2), .val (.int i3), .val (.int i4), .val (.int n), .val (.int x0), .val (.int x1), .val (.int x2), .val (.int x3), .val (.ref b), .unset, .unset, .unset] []))
                refine oSt (fun _ => XS.iload A.here hx rfl (Jvm.hb hby at_148) rfl) ?_
                show oGo p e below _ (T.setTop (mkF m 150 #[.val (.int i0), .val (.int i1), .val (.int i2), .val (.int i3), .val (.int i4), .val (.int n), .val (.int x0), .val (.int x1), .val (.int x2), .val (.int x3), .val (.ref b), .unset, .unset, .unset] [(.int x3)]))
                refine oSt (fun _ => XS.bipush A.here hx rfl (Jvm.hb hby at_150)) ?_
                show oGo p e below _ (T.setTop (mkF m 152 #[.val (.int i0), .val (.int i1), .val (.int i2), .val (.int i3), .val (.int i4), .val (.int n), .val (.int x0), .val (.int x1), .val (.int x2), .val (.int x3), .val (.ref b), .unset, .unset, .unset] [(.int (35 : Int32)), (.int x3)]))
                by_cases d3 : x3 = (35 : Int32)
                · refine oSt (fun _ => XS.icmpNo A.here hx rfl (Jvm.hb hby at_152) rfl (Jvm.Free.XT.ii_ne_f d3)) ?_
                  show oGo p e below _ (T.setTop (mkF m 155 #[.val (.int i0), .val (.int i1), .val (.int i2), .val (.int i3), .val (.int i4), .val (.int n), .val (.int x0), .val (.int x1), .val (.int x2), .val (.int x3), .val (.ref b), .unset, .unset, .unset] []))
                  refine oSt (fun _ => XS.iconst A.here hx rfl (Jvm.hb hby at_155)) ?_
                  show oGo p e below _ (T.setTop (mkF m 156 #[.val (.int i0), .val (.int i1), .val (.int i2), .val (.int i3), .val (.int i4), .val (.int n), .val (.int x0), .val (.int x1), .val (.int x2), .val (.int x3), .val (.ref b), .unset, .unset, .unset] [(.int (3 : Int32))]))
                  refine oSt (fun _ => XS.istore A.here hx rfl (Jvm.hb hby at_156) rfl (l' := #[.val (.int i0), .val (.int i1), .val (.int i2), .val (.int i3), .val (.int i4), .val (.int n), .val (.int x0), .val (.int x1), .val (.int x2), .val (.int x3), .val (.ref b), .val (.int (3 : Int32)), .unset, .unset]) rfl) ?_
                  show oGo p e below _ (T.setTop (mkF m 158 #[.val (.int i0), .val (.int i1), .val (.int i2), .val (.int i3), .val (.int i4), .val (.int n), .val (.int x0), .val (.int x1), .val (.int x2), .val (.int x3), .val (.ref b), .val (.int (3 : Int32)), .unset, .unset] []))
                  refine oSt (fun _ => XS.goto A.here hx rfl (pc0 := 158) (pc' := 165) rfl (Jvm.hb hby at_158) (by decide) (by decide)) ?_
                  show oGo p e below _ (T.setTop (mkF m 165 #[.val (.int i0), .val (.int i1), .val (.int i2), .val (.int i3), .val (.int i4), .val (.int n), .val (.int x0), .val (.int x1), .val (.int x2), .val (.int x3), .val (.ref b), .val (.int (3 : Int32)), .unset, .unset] []))
                  exact J165 _ _ _ _ _ _ _ A V_b (Or.inr (Or.inr (Or.inr (Or.inl rfl)))) (own_wo3 rn c3 d3 g0 g1 g2)
                · refine oSt (fun _ => XS.icmpYes A.here hx rfl (pc0 := 152) (pc' := 161) rfl (Jvm.hb hby at_152) rfl (Jvm.Free.XT.ii_ne_t d3) (by decide) (by decide)) ?_
                  show oGo p e below _ (T.setTop (mkF m 161 #[.val (.int i0), .val (.int i1), .val (.int i2), .val (.int i3), .val (.int i4), .val (.int n), .val (.int x0), .val (.int x1), .val (.int x2), .val (.int x3), .val (.ref b), .unset, .unset, .unset] []))
                  have g3 : ¬ ((3 : Int32) < n ∧ x3 = (35 : Int32)) := fun q => d3 q.2
                  refine oSt (fun _ => XS.iload A.here hx rfl (Jvm.hb hby at_161) rfl) ?_
                  show oGo p e below _ (T.setTop (mkF m 163 #[.val (.int i0), .val (.int i1), .val (.int i2), .val (.int i3), .val (.int i4), .val (.int n), .val (.int x0), .val (.int x1), .val (.int x2), .val (.int x3), .val (.ref b), .unset, .unset, .unset] [(.int n)]))
                  refine oSt (fun _ => XS.istore A.here hx rfl (Jvm.hb hby at_163) rfl (l' := #[.val (.int i0), .val (.int i1), .val (.int i2), .val (.int i3), .val (.int i4), .val (.int n), .val (.int x0), .val (.int x1), .val (.int x2), .val (.int x3), .val (.ref b), .val (.int n), .unset, .unset]) rfl) ?_
                  show oGo p e below _ (T.setTop (mkF m 165 #[.val (.int i0), .val (.int i1), .val (.int i2), .val (.int i3), .val (.int i4), .val (.int n), .val (.int x0), .val (.int x1), .val (.int x2), .val (.int x3), .val (.ref b), .val (.int n), .unset, .unset] []))
                  exact J165 _ _ _ _ _ _ _ A V_b rn (own_woN rn g0 g1 g2 g3)
              · refine oSt (fun _ => XS.icmpYes A.here hx rfl (pc0 := 145) (pc' := 161) rfl (Jvm.hb hby at_145) rfl (Jvm.Free.XT.ii_le_t c3) (by decide) (by decide)) ?_
                show oGo p e below _ (T.setTop (mkF m 161 #[.val (.int i0), .val (.int i1), .val (.int i2), .val (.int i3), .val (.int i4), .val (.int n), .val (.int x0), .val (.int x1), .val (.int x2), .val (.int x3), .val (.ref b), .unset, .unset, .unset] []))
                have g3 : ¬ ((3 : Int32) < n ∧ x3 = (35 : Int32)) := fun q => c3 q.1
                refine oSt (fun _ => XS.iload A.here hx rfl (Jvm.hb hby at_161) rfl) ?_
                show oGo p e below _ (T.setTop (mkF m 163 #[.val (.int i0), .val (.int i1), .val (.int i2), .val (.int i3), .val (.int i4), .val (.int n), .val (.int x0), .val (.int x1), .val (.int x2), .val (.int x3), .val (.ref b), .unset, .unset, .unset] [(.int n)]))
                refine oSt (fun _ => XS.istore A.here hx rfl (Jvm.hb hby at_163) rfl (l' := #[.val (.int i0), .val (.int i1), .val (.int i2), .val (.int i3), .val (.int i4), .val (.int n), .val (.int x0), .val (.int x1), .val (.int x2), .val (.int x3), .val (.ref b), .val (.int n), .unset, .unset]) rfl) ?_
                show oGo p e below _ (T.setTop (mkF m 165 #[.val (.int i0), .val (.int i1), .val (.int i2), .val (.int i3), .val (.int i4), .val (.int n), .val (.int x0), .val (.int x1), .val (.int x2), .val (.int x3), .val (.ref b), .val (.int n), .unset, .unset] []))
                exact J165 _ _ _ _ _ _ _ A V_b rn (own_woN rn g0 g1 g2 g3)
        · refine oSt (fun _ => XS.icmpYes A.here hx rfl (pc0 := 107) (pc' := 123) rfl (Jvm.hb hby at_107) rfl (Jvm.Free.XT.ii_le_t c1) (by decide) (by decide)) ?_
          show oGo p e below _ (T.setTop (mkF m 123 #[.val (.int i0), .val (.int i1), .val (.int i2), .val (.int i3), .val (.int i4), .val (.int n), .val (.int x0), .val (.int x1), .val (.int x2), .val (.int x3), .val (.ref b), .unset, .unset, .unset] []))
          have g1 : ¬ ((1 : Int32) < n ∧ x1 = (35 : Int32)) := fun q => c1 q.1
          refine oSt (fun _ => XS.iload A.here hx rfl (Jvm.hb hby at_123) rfl) ?_
          show oGo p e below _ (T.setTop (mkF m 125 #[.val (.int i0), .val (.int i1), .val (.int i2), .val (.int i3), .val (.int i4), .val (.int n), .val (.int x0), .val (.int x1), .val (.int x2), .val (.int x3), .val (.ref b), .unset, .unset, .unset] [(.int n)]))
          refine oSt (fun _ => XS.iconst A.here hx rfl (Jvm.hb hby at_125)) ?_
          show oGo p e below _ (T.setTop (mkF m 126 #[.val (.int i0), .val (.int i1), .val (.int i2), .val (.int i3), .val (.int i4), .val (.int n), .val (.int x0), .val (.int x1), .val (.int x2), .val (.int x3), .val (.ref b), .unset, .unset, .unset] [(.int (2 : Int32)), (.int n)]))
          by_cases c2 : (2 : Int32) < n
          · refine oSt (fun _ => XS.icmpNo A.here hx rfl (Jvm.hb hby at_126) rfl (Jvm.Free.XT.ii_le_f c2)) ?_
            show oGo p e below _ (T.setTop (mkF m 129 #[.val (.int i0), .val (.int i1), .val (.int i2), .val (.int i3), .val (.int i4), .val (.int n), .val (.int x0), .val (.int x1), .val (.int x2), .val (.int x3), .val (.ref b), .unset, .unset, .unset] []))
            refine oSt (fun _ => XS.iload A.here hx rfl (Jvm.hb hby at_129) rfl) ?_
            show oGo p e below _ (T.setTop (mkF m 131 #[.val (.int i0), .val (.int i1), .val (.int i2), .val (.int i3), .val (.int i4), .val (.int n), .val (.int x0), .val (.int x1), .val (.int x2), .val (.int x3), .val (.ref b), .unset, .unset, .unset] [(.int x2)]))
            refine oSt (fun _ => XS.bipush A.here hx rfl (Jvm.hb hby at_131)) ?_
            show oGo p e below _ (T.setTop (mkF m 133 #[.val (.int i0), .val (.int i1), .val (.int i2), .val (.int i3), .val (.int i4), .val (.int n), .val (.int x0), .val (.int x1), .val (.int x2), .val (.int x3), .val (.ref b), .unset, .unset, .unset] [(.int (35 : Int32)), (.int x2)]))
            by_cases d2 : x2 = (35 : Int32)
            · refine oSt (fun _ => XS.icmpNo A.here hx rfl (Jvm.hb hby at_133) rfl (Jvm.Free.XT.ii_ne_f d2)) ?_
              show oGo p e below _ (T.setTop (mkF m 136 #[.val (.int i0), .val (.int i1), .val (.int i2), .val (.int i3), .val (.int i4), .val (.int n), .val (.int x0), .val (.int x1), .val (.int x2), .val (.int x3), .val (.ref b), .unset, .unset, .unset] []))
              refine oSt (fun _ => XS.iconst A.here hx rfl (Jvm.hb hby at_136)) ?_
              show oGo p e below _ (T.setTop (mkF m 137 #[.val (.int i0), .val (.int i1), .val (.int i2), .val (.int i3), .val (.int i4), .val (.int n), .val (.int x0), .val (.int x1), .val (.int x2), .val (.int x3), .val (.ref b), .unset, .unset, .unset] [(.int (2 : Int32))]))
              refine oSt (fun _ => XS.istore A.here hx rfl (Jvm.hb hby at_137) rfl (l' := #[.val (.int i0), .val (.int i1), .val (.int i2), .val (.int i3), .val (.int i4), .val (.int n), .val (.int x0), .val (.int x1), .val (.int x2), .val (.int x3), .val (.ref b), .val (.int (2 : Int32)), .unset, .unset]) rfl) ?_
              show oGo p e below _ (T.setTop (mkF m 139 #[.val (.int i0), .val (.int i1), .val (.int i2), .val (.int i3), .val (.int i4), .val (.int n), .val (.int x0), .val (.int x1), .val (.int x2), .val (.int x3), .val (.ref b), .val (.int (2 : Int32)), .unset, .unset] []))
              refine oSt (fun _ => XS.goto A.here hx rfl (pc0 := 139) (pc' := 165) rfl (Jvm.hb hby at_139) (by decide) (by decide)) ?_
              show oGo p e below _ (T.setTop (mkF m 165 #[.val (.int i0), .val (.int i1), .val (.int i2), .val (.int i3), .val (.int i4), .val (.int n), .val (.int x0), .val (.int x1), .val (.int x2), .val (.int x3), .val (.ref b), .val (.int (2 : Int32)), .unset, .unset] []))
              exact J165 _ _ _ _ _ _ _ A V_b (Or.inr (Or.inr (Or.inl rfl))) (own_wo2 rn c2 d2 g0 g1)
            · refine oSt (fun _ => XS.icmpYes A.here hx rfl (pc0 := 133) (pc' := 142) rfl (Jvm.hb hby at_133) rfl (Jvm.Free.XT.ii_ne_t d2) (by decide) (by decide)) ?_
              show oGo p e below _ (T.setTop (mkF m 142 #[.val (.int i0), .val (.int i1), .val (.int i2), .val (.int i3), .val (.int i4), .val (.int n), .val (.int x0), .val (.int x1), .val (.int x2), .val (.int x3), .val (.ref b), .unset, .unset, .unset] []))
              have g2 : ¬ ((2 : Int32) < n ∧ x2 = (35 : Int32)) := fun q => d2 q.2
              refine oSt (fun _ => XS.iload A.here hx rfl (Jvm.hb hby at_142) rfl) ?_
              show oGo p e below _ (T.setTop (mkF m 144 #[.val (.int i0), .val (.int i1), .val (.int i2), .val (.int i3), .val (.int i4), .val (.int n), .val (.int x0), .val (.int x1), .val (.int x2), .val (.int x3), .val (.ref b), .unset, .unset, .unset] [(.int n)]))
              refine oSt (fun _ => XS.iconst A.here hx rfl (Jvm.hb hby at_144)) ?_
              show oGo p e below _ (T.setTop (mkF m 145 #[.val (.int i0), .val (.int i1), .val (.int i2), .val (.int i3), .val (.int i4), .val (.int n), .val (.int x0), .val (.int x1), .val (.int x2), .val (.int x3), .val (.ref b), .unset, .unset, .unset] [(.int (3 : Int32)), (.int n)]))
              by_cases c3 : (3 : Int32) < n
              · refine oSt (fun _ => XS.icmpNo A.here hx rfl (Jvm.hb hby at_145) rfl (Jvm.Free.XT.ii_le_f c3)) ?_
                show oGo p e below _ (T.setTop (mkF m 148 #[.val (.int i0), .val (.int i1), .val (.int i2), .val (.int i3), .val (.int i4), .val (.int n), .val (.int x0), .val (.int x1), .val (.int x2), .val (.int x3), .val (.ref b), .unset, .unset, .unset] []))
                refine oSt (fun _ => XS.iload A.here hx rfl (Jvm.hb hby at_148) rfl) ?_
                show oGo p e below _ (T.setTop (mkF m 150 #[.val (.int i0), .val (.int i1), .val (.int i2), .val (.int i3), .val (.int i4), .val (.int n), .val (.int x0), .val (.int x1), .val (.int x2), .val (.int x3), .val (.ref b), .unset, .unset, .unset] [(.int x3)]))
                refine oSt (fun _ => XS.bipush A.here hx rfl (Jvm.hb hby at_150)) ?_
                show oGo p e below _ (T.setTop (mkF m 152 #[.val (.int i0), .val (.int i1), .val (.int i2), .val (.int i3), .val (.int i4), .val (.int n), .val (.int x0), .val (.int x1), .val (.int x2), .val (.int x3), .val (.ref b), .unset, .unset, .unset] [(.int (35 : Int32)), (.int x3)]))
                by_cases d3 : x3 = (35 : Int32)
                · refine oSt (fun _ => XS.icmpNo A.here hx rfl (Jvm.hb hby at_152) rfl (Jvm.Free.XT.ii_ne_f d3)) ?_
                  show oGo p e below _ (T.setTop (mkF m 155 #[.val (.int i0), .val (.int i1), .val (.int i2), .val (.int i3), .val (.int i4), .val (.int n), .val (.int x0), .val (.int x1), .val (.int x2), .val (.int x3), .val (.ref b), .unset, .unset, .unset] []))
                  refine oSt (fun _ => XS.iconst A.here hx rfl (Jvm.hb hby at_155)) ?_
                  show oGo p e below _ (T.setTop (mkF m 156 #[.val (.int i0), .val (.int i1), .val (.int i2), .val (.int i3), .val (.int i4), .val (.int n), .val (.int x0), .val (.int x1), .val (.int x2), .val (.int x3), .val (.ref b), .unset, .unset, .unset] [(.int (3 : Int32))]))
                  refine oSt (fun _ => XS.istore A.here hx rfl (Jvm.hb hby at_156) rfl (l' := #[.val (.int i0), .val (.int i1), .val (.int i2), .val (.int i3), .val (.int i4), .val (.int n), .val (.int x0), .val (.int x1), .val (.int x2), .val (.int x3), .val (.ref b), .val (.int (3 : Int32)), .unset, .unset]) rfl) ?_
                  show oGo p e below _ (T.setTop (mkF m 158 #[.val (.int i0), .val (.int i1), .val (.int i2), .val (.int i3), .val (.int i4), .val (.int n), .val (.int x0), .val (.int x1), .val (.int x2), .val (.int x3), .val (.ref b), .val (.int (3 : Int32)), .unset, .unset] []))
                  refine oSt (fun _ => XS.goto A.here hx rfl (pc0 := 158) (pc' := 165) rfl (Jvm.hb hby at_158) (by decide) (by decide)) ?_
                  show oGo p e below _ (T.setTop (mkF m 165 #[.val (.int i0), .val (.int i1), .val (.int i2), .val (.int i3), .val (.int i4), .val (.int n), .val (.int x0), .val (.int x1), .val (.int x2), .val (.int x3), .val (.ref b), .val (.int (3 : Int32)), .unset, .unset] []))
                  exact J165 _ _ _ _ _ _ _ A V_b (Or.inr (Or.inr (Or.inr (Or.inl rfl)))) (own_wo3 rn c3 d3 g0 g1 g2)
                · refine oSt (fun _ => XS.icmpYes A.here hx rfl (pc0 := 152) (pc' := 161) rfl (Jvm.hb hby at_152) rfl (Jvm.Free.XT.ii_ne_t d3) (by decide) (by decide)) ?_
                  show oGo p e below _ (T.setTop (mkF m 161 #[.val (.int i0), .val (.int i1), .val (.int i2), .val (.int i3), .val (.int i4), .val (.int n), .val (.int x0), .val (.int x1), .val (.int x2), .val (.int x3), .val (.ref b), .unset, .unset, .unset] []))
                  have g3 : ¬ ((3 : Int32) < n ∧ x3 = (35 : Int32)) := fun q => d3 q.2
                  refine oSt (fun _ => XS.iload A.here hx rfl (Jvm.hb hby at_161) rfl) ?_
                  show oGo p e below _ (T.setTop (mkF m 163 #[.val (.int i0), .val (.int i1), .val (.int i2), .val (.int i3), .val (.int i4), .val (.int n), .val (.int x0), .val (.int x1), .val (.int x2), .val (.int x3), .val (.ref b), .unset, .unset, .unset] [(.int n)]))
                  refine oSt (fun _ => XS.istore A.here hx rfl (Jvm.hb hby at_163) rfl (l' := #[.val (.int i0), .val (.int i1), .val (.int i2), .val (.int i3), .val (.int i4), .val (.int n), .val (.int x0), .val (.int x1), .val (.int x2), .val (.int x3), .val (.ref b), .val (.int n), .unset, .unset]) rfl) ?_
                  show oGo p e below _ (T.setTop (mkF m 165 #[.val (.int i0), .val (.int i1), .val (.int i2), .val (.int i3), .val (.int i4), .val (.int n), .val (.int x0), .val (.int x1), .val (.int x2), .val (.int x3), .val (.ref b), .val (.int n), .unset, .unset] []))
                  exact J165 _ _ _ _ _ _ _ A V_b rn (own_woN rn g0 g1 g2 g3)
              · refine oSt (fun _ => XS.icmpYes A.here hx rfl (pc0 := 145) (pc' := 161) rfl (Jvm.hb hby at_145) rfl (Jvm.Free.XT.ii_le_t c3) (by decide) (by decide)) ?_
                show oGo p e below _ (T.setTop (mkF m 161 #[.val (.int i0), .val (.int i1), .val (.int i2), .val (.int i3), .val (.int i4), .val (.int n), .val (.int x0), .val (.int x1), .val (.int x2), .val (.int x3), .val (.ref b), .unset, .unset, .unset] []))
                have g3 : ¬ ((3 : Int32) < n ∧ x3 = (35 : Int32)) := fun q => c3 q.1
                refine oSt (fun _ => XS.iload A.here hx rfl (Jvm.hb hby at_161) rfl) ?_
                show oGo p e below _ (T.setTop (mkF m 163 #[.val (.int i0), .val (.int i1), .val (.int i2), .val (.int i3), .val (.int i4), .val (.int n), .val (.int x0), .val (.int x1), .val (.int x2), .val (.int x3), .val (.ref b), .unset, .unset, .unset] [(.int n)]))
                refine oSt (fun _ => XS.istore A.here hx rfl (Jvm.hb hby at_163) rfl (l' := #[.val (.int i0), .val (.int i1), .val (.int i2), .val (.int i3), .val (.int i4), .val (.int n), .val (.int x0), .val (.int x1), .val (.int x2), .val (.int x3), .val (.ref b), .val (.int n), .unset, .unset]) rfl) ?_
                show oGo p e below _ (T.setTop (mkF m 165 #[.val (.int i0), .val (.int i1), .val (.int i2), .val (.int i3), .val (.int i4), .val (.int n), .val (.int x0), .val (.int x1), .val (.int x2), .val (.int x3), .val (.ref b), .val (.int n), .unset, .unset] []))
                exact J165 _ _ _ _ _ _ _ A V_b rn (own_woN rn g0 g1 g2 g3)
          · refine oSt (fun _ => XS.icmpYes A.here hx rfl (pc0 := 126) (pc' := 142) rfl (Jvm.hb hby at_126) rfl (Jvm.Free.XT.ii_le_t c2) (by decide) (by decide)) ?_
            show oGo p e below _ (T.setTop (mkF m 142 #[.val (.int i0), .val (.int i1), .val (.int i2), .val (.int i3), .val (.int i4), .val (.int n), .val (.int x0), .val (.int x1), .val (.int x2), .val (.int x3), .val (.ref b), .unset, .unset, .unset] []))
            have g2 : ¬ ((2 : Int32) < n ∧ x2 = (35 : Int32)) := fun q => c2 q.1
            refine oSt (fun _ => XS.iload A.here hx rfl (Jvm.hb hby at_142) rfl) ?_
            show oGo p e below _ (T.setTop (mkF m 144 #[.val (.int i0), .val (.int i1), .val (.int i2), .val (.int i3), .val (.int i4), .val (.int n), .val (.int x0), .val (.int x1), .val (.int x2), .val (.int x3), .val (.ref b), .unset, .unset, .unset] [(.int n)]))
            refine oSt (fun _ => XS.iconst A.here hx rfl (Jvm.hb hby at_144)) ?_
            show oGo p e below _ (T.setTop (mkF m 145 #[.val (.int i0), .val (.int i1), .val (.int i2), .val (.int i3), .val (.int i4), .val (.int n), .val (.int x0), .val (.int x1), .val (.int x2), .val (.int x3), .val (.ref b), .unset, .unset, .unset] [(.int (3 : Int32)), (.int n)]))
            by_cases c3 : (3 : Int32) < n
            · refine oSt (fun _ => XS.icmpNo A.here hx rfl (Jvm.hb hby at_145) rfl (Jvm.Free.XT.ii_le_f c3)) ?_
              show oGo p e below _ (T.setTop (mkF m 148 #[.val (.int i0), .val (.int i1), .val (.int i2), .val (.int i3), .val (.int i4), .val (.int n), .val (.int x0), .val (.int x1), .val (.int x2), .val (.int x3), .val (.ref b), .unset, .unset, .unset] []))
              refine oSt (fun _ => XS.iload A.here hx rfl (Jvm.hb hby at_148) rfl) ?_
              show oGo p e below _ (T.setTop (mkF m 150 #[.val (.int i0), .val (.int i1), .val (.int i2), .val (.int i3), .val (.int i4), .val (.int n), .val (.int x0), .val (.int x1), .val (.int x2), .val (.int x3), .val (.ref b), .unset, .unset, .unset] [(.int x3)]))
              refine oSt (fun _ => XS.bipush A.here hx rfl (Jvm.hb hby at_150)) ?_
              show oGo p e below _ (T.setTop (mkF m 152 #[.val (.int i0), .val (.int i1), .val (.int i2), .val (.int i3), .val (.int i4), .val (.int n), .val (.int x0), .val (.int x1), .val (.int x2), .val (.int x3), .val (.ref b), .unset, .unset, .unset] [(.int (35 : Int32)), (.int x3)]))
              by_cases d3 : x3 = (35 : Int32)
              · refine oSt (fun _ => XS.icmpNo A.here hx rfl (Jvm.hb hby at_152) rfl (Jvm.Free.XT.ii_ne_f d3)) ?_
                show oGo p e below _ (T.setTop (mkF m 155 #[.val (.int i0), .val (.int i1), .val (.int i2), .val (.int i3), .val (.int i4), .val (.int n), .val (.int x0), .val (.int x1), .val (.int x2), .val (.int x3), .val (.ref b), .unset, .unset, .unset] []))
                refine oSt (fun _ => XS.iconst A.here hx rfl (Jvm.hb hby at_155)) ?_
                show oGo p e below _ (T.setTop (mkF m 156 #[.val (.int i0), .val (.int i1), .val (.int i2), .val (.int i3), .val (.int i4), .val (.int n), .val (.int x0), .val (.int x1), .val (.int x2), .val (.int x3), .val (.ref b), .unset, .unset, .unset] [(.int (3 : Int32))]))
                refine oSt (fun _ => XS.istore A.here hx rfl (Jvm.hb hby at_156) rfl (l' := #[.val (.int i0), .val (.int i1), .val (.int i2), .val (.int i3), .val (.int i4), .val (.int n), .val (.int x0), .val (.int x1), .val (.int x2), .val (.int x3), .val (.ref b), .val (.int (3 : Int32)), .unset, .unset]) rfl) ?_
                show oGo p e below _ (T.setTop (mkF m 158 #[.val (.int i0), .val (.int i1), .val (.int i2), .val (.int i3), .val (.int i4), .val (.int n), .val (.int x0), .val (.int x1), .val (.int x2), .val (.int x3), .val (.ref b), .val (.int (3 : Int32)), .unset, .unset] []))
                refine oSt (fun _ => XS.goto A.here hx rfl (pc0 := 158) (pc' := 165) rfl (Jvm.hb hby at_158) (by decide) (by decide)) ?_
                show oGo p e below _ (T.setTop (mkF m 165 #[.val (.int i0), .val (.int i1), .val (.int i2), .val (.int i3), .val (.int i4), .val (.int n), .val (.int x0), .val (.int x1), .val (.int x2), .val (.int x3), .val (.ref b), .val (.int (3 : Int32)), .unset, .unset] []))
                exact J165 _ _ _ _ _ _ _ A V_b (Or.inr (Or.inr (Or.inr (Or.inl rfl)))) (own_wo3 rn c3 d3 g0 g1 g2)
              · refine oSt (fun _ => XS.icmpYes A.here hx rfl (pc0 := 152) (pc' := 161) rfl (Jvm.hb hby at_152) rfl (Jvm.Free.XT.ii_ne_t d3) (by decide) (by decide)) ?_
                show oGo p e below _ (T.setTop (mkF m 161 #[.val (.int i0), .val (.int i1), .val (.int i2), .val (.int i3), .val (.int i4), .val (.int n), .val (.int x0), .val (.int x1), .val (.int x2), .val (.int x3), .val (.ref b), .unset, .unset, .unset] []))
                have g3 : ¬ ((3 : Int32) < n ∧ x3 = (35 : Int32)) := fun q => d3 q.2
                refine oSt (fun _ => XS.iload A.here hx rfl (Jvm.hb hby at_161) rfl) ?_
                show oGo p e below _ (T.setTop (mkF m 163 #[.val (.int i0), .val (.int i1), .val (.int i2), .val (.int i3), .val (.int i4), .val (.int n), .val (.int x0), .val (.int x1), .val (.int x2), .val (.int x3), .val (.ref b), .unset, .unset, .unset] [(.int n)]))
                refine oSt (fun _ => XS.istore A.here hx rfl (Jvm.hb hby at_163) rfl (l' := #[.val (.int i0), .val (.int i1), .val (.int i2), .val (.int i3), .val (.int i4), .val (.int n), .val (.int x0), .val (.int x1), .val (.int x2), .val (.int x3), .val (.ref b), .val (.int n), .unset, .unset]) rfl) ?_
                show oGo p e below _ (T.setTop (mkF m 165 #[.val (.int i0), .val (.int i1), .val (.int i2), .val (.int i3), .val (.int i4), .val (.int n), .val (.int x0), .val (.int x1), .val (.int x2), .val (.int x3), .val (.ref b), .val (.int n), .unset, .unset] []))
                exact J165 _ _ _ _ _ _ _ A V_b rn (own_woN rn g0 g1 g2 g3)
            · refine oSt (fun _ => XS.icmpYes A.here hx rfl (pc0 := 145) (pc' := 161) rfl (Jvm.hb hby at_145) rfl (Jvm.Free.XT.ii_le_t c3) (by decide) (by decide)) ?_
              show oGo p e below _ (T.setTop (mkF m 161 #[.val (.int i0), .val (.int i1), .val (.int i2), .val (.int i3), .val (.int i4), .val (.int n), .val (.int x0), .val (.int x1), .val (.int x2), .val (.int x3), .val (.ref b), .unset, .unset, .unset] []))
              have g3 : ¬ ((3 : Int32) < n ∧ x3 = (35 : Int32)) := fun q => c3 q.1
              refine oSt (fun _ => XS.iload A.here hx rfl (Jvm.hb hby at_161) rfl) ?_
              show oGo p e below _ (T.setTop (mkF m 163 #[.val (.int i0), .val (.int i1), .val (.int i2), .val (.int i3), .val (.int i4), .val (.int n), .val (.int x0), .val (.int x1), .val (.int x2), .val (.int x3), .val (.ref b), .unset, .unset, .unset] [(.int n)]))
              refine oSt (fun _ => XS.istore A.here hx rfl (Jvm.hb hby at_163) rfl (l' := #[.val (.int i0), .val (.int i1), .val (.int i2), .val (.int i3), .val (.int i4), .val (.int n), .val (.int x0), .val (.int x1), .val (.int x2), .val (.int x3), .val (.ref b), .val (.int n), .unset, .unset]) rfl) ?_
              show oGo p e below _ (T.setTop (mkF m 165 #[.val (.int i0), .val (.int i1), .val (.int i2), .val (.int i3), .val (.int i4), .val (.int n), .val (.int x0), .val (.int x1), .val (.int x2), .val (.int x3), .val (.ref b), .val (.int n), .unset, .unset] []))
              exact J165 _ _ _ _ _ _ _ A V_b rn (own_woN rn g0 g1 g2 g3)
    · refine oSt (fun _ => XS.ifYes A.here hx rfl (pc0 := 88) (pc' := 104) rfl (Jvm.hb hby at_88) rfl (Jvm.Free.XT.i0_le_t c0) (by decide) (by decide)) ?_
      show oGo p e below _ (T.setTop (mkF m 104 #[.val (.int i0), .val (.int i1), .val (.int i2), .val (.int i3), .val (.int i4), .val (.int n), .val (.int x0), .val (.int x1), .val (.int x2), .val (.int x3), .val (.ref b), .unset, .unset, .unset] []))
      have g0 : ¬ ((0 : Int32) < n ∧ x0 = (35 : Int32)) := fun q => c0 q.1
      refine oSt (fun _ => XS.iload A.here hx rfl (Jvm.hb hby at_104) rfl) ?_
      show oGo p e below _ (T.setTop (mkF m 106 #[.val (.int i0), .val (.int i1), .val (.int i2), .val (.int i3), .val (.int i4), .val (.int n), .val (.int x0), .val (.int x1), .val (.int x2), .val (.int x3), .val (.ref b), .unset, .unset, .unset] [(.int n)]))
      refine oSt (fun _ => XS.iconst A.here hx rfl (Jvm.hb hby at_106)) ?_
      show oGo p e below _ (T.setTop (mkF m 107 #[.val (.int i0), .val (.int i1), .val (.int i2), .val (.int i3), .val (.int i4), .val (.int n), .val (.int x0), .val (.int x1), .val (.int x2), .val (.int x3), .val (.ref b), .unset, .unset, .unset] [(.int (1 : Int32)), (.int n)]))
      by_cases c1 : (1 : Int32) < n
      · refine oSt (fun _ => XS.icmpNo A.here hx rfl (Jvm.hb hby at_107) rfl (Jvm.Free.XT.ii_le_f c1)) ?_
        show oGo p e below _ (T.setTop (mkF m 110 #[.val (.int i0), .val (.int i1), .val (.int i2), .val (.int i3), .val (.int i4), .val (.int n), .val (.int x0), .val (.int x1), .val (.int x2), .val (.int x3), .val (.ref b), .unset, .unset, .unset] []))
        refine oSt (fun _ => XS.iload A.here hx rfl (Jvm.hb hby at_110) rfl) ?_
        show oGo p e below _ (T.setTop (mkF m 112 #[.val (.int i0), .val (.int i1), .val (.int i2), .val (.int i3), .val (.int i4), .val (.int n), .val (.int x0), .val (.int x1), .val (.int x2), .val (.int x3), .val (.ref b), .unset, .unset, .unset] [(.int x1)]))
        refine oSt (fun _ => XS.bipush A.here hx rfl (Jvm.hb hby at_112)) ?_
        show oGo p e below _ (T.setTop (mkF m 114 #[.val (.int i0), .val (.int i1), .val (.int i2), .val (.int i3), .val (.int i4), .val (.int n), .val (.int x0), .val (.int x1), .val (.int x2), .val (.int x3), .val (.ref b), .unset, .unset, .unset] [(.int (35 : Int32)), (.int x1)]))
        by_cases d1 : x1 = (35 : Int32)
        · refine oSt (fun _ => XS.icmpNo A.here hx rfl (Jvm.hb hby at_114) rfl (Jvm.Free.XT.ii_ne_f d1)) ?_
          show oGo p e below _ (T.setTop (mkF m 117 #[.val (.int i0), .val (.int i1), .val (.int i2), .val (.int i3), .val (.int i4), .val (.int n), .val (.int x0), .val (.int x1), .val (.int x2), .val (.int x3), .val (.ref b), .unset, .unset, .unset] []))
          refine oSt (fun _ => XS.iconst A.here hx rfl (Jvm.hb hby at_117)) ?_
          show oGo p e below _ (T.setTop (mkF m 118 #[.val (.int i0), .val (.int i1), .val (.int i2), .val (.int i3), .val (.int i4), .val (.int n), .val (.int x0), .val (.int x1), .val (.int x2), .val (.int x3), .val (.ref b), .unset, .unset, .unset] [(.int (1 : Int32))]))
          refine oSt (fun _ => XS.istore A.here hx rfl (Jvm.hb hby at_118) rfl (l' := #[.val (.int i0), .val (.int i1), .val (.int i2), .val (.int i3), .val (.int i4), .val (.int n), .val (.int x0), .val (.int x1), .val (.int x2), .val (.int x3), .val (.ref b), .val (.int (1 : Int32)), .unset, .unset]) rfl) ?_
          show oGo p e below _ (T.setTop (mkF m 120 #[.val (.int i0), .val (.int i1), .val (.int i2), .val (.int i3), .val (.int i4), .val (.int n), .val (.int x0), .val (.int x1), .val (.int x2), .val (.int x3), .val (.ref b), .val (.int (1 : Int32)), .unset, .unset] []))
          refine oSt (fun _ => XS.goto A.here hx rfl (pc0 := 120) (pc' := 165) rfl (Jvm.hb hby at_120) (by decide) (by decide)) ?_
          show oGo p e below _ (T.setTop (mkF m 165 #[.val (.int i0), .val (.int i1), .val (.int i2), .val (.int i3), .val (.int i4), .val (.int n), .val (.int x0), .val (.int x1), .val (.int x2), .val (.int x3), .val (.ref b), .val (.int (1 : Int32)), .unset, .unset] []))
          exact J165 _ _ _ _ _ _ _ A V_b (Or.inr (Or.inl rfl)) (own_wo1 rn c1 d1 g0)
        · refine oSt (fun _ => XS.icmpYes A.here hx rfl (pc0 := 114) (pc' := 123) rfl (Jvm.hb hby at_114) rfl (Jvm.Free.XT.ii_ne_t d1) (by decide) (by decide)) ?_
          show oGo p e below _ (T.setTop (mkF m 123 #[.val (.int i0), .val (.int i1), .val (.int i2), .val (.int i3), .val (.int i4), .val (.int n), .val (.int x0), .val (.int x1), .val (.int x2), .val (.int x3), .val (.ref b), .unset, .unset, .unset] []))
          have g1 : ¬ ((1 : Int32) < n ∧ x1 = (35 : Int32)) := fun q => d1 q.2
          refine oSt (fun _ => XS.iload A.here hx rfl (Jvm.hb hby at_123) rfl) ?_
          show oGo p e below _ (T.setTop (mkF m 125 #[.val (.int i0), .val (.int i1), .val (.int i2), .val (.int i3), .val (.int i4), .val (.int n), .val (.int x0), .val (.int x1), .val (.int x2), .val (.int x3), .val (.ref b), .unset, .unset, .unset] [(.int n)]))
          refine oSt (fun _ => XS.iconst A.here hx rfl (Jvm.hb hby at_125)) ?_
          show oGo p e below _ (T.setTop (mkF m 126 #[.val (.int i0), .val (.int i1), .val (.int i2), .val (.int i3), .val (.int i4), .val (.int n), .val (.int x0), .val (.int x1), .val (.int x2), .val (.int x3), .val (.ref b), .unset, .unset, .unset] [(.int (2 : Int32)), (.int n)]))
          by_cases c2 : (2 : Int32) < n
          · refine oSt (fun _ => XS.icmpNo A.here hx rfl (Jvm.hb hby at_126) rfl (Jvm.Free.XT.ii_le_f c2)) ?_
            show oGo p e below _ (T.setTop (mkF m 129 #[.val (.int i0), .val (.int i1), .val (.int i2), .val (.int i3), .val (.int i4), .val (.int n), .val (.int x0), .val (.int x1), .val (.int x2), .val (.int x3), .val (.ref b), .unset, .unset, .unset] []))
            refine oSt (fun _ => XS.iload A.here hx rfl (Jvm.hb hby at_129) rfl) ?_
            show oGo p e below _ (T.setTop (mkF m 131 #[.val (.int i0), .val (.int i1), .val (.int i2), .val (.int i3), .val (.int i4), .val (.int n), .val (.int x0), .val (.int x1), .val (.int x2), .val (.int x3), .val (.ref b), .unset, .unset, .unset] [(.int x2)]))
            refine oSt (fun _ => XS.bipush A.here hx rfl (Jvm.hb hby at_131)) ?_
            show oGo p e below _ (T.setTop (mkF m 133 #[.val (.int i0), .val (.int i1), .val (.int i2), .val (.int i3), .val (.int i4), .val (.int n), .val (.int x0), .val (.int x1), .val (.int x2), .val (.int x3), .val (.ref b), .unset, .unset, .unset] [(.int (35 : Int32)), (.int x2)]))
            by_cases d2 : x2 = (35 : Int32)
            · refine oSt (fun _ => XS.icmpNo A.here hx rfl (Jvm.hb hby at_133) rfl (Jvm.Free.XT.ii_ne_f d2)) ?_
              show oGo p e below _ (T.setTop (mkF m 136 #[.val (.int i0), .val (.int i1), .val (.int i2), .val (.int i3), .val (.int i4), .val (.int n), .val (.int x0), .val (.int x1), .val (.int x2), .val (.int x3), .val (.ref b), .unset, .unset, .unset] []))
              refine oSt (fun _ => XS.iconst A.here hx rfl (Jvm.hb hby at_136)) ?_
              show oGo p e below _ (T.setTop (mkF m 137 #[.val (.int i0), .val (.int i1), .val (.int i2), .val (.int i3), .val (.int i4), .val (.int n), .val (.int x0), .val (.int x1), .val (.int x2), .val (.int x3), .val (.ref b), .unset, .unset, .unset] [(.int (2 : Int32))]))
              refine oSt (fun _ => XS.istore A.here hx rfl (Jvm.hb hby at_137) rfl (l' := #[.val (.int i0), .val (.int i1), .val (.int i2), .val (.int i3), .val (.int i4), .val (.int n), .val (.int x0), .val (.int x1), .val (.int x2), .val (.int x3), .val (.ref b), .val (.int (2 : Int32)), .unset, .unset]) rfl) ?_
              show oGo p e below _ (T.setTop (mkF m 139 #[.val (.int i0), .val (.int i1), .val (.int i2), .val (.int i3), .val (.int i4), .val (.int n), .val (.int x0), .val (.int x1), .val (.int x2), .val (.int x3), .val (.ref b), .val (.int (2 : Int32)), .unset, .unset] []))
              refine oSt (fun _ => XS.goto A.here hx rfl (pc0 := 139) (pc' := 165) rfl (Jvm.hb hby at_139) (by decide) (by decide)) ?_
              show oGo p e below _ (T.setTop (mkF m 165 #[.val (.int i0), .val (.int i1), .val (.int i2), .val (.int i3), .val (.int i4), .val (.int n), .val (.int x0), .val (.int x1), .val (.int x2), .val (.int x3), .val (.ref b), .val (.int (2 : Int32)), .unset, .unset] []))
              exact J165 _ _ _ _ _ _ _ A V_b (Or.inr (Or.inr (Or.inl rfl))) (own_wo2 rn c2 d2 g0 g1)
            · refine oSt (fun _ => XS.icmpYes A.here hx rfl (pc0 := 133) (pc' := 142) rfl (Jvm.hb hby at_133) rfl (Jvm.Free.XT.ii_ne_t d2) (by decide) (by decide)) ?_
              show oGo p e below _ (T.setTop (mkF m 142 #[.val (.int i0), .val (.int i1), .val (.int i2), .val (.int i3), .val (.int i4), .val (.int n), .val (.int x0), .val (.int x1), .val (.int x2), .val (.int x3), .val (.ref b), .unset, .unset, .unset] []))
              have g2 : ¬ ((2 : Int32) < n ∧ x2 = (35 : Int32)) := fun q => d2 q.2
              refine oSt (fun _ => XS.iload A.here hx rfl (Jvm.hb hby at_142) rfl) ?_
              show oGo p e below _ (T.setTop (mkF m 144 #[.val (.int i0), .val (.int i1), .val (.int i2), .val (.int i3), .val (.int i4), .val (.int n), .val (.int x0), .val (.int x1), .val (.int x2), .val (.int x3), .val (.ref b), .unset, .unset, .unset] [(.int n)]))
              refine oSt (fun _ => XS.iconst A.here hx rfl (Jvm.hb hby at_144)) ?_
              show oGo p e below _ (T.setTop (mkF m 145 #[.val (.int i0), .val (.int i1), .val (.int i2), .val (.int i3), .val (.int i4), .val (.int n), .val (.int x0), .val (.int x1), .val (.int x2), .val (.int x3), .val (.ref b), .unset, .unset, .unset] [(.int (3 : Int32)), (.int n)]))
              by_cases c3 : (3 : Int32) < n
              · refine oSt (fun _ => XS.icmpNo A.here hx rfl (Jvm.hb hby at_145) rfl (Jvm.Free.XT.ii_le_f c3)) ?_
                show oGo p e below _ (T.setTop (mkF m 148 #[.val (.int i0), .val (.int i1), .val (.int i2), .val (.int i3), .val (.int i4), .val (.int n), .val (.int x0), .val (.int x1), .val (.int x2), .val (.int x3), .val (.ref b), .unset, .unset, .unset] []))
                refine oSt (fun _ => XS.iload A.here hx rfl (Jvm.hb hby at_148) rfl) ?_
                show oGo p e below _ (T.setTop (mkF m 150 #[.val (.int i0), .val (.int i1), .val (.int i2), .val (.int i3), .val (.int i4), .val (.int n), .val (.int x0), .val (.int x1), .val (.int x2), .val (.int x3), .val (.ref b), .unset, .unset, .unset] [(.int x3)]))
                refine oSt (fun _ => XS.bipush A.here hx rfl (Jvm.hb hby at_150)) ?_
                show oGo p e below _ (T.setTop (mkF m 152 #[.val (.int i0), .val (.int i1), .val (.int i2), .val (.int i3), .val (.int i4), .val (.int n), .val (.int x0), .val (.int x1), .val (.int x2), .val (.int x3), .val (.ref b), .unset, .unset, .unset] [(.int (35 : Int32)), (.int x3)]))
                by_cases d3 : x3 = (35 : Int32)
                · refine oSt (fun _ => XS.icmpNo A.here hx rfl (Jvm.hb hby at_152) rfl (Jvm.Free.XT.ii_ne_f d3)) ?_
                  show oGo p e below _ (T.setTop (mkF m 155 #[.val (.int i0), .val (.int i1), .val (.int i2), .val (.int i3), .val (.int i4), .val (.int n), .val (.int x0), .val (.int x1), .val (.int x2), .val (.int x3), .val (.ref b), .unset, .unset, .unset] []))
                  refine oSt (fun _ => XS.iconst A.here hx rfl (Jvm.hb hby at_155)) ?_
                  show oGo p e below _ (T.setTop (mkF m 156 #[.val (.int i0), .val (.int i1), .val (.int i2), .val (.int i3), .val (.int i4), .val (.int n), .val (.int x0), .val (.int x1), .val (.int x2), .val (.int x3), .val (.ref b), .unset, .unset, .unset] [(.int (3 : Int32))]))
                  refine oSt (fun _ => XS.istore A.here hx rfl (Jvm.hb hby at_156) rfl (l' := #[.val (.int i0), .val (.int i1), .val (.int i2), .val (.int i3), .val (.int i4), .val (.int n), .val (.int x0), .val (.int x1), .val (.int x2), .val (.int x3), .val (.ref b), .val (.int (3 : Int32)), .unset, .unset]) rfl) ?_
                  show oGo p e below _ (T.setTop (mkF m 158 #[.val (.int i0), .val (.int i1), .val (.int i2), .val (.int i3), .val (.int i4), .val (.int n), .val (.int x0), .val (.int x1), .val (.int x2), .val (.int x3), .val (.ref b), .val (.int (3 : Int32)), .unset, .unset] []))
                  refine oSt (fun _ => XS.goto A.here hx rfl (pc0 := 158) (pc' := 165) rfl (Jvm.hb hby at_158) (by decide) (by decide)) ?_
                  show oGo p e below _ (T.setTop (mkF m 165 #[.val (.int i0), .val (.int i1), .val (.int i2), .val (.int i3), .val (.int i4), .val (.int n), .val (.int x0), .val (.int x1), .val (.int x2), .val (.int x3), .val (.ref b), .val (.int (3 : Int32)), .unset, .unset] []))
                  exact J165 _ _ _ _ _ _ _ A V_b (Or.inr (Or.inr (Or.inr (Or.inl rfl)))) (own_wo3 rn c3 d3 g0 g1 g2)
                · refine oSt (fun _ => XS.icmpYes A.here hx rfl (pc0 := 152) (pc' := 161) rfl (Jvm.hb hby at_152) rfl (Jvm.Free.XT.ii_ne_t d3) (by decide) (by decide)) ?_
                  show oGo p e below _ (T.setTop (mkF m 161 #[.val (.int i0), .val (.int i1), .val (.int i2), .val (.int i3), .val (.int i4), .val (.int n), .val (.int x0), .val (.int x1), .val (.int x2), .val (.int x3), .val (.ref b), .unset, .unset, .unset] []))
                  have g3 : ¬ ((3 : Int32) < n ∧ x3 = (35 : Int32)) := fun q => d3 q.2
                  refine oSt (fun _ => XS.iload A.here hx rfl (Jvm.hb hby at_161) rfl) ?_
                  show oGo p e below _ (T.setTop (mkF m 163 #[.val (.int i0), .val (.int i1), .val (.int i2), .val (.int i3), .val (.int i4), .val (.int n), .val (.int x0), .val (.int x1), .val (.int x2), .val (.int x3), .val (.ref b), .unset, .unset, .unset] [(.int n)]))
                  refine oSt (fun _ => XS.istore A.here hx rfl (Jvm.hb hby at_163) rfl (l' := #[.val (.int i0), .val (.int i1), .val (.int i2), .val (.int i3), .val (.int i4), .val (.int n), .val (.int x0), .val (.int x1), .val (.int x2), .val (.int x3), .val (.ref b), .val (.int n), .unset, .unset]) rfl) ?_
                  show oGo p e below _ (T.setTop (mkF m 165 #[.val (.int i0), .val (.int i1), .val (.int i2), .val (.int i3), .val (.int i4), .val (.int n), .val (.int x0), .val (.int x1), .val (.int x2), .val (.int x3), .val (.ref b), .val (.int n), .unset, .unset] []))
                  exact J165 _ _ _ _ _ _ _ A V_b rn (own_woN rn g0 g1 g2 g3)
              · refine oSt (fun _ => XS.icmpYes A.here hx rfl (pc0 := 145) (pc' := 161) rfl (Jvm.hb hby at_145) rfl (Jvm.Free.XT.ii_le_t c3) (by decide) (by decide)) ?_
                show oGo p e below _ (T.setTop (mkF m 161 #[.val (.int i0), .val (.int i1), .val (.int i2), .val (.int i3), .val (.int i4), .val (.int n), .val (.int x0), .val (.int x1), .val (.int x2), .val (.int x3), .val (.ref b), .unset, .unset, .unset] []))
                have g3 : ¬ ((3 : Int32) < n ∧ x3 = (35 : Int32)) := fun q => c3 q.1
                refine oSt (fun _ => XS.iload A.here hx rfl (Jvm.hb hby at_161) rfl) ?_
                show oGo p e below _ (T.setTop (mkF m 163 #[.val (.int i0), .val (.int i1), .val (.int i2), .val (.int i3), .val (.int i4), .val (.int n), .val (.int x0), .val (.int x1), .val (.int x2), .val (.int x3), .val (.ref b), .unset, .unset, .unset] [(.int n)]))
                refine oSt (fun _ => XS.istore A.here hx rfl (Jvm.hb hby at_163) rfl (l' := #[.val (.int i0), .val (.int i1), .val (.int i2), .val (.int i3), .val (.int i4), .val (.int n), .val (.int x0), .val (.int x1), .val (.int x2), .val (.int x3), .val (.ref b), .val (.int n), .unset, .unset]) rfl) ?_
                show oGo p e below _ (T.setTop (mkF m 165 #[.val (.int i0), .val (.int i1), .val (.int i2), .val (.int i3), .val (.int i4), .val (.int n), .val (.int x0), .val (.int x1), .val (.int x2), .val (.int x3), .val (.ref b), .val (.int n), .unset, .unset] []))
                exact J165 _ _ _ _ _ _ _ A V_b rn (own_woN rn g0 g1 g2 g3)
          · refine oSt (fun _ => XS.icmpYes A.here hx rfl (pc0 := 126) (pc' := 142) rfl (Jvm.hb hby at_126) rfl (Jvm.Free.XT.ii_le_t c2) (by decide) (by decide)) ?_
            show oGo p e below _ (T.setTop (mkF m 142 #[.val (.int i0), .val (.int i1), .val (.int i2), .val (.int i3), .val (.int i4), .val (.int n), .val (.int x0), .val (.int x1), .val (.int x2), .val (.int x3), .val (.ref b), .unset, .unset, .unset] []))
            have g2 : ¬ ((2 : Int32) < n ∧ x2 = (35 : Int32)) := fun q => c2 q.1
            refine oSt (fun _ => XS.iload A.here hx rfl (Jvm.hb hby at_142) rfl) ?_
            show oGo p e below _ (T.setTop (mkF m 144 #[.val (.int i0), .val (.int i1), .val (.int i2), .val (.int i3), .val (.int i4), .val (.int n), .val (.int x0), .val (.int x1), .val (.int x2), .val (.int x3), .val (.ref b), .unset, .unset, .unset] [(.int n)]))
            refine oSt (fun _ => XS.iconst A.here hx rfl (Jvm.hb hby at_144)) ?_
            show oGo p e below _ (T.setTop (mkF m 145 #[.val (.int i0), .val (.int i1), .val (.int i2), .val (.int i3), .val (.int i4), .val (.int n), .val (.int x0), .val (.int x1), .val (.int x2), .val (.int x3), .val (.ref b), .unset, .unset, .unset] [(.int (3 : Int32)), (.int n)]))
            by_cases c3 : (3 : Int32) < n
            · refine oSt (fun _ => XS.icmpNo A.here hx rfl (Jvm.hb hby at_145) rfl (Jvm.Free.XT.ii_le_f c3)) ?_
              show oGo p e below _ (T.setTop (mkF m 148 #[.val (.int i0), .val (.int i1), .val (.int i2), .val (.int i3), .val (.int i4), .val (.int n), .val (.int x0), .val (.int x1), .val (.int x2), .val (.int x3), .val (.ref b), .unset, .unset, .unset] []))
              refine oSt (fun _ => XS.iload A.here hx rfl (Jvm.hb hby at_148) rfl) ?_
              show oGo p e below _ (T.setTop (mkF m 150 #[.val (.int i0), .val (.int i1), .val (.int i2), .val (.int i3), .val (.int i4), .val (.int n), .val (.int x0), .val (.int x1), .val (.int x2), .val (.int x3), .val (.ref b), .unset, .unset, .unset] [(.int x3)]))
              refine oSt (fun _ => XS.bipush A.here hx rfl (Jvm.hb hby at_150)) ?_
              show oGo p e below _ (T.setTop (mkF m 152 #[.val (.int i0), .val (.int i1), .val (.int i2), .val (.int i3), .val (.int i4), .val (.int n), .val (.int x0), .val (.int x1), .val (.int x2), .val (.int x3), .val (.ref b), .unset, .unset, .unset] [(.int (35 : Int32)), (.int x3)]))
              by_cases d3 : x3 = (35 : Int32)
              · refine oSt (fun _ => XS.icmpNo A.here hx rfl (Jvm.hb hby at_152) rfl (Jvm.Free.XT.ii_ne_f d3)) ?_
                show oGo p e below _ (T.setTop (mkF m 155 #[.val (.int i0), .val (.int i1), .val (.int i2), .val (.int i3), .val (.int i4), .val (.int n), .val (.int x0), .val (.int x1), .val (.int x2), .val (.int x3), .val (.ref b), .unset, .unset, .unset] []))
                refine oSt (fun _ => XS.iconst A.here hx rfl (Jvm.hb hby at_155)) ?_
                show oGo p e below _ (T.setTop (mkF m 156 #[.val (.int i0), .val (.int i1), .val (.int i2), .val (.int i3), .val (.int i4), .val (.int n), .val (.int x0), .val (.int x1), .val (.int x2), .val (.int x3), .val (.ref b), .unset, .unset, .unset] [(.int (3 : Int32))]))
                refine oSt (fun _ => XS.istore A.here hx rfl (Jvm.hb hby at_156) rfl (l' := #[.val (.int i0), .val (.int i1), .val (.int i2), .val (.int i3), .val (.int i4), .val (.int n), .val (.int x0), .val (.int x1), .val (.int x2), .val (.int x3), .val (.ref b), .val (.int (3 : Int32)), .unset, .unset]) rfl) ?_
                show oGo p e below _ (T.setTop (mkF m 158 #[.val (.int i0), .val (.int i1), .val (.int i2), .val (.int i3), .val (.int i4), .val (.int n), .val (.int x0), .val (.int x1), .val (.int x2), .val (.int x3), .val (.ref b), .val (.int (3 : Int32)), .unset, .unset] []))
                refine oSt (fun _ => XS.goto A.here hx rfl (pc0 := 158) (pc' := 165) rfl (Jvm.hb hby at_158) (by decide) (by decide)) ?_
                show oGo p e below _ (T.setTop (mkF m 165 #[.val (.int i0), .val (.int i1), .val (.int i2), .val (.int i3), .val (.int i4), .val (.int n), .val (.int x0), .val (.int x1), .val (.int x2), .val (.int x3), .val (.ref b), .val (.int (3 : Int32)), .unset, .unset] []))
                exact J165 _ _ _ _ _ _ _ A V_b (Or.inr (Or.inr (Or.inr (Or.inl rfl)))) (own_wo3 rn c3 d3 g0 g1 g2)
              · refine oSt (fun _ => XS.icmpYes A.here hx rfl (pc0 := 152) (pc' := 161) rfl (Jvm.hb hby at_152) rfl (Jvm.Free.XT.ii_ne_t d3) (by decide) (by decide)) ?_
                show oGo p e below _ (T.setTop (mkF m 161 #[.val (.int i0), .val (.int i1), .val (.int i2), .val (.int i3), .val (.int i4), .val (.int n), .val (.int x0), .val (.int x1), .val (.int x2), .val (.int x3), .val (.ref b), .unset, .unset, .unset] []))
                have g3 : ¬ ((3 : Int32) < n ∧ x3 = (35 : Int32)) := fun q => d3 q.2
                refine oSt (fun _ => XS.iload A.here hx rfl (Jvm.hb hby at_161) rfl) ?_
                show oGo p e below _ (T.setTop (mkF m 163 #[.val (.int i0), .val (.int i1), .val (.int i2), .val (.int i3), .val (.int i4), .val (.int n), .val (.int x0), .val (.int x1), .val (.int x2), .val (.int x3), .val (.ref b), .unset, .unset, .unset] [(.int n)]))
                refine oSt (fun _ => XS.istore A.here hx rfl (Jvm.hb hby at_163) rfl (l' := #[.val (.int i0), .val (.int i1), .val (.int i2), .val (.int i3), .val (.int i4), .val (.int n), .val (.int x0), .val (.int x1), .val (.int x2), .val (.int x3), .val (.ref b), .val (.int n), .unset, .unset]) rfl) ?_
                show oGo p e below _ (T.setTop (mkF m 165 #[.val (.int i0), .val (.int i1), .val (.int i2), .val (.int i3), .val (.int i4), .val (.int n), .val (.int x0), .val (.int x1), .val (.int x2), .val (.int x3), .val (.ref b), .val (.int n), .unset, .unset] []))
                exact J165 _ _ _ _ _ _ _ A V_b rn (own_woN rn g0 g1 g2 g3)
            · refine oSt (fun _ => XS.icmpYes A.here hx rfl (pc0 := 145) (pc' := 161) rfl (Jvm.hb hby at_145) rfl (Jvm.Free.XT.ii_le_t c3) (by decide) (by decide)) ?_
              show oGo p e below _ (T.setTop (mkF m 161 #[.val (.int i0), .val (.int i1), .val (.int i2), .val (.int i3), .val (.int i4), .val (.int n), .val (.int x0), .val (.int x1), .val (.int x2), .val (.int x3), .val (.ref b), .unset, .unset, .unset] []))
              have g3 : ¬ ((3 : Int32) < n ∧ x3 = (35 : Int32)) := fun q => c3 q.1
              refine oSt (fun _ => XS.iload A.here hx rfl (Jvm.hb hby at_161) rfl) ?_
              show oGo p e below _ (T.setTop (mkF m 163 #[.val (.int i0), .val (.int i1), .val (.int i2), .val (.int i3), .val (.int i4), .val (.int n), .val (.int x0), .val (.int x1), .val (.int x2), .val (.int x3), .val (.ref b), .unset, .unset, .unset] [(.int n)]))
              refine oSt (fun _ => XS.istore A.here hx rfl (Jvm.hb hby at_163) rfl (l' := #[.val (.int i0), .val (.int i1), .val (.int i2), .val (.int i3), .val (.int i4), .val (.int n), .val (.int x0), .val (.int x1), .val (.int x2), .val (.int x3), .val (.ref b), .val (.int n), .unset, .unset]) rfl) ?_
              show oGo p e below _ (T.setTop (mkF m 165 #[.val (.int i0), .val (.int i1), .val (.int i2), .val (.int i3), .val (.int i4), .val (.int n), .val (.int x0), .val (.int x1), .val (.int x2), .val (.int x3), .val (.ref b), .val (.int n), .unset, .unset] []))
              exact J165 _ _ _ _ _ _ _ A V_b rn (own_woN rn g0 g1 g2 g3)
      · refine oSt (fun _ => XS.icmpYes A.here hx rfl (pc0 := 107) (pc' := 123) rfl (Jvm.hb hby at_107) rfl (Jvm.Free.XT.ii_le_t c1) (by decide) (by decide)) ?_
        show oGo p e below _ (T.setTop (mkF m 123 #[.val (.int i0), .val (.int i1), .val (.int i2), .val (.int i3), .val (.int i4), .val (.int n), .val (.int x0), .val (.int x1), .val (.int x2), .val (.int x3), .val (.ref b), .unset, .unset, .unset] []))
        have g1 : ¬ ((1 : Int32) < n ∧ x1 = (35 : Int32)) := fun q => c1 q.1
        refine oSt (fun _ => XS.iload A.here hx rfl (Jvm.hb hby at_123) rfl) ?_
        show oGo p e below _ (T.setTop (mkF m 125 #[.val (.int i0), .val (.int i1), .val (.int i2), .val (.int i3), .val (.int i4), .val (.int n), .val (.int x0), .val (.int x1), .val (.int x2), .val (.int x3), .val (.ref b), .unset, .unset, .unset] [(.int n)]))
        refine oSt (fun _ => XS.iconst A.here hx rfl (Jvm.hb hby at_125)) ?_
        show oGo p e below _ (T.setTop (mkF m 126 #[.val (.int i0), .val (.int i1), .val (.int i2), .val (.int i3), .val (.int i4), .val (.int n), .val (.int x0), .val (.int x1), .val (.int x2), .val (.int x3), .val (.ref b), .unset, .unset, .unset] [(.int (2 : Int32)), (.int n)]))
        by_cases c2 : (2 : Int32) < n
        · refine oSt (fun _ => XS.icmpNo A.here hx rfl (Jvm.hb hby at_126) rfl (Jvm.Free.XT.ii_le_f c2)) ?_
          show oGo p e below _ (T.setTop (mkF m 129 #[.val (.int i0), .val (.int i1), .val (.int i2), .val (.int i3), .val (.int i4), .val (.int n), .val (.int x0), .val (.int x1), .val (.int x2), .val (.int x3), .val (.ref b), .unset, .unset, .unset] []))
          refine oSt (fun _ => XS.iload A.here hx rfl (Jvm.hb hby at_129) rfl) ?_
          show oGo p e below _ (T.setTop (mkF m 131 #[.val (.int i0), .val (.int i1), .val (.int i2), .val (.int i3), .val (.int i4), .val (.int n), .val (.int x0), .val (.int x1), .val (.int x2), .val (.int x3), .val (.ref b), .unset, .unset, .unset] [(.int x2)]))
          refine oSt (fun _ => XS.bipush A.here hx rfl (Jvm.hb hby at_131)) ?_
          show oGo p e below _ (T.setTop (mkF m 133 #[.val (.int i0), .val (.int i1), .val (.int i2), .val (.int i3), .val (.int i4), .val (.int n), .val (.int x0), .val (.int x1), .val (.int x2), .val (.int x3), .val (.ref b), .unset, .unset, .unset] [(.int (35 : Int32)), (.int x2)]))
          by_cases d2 : x2 = (35 : Int32)
          · refine oSt (fun _ => XS.icmpNo A.here hx rfl (Jvm.hb hby at_133) rfl (Jvm.Free.XT.ii_ne_f d2)) ?_
            show oGo p e below _ (T.setTop (mkF m 136 #[.val (.int i0), .val (.int i1), .val (.int i2), .val (.int i3), .val (.int i4), .val (.int n), .val (.int x0), .val (.int x1), .val (.int x2), .val (.int x3), .val (.ref b), .unset, .unset, .unset] []))
            refine oSt (fun _ => XS.iconst A.here hx rfl (Jvm.hb hby at_136)) ?_
            show oGo p e below _ (T.setTop (mkF m 137 #[.val (.int i0), .val (.int i1), .val (.int i2), .val (.int i3), .val (.int i4), .val (.int n), .val (.int x0), .val (.int x1), .val (.int x2), .val (.int x3), .val (.ref b), .unset, .unset, .unset] [(.int (2 : Int32))]))
            refine oSt (fun _ => XS.istore A.here hx rfl (Jvm.hb hby at_137) rfl (l' := #[.val (.int i0), .val (.int i1), .val (.int i2), .val (.int i3), .val (.int i4), .val (.int n), .val (.int x0), .val (.int x1), .val (.int x2), .val (.int x3), .val (.ref b), .val (.int (2 : Int32)), .unset, .unset]) rfl) ?_
            show oGo p e below _ (T.setTop (mkF m 139 #[.val (.int i0), .val (.int i1), .val (.int i2), .val (.int i3), .val (.int i4), .val (.int n), .val (.int x0), .val (.int x1), .val (.int x2), .val (.int x3), .val (.ref b), .val (.int (2 : Int32)), .unset, .unset] []))
            refine oSt (fun _ => XS.goto A.here hx rfl (pc0 := 139) (pc' := 165) rfl (Jvm.hb hby at_139) (by decide) (by decide)) ?_
            show oGo p e below _ (T.setTop (mkF m 165 #[.val (.int i0), .val (.int i1), .val (.int i2), .val (.int i3), .val (.int i4), .val (.int n), .val (.int x0), .val (.int x1), .val (.int x2), .val (.int x3), .val (.ref b), .val (.int (2 : Int32)), .unset, .unset] []))
            exact J165 _ _ _ _ _ _ _ A V_b (Or.inr (Or.inr (Or.inl rfl))) (own_wo2 rn c2 d2 g0 g1)
          · refine oSt (fun _ => XS.icmpYes A.here hx rfl (pc0 := 133) (pc' := 142) rfl (Jvm.hb hby at_133) rfl (Jvm.Free.XT.ii_ne_t d2) (by decide) (by decide)) ?_
            show oGo p e below _ (T.setTop (mkF m 142 #[.val (.int i0), .val (.int i1), .val (.int i2), .val (.int i3), .val (.int i4), .val (.int n), .val (.int x0), .val (.int x1), .val (.int x2), .val (.int x3), .val (.ref b), .unset, .unset, .unset] []))
            have g2 : ¬ ((2 : Int32) < n ∧ x2 = (35 : Int32)) := fun q => d2 q.2
            refine oSt (fun _ => XS.iload A.here hx rfl (Jvm.hb hby at_142) rfl) ?_
            show oGo p e below _ (T.setTop (mkF m 144 #[.val (.int i0), .val (.int i1), .val (.int i2), .val (.int i3), .val (.int i4), .val (.int n), .val (.int x0), .val (.int x1), .val (.int x2), .val (.int x3), .val (.ref b), .unset, .unset, .unset] [(.int n)]))
            refine oSt (fun _ => XS.iconst A.here hx rfl (Jvm.hb hby at_144)) ?_
            show oGo p e below _ (T.setTop (mkF m 145 #[.val (.int i0), .val (.int i1), .val (.int i2), .val (.int i3), .val (.int i4), .val (.int n), .val (.int x0), .val (.int x1), .val (.int x2), .val (.int x3), .val (.ref b), .unset, .unset, .unset] [(.int (3 : Int32)), (.int n)]))
            by_cases c3 : (3 : Int32) < n
            · refine oSt (fun _ => XS.icmpNo A.here hx rfl (Jvm.hb hby at_145) rfl (Jvm.Free.XT.ii_le_f c3)) ?_
              show oGo p e below _ (T.setTop (mkF m 148 #[.val (.int i0), .val (.int i1), .val (.int i2), .val (.int i3), .val (.int i4), .val (.int n), .val (.int x0), .val (.int x1), .val (.int x2), .val (.int x3), .val (.ref b), .unset, .unset, .unset] []))
              refine oSt (fun _ => XS.iload A.here hx rfl (Jvm.hb hby at_148) rfl) ?_
              show oGo p e below _ (T.setTop (mkF m 150 #[.val (.int i0), .val (.int i1), .val (.int i2), .val (.int i3), .val (.int i4), .val (.int n), .val (.int x0), .val (.int x1), .val (.int x2), .val (.int x3), .val (.ref b), .unset, .unset, .unset] [(.int x3)]))
              refine oSt (fun _ => XS.bipush A.here hx rfl (Jvm.hb hby at_150)) ?_
              show oGo p e below _ (T.setTop (mkF m 152 #[.val (.int i0), .val (.int i1), .val (.int i2), .val (.int i3), .val (.int i4), .val (.int n), .val (.int x0), .val (.int x1), .val (.int x2), .val (.int x3), .val (.ref b), .unset, .unset, .unset] [(.int (35 : Int32)), (.int x3)]))
              by_cases d3 : x3 = (35 : Int32)
              · refine oSt (fun _ => XS.icmpNo A.here hx rfl (Jvm.hb hby at_152) rfl (Jvm.Free.XT.ii_ne_f d3)) ?_
                show oGo p e below _ (T.setTop (mkF m 155 #[.val (.int i0), .val (.int i1), .val (.int i2), .val (.int i3), .val (.int i4), .val (.int n), .val (.int x0), .val (.int x1), .val (.int x2), .val (.int x3), .val (.ref b), .unset, .unset, .unset] []))
                refine oSt (fun _ => XS.iconst A.here hx rfl (Jvm.hb hby at_155)) ?_
                show oGo p e below _ (T.setTop (mkF m 156 #[.val (.int i0), .val (.int i1), .val (.int i2), .val (.int i3), .val (.int i4), .val (.int n), .val (.int x0), .val (.int x1), .val (.int x2), .val (.int x3), .val (.ref b), .unset, .unset, .unset] [(.int (3 : Int32))]))
                refine oSt (fun _ => XS.istore A.here hx rfl (Jvm.hb hby at_156) rfl (l' := #[.val (.int i0), .val (.int i1), .val (.int i2), .val (.int i3), .val (.int i4), .val (.int n), .val (.int x0), .val (.int x1), .val (.int x2), .val (.int x3), .val (.ref b), .val (.int (3 : Int32)), .unset, .unset]) rfl) ?_
                show oGo p e below _ (T.setTop (mkF m 158 #[.val (.int i0), .val (.int i1), .val (.int i2), .val (.int i3), .val (.int i4), .val (.int n), .val (.int x0), .val (.int x1), .val (.int x2), .val (.int x3), .val (.ref b), .val (.int (3 : Int32)), .unset, .unset] []))
                refine oSt (fun _ => XS.goto A.here hx rfl (pc0 := 158) (pc' := 165) rfl (Jvm.hb hby at_158) (by decide) (by decide)) ?_
                show oGo p e below _ (T.setTop (mkF m 165 #[.val (.int i0), .val (.int i1), .val (.int i2), .val (.int i3), .val (.int i4), .val (.int n), .val (.int x0), .val (.int x1), .val (.int x2), .val (.int x3), .val (.ref b), .val (.int (3 : Int32)), .unset, .unset] []))
                exact J165 _ _ _ _ _ _ _ A V_b (Or.inr (Or.inr (Or.inr (Or.inl rfl)))) (own_wo3 rn c3 d3 g0 g1 g2)
              · refine oSt (fun _ => XS.icmpYes A.here hx rfl (pc0 := 152) (pc' := 161) rfl (Jvm.hb hby at_152) rfl (Jvm.Free.XT.ii_ne_t d3) (by decide) (by decide)) ?_
                show oGo p e below _ (T.setTop (mkF m 161 #[.val (.int i0), .val (.int i1), .val (.int i2), .val (.int i3), .val (.int i4), .val (.int n), .val (.int x0), .val (.int x1), .val (.int x2), .val (.int x3), .val (.ref b), .unset, .unset, .unset] []))
                have g3 : ¬ ((3 : Int32) < n ∧ x3 = (35 : Int32)) := fun q => d3 q.2
                refine oSt (fun _ => XS.iload A.here hx rfl (Jvm.hb hby at_161) rfl) ?_
                show oGo p e below _ (T.setTop (mkF m 163 #[.val (.int i0), .val (.int i1), .val (.int i2), .val (.int i3), .val (.int i4), .val (.int n), .val (.int x0), .val (.int x1), .val (.int x2), .val (.int x3), .val (.ref b), .unset, .unset, .unset] [(.int n)]))
                refine oSt (fun _ => XS.istore A.here hx rfl (Jvm.hb hby at_163) rfl (l' := #[.val (.int i0), .val (.int i1), .val (.int i2), .val (.int i3), .val (.int i4), .val (.int n), .val (.int x0), .val (.int x1), .val (.int x2), .val (.int x3), .val (.ref b), .val (.int n), .unset, .unset]) rfl) ?_
                show oGo p e below _ (T.setTop (mkF m 165 #[.val (.int i0), .val (.int i1), .val (.int i2), .val (.int i3), .val (.int i4), .val (.int n), .val (.int x0), .val (.int x1), .val (.int x2), .val (.int x3), .val (.ref b), .val (.int n), .unset, .unset] []))
                exact J165 _ _ _ _ _ _ _ A V_b rn (own_woN rn g0 g1 g2 g3)
            · refine oSt (fun _ => XS.icmpYes A.here hx rfl (pc0 := 145) (pc' := 161) rfl (Jvm.hb hby at_145) rfl (Jvm.Free.XT.ii_le_t c3) (by decide) (by decide)) ?_
              show oGo p e below _ (T.setTop (mkF m 161 #[.val (.int i0), .val (.int i1), .val (.int i2), .val (.int i3), .val (.int i4), .val (.int n), .val (.int x0), .val (.int x1), .val (.int x2), .val (.int x3), .val (.ref b), .unset, .unset, .unset] []))
              have g3 : ¬ ((3 : Int32) < n ∧ x3 = (35 : Int32)) := fun q => c3 q.1
              refine oSt (fun _ => XS.iload A.here hx rfl (Jvm.hb hby at_161) rfl) ?_
              show oGo p e below _ (T.setTop (mkF m 163 #[.val (.int i0), .val (.int i1), .val (.int i2), .val (.int i3), .val (.int i4), .val (.int n), .val (.int x0), .val (.int x1), .val (.int x2), .val (.int x3), .val (.ref b), .unset, .unset, .unset] [(.int n)]))
              refine oSt (fun _ => XS.istore A.here hx rfl (Jvm.hb hby at_163) rfl (l' := #[.val (.int i0), .val (.int i1), .val (.int i2), .val (.int i3), .val (.int i4), .val (.int n), .val (.int x0), .val (.int x1), .val (.int x2), .val (.int x3), .val (.ref b), .val (.int n), .unset, .unset]) rfl) ?_
              show oGo p e below _ (T.setTop (mkF m 165 #[.val (.int i0), .val (.int i1), .val (.int i2), .val (.int i3), .val (.int i4), .val (.int n), .val (.int x0), .val (.int x1), .val (.int x2), .val (.int x3), .val (.ref b), .val (.int n), .unset, .unset] []))
              exact J165 _ _ _ _ _ _ _ A V_b rn (own_woN rn g0 g1 g2 g3)
        · refine oSt (fun _ => XS.icmpYes A.here hx rfl (pc0 := 126) (pc' := 142) rfl (Jvm.hb hby at_126) rfl (Jvm.Free.XT.ii_le_t c2) (by decide) (by decide)) ?_
          show oGo p e below _ (T.setTop (mkF m 142 #[.val (.int i0), .val (.int i1), .val (.int i2), .val (.int i3), .val (.int i4), .val (.int n), .val (.int x0), .val (.int x1), .val (.int x2), .val (.int x3), .val (.ref b), .unset, .unset, .unset] []))
          have g2 : ¬ ((2 : Int32) < n ∧ x2 = (35 : Int32)) := fun q => c2 q.1
          refine oSt (fun _ => XS.iload A.here hx rfl (Jvm.hb hby at_142) rfl) ?_
          show oGo p e below _ (T.setTop (mkF m 144 #[.val (.int i0), .val (.int i1), .val (.int i2), .val (.int i3), .val (.int i4), .val (.int n), .val (.int x0), .val (.int x1), .val (.int x2), .val (.int x3), .val (.ref b), .unset, .unset, .unset] [(.int n)]))
          refine oSt (fun _ => XS.iconst A.here hx rfl (Jvm.hb hby at_144)) ?_
          show oGo p e below _ (T.setTop (mkF m 145 #[.val (.int i0), .val (.int i1), .val (.int i2), .val (.int i3), .val (.int i4), .val (.int n), .val (.int x0), .val (.int x1), .val (.int x2), .val (.int x3), .val (.ref b), .unset, .unset, .unset] [(.int (3 : Int32)), (.int n)]))
          by_cases c3 : (3 : Int32) < n
          · refine oSt (fun _ => XS.icmpNo A.here hx rfl (Jvm.hb hby at_145) rfl (Jvm.Free.XT.ii_le_f c3)) ?_
            show oGo p e below _ (T.setTop (mkF m 148 #[.val (.int i0), .val (.int i1), .val (.int i2), .val (.int i3), .val (.int i4), .val (.int n), .val (.int x0), .val (.int x1), .val (.int x2), .val (.int x3), .val (.ref b), .unset, .unset, .unset] []))
            refine oSt (fun _ => XS.iload A.here hx rfl (Jvm.hb hby at_148) rfl) ?_
            show oGo p e below _ (T.setTop (mkF m 150 #[.val (.int i0), .val (.int i1), .val (.int i2), .val (.int i3), .val (.int i4), .val (.int n), .val (.int x0), .val (.int x1), .val (.int x2), .val (.int x3), .val (.ref b), .unset, .unset, .unset] [(.int x3)]))
            refine oSt (fun _ => XS.bipush A.here hx rfl (Jvm.hb hby at_150)) ?_
            show oGo p e below _ (T.setTop (mkF m 152 #[.val (.int i0), .val (.int i1), .val (.int i2), .val (.int i3), .val (.int i4), .val (.int n), .val (.int x0), .val (.int x1), .val (.int x2), .val (.int x3), .val (.ref b), .unset, .unset, .unset] [(.int (35 : Int32)), (.int x3)]))
            by_cases d3 : x3 = (35 : Int32)
            · refine oSt (fun _ => XS.icmpNo A.here hx rfl (Jvm.hb hby at_152) rfl (Jvm.Free.XT.ii_ne_f d3)) ?_
              show oGo p e below _ (T.setTop (mkF m 155 #[.val (.int i0), .val (.int i1), .val (.int i2), .val (.int i3), .val (.int i4), .val (.int n), .val (.int x0), .val (.int x1), .val (.int x2), .val (.int x3), .val (.ref b), .unset, .unset, .unset] []))
              refine oSt (fun _ => XS.iconst A.here hx rfl (Jvm.hb hby at_155)) ?_
              show oGo p e below _ (T.setTop (mkF m 156 #[.val (.int i0), .val (.int i1), .val (.int i2), .val (.int i3), .val (.int i4), .val (.int n), .val (.int x0), .val (.int x1), .val (.int x2), .val (.int x3), .val (.ref b), .unset, .unset, .unset] [(.int (3 : Int32))]))
              refine oSt (fun _ => XS.istore A.here hx rfl (Jvm.hb hby at_156) rfl (l' := #[.val (.int i0), .val (.int i1), .val (.int i2), .val (.int i3), .val (.int i4), .val (.int n), .val (.int x0), .val (.int x1), .val (.int x2), .val (.int x3), .val (.ref b), .val (.int (3 : Int32)), .unset, .unset]) rfl) ?_
              show oGo p e below _ (T.setTop (mkF m 158 #[.val (.int i0), .val (.int i1), .val (.int i2), .val (.int i3), .val (.int i4), .val (.int n), .val (.int x0), .val (.int x1), .val (.int x2), .val (.int x3), .val (.ref b), .val (.int (3 : Int32)), .unset, .unset] []))
              refine oSt (fun _ => XS.goto A.here hx rfl (pc0 := 158) (pc' := 165) rfl (Jvm.hb hby at_158) (by decide) (by decide)) ?_
              show oGo p e below _ (T.setTop (mkF m 165 #[.val (.int i0), .val (.int i1), .val (.int i2), .val (.int i3), .val (.int i4), .val (.int n), .val (.int x0), .val (.int x1), .val (.int x2), .val (.int x3), .val (.ref b), .val (.int (3 : Int32)), .unset, .unset] []))
              exact J165 _ _ _ _ _ _ _ A V_b (Or.inr (Or.inr (Or.inr (Or.inl rfl)))) (own_wo3 rn c3 d3 g0 g1 g2)
            · refine oSt (fun _ => XS.icmpYes A.here hx rfl (pc0 := 152) (pc' := 161) rfl (Jvm.hb hby at_152) rfl (Jvm.Free.XT.ii_ne_t d3) (by decide) (by decide)) ?_
              show oGo p e below _ (T.setTop (mkF m 161 #[.val (.int i0), .val (.int i1), .val (.int i2), .val (.int i3), .val (.int i4), .val (.int n), .val (.int x0), .val (.int x1), .val (.int x2), .val (.int x3), .val (.ref b), .unset, .unset, .unset] []))
              have g3 : ¬ ((3 : Int32) < n ∧ x3 = (35 : Int32)) := fun q => d3 q.2
              refine oSt (fun _ => XS.iload A.here hx rfl (Jvm.hb hby at_161) rfl) ?_
              show oGo p e below _ (T.setTop (mkF m 163 #[.val (.int i0), .val (.int i1), .val (.int i2), .val (.int i3), .val (.int i4), .val (.int n), .val (.int x0), .val (.int x1), .val (.int x2), .val (.int x3), .val (.ref b), .unset, .unset, .unset] [(.int n)]))
              refine oSt (fun _ => XS.istore A.here hx rfl (Jvm.hb hby at_163) rfl (l' := #[.val (.int i0), .val (.int i1), .val (.int i2), .val (.int i3), .val (.int i4), .val (.int n), .val (.int x0), .val (.int x1), .val (.int x2), .val (.int x3), .val (.ref b), .val (.int n), .unset, .unset]) rfl) ?_
              show oGo p e below _ (T.setTop (mkF m 165 #[.val (.int i0), .val (.int i1), .val (.int i2), .val (.int i3), .val (.int i4), .val (.int n), .val (.int x0), .val (.int x1), .val (.int x2), .val (.int x3), .val (.ref b), .val (.int n), .unset, .unset] []))
              exact J165 _ _ _ _ _ _ _ A V_b rn (own_woN rn g0 g1 g2 g3)
          · refine oSt (fun _ => XS.icmpYes A.here hx rfl (pc0 := 145) (pc' := 161) rfl (Jvm.hb hby at_145) rfl (Jvm.Free.XT.ii_le_t c3) (by decide) (by decide)) ?_
            show oGo p e below _ (T.setTop (mkF m 161 #[.val (.int i0), .val (.int i1), .val (.int i2), .val (.int i3), .val (.int i4), .val (.int n), .val (.int x0), .val (.int x1), .val (.int x2), .val (.int x3), .val (.ref b), .unset, .unset, .unset] []))
            have g3 : ¬ ((3 : Int32) < n ∧ x3 = (35 : Int32)) := fun q => c3 q.1
            refine oSt (fun _ => XS.iload A.here hx rfl (Jvm.hb hby at_161) rfl) ?_
            show oGo p e below _ (T.setTop (mkF m 163 #[.val (.int i0), .val (.int i1), .val (.int i2), .val (.int i3), .val (.int i4), .val (.int n), .val (.int x0), .val (.int x1), .val (.int x2), .val (.int x3), .val (.ref b), .unset, .unset, .unset] [(.int n)]))
            refine oSt (fun _ => XS.istore A.here hx rfl (Jvm.hb hby at_163) rfl (l' := #[.val (.int i0), .val (.int i1), .val (.int i2), .val (.int i3), .val (.int i4), .val (.int n), .val (.int x0), .val (.int x1), .val (.int x2), .val (.int x3), .val (.ref b), .val (.int n), .unset, .unset]) rfl) ?_
            show oGo p e below _ (T.setTop (mkF m 165 #[.val (.int i0), .val (.int i1), .val (.int i2), .val (.int i3), .val (.int i4), .val (.int n), .val (.int x0), .val (.int x1), .val (.int x2), .val (.int x3), .val (.ref b), .val (.int n), .unset, .unset] []))
            exact J165 _ _ _ _ _ _ _ A V_b rn (own_woN rn g0 g1 g2 g3)
  rcases rn with rfl | rfl | rfl | rfl | rfl
  · show oGo p e below _ (T.setTop (mkF m 35 #[.val (.int i0), .val (.int i1), .val (.int i2), .val (.int i3), .val (.int i4), .val (.int (0 : Int32)), .val (.int x0), .val (.int x1), .val (.int x2), .val (.int x3), .unset, .unset, .unset, .unset] [(.int (0 : Int32))]))
    obtain ⟨T, h, b, k_b, g_b, lt_b, n0_b, s_b, A, E, V_b, S_b, st⟩ := A.newP hx (hw _ (List.mem_of_getElem? (i := 5) rfl)) (g := (mkF m 35 #[.val (.int i0), .val (.int i1), .val (.int i2), .val (.int i3), .val (.int i4), .val (.int (0 : Int32)), .val (.int x0), .val (.int x1), .val (.int x2), .val (.int x3), .unset, .unset, .unset, .unset] [(.int (0 : Int32))])) rfl (Jvm.hb hby at_35) rfl (by decide) (cap := 0) (by decide) (by decide) (by decide) (by decide)
    refine oSt st ?_
    show oGo p e below _ (T.setTop (mkF m 37 #[.val (.int i0), .val (.int i1), .val (.int i2), .val (.int i3), .val (.int i4), .val (.int (0 : Int32)), .val (.int x0), .val (.int x1), .val (.int x2), .val (.int x3), .unset, .unset, .unset, .unset] [(.ref b)]))
    refine oSt (fun _ => XS.astore A.here hx rfl (Jvm.hb hby at_37) rfl rfl (l' := #[.val (.int i0), .val (.int i1), .val (.int i2), .val (.int i3), .val (.int i4), .val (.int (0 : Int32)), .val (.int x0), .val (.int x1), .val (.int x2), .val (.int x3), .val (.ref b), .unset, .unset, .unset]) rfl) ?_
    show oGo p e below _ (T.setTop (mkF m 39 #[.val (.int i0), .val (.int i1), .val (.int i2), .val (.int i3), .val (.int i4), .val (.int (0 : Int32)), .val (.int x0), .val (.int x1), .val (.int x2), .val (.int x3), .val (.ref b), .unset, .unset, .unset] []))
    refine oSt (fun _ => XS.iload A.here hx rfl (Jvm.hb hby at_39) rfl) ?_
    show oGo p e below _ (T.setTop (mkF m 41 #[.val (.int i0), .val (.int i1), .val (.int i2), .val (.int i3), .val (.int i4), .val (.int (0 : Int32)), .val (.int x0), .val (.int x1), .val (.int x2), .val (.int x3), .val (.ref b), .unset, .unset, .unset] [(.int (0 : Int32))]))
    refine oSt (fun _ => XS.ifYes A.here hx rfl (pc0 := 41) (pc' := 50) rfl (Jvm.hb hby at_41) rfl (Jvm.Free.XT.i0_le_t (by decide)) (by decide) (by decide)) ?_
    show oGo p e below _ (T.setTop (mkF m 50 #[.val (.int i0), .val (.int i1), .val (.int i2), .val (.int i3), .val (.int i4), .val (.int (0 : Int32)), .val (.int x0), .val (.int x1), .val (.int x2), .val (.int x3), .val (.ref b), .unset, .unset, .unset] []))
    refine oSt (fun _ => XS.iload A.here hx rfl (Jvm.hb hby at_50) rfl) ?_
    show oGo p e below _ (T.setTop (mkF m 52 #[.val (.int i0), .val (.int i1), .val (.int i2), .val (.int i3), .val (.int i4), .val (.int (0 : Int32)), .val (.int x0), .val (.int x1), .val (.int x2), .val (.int x3), .val (.ref b), .unset, .unset, .unset] [(.int (0 : Int32))]))
    refine oSt (fun _ => XS.iconst A.here hx rfl (Jvm.hb hby at_52)) ?_
    show oGo p e below _ (T.setTop (mkF m 53 #[.val (.int i0), .val (.int i1), .val (.int i2), .val (.int i3), .val (.int i4), .val (.int (0 : Int32)), .val (.int x0), .val (.int x1), .val (.int x2), .val (.int x3), .val (.ref b), .unset, .unset, .unset] [(.int (1 : Int32)), (.int (0 : Int32))]))
    refine oSt (fun _ => XS.icmpYes A.here hx rfl (pc0 := 53) (pc' := 62) rfl (Jvm.hb hby at_53) rfl (Jvm.Free.XT.ii_le_t (by decide)) (by decide) (by decide)) ?_
    show oGo p e below _ (T.setTop (mkF m 62 #[.val (.int i0), .val (.int i1), .val (.int i2), .val (.int i3), .val (.int i4), .val (.int (0 : Int32)), .val (.int x0), .val (.int x1), .val (.int x2), .val (.int x3), .val (.ref b), .unset, .unset, .unset] []))
    refine oSt (fun _ => XS.iload A.here hx rfl (Jvm.hb hby at_62) rfl) ?_
    show oGo p e below _ (T.setTop (mkF m 64 #[.val (.int i0), .val (.int i1), .val (.int i2), .val (.int i3), .val (.int i4), .val (.int (0 : Int32)), .val (.int x0), .val (.int x1), .val (.int x2), .val (.int x3), .val (.ref b), .unset, .unset, .unset] [(.int (0 : Int32))]))
    refine oSt (fun _ => XS.iconst A.here hx rfl (Jvm.hb hby at_64)) ?_
    show oGo p e below _ (T.setTop (mkF m 65 #[.val (.int i0), .val (.int i1), .val (.int i2), .val (.int i3), .val (.int i4), .val (.int (0 : Int32)), .val (.int x0), .val (.int x1), .val (.int x2), .val (.int x3), .val (.ref b), .unset, .unset, .unset] [(.int (2 : Int32)), (.int (0 : Int32))]))
    refine oSt (fun _ => XS.icmpYes A.here hx rfl (pc0 := 65) (pc' := 74) rfl (Jvm.hb hby at_65) rfl (Jvm.Free.XT.ii_le_t (by decide)) (by decide) (by decide)) ?_
    show oGo p e below _ (T.setTop (mkF m 74 #[.val (.int i0), .val (.int i1), .val (.int i2), .val (.int i3), .val (.int i4), .val (.int (0 : Int32)), .val (.int x0), .val (.int x1), .val (.int x2), .val (.int x3), .val (.ref b), .unset, .unset, .unset] []))
    refine oSt (fun _ => XS.iload A.here hx rfl (Jvm.hb hby at_74) rfl) ?_
    show oGo p e below _ (T.setTop (mkF m 76 #[.val (.int i0), .val (.int i1), .val (.int i2), .val (.int i3), .val (.int i4), .val (.int (0 : Int32)), .val (.int x0), .val (.int x1), .val (.int x2), .val (.int x3), .val (.ref b), .unset, .unset, .unset] [(.int (0 : Int32))]))
    refine oSt (fun _ => XS.iconst A.here hx rfl (Jvm.hb hby at_76)) ?_
    show oGo p e below _ (T.setTop (mkF m 77 #[.val (.int i0), .val (.int i1), .val (.int i2), .val (.int i3), .val (.int i4), .val (.int (0 : Int32)), .val (.int x0), .val (.int x1), .val (.int x2), .val (.int x3), .val (.ref b), .unset, .unset, .unset] [(.int (3 : Int32)), (.int (0 : Int32))]))
    refine oSt (fun _ => XS.icmpYes A.here hx rfl (pc0 := 77) (pc' := 86) rfl (Jvm.hb hby at_77) rfl (Jvm.Free.XT.ii_le_t (by decide)) (by decide) (by decide)) ?_
    show oGo p e below _ (T.setTop (mkF m 86 #[.val (.int i0), .val (.int i1), .val (.int i2), .val (.int i3), .val (.int i4), .val (.int (0 : Int32)), .val (.int x0), .val (.int x1), .val (.int x2), .val (.int x3), .val (.ref b), .unset, .unset, .unset] []))
    exact J86 _ _ _ _ _ _ (A.mono (by decide) (by decide)) V_b
  · show oGo p e below _ (T.setTop (mkF m 35 #[.val (.int i0), .val (.int i1), .val (.int i2), .val (.int i3), .val (.int i4), .val (.int (1 : Int32)), .val (.int x0), .val (.int x1), .val (.int x2), .val (.int x3), .unset, .unset, .unset, .unset] [(.int (1 : Int32))]))
    obtain ⟨T, h, b, k_b, g_b, lt_b, n0_b, s_b, A, E, V_b, S_b, st⟩ := A.newP hx (hw _ (List.mem_of_getElem? (i := 5) rfl)) (g := (mkF m 35 #[.val (.int i0), .val (.int i1), .val (.int i2), .val (.int i3), .val (.int i4), .val (.int (1 : Int32)), .val (.int x0), .val (.int x1), .val (.int x2), .val (.int x3), .unset, .unset, .unset, .unset] [(.int (1 : Int32))])) rfl (Jvm.hb hby at_35) rfl (by decide) (cap := 1) (by decide) (by decide) (by decide) (by decide)
    refine oSt st ?_
    show oGo p e below _ (T.setTop (mkF m 37 #[.val (.int i0), .val (.int i1), .val (.int i2), .val (.int i3), .val (.int i4), .val (.int (1 : Int32)), .val (.int x0), .val (.int x1), .val (.int x2), .val (.int x3), .unset, .unset, .unset, .unset] [(.ref b)]))
    have V_b : Arv Z h b k_b .char (1 : Int32) [(.int (0 : Int32))] (.int (0 : Int32)) := V_b.pad (pad_rep [] (.int (0 : Int32)) 1)
    refine oSt (fun _ => XS.astore A.here hx rfl (Jvm.hb hby at_37) rfl rfl (l' := #[.val (.int i0), .val (.int i1), .val (.int i2), .val (.int i3), .val (.int i4), .val (.int (1 : Int32)), .val (.int x0), .val (.int x1), .val (.int x2), .val (.int x3), .val (.ref b), .unset, .unset, .unset]) rfl) ?_
    show oGo p e below _ (T.setTop (mkF m 39 #[.val (.int i0), .val (.int i1), .val (.int i2), .val (.int i3), .val (.int i4), .val (.int (1 : Int32)), .val (.int x0), .val (.int x1), .val (.int x2), .val (.int x3), .val (.ref b), .unset, .unset, .unset] []))
    refine oSt (fun _ => XS.iload A.here hx rfl (Jvm.hb hby at_39) rfl) ?_
    show oGo p e below _ (T.setTop (mkF m 41 #[.val (.int i0), .val (.int i1), .val (.int i2), .val (.int i3), .val (.int i4), .val (.int (1 : Int32)), .val (.int x0), .val (.int x1), .val (.int x2), .val (.int x3), .val (.ref b), .unset, .unset, .unset] [(.int (1 : Int32))]))
    refine oSt (fun _ => XS.ifNo A.here hx rfl (Jvm.hb hby at_41) rfl (Jvm.Free.XT.i0_le_f (by decide))) ?_
    show oGo p e below _ (T.setTop (mkF m 44 #[.val (.int i0), .val (.int i1), .val (.int i2), .val (.int i3), .val (.int i4), .val (.int (1 : Int32)), .val (.int x0), .val (.int x1), .val (.int x2), .val (.int x3), .val (.ref b), .unset, .unset, .unset] []))
    refine oSt (fun _ => XS.aload A.here hx rfl (Jvm.hb hby at_44) rfl rfl) ?_
    show oGo p e below _ (T.setTop (mkF m 46 #[.val (.int i0), .val (.int i1), .val (.int i2), .val (.int i3), .val (.int i4), .val (.int (1 : Int32)), .val (.int x0), .val (.int x1), .val (.int x2), .val (.int x3), .val (.ref b), .unset, .unset, .unset] [(.ref b)]))
    refine oSt (fun _ => XS.iconst A.here hx rfl (Jvm.hb hby at_46)) ?_
    show oGo p e below _ (T.setTop (mkF m 47 #[.val (.int i0), .val (.int i1), .val (.int i2), .val (.int i3), .val (.int i4), .val (.int (1 : Int32)), .val (.int x0), .val (.int x1), .val (.int x2), .val (.int x3), .val (.ref b), .unset, .unset, .unset] [(.int (0 : Int32)), (.ref b)]))
    refine oSt (fun _ => XS.iload A.here hx rfl (Jvm.hb hby at_47) rfl) ?_
    show oGo p e below _ (T.setTop (mkF m 49 #[.val (.int i0), .val (.int i1), .val (.int i2), .val (.int i3), .val (.int i4), .val (.int (1 : Int32)), .val (.int x0), .val (.int x1), .val (.int x2), .val (.int x3), .val (.ref b), .unset, .unset, .unset] [(.int x0), (.int (0 : Int32)), (.ref b)]))
    obtain ⟨T, h, A, W, V_b, st⟩ := A.stC hx V_b 0 rfl ⟨by decide, by decide⟩ (by simp) n0_b (Or.inr s_b) (g := (mkF m 49 #[.val (.int i0), .val (.int i1), .val (.int i2), .val (.int i3), .val (.int i4), .val (.int (1 : Int32)), .val (.int x0), .val (.int x1), .val (.int x2), .val (.int x3), .val (.ref b), .unset, .unset, .unset] [(.int x0), (.int (0 : Int32)), (.ref b)])) rfl rfl (Jvm.hb hby at_49)
    refine oSt st ?_
    show oGo p e below _ (T.setTop (mkF m 50 #[.val (.int i0), .val (.int i1), .val (.int i2), .val (.int i3), .val (.int i4), .val (.int (1 : Int32)), .val (.int x0), .val (.int x1), .val (.int x2), .val (.int x3), .val (.ref b), .unset, .unset, .unset] []))
    rw [oNar hb0] at V_b
    have V_b : Arv Z h b k_b .char (1 : Int32) [(.int x0)] (.int (0 : Int32)) := V_b
    refine oSt (fun _ => XS.iload A.here hx rfl (Jvm.hb hby at_50) rfl) ?_
    show oGo p e below _ (T.setTop (mkF m 52 #[.val (.int i0), .val (.int i1), .val (.int i2), .val (.int i3), .val (.int i4), .val (.int (1 : Int32)), .val (.int x0), .val (.int x1), .val (.int x2), .val (.int x3), .val (.ref b), .unset, .unset, .unset] [(.int (1 : Int32))]))
    refine oSt (fun _ => XS.iconst A.here hx rfl (Jvm.hb hby at_52)) ?_
    show oGo p e below _ (T.setTop (mkF m 53 #[.val (.int i0), .val (.int i1), .val (.int i2), .val (.int i3), .val (.int i4), .val (.int (1 : Int32)), .val (.int x0), .val (.int x1), .val (.int x2), .val (.int x3), .val (.ref b), .unset, .unset, .unset] [(.int (1 : Int32)), (.int (1 : Int32))]))
    refine oSt (fun _ => XS.icmpYes A.here hx rfl (pc0 := 53) (pc' := 62) rfl (Jvm.hb hby at_53) rfl (Jvm.Free.XT.ii_le_t (by decide)) (by decide) (by decide)) ?_
    show oGo p e below _ (T.setTop (mkF m 62 #[.val (.int i0), .val (.int i1), .val (.int i2), .val (.int i3), .val (.int i4), .val (.int (1 : Int32)), .val (.int x0), .val (.int x1), .val (.int x2), .val (.int x3), .val (.ref b), .unset, .unset, .unset] []))
    refine oSt (fun _ => XS.iload A.here hx rfl (Jvm.hb hby at_62) rfl) ?_
    show oGo p e below _ (T.setTop (mkF m 64 #[.val (.int i0), .val (.int i1), .val (.int i2), .val (.int i3), .val (.int i4), .val (.int (1 : Int32)), .val (.int x0), .val (.int x1), .val (.int x2), .val (.int x3), .val (.ref b), .unset, .unset, .unset] [(.int (1 : Int32))]))
    refine oSt (fun _ => XS.iconst A.here hx rfl (Jvm.hb hby at_64)) ?_
    show oGo p e below _ (T.setTop (mkF m 65 #[.val (.int i0), .val (.int i1), .val (.int i2), .val (.int i3), .val (.int i4), .val (.int (1 : Int32)), .val (.int x0), .val (.int x1), .val (.int x2), .val (.int x3), .val (.ref b), .unset, .unset, .unset] [(.int (2 : Int32)), (.int (1 : Int32))]))
    refine oSt (fun _ => XS.icmpYes A.here hx rfl (pc0 := 65) (pc' := 74) rfl (Jvm.hb hby at_65) rfl (Jvm.Free.XT.ii_le_t (by decide)) (by decide) (by decide)) ?_
    show oGo p e below _ (T.setTop (mkF m 74 #[.val (.int i0), .val (.int i1), .val (.int i2), .val (.int i3), .val (.int i4), .val (.int (1 : Int32)), .val (.int x0), .val (.int x1), .val (.int x2), .val (.int x3), .val (.ref b), .unset, .unset, .unset] []))
    refine oSt (fun _ => XS.iload A.here hx rfl (Jvm.hb hby at_74) rfl) ?_
    show oGo p e below _ (T.setTop (mkF m 76 #[.val (.int i0), .val (.int i1), .val (.int i2), .val (.int i3), .val (.int i4), .val (.int (1 : Int32)), .val (.int x0), .val (.int x1), .val (.int x2), .val (.int x3), .val (.ref b), .unset, .unset, .unset] [(.int (1 : Int32))]))
    refine oSt (fun _ => XS.iconst A.here hx rfl (Jvm.hb hby at_76)) ?_
    show oGo p e below _ (T.setTop (mkF m 77 #[.val (.int i0), .val (.int i1), .val (.int i2), .val (.int i3), .val (.int i4), .val (.int (1 : Int32)), .val (.int x0), .val (.int x1), .val (.int x2), .val (.int x3), .val (.ref b), .unset, .unset, .unset] [(.int (3 : Int32)), (.int (1 : Int32))]))
    refine oSt (fun _ => XS.icmpYes A.here hx rfl (pc0 := 77) (pc' := 86) rfl (Jvm.hb hby at_77) rfl (Jvm.Free.XT.ii_le_t (by decide)) (by decide) (by decide)) ?_
    show oGo p e below _ (T.setTop (mkF m 86 #[.val (.int i0), .val (.int i1), .val (.int i2), .val (.int i3), .val (.int i4), .val (.int (1 : Int32)), .val (.int x0), .val (.int x1), .val (.int x2), .val (.int x3), .val (.ref b), .unset, .unset, .unset] []))
    exact J86 _ _ _ _ _ _ (A.mono (by decide) (by decide)) V_b
  · show oGo p e below _ (T.setTop (mkF m 35 #[.val (.int i0), .val (.int i1), .val (.int i2), .val (.int i3), .val (.int i4), .val (.int (2 : Int32)), .val (.int x0), .val (.int x1), .val (.int x2), .val (.int x3), .unset, .unset, .unset, .unset] [(.int (2 : Int32))]))
    obtain ⟨T, h, b, k_b, g_b, lt_b, n0_b, s_b, A, E, V_b, S_b, st⟩ := A.newP hx (hw _ (List.mem_of_getElem? (i := 5) rfl)) (g := (mkF m 35 #[.val (.int i0), .val (.int i1), .val (.int i2), .val (.int i3), .val (.int i4), .val (.int (2 : Int32)), .val (.int x0), .val (.int x1), .val (.int x2), .val (.int x3), .unset, .unset, .unset, .unset] [(.int (2 : Int32))])) rfl (Jvm.hb hby at_35) rfl (by decide) (cap := 2) (by decide) (by decide) (by decide) (by decide)
    refine oSt st ?_
    show oGo p e below _ (T.setTop (mkF m 37 #[.val (.int i0), .val (.int i1), .val (.int i2), .val (.int i3), .val (.int i4), .val (.int (2 : Int32)), .val (.int x0), .val (.int x1), .val (.int x2), .val (.int x3), .unset, .unset, .unset, .unset] [(.ref b)]))
    have V_b : Arv Z h b k_b .char (2 : Int32) [(.int (0 : Int32)), (.int (0 : Int32))] (.int (0 : Int32)) := V_b.pad (pad_rep [] (.int (0 : Int32)) 2)
    refine oSt (fun _ => XS.astore A.here hx rfl (Jvm.hb hby at_37) rfl rfl (l' := #[.val (.int i0), .val (.int i1), .val (.int i2), .val (.int i3), .val (.int i4), .val (.int (2 : Int32)), .val (.int x0), .val (.int x1), .val (.int x2), .val (.int x3), .val (.ref b), .unset, .unset, .unset]) rfl) ?_
    show oGo p e below _ (T.setTop (mkF m 39 #[.val (.int i0), .val (.int i1), .val (.int i2), .val (.int i3), .val (.int i4), .val (.int (2 : Int32)), .val (.int x0), .val (.int x1), .val (.int x2), .val (.int x3), .val (.ref b), .unset, .unset, .unset] []))
    refine oSt (fun _ => XS.iload A.here hx rfl (Jvm.hb hby at_39) rfl) ?_
    show oGo p e below _ (T.setTop (mkF m 41 #[.val (.int i0), .val (.int i1), .val (.int i2), .val (.int i3), .val (.int i4), .val (.int (2 : Int32)), .val (.int x0), .val (.int x1), .val (.int x2), .val (.int x3), .val (.ref b), .unset, .unset, .unset] [(.int (2 : Int32))]))
    refine oSt (fun _ => XS.ifNo A.here hx rfl (Jvm.hb hby at_41) rfl (Jvm.Free.XT.i0_le_f (by decide))) ?_
    show oGo p e below _ (T.setTop (mkF m 44 #[.val (.int i0), .val (.int i1), .val (.int i2), .val (.int i3), .val (.int i4), .val (.int (2 : Int32)), .val (.int x0), .val (.int x1), .val (.int x2), .val (.int x3), .val (.ref b), .unset, .unset, .unset] []))
    refine oSt (fun _ => XS.aload A.here hx rfl (Jvm.hb hby at_44) rfl rfl) ?_
    show oGo p e below _ (T.setTop (mkF m 46 #[.val (.int i0), .val (.int i1), .val (.int i2), .val (.int i3), .val (.int i4), .val (.int (2 : Int32)), .val (.int x0), .val (.int x1), .val (.int x2), .val (.int x3), .val (.ref b), .unset, .unset, .unset] [(.ref b)]))
    refine oSt (fun _ => XS.iconst A.here hx rfl (Jvm.hb hby at_46)) ?_
    show oGo p e below _ (T.setTop (mkF m 47 #[.val (.int i0), .val (.int i1), .val (.int i2), .val (.int i3), .val (.int i4), .val (.int (2 : Int32)), .val (.int x0), .val (.int x1), .val (.int x2), .val (.int x3), .val (.ref b), .unset, .unset, .unset] [(.int (0 : Int32)), (.ref b)]))
    refine oSt (fun _ => XS.iload A.here hx rfl (Jvm.hb hby at_47) rfl) ?_
    show oGo p e below _ (T.setTop (mkF m 49 #[.val (.int i0), .val (.int i1), .val (.int i2), .val (.int i3), .val (.int i4), .val (.int (2 : Int32)), .val (.int x0), .val (.int x1), .val (.int x2), .val (.int x3), .val (.ref b), .unset, .unset, .unset] [(.int x0), (.int (0 : Int32)), (.ref b)]))
    obtain ⟨T, h, A, W, V_b, st⟩ := A.stC hx V_b 0 rfl ⟨by decide, by decide⟩ (by simp) n0_b (Or.inr s_b) (g := (mkF m 49 #[.val (.int i0), .val (.int i1), .val (.int i2), .val (.int i3), .val (.int i4), .val (.int (2 : Int32)), .val (.int x0), .val (.int x1), .val (.int x2), .val (.int x3), .val (.ref b), .unset, .unset, .unset] [(.int x0), (.int (0 : Int32)), (.ref b)])) rfl rfl (Jvm.hb hby at_49)
    refine oSt st ?_
    show oGo p e below _ (T.setTop (mkF m 50 #[.val (.int i0), .val (.int i1), .val (.int i2), .val (.int i3), .val (.int i4), .val (.int (2 : Int32)), .val (.int x0), .val (.int x1), .val (.int x2), .val (.int x3), .val (.ref b), .unset, .unset, .unset] []))
    rw [oNar hb0] at V_b
    have V_b : Arv Z h b k_b .char (2 : Int32) [(.int x0), (.int (0 : Int32))] (.int (0 : Int32)) := V_b
    refine oSt (fun _ => XS.iload A.here hx rfl (Jvm.hb hby at_50) rfl) ?_
    show oGo p e below _ (T.setTop (mkF m 52 #[.val (.int i0), .val (.int i1), .val (.int i2), .val (.int i3), .val (.int i4), .val (.int (2 : Int32)), .val (.int x0), .val (.int x1), .val (.int x2), .val (.int x3), .val (.ref b), .unset, .unset, .unset] [(.int (2 : Int32))]))
    refine oSt (fun _ => XS.iconst A.here hx rfl (Jvm.hb hby at_52)) ?_
    show oGo p e below _ (T.setTop (mkF m 53 #[.val (.int i0), .val (.int i1), .val (.int i2), .val (.int i3), .val (.int i4), .val (.int (2 : Int32)), .val (.int x0), .val (.int x1), .val (.int x2), .val (.int x3), .val (.ref b), .unset, .unset, .unset] [(.int (1 : Int32)), (.int (2 : Int32))]))
    refine oSt (fun _ => XS.icmpNo A.here hx rfl (Jvm.hb hby at_53) rfl (Jvm.Free.XT.ii_le_f (by decide))) ?_
    show oGo p e below _ (T.setTop (mkF m 56 #[.val (.int i0), .val (.int i1), .val (.int i2), .val (.int i3), .val (.int i4), .val (.int (2 : Int32)), .val (.int x0), .val (.int x1), .val (.int x2), .val (.int x3), .val (.ref b), .unset, .unset, .unset] []))
    refine oSt (fun _ => XS.aload A.here hx rfl (Jvm.hb hby at_56) rfl rfl) ?_
    show oGo p e below _ (T.setTop (mkF m 58 #[.val (.int i0), .val (.int i1), .val (.int i2), .val (.int i3), .val (.int i4), .val (.int (2 : Int32)), .val (.int x0), .val (.int x1), .val (.int x2), .val (.int x3), .val (.ref b), .unset, .unset, .unset] [(.ref b)]))
    refine oSt (fun _ => XS.iconst A.here hx rfl (Jvm.hb hby at_58)) ?_
    show oGo p e below _ (T.setTop (mkF m 59 #[.val (.int i0), .val (.int i1), .val (.int i2), .val (.int i3), .val (.int i4), .val (.int (2 : Int32)), .val (.int x0), .val (.int x1), .val (.int x2), .val (.int x3), .val (.ref b), .unset, .unset, .unset] [(.int (1 : Int32)), (.ref b)]))
    refine oSt (fun _ => XS.iload A.here hx rfl (Jvm.hb hby at_59) rfl) ?_
    show oGo p e below _ (T.setTop (mkF m 61 #[.val (.int i0), .val (.int i1), .val (.int i2), .val (.int i3), .val (.int i4), .val (.int (2 : Int32)), .val (.int x0), .val (.int x1), .val (.int x2), .val (.int x3), .val (.ref b), .unset, .unset, .unset] [(.int x1), (.int (1 : Int32)), (.ref b)]))
    obtain ⟨T, h, A, W, V_b, st⟩ := A.stC hx V_b 1 rfl ⟨by decide, by decide⟩ (by simp) n0_b (Or.inr s_b) (g := (mkF m 61 #[.val (.int i0), .val (.int i1), .val (.int i2), .val (.int i3), .val (.int i4), .val (.int (2 : Int32)), .val (.int x0), .val (.int x1), .val (.int x2), .val (.int x3), .val (.ref b), .unset, .unset, .unset] [(.int x1), (.int (1 : Int32)), (.ref b)])) rfl rfl (Jvm.hb hby at_61)
    refine oSt st ?_
    show oGo p e below _ (T.setTop (mkF m 62 #[.val (.int i0), .val (.int i1), .val (.int i2), .val (.int i3), .val (.int i4), .val (.int (2 : Int32)), .val (.int x0), .val (.int x1), .val (.int x2), .val (.int x3), .val (.ref b), .unset, .unset, .unset] []))
    rw [oNar hb1] at V_b
    have V_b : Arv Z h b k_b .char (2 : Int32) [(.int x0), (.int x1)] (.int (0 : Int32)) := V_b
    refine oSt (fun _ => XS.iload A.here hx rfl (Jvm.hb hby at_62) rfl) ?_
    show oGo p e below _ (T.setTop (mkF m 64 #[.val (.int i0), .val (.int i1), .val (.int i2), .val (.int i3), .val (.int i4), .val (.int (2 : Int32)), .val (.int x0), .val (.int x1), .val (.int x2), .val (.int x3), .val (.ref b), .unset, .unset, .unset] [(.int (2 : Int32))]))
    refine oSt (fun _ => XS.iconst A.here hx rfl (Jvm.hb hby at_64)) ?_
    show oGo p e below _ (T.setTop (mkF m 65 #[.val (.int i0), .val (.int i1), .val (.int i2), .val (.int i3), .val (.int i4), .val (.int (2 : Int32)), .val (.int x0), .val (.int x1), .val (.int x2), .val (.int x3), .val (.ref b), .unset, .unset, .unset] [(.int (2 : Int32)), (.int (2 : Int32))]))
    refine oSt (fun _ => XS.icmpYes A.here hx rfl (pc0 := 65) (pc' := 74) rfl (Jvm.hb hby at_65) rfl (Jvm.Free.XT.ii_le_t (by decide)) (by decide) (by decide)) ?_
    show oGo p e below _ (T.setTop (mkF m 74 #[.val (.int i0), .val (.int i1), .val (.int i2), .val (.int i3), .val (.int i4), .val (.int (2 : Int32)), .val (.int x0), .val (.int x1), .val (.int x2), .val (.int x3), .val (.ref b), .unset, .unset, .unset] []))
    refine oSt (fun _ => XS.iload A.here hx rfl (Jvm.hb hby at_74) rfl) ?_
    show oGo p e below _ (T.setTop (mkF m 76 #[.val (.int i0), .val (.int i1), .val (.int i2), .val (.int i3), .val (.int i4), .val (.int (2 : Int32)), .val (.int x0), .val (.int x1), .val (.int x2), .val (.int x3), .val (.ref b), .unset, .unset, .unset] [(.int (2 : Int32))]))
    refine oSt (fun _ => XS.iconst A.here hx rfl (Jvm.hb hby at_76)) ?_
    show oGo p e below _ (T.setTop (mkF m 77 #[.val (.int i0), .val (.int i1), .val (.int i2), .val (.int i3), .val (.int i4), .val (.int (2 : Int32)), .val (.int x0), .val (.int x1), .val (.int x2), .val (.int x3), .val (.ref b), .unset, .unset, .unset] [(.int (3 : Int32)), (.int (2 : Int32))]))
    refine oSt (fun _ => XS.icmpYes A.here hx rfl (pc0 := 77) (pc' := 86) rfl (Jvm.hb hby at_77) rfl (Jvm.Free.XT.ii_le_t (by decide)) (by decide) (by decide)) ?_
    show oGo p e below _ (T.setTop (mkF m 86 #[.val (.int i0), .val (.int i1), .val (.int i2), .val (.int i3), .val (.int i4), .val (.int (2 : Int32)), .val (.int x0), .val (.int x1), .val (.int x2), .val (.int x3), .val (.ref b), .unset, .unset, .unset] []))
    exact J86 _ _ _ _ _ _ (A.mono (by decide) (by decide)) V_b
  · show oGo p e below _ (T.setTop (mkF m 35 #[.val (.int i0), .val (.int i1), .val (.int i2), .val (.int i3), .val (.int i4), .val (.int (3 : Int32)), .val (.int x0), .val (.int x1), .val (.int x2), .val (.int x3), .unset, .unset, .unset, .unset] [(.int (3 : Int32))]))
    obtain ⟨T, h, b, k_b, g_b, lt_b, n0_b, s_b, A, E, V_b, S_b, st⟩ := A.newP hx (hw _ (List.mem_of_getElem? (i := 5) rfl)) (g := (mkF m 35 #[.val (.int i0), .val (.int i1), .val (.int i2), .val (.int i3), .val (.int i4), .val (.int (3 : Int32)), .val (.int x0), .val (.int x1), .val (.int x2), .val (.int x3), .unset, .unset, .unset, .unset] [(.int (3 : Int32))])) rfl (Jvm.hb hby at_35) rfl (by decide) (cap := 3) (by decide) (by decide) (by decide) (by decide)
    refine oSt st ?_
    show oGo p e below _ (T.setTop (mkF m 37 #[.val (.int i0), .val (.int i1), .val (.int i2), .val (.int i3), .val (.int i4), .val (.int (3 : Int32)), .val (.int x0), .val (.int x1), .val (.int x2), .val (.int x3), .unset, .unset, .unset, .unset] [(.ref b)]))
    have V_b : Arv Z h b k_b .char (3 : Int32) [(.int (0 : Int32)), (.int (0 : Int32)), (.int (0 : Int32))] (.int (0 : Int32)) := V_b.pad (pad_rep [] (.int (0 : Int32)) 3)
    refine oSt (fun _ => XS.astore A.here hx rfl (Jvm.hb hby at_37) rfl rfl (l' := #[.val (.int i0), .val (.int i1), .val (.int i2), .val (.int i3), .val (.int i4), .val (.int (3 : Int32)), .val (.int x0), .val (.int x1), .val (.int x2), .val (.int x3), .val (.ref b), .unset, .unset, .unset]) rfl) ?_
    show oGo p e below _ (T.setTop (mkF m 39 #[.val (.int i0), .val (.int i1), .val (.int i2), .val (.int i3), .val (.int i4), .val (.int (3 : Int32)), .val (.int x0), .val (.int x1), .val (.int x2), .val (.int x3), .val (.ref b), .unset, .unset, .unset] []))
    refine oSt (fun _ => XS.iload A.here hx rfl (Jvm.hb hby at_39) rfl) ?_
    show oGo p e below _ (T.setTop (mkF m 41 #[.val (.int i0), .val (.int i1), .val (.int i2), .val (.int i3), .val (.int i4), .val (.int (3 : Int32)), .val (.int x0), .val (.int x1), .val (.int x2), .val (.int x3), .val (.ref b), .unset, .unset, .unset] [(.int (3 : Int32))]))
    refine oSt (fun _ => XS.ifNo A.here hx rfl (Jvm.hb hby at_41) rfl (Jvm.Free.XT.i0_le_f (by decide))) ?_
    show oGo p e below _ (T.setTop (mkF m 44 #[.val (.int i0), .val (.int i1), .val (.int i2), .val (.int i3), .val (.int i4), .val (.int (3 : Int32)), .val (.int x0), .val (.int x1), .val (.int x2), .val (.int x3), .val (.ref b), .unset, .unset, .unset] []))
    refine oSt (fun _ => XS.aload A.here hx rfl (Jvm.hb hby at_44) rfl rfl) ?_
    show oGo p e below _ (T.setTop (mkF m 46 #[.val (.int i0), .val (.int i1), .val (.int i2), .val (.int i3), .val (.int i4), .val (.int (3 : Int32)), .val (.int x0), .val (.int x1), .val (.int x2), .val (.int x3), .val (.ref b), .unset, .unset, .unset] [(.ref b)]))
    refine oSt (fun _ => XS.iconst A.here hx rfl (Jvm.hb hby at_46)) ?_
    show oGo p e below _ (T.setTop (mkF m 47 #[.val (.int i0), .val (.int i1), .val (.int i2), .val (.int i3), .val (.int i4), .val (.int (3 : Int32)), .val (.int x0), .val (.int x1), .val (.int x2), .val (.int x3), .val (.ref b), .unset, .unset, .unset] [(.int (0 : Int32)), (.ref b)]))
    refine oSt (fun _ => XS.iload A.here hx rfl (Jvm.hb hby at_47) rfl) ?_
    show oGo p e below _ (T.setTop (mkF m 49 #[.val (.int i0), .val (.int i1), .val (.int i2), .val (.int i3), .val (.int i4), .val (.int (3 : Int32)), .val (.int x0), .val (.int x1), .val (.int x2), .val (.int x3), .val (.ref b), .unset, .unset, .unset] [(.int x0), (.int (0 : Int32)), (.ref b)]))
    obtain ⟨T, h, A, W, V_b, st⟩ := A.stC hx V_b 0 rfl ⟨by decide, by decide⟩ (by simp) n0_b (Or.inr s_b) (g := (mkF m 49 #[.val (.int i0), .val (.int i1), .val (.int i2), .val (.int i3), .val (.int i4), .val (.int (3 : Int32)), .val (.int x0), .val (.int x1), .val (.int x2), .val (.int x3), .val (.ref b), .unset, .unset, .unset] [(.int x0), (.int (0 : Int32)), (.ref b)])) rfl rfl (Jvm.hb hby at_49)
    refine oSt st ?_
    show oGo p e below _ (T.setTop (mkF m 50 #[.val (.int i0), .val (.int i1), .val (.int i2), .val (.int i3), .val (.int i4), .val (.int (3 : Int32)), .val (.int x0), .val (.int x1), .val (.int x2), .val (.int x3), .val (.ref b), .unset, .unset, .unset] []))
    rw [oNar hb0] at V_b
    have V_b : Arv Z h b k_b .char (3 : Int32) [(.int x0), (.int (0 : Int32)), (.int (0 : Int32))] (.int (0 : Int32)) := V_b
    refine oSt (fun _ => XS.iload A.here hx rfl (Jvm.hb hby at_50) rfl) ?_
    show oGo p e below _ (T.setTop (mkF m 52 #[.val (.int i0), .val (.int i1), .val (.int i2), .val (.int i3), .val (.int i4), .val (.int (3 : Int32)), .val (.int x0), .val (.int x1), .val (.int x2), .val (.int x3), .val (.ref b), .unset, .unset, .unset] [(.int (3 : Int32))]))
    refine oSt (fun _ => XS.iconst A.here hx rfl (Jvm.hb hby at_52)) ?_
    show oGo p e below _ (T.setTop (mkF m 53 #[.val (.int i0), .val (.int i1), .val (.int i2), .val (.int i3), .val (.int i4), .val (.int (3 : Int32)), .val (.int x0), .val (.int x1), .val (.int x2), .val (.int x3), .val (.ref b), .unset, .unset, .unset] [(.int (1 : Int32)), (.int (3 : Int32))]))
    refine oSt (fun _ => XS.icmpNo A.here hx rfl (Jvm.hb hby at_53) rfl (Jvm.Free.XT.ii_le_f (by decide))) ?_
    show oGo p e below _ (T.setTop (mkF m 56 #[.val (.int i0), .val (.int i1), .val (.int i2), .val (.int i3), .val (.int i4), .val (.int (3 : Int32)), .val (.int x0), .val (.int x1), .val (.int x2), .val (.int x3), .val (.ref b), .unset, .unset, .unset] []))
    refine oSt (fun _ => XS.aload A.here hx rfl (Jvm.hb hby at_56) rfl rfl) ?_
    show oGo p e below _ (T.setTop (mkF m 58 #[.val (.int i0), .val (.int i1), .val (.int i2), .val (.int i3), .val (.int i4), .val (.int (3 : Int32)), .val (.int x0), .val (.int x1), .val (.int x2), .val (.int x3), .val (.ref b), .unset, .unset, .unset] [(.ref b)]))
    refine oSt (fun _ => XS.iconst A.here hx rfl (Jvm.hb hby at_58)) ?_
    show oGo p e below _ (T.setTop (mkF m 59 #[.val (.int i0), .val (.int i1), .val (.int i2), .val (.int i3), .val (.int i4), .val (.int (3 : Int32)), .val (.int x0), .val (.int x1), .val (.int x2), .val (.int x3), .val (.ref b), .unset, .unset, .unset] [(.int (1 : Int32)), (.ref b)]))
    refine oSt (fun _ => XS.iload A.here hx rfl (Jvm.hb hby at_59) rfl) ?_
    show oGo p e below _ (T.setTop (mkF m 61 #[.val (.int i0), .val (.int i1), .val (.int i2), .val (.int i3), .val (.int i4), .val (.int (3 : Int32)), .val (.int x0), .val (.int x1), .val (.int x2), .val (.int x3), .val (.ref b), .unset, .unset, .unset] [(.int x1), (.int (1 : Int32)), (.ref b)]))
    obtain ⟨T, h, A, W, V_b, st⟩ := A.stC hx V_b 1 rfl ⟨by decide, by decide⟩ (by simp) n0_b (Or.inr s_b) (g := (mkF m 61 #[.val (.int i0), .val (.int i1), .val (.int i2), .val (.int i3), .val (.int i4), .val (.int (3 : Int32)), .val (.int x0), .val (.int x1), .val (.int x2), .val (.int x3), .val (.ref b), .unset, .unset, .unset] [(.int x1), (.int (1 : Int32)), (.ref b)])) rfl rfl (Jvm.hb hby at_61)
    refine oSt st ?_
    show oGo p e below _ (T.setTop (mkF m 62 #[.val (.int i0), .val (.int i1), .val (.int i2), .val (.int i3), .val (.int i4), .val (.int (3 : Int32)), .val (.int x0), .val (.int x1), .val (.int x2), .val (.int x3), .val (.ref b), .unset, .unset, .unset] []))
    rw [oNar hb1] at V_b
    have V_b : Arv Z h b k_b .char (3 : Int32) [(.int x0), (.int x1), (.int (0 : Int32))] (.int (0 : Int32)) := V_b
    refine oSt (fun _ => XS.iload A.here hx rfl (Jvm.hb hby at_62) rfl) ?_
    show oGo p e below _ (T.setTop (mkF m 64 #[.val (.int i0), .val (.int i1), .val (.int i2), .val (.int i3), .val (.int i4), .val (.int (3 : Int32)), .val (.int x0), .val (.int x1), .val (.int x2), .val (.int x3), .val (.ref b), .unset, .unset, .unset] [(.int (3 : Int32))]))
    refine oSt (fun _ => XS.iconst A.here hx rfl (Jvm.hb hby at_64)) ?_
    show oGo p e below _ (T.setTop (mkF m 65 #[.val (.int i0), .val (.int i1), .val (.int i2), .val (.int i3), .val (.int i4), .val (.int (3 : Int32)), .val (.int x0), .val (.int x1), .val (.int x2), .val (.int x3), .val (.ref b), .unset, .unset, .unset] [(.int (2 : Int32)), (.int (3 : Int32))]))
    refine oSt (fun _ => XS.icmpNo A.here hx rfl (Jvm.hb hby at_65) rfl (Jvm.Free.XT.ii_le_f (by decide))) ?_
    show oGo p e below _ (T.setTop (mkF m 68 #[.val (.int i0), .val (.int i1), .val (.int i2), .val (.int i3), .val (.int i4), .val (.int (3 : Int32)), .val (.int x0), .val (.int x1), .val (.int x2), .val (.int x3), .val (.ref b), .unset, .unset, .unset] []))
    refine oSt (fun _ => XS.aload A.here hx rfl (Jvm.hb hby at_68) rfl rfl) ?_
    show oGo p e below _ (T.setTop (mkF m 70 #[.val (.int i0), .val (.int i1), .val (.int i2), .val (.int i3), .val (.int i4), .val (.int (3 : Int32)), .val (.int x0), .val (.int x1), .val (.int x2), .val (.int x3), .val (.ref b), .unset, .unset, .unset] [(.ref b)]))
    refine oSt (fun _ => XS.iconst A.here hx rfl (Jvm.hb hby at_70)) ?_
    show oGo p e below _ (T.setTop (mkF m 71 #[.val (.int i0), .val (.int i1), .val (.int i2), .val (.int i3), .val (.int i4), .val (.int (3 : Int32)), .val (.int x0), .val (.int x1), .val (.int x2), .val (.int x3), .val (.ref b), .unset, .unset, .unset] [(.int (2 : Int32)), (.ref b)]))
    refine oSt (fun _ => XS.iload A.here hx rfl (Jvm.hb hby at_71) rfl) ?_
    show oGo p e below _ (T.setTop (mkF m 73 #[.val (.int i0), .val (.int i1), .val (.int i2), .val (.int i3), .val (.int i4), .val (.int (3 : Int32)), .val (.int x0), .val (.int x1), .val (.int x2), .val (.int x3), .val (.ref b), .unset, .unset, .unset] [(.int x2), (.int (2 : Int32)), (.ref b)]))
    obtain ⟨T, h, A, W, V_b, st⟩ := A.stC hx V_b 2 rfl ⟨by decide, by decide⟩ (by simp) n0_b (Or.inr s_b) (g := (mkF m 73 #[.val (.int i0), .val (.int i1), .val (.int i2), .val (.int i3), .val (.int i4), .val (.int (3 : Int32)), .val (.int x0), .val (.int x1), .val (.int x2), .val (.int x3), .val (.ref b), .unset, .unset, .unset] [(.int x2), (.int (2 : Int32)), (.ref b)])) rfl rfl (Jvm.hb hby at_73)
    refine oSt st ?_
    show oGo p e below _ (T.setTop (mkF m 74 #[.val (.int i0), .val (.int i1), .val (.int i2), .val (.int i3), .val (.int i4), .val (.int (3 : Int32)), .val (.int x0), .val (.int x1), .val (.int x2), .val (.int x3), .val (.ref b), .unset, .unset, .unset] []))
    rw [oNar hb2] at V_b
    have V_b : Arv Z h b k_b .char (3 : Int32) [(.int x0), (.int x1), (.int x2)] (.int (0 : Int32)) := V_b
    refine oSt (fun _ => XS.iload A.here hx rfl (Jvm.hb hby at_74) rfl) ?_
    show oGo p e below _ (T.setTop (mkF m 76 #[.val (.int i0), .val (.int i1), .val (.int i2), .val (.int i3), .val (.int i4), .val (.int (3 : Int32)), .val (.int x0), .val (.int x1), .val (.int x2), .val (.int x3), .val (.ref b), .unset, .unset, .unset] [(.int (3 : Int32))]))
    refine oSt (fun _ => XS.iconst A.here hx rfl (Jvm.hb hby at_76)) ?_
    show oGo p e below _ (T.setTop (mkF m 77 #[.val (.int i0), .val (.int i1), .val (.int i2), .val (.int i3), .val (.int i4), .val (.int (3 : Int32)), .val (.int x0), .val (.int x1), .val (.int x2), .val (.int x3), .val (.ref b), .unset, .unset, .unset] [(.int (3 : Int32)), (.int (3 : Int32))]))
    refine oSt (fun _ => XS.icmpYes A.here hx rfl (pc0 := 77) (pc' := 86) rfl (Jvm.hb hby at_77) rfl (Jvm.Free.XT.ii_le_t (by decide)) (by decide) (by decide)) ?_
    show oGo p e below _ (T.setTop (mkF m 86 #[.val (.int i0), .val (.int i1), .val (.int i2), .val (.int i3), .val (.int i4), .val (.int (3 : Int32)), .val (.int x0), .val (.int x1), .val (.int x2), .val (.int x3), .val (.ref b), .unset, .unset, .unset] []))
    exact J86 _ _ _ _ _ _ (A.mono (by decide) (by decide)) V_b
  · show oGo p e below _ (T.setTop (mkF m 35 #[.val (.int i0), .val (.int i1), .val (.int i2), .val (.int i3), .val (.int i4), .val (.int (4 : Int32)), .val (.int x0), .val (.int x1), .val (.int x2), .val (.int x3), .unset, .unset, .unset, .unset] [(.int (4 : Int32))]))
    obtain ⟨T, h, b, k_b, g_b, lt_b, n0_b, s_b, A, E, V_b, S_b, st⟩ := A.newP hx (hw _ (List.mem_of_getElem? (i := 5) rfl)) (g := (mkF m 35 #[.val (.int i0), .val (.int i1), .val (.int i2), .val (.int i3), .val (.int i4), .val (.int (4 : Int32)), .val (.int x0), .val (.int x1), .val (.int x2), .val (.int x3), .unset, .unset, .unset, .unset] [(.int (4 : Int32))])) rfl (Jvm.hb hby at_35) rfl (by decide) (cap := 4) (by decide) (by decide) (by decide) (by decide)
    refine oSt st ?_
    show oGo p e below _ (T.setTop (mkF m 37 #[.val (.int i0), .val (.int i1), .val (.int i2), .val (.int i3), .val (.int i4), .val (.int (4 : Int32)), .val (.int x0), .val (.int x1), .val (.int x2), .val (.int x3), .unset, .unset, .unset, .unset] [(.ref b)]))
    have V_b : Arv Z h b k_b .char (4 : Int32) [(.int (0 : Int32)), (.int (0 : Int32)), (.int (0 : Int32)), (.int (0 : Int32))] (.int (0 : Int32)) := V_b.pad (pad_rep [] (.int (0 : Int32)) 4)
    refine oSt (fun _ => XS.astore A.here hx rfl (Jvm.hb hby at_37) rfl rfl (l' := #[.val (.int i0), .val (.int i1), .val (.int i2), .val (.int i3), .val (.int i4), .val (.int (4 : Int32)), .val (.int x0), .val (.int x1), .val (.int x2), .val (.int x3), .val (.ref b), .unset, .unset, .unset]) rfl) ?_
    show oGo p e below _ (T.setTop (mkF m 39 #[.val (.int i0), .val (.int i1), .val (.int i2), .val (.int i3), .val (.int i4), .val (.int (4 : Int32)), .val (.int x0), .val (.int x1), .val (.int x2), .val (.int x3), .val (.ref b), .unset, .unset, .unset] []))
    refine oSt (fun _ => XS.iload A.here hx rfl (Jvm.hb hby at_39) rfl) ?_
    show oGo p e below _ (T.setTop (mkF m 41 #[.val (.int i0), .val (.int i1), .val (.int i2), .val (.int i3), .val (.int i4), .val (.int (4 : Int32)), .val (.int x0), .val (.int x1), .val (.int x2), .val (.int x3), .val (.ref b), .unset, .unset, .unset] [(.int (4 : Int32))]))
    refine oSt (fun _ => XS.ifNo A.here hx rfl (Jvm.hb hby at_41) rfl (Jvm.Free.XT.i0_le_f (by decide))) ?_
    show oGo p e below _ (T.setTop (mkF m 44 #[.val (.int i0), .val (.int i1), .val (.int i2), .val (.int i3), .val (.int i4), .val (.int (4 : Int32)), .val (.int x0), .val (.int x1), .val (.int x2), .val (.int x3), .val (.ref b), .unset, .unset, .unset] []))
    refine oSt (fun _ => XS.aload A.here hx rfl (Jvm.hb hby at_44) rfl rfl) ?_
    show oGo p e below _ (T.setTop (mkF m 46 #[.val (.int i0), .val (.int i1), .val (.int i2), .val (.int i3), .val (.int i4), .val (.int (4 : Int32)), .val (.int x0), .val (.int x1), .val (.int x2), .val (.int x3), .val (.ref b), .unset, .unset, .unset] [(.ref b)]))
    refine oSt (fun _ => XS.iconst A.here hx rfl (Jvm.hb hby at_46)) ?_
    show oGo p e below _ (T.setTop (mkF m 47 #[.val (.int i0), .val (.int i1), .val (.int i2), .val (.int i3), .val (.int i4), .val (.int (4 : Int32)), .val (.int x0), .val (.int x1), .val (.int x2), .val (.int x3), .val (.ref b), .unset, .unset, .unset] [(.int (0 : Int32)), (.ref b)]))
    refine oSt (fun _ => XS.iload A.here hx rfl (Jvm.hb hby at_47) rfl) ?_
    show oGo p e below _ (T.setTop (mkF m 49 #[.val (.int i0), .val (.int i1), .val (.int i2), .val (.int i3), .val (.int i4), .val (.int (4 : Int32)), .val (.int x0), .val (.int x1), .val (.int x2), .val (.int x3), .val (.ref b), .unset, .unset, .unset] [(.int x0), (.int (0 : Int32)), (.ref b)]))
    obtain ⟨T, h, A, W, V_b, st⟩ := A.stC hx V_b 0 rfl ⟨by decide, by decide⟩ (by simp) n0_b (Or.inr s_b) (g := (mkF m 49 #[.val (.int i0), .val (.int i1), .val (.int i2), .val (.int i3), .val (.int i4), .val (.int (4 : Int32)), .val (.int x0), .val (.int x1), .val (.int x2), .val (.int x3), .val (.ref b), .unset, .unset, .unset] [(.int x0), (.int (0 : Int32)), (.ref b)])) rfl rfl (Jvm.hb hby at_49)
    refine oSt st ?_
    show oGo p e below _ (T.setTop (mkF m 50 #[.val (.int i0), .val (.int i1), .val (.int i2), .val (.int i3), .val (.int i4), .val (.int (4 : Int32)), .val (.int x0), .val (.int x1), .val (.int x2), .val (.int x3), .val (.ref b), .unset, .unset, .unset] []))
    rw [oNar hb0] at V_b
    have V_b : Arv Z h b k_b .char (4 : Int32) [(.int x0), (.int (0 : Int32)), (.int (0 : Int32)), (.int (0 : Int32))] (.int (0 : Int32)) := V_b
    refine oSt (fun _ => XS.iload A.here hx rfl (Jvm.hb hby at_50) rfl) ?_
    show oGo p e below _ (T.setTop (mkF m 52 #[.val (.int i0), .val (.int i1), .val (.int i2), .val (.int i3), .val (.int i4), .val (.int (4 : Int32)), .val (.int x0), .val (.int x1), .val (.int x2), .val (.int x3), .val (.ref b), .unset, .unset, .unset] [(.int (4 : Int32))]))
    refine oSt (fun _ => XS.iconst A.here hx rfl (Jvm.hb hby at_52)) ?_
    show oGo p e below _ (T.setTop (mkF m 53 #[.val (.int i0), .val (.int i1), .val (.int i2), .val (.int i3), .val (.int i4), .val (.int (4 : Int32)), .val (.int x0), .val (.int x1), .val (.int x2), .val (.int x3), .val (.ref b), .unset, .unset, .unset] [(.int (1 : Int32)), (.int (4 : Int32))]))
    refine oSt (fun _ => XS.icmpNo A.here hx rfl (Jvm.hb hby at_53) rfl (Jvm.Free.XT.ii_le_f (by decide))) ?_
    show oGo p e below _ (T.setTop (mkF m 56 #[.val (.int i0), .val (.int i1), .val (.int i2), .val (.int i3), .val (.int i4), .val (.int (4 : Int32)), .val (.int x0), .val (.int x1), .val (.int x2), .val (.int x3), .val (.ref b), .unset, .unset, .unset] []))
    refine oSt (fun _ => XS.aload A.here hx rfl (Jvm.hb hby at_56) rfl rfl) ?_
    show oGo p e below _ (T.setTop (mkF m 58 #[.val (.int i0), .val (.int i1), .val (.int i2), .val (.int i3), .val (.int i4), .val (.int (4 : Int32)), .val (.int x0), .val (.int x1), .val (.int x2), .val (.int x3), .val (.ref b), .unset, .unset, .unset] [(.ref b)]))
    refine oSt (fun _ => XS.iconst A.here hx rfl (Jvm.hb hby at_58)) ?_
    show oGo p e below _ (T.setTop (mkF m 59 #[.val (.int i0), .val (.int i1), .val (.int i2), .val (.int i3), .val (.int i4), .val (.int (4 : Int32)), .val (.int x0), .val (.int x1), .val (.int x2), .val (.int x3), .val (.ref b), .unset, .unset, .unset] [(.int (1 : Int32)), (.ref b)]))
    refine oSt (fun _ => XS.iload A.here hx rfl (Jvm.hb hby at_59) rfl) ?_
    show oGo p e below _ (T.setTop (mkF m 61 #[.val (.int i0), .val (.int i1), .val (.int i2), .val (.int i3), .val (.int i4), .val (.int (4 : Int32)), .val (.int x0), .val (.int x1), .val (.int x2), .val (.int x3), .val (.ref b), .unset, .unset, .unset] [(.int x1), (.int (1 : Int32)), (.ref b)]))
    obtain ⟨T, h, A, W, V_b, st⟩ := A.stC hx V_b 1 rfl ⟨by decide, by decide⟩ (by simp) n0_b (Or.inr s_b) (g := (mkF m 61 #[.val (.int i0), .val (.int i1), .val (.int i2), .val (.int i3), .val (.int i4), .val (.int (4 : Int32)), .val (.int x0), .val (.int x1), .val (.int x2), .val (.int x3), .val (.ref b), .unset, .unset, .unset] [(.int x1), (.int (1 : Int32)), (.ref b)])) rfl rfl (Jvm.hb hby at_61)
    refine oSt st ?_
    show oGo p e below _ (T.setTop (mkF m 62 #[.val (.int i0), .val (.int i1), .val (.int i2), .val (.int i3), .val (.int i4), .val (.int (4 : Int32)), .val (.int x0), .val (.int x1), .val (.int x2), .val (.int x3), .val (.ref b), .unset, .unset, .unset] []))
    rw [oNar hb1] at V_b
    have V_b : Arv Z h b k_b .char (4 : Int32) [(.int x0), (.int x1), (.int (0 : Int32)), (.int (0 : Int32))] (.int (0 : Int32)) := V_b
    refine oSt (fun _ => XS.iload A.here hx rfl (Jvm.hb hby at_62) rfl) ?_
    show oGo p e below _ (T.setTop (mkF m 64 #[.val (.int i0), .val (.int i1), .val (.int i2), .val (.int i3), .val (.int i4), .val (.int (4 : Int32)), .val (.int x0), .val (.int x1), .val (.int x2), .val (.int x3), .val (.ref b), .unset, .unset, .unset] [(.int (4 : Int32))]))
    refine oSt (fun _ => XS.iconst A.here hx rfl (Jvm.hb hby at_64)) ?_
    show oGo p e below _ (T.setTop (mkF m 65 #[.val (.int i0), .val (.int i1), .val (.int i2), .val (.int i3), .val (.int i4), .val (.int (4 : Int32)), .val (.int x0), .val (.int x1), .val (.int x2), .val (.int x3), .val (.ref b), .unset, .unset, .unset] [(.int (2 : Int32)), (.int (4 : Int32))]))
    refine oSt (fun _ => XS.icmpNo A.here hx rfl (Jvm.hb hby at_65) rfl (Jvm.Free.XT.ii_le_f (by decide))) ?_
    show oGo p e below _ (T.setTop (mkF m 68 #[.val (.int i0), .val (.int i1), .val (.int i2), .val (.int i3), .val (.int i4), .val (.int (4 : Int32)), .val (.int x0), .val (.int x1), .val (.int x2), .val (.int x3), .val (.ref b), .unset, .unset, .unset] []))
    refine oSt (fun _ => XS.aload A.here hx rfl (Jvm.hb hby at_68) rfl rfl) ?_
    show oGo p e below _ (T.setTop (mkF m 70 #[.val (.int i0), .val (.int i1), .val (.int i2), .val (.int i3), .val (.int i4), .val (.int (4 : Int32)), .val (.int x0), .val (.int x1), .val (.int x2), .val (.int x3), .val (.ref b), .unset, .unset, .unset] [(.ref b)]))
    refine oSt (fun _ => XS.iconst A.here hx rfl (Jvm.hb hby at_70)) ?_
    show oGo p e below _ (T.setTop (mkF m 71 #[.val (.int i0), .val (.int i1), .val (.int i2), .val (.int i3), .val (.int i4), .val (.int (4 : Int32)), .val (.int x0), .val (.int x1), .val (.int x2), .val (.int x3), .val (.ref b), .unset, .unset, .unset] [(.int (2 : Int32)), (.ref b)]))
    refine oSt (fun _ => XS.iload A.here hx rfl (Jvm.hb hby at_71) rfl) ?_
    show oGo p e below _ (T.setTop (mkF m 73 #[.val (.int i0), .val (.int i1), .val (.int i2), .val (.int i3), .val (.int i4), .val (.int (4 : Int32)), .val (.int x0), .val (.int x1), .val (.int x2), .val (.int x3), .val (.ref b), .unset, .unset, .unset] [(.int x2), (.int (2 : Int32)), (.ref b)]))
    obtain ⟨T, h, A, W, V_b, st⟩ := A.stC hx V_b 2 rfl ⟨by decide, by decide⟩ (by simp) n0_b (Or.inr s_b) (g := (mkF m 73 #[.val (.int i0), .val (.int i1), .val (.int i2), .val (.int i3), .val (.int i4), .val (.int (4 : Int32)), .val (.int x0), .val (.int x1), .val (.int x2), .val (.int x3), .val (.ref b), .unset, .unset, .unset] [(.int x2), (.int (2 : Int32)), (.ref b)])) rfl rfl (Jvm.hb hby at_73)
    refine oSt st ?_
    show oGo p e below _ (T.setTop (mkF m 74 #[.val (.int i0), .val (.int i1), .val (.int i2), .val (.int i3), .val (.int i4), .val (.int (4 : Int32)), .val (.int x0), .val (.int x1), .val (.int x2), .val (.int x3), .val (.ref b), .unset, .unset, .unset] []))
    rw [oNar hb2] at V_b
    have V_b : Arv Z h b k_b .char (4 : Int32) [(.int x0), (.int x1), (.int x2), (.int (0 : Int32))] (.int (0 : Int32)) := V_b
    refine oSt (fun _ => XS.iload A.here hx rfl (Jvm.hb hby at_74) rfl) ?_
    show oGo p e below _ (T.setTop (mkF m 76 #[.val (.int i0), .val (.int i1), .val (.int i2), .val (.int i3), .val (.int i4), .val (.int (4 : Int32)), .val (.int x0), .val (.int x1), .val (.int x2), .val (.int x3), .val (.ref b), .unset, .unset, .unset] [(.int (4 : Int32))]))
    refine oSt (fun _ => XS.iconst A.here hx rfl (Jvm.hb hby at_76)) ?_
    show oGo p e below _ (T.setTop (mkF m 77 #[.val (.int i0), .val (.int i1), .val (.int i2), .val (.int i3), .val (.int i4), .val (.int (4 : Int32)), .val (.int x0), .val (.int x1), .val (.int x2), .val (.int x3), .val (.ref b), .unset, .unset, .unset] [(.int (3 : Int32)), (.int (4 : Int32))]))
    refine oSt (fun _ => XS.icmpNo A.here hx rfl (Jvm.hb hby at_77) rfl (Jvm.Free.XT.ii_le_f (by decide))) ?_
    show oGo p e below _ (T.setTop (mkF m 80 #[.val (.int i0), .val (.int i1), .val (.int i2), .val (.int i3), .val (.int i4), .val (.int (4 : Int32)), .val (.int x0), .val (.int x1), .val (.int x2), .val (.int x3), .val (.ref b), .unset, .unset, .unset] []))
    refine oSt (fun _ => XS.aload A.here hx rfl (Jvm.hb hby at_80) rfl rfl) ?_
    show oGo p e below _ (T.setTop (mkF m 82 #[.val (.int i0), .val (.int i1), .val (.int i2), .val (.int i3), .val (.int i4), .val (.int (4 : Int32)), .val (.int x0), .val (.int x1), .val (.int x2), .val (.int x3), .val (.ref b), .unset, .unset, .unset] [(.ref b)]))
    refine oSt (fun _ => XS.iconst A.here hx rfl (Jvm.hb hby at_82)) ?_
    show oGo p e below _ (T.setTop (mkF m 83 #[.val (.int i0), .val (.int i1), .val (.int i2), .val (.int i3), .val (.int i4), .val (.int (4 : Int32)), .val (.int x0), .val (.int x1), .val (.int x2), .val (.int x3), .val (.ref b), .unset, .unset, .unset] [(.int (3 : Int32)), (.ref b)]))
    refine oSt (fun _ => XS.iload A.here hx rfl (Jvm.hb hby at_83) rfl) ?_
    show oGo p e below _ (T.setTop (mkF m 85 #[.val (.int i0), .val (.int i1), .val (.int i2), .val (.int i3), .val (.int i4), .val (.int (4 : Int32)), .val (.int x0), .val (.int x1), .val (.int x2), .val (.int x3), .val (.ref b), .unset, .unset, .unset] [(.int x3), (.int (3 : Int32)), (.ref b)]))
    obtain ⟨T, h, A, W, V_b, st⟩ := A.stC hx V_b 3 rfl ⟨by decide, by decide⟩ (by simp) n0_b (Or.inr s_b) (g := (mkF m 85 #[.val (.int i0), .val (.int i1), .val (.int i2), .val (.int i3), .val (.int i4), .val (.int (4 : Int32)), .val (.int x0), .val (.int x1), .val (.int x2), .val (.int x3), .val (.ref b), .unset, .unset, .unset] [(.int x3), (.int (3 : Int32)), (.ref b)])) rfl rfl (Jvm.hb hby at_85)
    refine oSt st ?_
    show oGo p e below _ (T.setTop (mkF m 86 #[.val (.int i0), .val (.int i1), .val (.int i2), .val (.int i3), .val (.int i4), .val (.int (4 : Int32)), .val (.int x0), .val (.int x1), .val (.int x2), .val (.int x3), .val (.ref b), .unset, .unset, .unset] []))
    rw [oNar hb3] at V_b
    have V_b : Arv Z h b k_b .char (4 : Int32) [(.int x0), (.int x1), (.int x2), (.int x3)] (.int (0 : Int32)) := V_b
    exact J86 _ _ _ _ _ _ (A.mono (by decide) (by decide)) V_b
theorem own_ne0 {args : Array Value} {s : State} {z : Int32} {t : Jvm.Term} (e : t.eval args s none [] s = some (.int z)) (h : (Jvm.Cond.not (Jvm.Cond.eq t (Jvm.Term.int (0 : Int32)))).before args s = true) : ¬ z = 0 := by
  intro q
  subst q
  have h := not_v (Cond.before_iff.mp h)
  simp [Cond.value, Term.eval, e] at h
set_option maxRecDepth 65536 in
set_option maxHeartbeats 40000000 in
theorem comes_1 {Post : Tables → Env → Array Value → State → Outcome → State → Prop} (hpost : ∀ tb e args s v u, (limb_1_1.after args s (.returned v) u = true ∧ limb_1_2.after args s (.returned v) u = true ∧ True) → ReturnedEndW s (.returned v) u (Jvm.fieldLocs frame_1_writes args s ++ Jvm.arrayLocs frame_1_arrays args s ++ Jvm.staticLocs frame_1_statics s) 32 2240 → Post tb e args s (.returned v) u) :
    ArmFor flags0 classFile x code maxLocals ret World_1 tables_1 room_1 Calls_1 rest_1 Pre_1 Post := by
  intro l hfl _ _ p e ha hc hk s m args below hf hA hF happ hP
  obtain ⟨hcalls, hrest, hpre⟩ := hP
  obtain ⟨-, -, -, hnamed, -, -, -, hat⟩ := (Spec.applies_iff hf).mp happ
  obtain ⟨hg, hn⟩ := and_e (Cond.before_iff.mp (show (Jvm.Cond.and given_1 narrow_1).before args s = true from hpre))
  obtain ⟨hcount, hg⟩ := and_e hg
  obtain ⟨hg0, hg⟩ := and_e hg
  obtain ⟨hg1, hg⟩ := and_e hg
  obtain ⟨hg2, hg⟩ := and_e hg
  obtain ⟨hg3, hg⟩ := and_e hg
  have hg4 := hg
  obtain ⟨w0, w1, w2, w3, w4, rfl⟩ : ∃ w0 w1 w2 w3 w4 : Value, args = #[w0, w1, w2, w3, w4] := by
    have hs : args.size = 5 := by simpa [Cond.value, given_1] using hcount
    obtain ⟨L⟩ := args
    match L, hs with
    | [w0, w1, w2, w3, w4], _ => exact ⟨w0, w1, w2, w3, w4, rfl⟩
  have hw := fun d (hd : d ∈ tables_1) => atoms_spec (ws := Jvm.Cond.code x code maxLocals ret :: tables_1) hat d (List.mem_cons_of_mem _ hd)
  have hfit : Fit s := fun {y c} hc i hi => by
    obtain ⟨ha, rfl⟩ := Array.getElem?_eq_some_iff.mp hc
    have q := List.all_eq_true.mp ((Array.all_eq_true_iff_forall_mem.mp hF) _ (Array.getElem_mem ha)) i (List.mem_range.mpr hi)
    simpa [Array.getElem?_eq_getElem hi] using q
  obtain ⟨hsets, hown0⟩ := atoms_of _ (rest_1_c_eq ▸ (show rest_1_c.before _ s = true from hrest))
  obtain ⟨i0, ei0⟩ := is_v hg0
  obtain rfl : w0 = (.int i0) := Option.some.inj ei0
  obtain ⟨i1, ei1⟩ := is_v hg1
  obtain rfl : w1 = (.int i1) := Option.some.inj ei1
  obtain ⟨i2, ei2⟩ := is_v hg2
  obtain rfl : w2 = (.int i2) := Option.some.inj ei2
  obtain ⟨i3, ei3⟩ := is_v hg3
  obtain rfl : w3 = (.int i3) := Option.some.inj ei3
  obtain ⟨i4, ei4⟩ := is_v hg4
  obtain rfl : w4 = (.int i4) := Option.some.inj ei4
  obtain ⟨zc, ezc⟩ := is_v (Cond.before_iff.mp (hsets _ (List.mem_of_getElem? (i := 1) rfl)))
  have hcs : Sta s s.heap "java/lang/String" "COMPACT_STRINGS" "Z" (.int zc) := Sta.start ezc (Or.inl (hsets _ (List.mem_of_getElem? (i := 0) rfl)))
  have hcz : ¬ zc = 0 := own_ne0 ezc (hsets _ (List.mem_of_getElem? (i := 2) rfl))
  obtain ⟨fm, efm, rfm⟩ := isR_v (Cond.before_iff.mp (hsets _ (List.mem_of_getElem? (i := 8) rfl)))
  have hfm : Sta s s.heap "jdk/internal/util/Preconditions" "SIOOBE_FORMATTER" "Ljava/util/function/BiFunction;" fm := Sta.start efm (Or.inl (hsets _ (List.mem_of_getElem? (i := 7) rfl)))
  have hEL : EW s _ consts_1 := (EW.cons (hw _ (List.mem_of_getElem? (i := 19) rfl)) (by decide +kernel) (EW.cons (hw _ (List.mem_of_getElem? (i := 109) rfl)) (by decide +kernel) EW.nil))
  have hCH : CHv s consts_1 s.vm s.heap := CHv.start hEL (fun p hp => hcalls.1 p hp) (hsets _ (List.mem_of_getElem? (i := 2) rfl)) (hw _ (List.mem_of_getElem? (i := 20) rfl)) (hw _ (List.mem_of_getElem? (i := 7) rfl))
  obtain ⟨n, o, h1, h2, h3, v, L, rfl, ⟨N, -, hv⟩, -, hq⟩ := own_law l s _ hw hEL s.heap.size s.heap (Old.start s) i0 i1 i2 i3 i4 zc hcs hcz fm hfm rfm p e ha hc hk s m _ below hf ((Spec.applies_iff_loose hf).mp happ).1 ⟨rfl, State.Warmed39.refl s, rfl, hCH, fun _ q => nomatch q⟩ trivial
  subst hv
  exact ⟨n, _, h1, h2, h3, hpost _ _ _ _ _ _ ⟨Cond.after_iff.mpr rfl, Cond.after_iff.mpr (eq_i res_at (Term.int_eval (1)) rfl), trivial⟩ ⟨hq.1, hq.2.1, hq.2.2.1, (hq.2.2.2.sift fun y hy => Or.inr (N y hy)).mono (by decide) (by decide)⟩⟩
theorem main_1_1 : Claimed_1_1 := comes_1 fun _ _ _ _ _ _ h hF => ⟨h.1, hF⟩
theorem main_1_2 : Claimed_1_2 := comes_1 fun _ _ _ _ _ _ h hF => ⟨h.2.1, hF⟩
end Jvm.Pilot.@@N@@
namespace Jvm.Pilot.@@N@@
open Jvm Jvm.ClassFile Sem Op Lib Jvm.Free Jvm.Stand Jvm.Pilot.@@N@@.Jvm.D
/-! MADE BY PROGRAM (witnessworld.py) out of the Statement's table words and the real class files: 23 classes; the members and pool entries that the words name. The judged class is class 1, her method 2. -/
namespace start1
open Jvm.ClassFile
def u (s : String) : CpInfo := .utf8 (stringToUtf16 s)
/-- a pool by its gaps: so many unusable entries, then the entry; so many at the end -/
def gap : Nat → List CpInfo → List CpInfo
  | 0, r => r
  | n + 1, r => .unusable :: gap n r
def poolList (es : List (Nat × CpInfo)) (last : Nat) : List CpInfo := es.foldr (fun e r => gap e.1 (e.2 :: r)) (gap last [])
def pool (es : List (Nat × CpInfo)) (last : Nat) : Array CpInfo := ⟨poolList es last⟩
def fileOf (pool : Array CpInfo) (this : Nat) (attrs : Array Attribute := #[]) (ms : Array MethodInfo := #[]) (fl : Nat := 33) (sup : Nat := 0) (ifs : Array Nat := #[]) (fds : Array FieldInfo := #[]) : ClassFile where
  minorVersion := 0
  majorVersion := 65
  constantPool := pool
  accessFlags := fl
  thisClass := this
  superClass := sup
  interfaces := ifs
  fields := fds
  methods := ms
  attributes := attrs
def plain (name : String) (sup : Option ClassId) : Class where
  name := name
  kind := .ordinary
  loader := none
  accessFlags := 33
  super := sup
  interfaces := #[]
  cf := none
  fields := #[]
  methods := #[]
  instanceTypes := #[]
  staticTypes := #[]
  resolved := #[]
  callSites := []
  init := .initialized
  statics := none
  mirror := none

def pool0 : Array CpInfo := pool [(5, u "<init>"), (0, u "()V"), (1, .class_ 10), (1, u "java/lang/Object")] 113

def k0c0 : Code := { maxStack := 0, maxLocals := 1, code := object_method_1_code, exceptionTable := #[], attributes := #[] }
def k0m0 : Method := { name := "<init>", desc := "()V", sig := { parameters := [], returnType := none }, accessFlags := 1, code := some k0c0 }
/-- java/lang/Object -/
def k0 : Class := { plain "java/lang/Object" none with
  accessFlags := 33
  interfaces := #[]
  cf := some (fileOf pool0 8 #[] #[{ accessFlags := 1, nameIndex := 5, descriptorIndex := 6, attributes := #[] }] 33 0 #[] #[])
  fields := #[]
  methods := #[k0m0]
  instanceTypes := #[]
  staticTypes := #[]
  resolved := Array.replicate 124 none
  statics := none }

def pool1 : Array CpInfo := pool [(2, .class_ 4), (1, u "java/lang/Object"), (0, u "<init>"), (0, u "()V"), (0, .integer 2147483647), (0, .methodref 9 10), (0, .class_ 11), (0, .nameAndType 12 13), (0, u "com/example/applicator/applicator/IriWithoutFragmentPinLaw"), (0, u "ch"), (0, u "(I)C"), (0, .class_ 15), (0, u "java/lang/String"), (0, .methodref 14 17), (0, .nameAndType 5 18), (0, u "([C)V"), (0, .methodref 20 21), (0, .class_ 22), (0, .nameAndType 23 24), (0, u "com/example/applicator/applicator/Iri"), (0, u "withoutFragment"), (0, u "(Ljava/lang/String;)Ljava/lang/String;"), (0, .methodref 14 26), (0, .nameAndType 27 28), (0, u "equals"), (0, u "(Ljava/lang/Object;)Z"), (3, u "law"), (0, u "(IIIII)Z")] 4

def k1m0 : Method := { name := "<init>", desc := "()V", sig := { parameters := [], returnType := none }, accessFlags := 1, code := none }
def k1c1 : Code := { maxStack := 2, maxLocals := 1, code := method_2_code, exceptionTable := #[], attributes := #[] }
def k1m1 : Method := { name := "ch", desc := "(I)C", sig := { parameters := [.int], returnType := some .char }, accessFlags := 10, code := some k1c1 }
def k1c2 : Code := { maxStack := 4, maxLocals := 14, code := code, exceptionTable := #[], attributes := #[] }
def k1m2 : Method := { name := "law", desc := "(IIIII)Z", sig := { parameters := [.int, .int, .int, .int, .int], returnType := some .boolean }, accessFlags := 9, code := some k1c2 }
/-- com/example/applicator/applicator/IriWithoutFragmentPinLaw -/
def k1 : Class := { plain "com/example/applicator/applicator/IriWithoutFragmentPinLaw" (some 0) with
  accessFlags := 49
  interfaces := #[]
  cf := some (fileOf pool1 9 #[] #[{ accessFlags := 1, nameIndex := 5, descriptorIndex := 6, attributes := #[] }, { accessFlags := 10, nameIndex := 12, descriptorIndex := 13, attributes := #[] }, { accessFlags := 9, nameIndex := 32, descriptorIndex := 33, attributes := #[] }] 49 2 #[] #[])
  fields := #[]
  methods := #[k1m0, k1m1, k1m2]
  instanceTypes := #[]
  staticTypes := #[]
  resolved := Array.replicate 38 none
  statics := none }

def pool2 : Array CpInfo := pool [(1, .class_ 2), (0, u "java/io/Serializable"), (0, .class_ 4), (0, u "java/lang/Object")] 2

/-- java/io/Serializable -/
def k2 : Class := { plain "java/io/Serializable" (some 0) with
  accessFlags := 1537
  interfaces := #[]
  cf := some (fileOf pool2 1 #[] #[] 1537 3 #[] #[])
  fields := #[]
  methods := #[]
  instanceTypes := #[]
  staticTypes := #[]
  resolved := Array.replicate 7 none
  statics := none }

def pool3 : Array CpInfo := pool [(1, .class_ 2), (0, u "java/lang/Comparable"), (0, .class_ 4), (0, u "java/lang/Object")] 7

/-- java/lang/Comparable -/
def k3 : Class := { plain "java/lang/Comparable" (some 0) with
  accessFlags := 1537
  interfaces := #[]
  cf := some (fileOf pool3 1 #[] #[] 1537 3 #[] #[])
  fields := #[]
  methods := #[]
  instanceTypes := #[]
  staticTypes := #[]
  resolved := Array.replicate 12 none
  statics := none }

def pool4 : Array CpInfo := pool [(2, .class_ 4), (1, u "java/lang/CharSequence"), (42, .class_ 48), (0, u "java/lang/CharSequence$1CodePointIterator"), (10, .class_ 60), (0, u "java/lang/CharSequence$1CharIterator"), (5, .class_ 67), (0, u "java/lang/Object")] 63

/-- java/lang/CharSequence -/
def k4 : Class := { plain "java/lang/CharSequence" (some 0) with
  accessFlags := 1537
  interfaces := #[]
  cf := some (fileOf pool4 2 #[.nestMembers #[47, 59]] #[] 1537 66 #[] #[])
  fields := #[]
  methods := #[]
  instanceTypes := #[]
  staticTypes := #[]
  resolved := Array.replicate 131 none
  statics := none }

def pool5 : Array CpInfo := pool [(1, .class_ 2), (0, u "java/lang/constant/Constable"), (0, .class_ 4), (0, u "java/lang/Object")] 6

/-- java/lang/constant/Constable -/
def k5 : Class := { plain "java/lang/constant/Constable" (some 0) with
  accessFlags := 1537
  interfaces := #[]
  cf := some (fileOf pool5 1 #[] #[] 1537 3 #[] #[])
  fields := #[]
  methods := #[]
  instanceTypes := #[]
  staticTypes := #[]
  resolved := Array.replicate 11 none
  statics := none }

def pool6 : Array CpInfo := pool [(1, .class_ 2), (0, u "java/lang/constant/ConstantDesc"), (0, .class_ 4), (0, u "java/lang/Object")] 32

/-- java/lang/constant/ConstantDesc -/
def k6 : Class := { plain "java/lang/constant/ConstantDesc" (some 0) with
  accessFlags := 1537
  interfaces := #[]
  cf := some (fileOf pool6 1 #[] #[] 1537 3 #[] #[])
  fields := #[]
  methods := #[]
  instanceTypes := #[]
  staticTypes := #[]
  resolved := Array.replicate 37 none
  statics := none }

def pool7 : Array CpInfo := pool [(1, .methodref 2 3), (0, .class_ 4), (0, .nameAndType 5 6), (0, u "java/lang/Object"), (0, u "<init>"), (0, u "()V"), (0, .string 8), (0, u ""), (0, .fieldref 10 11), (0, .class_ 12), (0, .nameAndType 13 14), (0, u "java/lang/String"), (0, u "value"), (0, u "[B"), (0, .fieldref 10 16), (0, .nameAndType 17 18), (0, u "coder"), (0, u "B"), (2, u "hash"), (0, u "I"), (2, u "hashIsZero"), (0, u "Z"), (0, .methodref 10 28), (0, .nameAndType 5 29), (0, u "([CIILjava/lang/Void;)V"), (8, .fieldref 10 39), (0, .nameAndType 40 26), (0, u "COMPACT_STRINGS"), (1, .class_ 44), (1, u "java/lang/StringUTF16"), (0, u "compress"), (1, .methodref 42 48), (0, .nameAndType 49 50), (0, u "coderFromArrayLen"), (0, u "([BI)B"), (56, .class_ 109), (1, u "java/lang/StringLatin1"), (32, u "()Z"), (34, .methodref 42 178), (0, .nameAndType 45 179), (0, u "([CII)[B"), (31, u "([BB)V"), (122, u "()I"), (0, .methodref 10 336), (0, .nameAndType 17 337), (0, u "()B"), (154, .methodref 10 493), (0, .nameAndType 494 142), (0, u "isLatin1"), (10, .methodref 10 506), (0, .nameAndType 507 334), (0, u "length"), (5, u "checkFromToIndex"), (7, .methodref 10 522), (0, .nameAndType 523 524), (0, u "checkBoundsBeginEnd"), (0, u "(III)V"), (16, .methodref 107 542), (0, .nameAndType 543 544), (0, u "equals"), (0, u "([B[B)Z"), (28, u "(Ljava/lang/Object;)Z"), (1, .class_ 576), (0, u "java/lang/CharSequence"), (22, u "CASE_INSENSITIVE_ORDER"), (0, u "Ljava/util/Comparator;"), (32, .methodref 10 634), (0, .nameAndType 635 636), (0, u "indexOf"), (0, u "(II)I"), (0, .methodref 107 638), (0, .nameAndType 635 639), (0, u "([BIII)I"), (43, u "substring"), (0, u "(II)Ljava/lang/String;"), (0, .methodref 107 686), (0, .nameAndType 687 688), (0, u "newString"), (0, u "([BII)Ljava/lang/String;"), (76, u "(I)I"), (244, u "([C)V"), (42, .fieldref 1054 1055), (0, .class_ 1056), (0, .nameAndType 1057 1058), (0, u "jdk/internal/util/Preconditions"), (0, u "SIOOBE_FORMATTER"), (0, u "Ljava/util/function/BiFunction;"), (3, .methodref 1054 1063), (0, .nameAndType 513 1064), (0, u "(IIILjava/util/function/BiFunction;)I"), (36, u "serialPersistentFields"), (0, u "[Ljava/io/ObjectStreamField;"), (0, .class_ 1104), (0, u "java/lang/String$CaseInsensitiveComparator"), (1, .class_ 1107), (0, u "java/io/Serializable"), (0, .class_ 1109), (0, u "java/lang/Comparable"), (0, .class_ 1111), (0, u "java/lang/constant/Constable"), (0, .class_ 1113), (0, u "java/lang/constant/ConstantDesc"), (2, u "serialVersionUID"), (0, u "J"), (3, u "REPL"), (0, u "C"), (2, u "LATIN1"), (1, u "UTF16")] 323

def k7m0 : Method := { name := "<init>", desc := "()V", sig := { parameters := [], returnType := none }, accessFlags := 1, code := none }
def k7c1 : Code := { maxStack := 5, maxLocals := 2, code := jdk_42_method_3_code, exceptionTable := #[], attributes := #[] }
def k7m1 : Method := { name := "<init>", desc := "([C)V", sig := { parameters := [(.array .char)], returnType := none }, accessFlags := 1, code := some k7c1 }
def k7c2 : Code := { maxStack := 2, maxLocals := 1, code := jdk_42_method_54_code, exceptionTable := #[], attributes := #[] }
def k7m2 : Method := { name := "length", desc := "()I", sig := { parameters := [], returnType := some .int }, accessFlags := 1, code := some k7c2 }
def k7c3 : Code := { maxStack := 2, maxLocals := 3, code := jdk_42_method_66_code, exceptionTable := #[], attributes := #[] }
def k7m3 : Method := { name := "equals", desc := "(Ljava/lang/Object;)Z", sig := { parameters := [(.object "java/lang/Object")], returnType := some .boolean }, accessFlags := 1, code := some k7c3 }
def k7c4 : Code := { maxStack := 3, maxLocals := 2, code := jdk_42_method_79_code, exceptionTable := #[], attributes := #[] }
def k7m4 : Method := { name := "indexOf", desc := "(I)I", sig := { parameters := [.int], returnType := some .int }, accessFlags := 1, code := some k7c4 }
def k7c5 : Code := { maxStack := 4, maxLocals := 3, code := jdk_42_method_80_code, exceptionTable := #[], attributes := #[] }
def k7m5 : Method := { name := "indexOf", desc := "(II)I", sig := { parameters := [.int, .int], returnType := some .int }, accessFlags := 1, code := some k7c5 }
def k7c6 : Code := { maxStack := 3, maxLocals := 5, code := jdk_42_method_92_code, exceptionTable := #[], attributes := #[] }
def k7m6 : Method := { name := "substring", desc := "(II)Ljava/lang/String;", sig := { parameters := [.int, .int], returnType := some (.object "java/lang/String") }, accessFlags := 1, code := some k7c6 }
def k7c7 : Code := { maxStack := 4, maxLocals := 6, code := jdk_42_method_149_code, exceptionTable := #[], attributes := #[] }
def k7m7 : Method := { name := "<init>", desc := "([CIILjava/lang/Void;)V", sig := { parameters := [(.array .char), .int, .int, (.object "java/lang/Void")], returnType := none }, accessFlags := 2, code := some k7c7 }
def k7c8 : Code := { maxStack := 2, maxLocals := 3, code := jdk_42_method_151_code, exceptionTable := #[], attributes := #[] }
def k7m8 : Method := { name := "<init>", desc := "([BB)V", sig := { parameters := [(.array .byte), .byte], returnType := none }, accessFlags := 0, code := some k7c8 }
def k7c9 : Code := { maxStack := 1, maxLocals := 1, code := jdk_42_method_152_code, exceptionTable := #[], attributes := #[] }
def k7m9 : Method := { name := "coder", desc := "()B", sig := { parameters := [], returnType := some .byte }, accessFlags := 0, code := some k7c9 }
def k7c10 : Code := { maxStack := 1, maxLocals := 1, code := jdk_42_method_154_code, exceptionTable := #[], attributes := #[] }
def k7m10 : Method := { name := "isLatin1", desc := "()Z", sig := { parameters := [], returnType := some .boolean }, accessFlags := 0, code := some k7c10 }
def k7c11 : Code := { maxStack := 4, maxLocals := 3, code := jdk_42_method_158_code, exceptionTable := #[], attributes := #[] }
def k7m11 : Method := { name := "checkBoundsBeginEnd", desc := "(III)V", sig := { parameters := [.int, .int, .int], returnType := none }, accessFlags := 8, code := some k7c11 }
/-- java/lang/String -/
def k7 : Class := { plain "java/lang/String" (some 0) with
  accessFlags := 49
  interfaces := #[2, 3, 4, 5, 6]
  cf := some (fileOf pool7 10 #[.nestMembers #[1103]] #[{ accessFlags := 1, nameIndex := 5, descriptorIndex := 6, attributes := #[] }, { accessFlags := 1, nameIndex := 5, descriptorIndex := 1010, attributes := #[] }, { accessFlags := 1, nameIndex := 507, descriptorIndex := 334, attributes := #[] }, { accessFlags := 1, nameIndex := 543, descriptorIndex := 573, attributes := #[] }, { accessFlags := 1, nameIndex := 635, descriptorIndex := 765, attributes := #[] }, { accessFlags := 1, nameIndex := 635, descriptorIndex := 636, attributes := #[] }, { accessFlags := 1, nameIndex := 683, descriptorIndex := 684, attributes := #[] }, { accessFlags := 2, nameIndex := 5, descriptorIndex := 29, attributes := #[] }, { accessFlags := 0, nameIndex := 5, descriptorIndex := 211, attributes := #[] }, { accessFlags := 0, nameIndex := 17, descriptorIndex := 337, attributes := #[] }, { accessFlags := 0, nameIndex := 494, descriptorIndex := 142, attributes := #[] }, { accessFlags := 8, nameIndex := 523, descriptorIndex := 524, attributes := #[] }] 49 2 #[1106, 1108, 575, 1110, 1112] #[{ accessFlags := 18, nameIndex := 13, descriptorIndex := 14, attributes := #[] }, { accessFlags := 18, nameIndex := 17, descriptorIndex := 18, attributes := #[] }, { accessFlags := 2, nameIndex := 21, descriptorIndex := 22, attributes := #[] }, { accessFlags := 2, nameIndex := 25, descriptorIndex := 26, attributes := #[] }, { accessFlags := 26, nameIndex := 1116, descriptorIndex := 1117, attributes := #[] }, { accessFlags := 24, nameIndex := 40, descriptorIndex := 26, attributes := #[] }, { accessFlags := 26, nameIndex := 1101, descriptorIndex := 1102, attributes := #[] }, { accessFlags := 26, nameIndex := 1121, descriptorIndex := 1122, attributes := #[] }, { accessFlags := 25, nameIndex := 599, descriptorIndex := 600, attributes := #[] }, { accessFlags := 24, nameIndex := 1125, descriptorIndex := 18, attributes := #[] }, { accessFlags := 24, nameIndex := 1127, descriptorIndex := 18, attributes := #[] }])
  fields := #[{ name := "value", type := (.array .byte), accessFlags := 18, slot := 0, constantValue := 0 }, { name := "coder", type := .byte, accessFlags := 18, slot := 1, constantValue := 0 }, { name := "hash", type := .int, accessFlags := 2, slot := 2, constantValue := 0 }, { name := "hashIsZero", type := .boolean, accessFlags := 2, slot := 3, constantValue := 0 }, { name := "serialVersionUID", type := .long, accessFlags := 26, slot := 0, constantValue := 0 }, { name := "COMPACT_STRINGS", type := .boolean, accessFlags := 24, slot := 1, constantValue := 0 }, { name := "serialPersistentFields", type := (.array (.object "java/io/ObjectStreamField")), accessFlags := 26, slot := 2, constantValue := 0 }, { name := "REPL", type := .char, accessFlags := 26, slot := 3, constantValue := 0 }, { name := "CASE_INSENSITIVE_ORDER", type := (.object "java/util/Comparator"), accessFlags := 25, slot := 4, constantValue := 0 }, { name := "LATIN1", type := .byte, accessFlags := 24, slot := 5, constantValue := 0 }, { name := "UTF16", type := .byte, accessFlags := 24, slot := 6, constantValue := 0 }]
  methods := #[k7m0, k7m1, k7m2, k7m3, k7m4, k7m5, k7m6, k7m7, k7m8, k7m9, k7m10, k7m11]
  instanceTypes := #[(.array .byte), .byte, .int, .boolean]
  staticTypes := #[.long, .boolean, (.array (.object "java/io/ObjectStreamField")), .char, (.object "java/util/Comparator"), .byte, .byte]
  resolved := Array.replicate 1451 none
  statics := some 0 }

def pool8 : Array CpInfo := pool [(2, .class_ 4), (1, u "java/lang/Object"), (0, u "<init>"), (0, u "()V"), (3, .class_ 12), (1, u "java/lang/String"), (3, .class_ 18), (1, u "com/example/applicator/applicator/Iri"), (0, u "withoutFragment"), (0, u "(Ljava/lang/String;)Ljava/lang/String;"), (60, .methodref 10 82), (0, .nameAndType 83 84), (0, u "indexOf"), (0, u "(I)I"), (0, .methodref 10 86), (0, .nameAndType 87 88), (0, u "substring"), (0, u "(II)Ljava/lang/String;"), (38, u "PARTS"), (0, u "Ljava/util/regex/Pattern;"), (156, u "HEX"), (0, u "Ljava/lang/String;")] 48

def k8m0 : Method := { name := "<init>", desc := "()V", sig := { parameters := [], returnType := none }, accessFlags := 2, code := none }
def k8c1 : Code := { maxStack := 3, maxLocals := 2, code := prog_9_method_6_code, exceptionTable := #[], attributes := #[] }
def k8m1 : Method := { name := "withoutFragment", desc := "(Ljava/lang/String;)Ljava/lang/String;", sig := { parameters := [(.object "java/lang/String")], returnType := some (.object "java/lang/String") }, accessFlags := 8, code := some k8c1 }
/-- com/example/applicator/applicator/Iri -/
def k8 : Class := { plain "com/example/applicator/applicator/Iri" (some 0) with
  accessFlags := 32
  interfaces := #[]
  cf := some (fileOf pool8 16 #[] #[{ accessFlags := 2, nameIndex := 5, descriptorIndex := 6, attributes := #[] }, { accessFlags := 8, nameIndex := 19, descriptorIndex := 20, attributes := #[] }] 32 2 #[] #[{ accessFlags := 26, nameIndex := 127, descriptorIndex := 128, attributes := #[] }, { accessFlags := 26, nameIndex := 285, descriptorIndex := 286, attributes := #[] }])
  fields := #[{ name := "PARTS", type := (.object "java/util/regex/Pattern"), accessFlags := 26, slot := 0, constantValue := 0 }, { name := "HEX", type := (.object "java/lang/String"), accessFlags := 26, slot := 1, constantValue := 0 }]
  methods := #[k8m0, k8m1]
  instanceTypes := #[]
  staticTypes := #[(.object "java/util/regex/Pattern"), (.object "java/lang/String")]
  resolved := Array.replicate 335 none
  statics := none }

def pool9 : Array CpInfo := pool [(1, .class_ 2), (0, u "java/lang/String"), (1, .class_ 6), (1, u "java/lang/Object"), (0, u "<init>"), (0, u "()V"), (5, .class_ 16), (1, u "java/lang/StringLatin1"), (21, .methodref 39 40), (0, .class_ 41), (0, .nameAndType 42 43), (0, u "java/lang/Math"), (0, u "min"), (0, u "(II)I"), (44, .methodref 14 89), (0, .nameAndType 90 91), (0, u "canEncode"), (0, u "(I)Z"), (0, .methodref 39 93), (0, .nameAndType 94 43), (0, u "max"), (0, .methodref 14 96), (0, .nameAndType 97 98), (0, u "indexOfChar"), (0, u "([BIII)I"), (2, u "indexOf"), (10, .methodref 1 113), (0, .nameAndType 7 114), (0, u "([BB)V"), (6, u "$assertionsDisabled"), (0, u "Z"), (8, .class_ 133), (1, u "java/util/Arrays"), (17, .string 152), (0, u ""), (43, u "newString"), (0, u "([BII)Ljava/lang/String;"), (23, .class_ 223), (1, u "java/lang/StringLatin1$LinesSpliterator"), (8, .methodref 131 233), (0, .nameAndType 234 235), (0, u "copyOfRange"), (0, u "([BII)[B"), (45, u "equals"), (0, u "([B[B)Z"), (107, .class_ 391), (0, u "java/lang/StringLatin1$CharsSpliterator")] 3

def k9m0 : Method := { name := "<init>", desc := "()V", sig := { parameters := [], returnType := none }, accessFlags := 0, code := none }
def k9c1 : Code := { maxStack := 2, maxLocals := 1, code := jdk_43_method_4_code, exceptionTable := #[], attributes := #[] }
def k9m1 : Method := { name := "canEncode", desc := "(I)Z", sig := { parameters := [.int], returnType := some .boolean }, accessFlags := 9, code := some k9c1 }
def k9c2 : Code := { maxStack := 3, maxLocals := 3, code := jdk_43_method_13_code, exceptionTable := #[], attributes := #[] }
def k9m2 : Method := { name := "equals", desc := "([B[B)Z", sig := { parameters := [(.array .byte), (.array .byte)], returnType := some .boolean }, accessFlags := 9, code := some k9c2 }
def k9c3 : Code := { maxStack := 4, maxLocals := 4, code := jdk_43_method_22_code, exceptionTable := #[], attributes := #[] }
def k9m3 : Method := { name := "indexOf", desc := "([BIII)I", sig := { parameters := [(.array .byte), .int, .int, .int], returnType := some .int }, accessFlags := 9, code := some k9c3 }
def k9c4 : Code := { maxStack := 2, maxLocals := 6, code := jdk_43_method_23_code, exceptionTable := #[], attributes := #[] }
def k9m4 : Method := { name := "indexOfChar", desc := "([BIII)I", sig := { parameters := [(.array .byte), .int, .int, .int], returnType := some .int }, accessFlags := 10, code := some k9c4 }
def k9c5 : Code := { maxStack := 6, maxLocals := 3, code := jdk_43_method_47_code, exceptionTable := #[], attributes := #[] }
def k9m5 : Method := { name := "newString", desc := "([BII)Ljava/lang/String;", sig := { parameters := [(.array .byte), .int, .int], returnType := some (.object "java/lang/String") }, accessFlags := 9, code := some k9c5 }
/-- java/lang/StringLatin1 -/
def k9 : Class := { plain "java/lang/StringLatin1" (some 0) with
  accessFlags := 48
  interfaces := #[]
  cf := some (fileOf pool9 14 #[.nestMembers #[390, 221]] #[{ accessFlags := 0, nameIndex := 7, descriptorIndex := 8, attributes := #[] }, { accessFlags := 9, nameIndex := 90, descriptorIndex := 91, attributes := #[] }, { accessFlags := 9, nameIndex := 281, descriptorIndex := 282, attributes := #[] }, { accessFlags := 9, nameIndex := 101, descriptorIndex := 98, attributes := #[] }, { accessFlags := 10, nameIndex := 97, descriptorIndex := 98, attributes := #[] }, { accessFlags := 9, nameIndex := 196, descriptorIndex := 197, attributes := #[] }] 48 4 #[] #[{ accessFlags := 4120, nameIndex := 121, descriptorIndex := 122, attributes := #[] }])
  fields := #[{ name := "$assertionsDisabled", type := .boolean, accessFlags := 4120, slot := 0, constantValue := 0 }]
  methods := #[k9m0, k9m1, k9m2, k9m3, k9m4, k9m5]
  instanceTypes := #[]
  staticTypes := #[.boolean]
  resolved := Array.replicate 395 none
  statics := none }

def pool10 : Array CpInfo := pool [(1, .class_ 2), (0, u "java/lang/Math"), (1, .class_ 6), (1, u "java/lang/Object"), (0, u "<init>"), (0, u "()V"), (89, .class_ 100), (1, u "java/lang/Math$RandomNumberGeneratorHolder"), (71, u "negativeZeroFloatBits"), (0, u "J"), (2, u "negativeZeroDoubleBits"), (21, u "max"), (2, u "min"), (43, u "$assertionsDisabled"), (0, u "Z"), (88, u "(II)I"), (2, u "twoToTheDoubleScaleDown"), (0, u "D"), (4, u "twoToTheDoubleScaleUp"), (9, u "E"), (3, u "PI"), (2, u "TAU"), (2, u "DEGREES_TO_RADIANS"), (0, u "RADIANS_TO_DEGREES")] 94

def k10m0 : Method := { name := "<init>", desc := "()V", sig := { parameters := [], returnType := none }, accessFlags := 2, code := none }
def k10c1 : Code := { maxStack := 2, maxLocals := 2, code := jdk_29_method_65_code, exceptionTable := #[], attributes := #[] }
def k10m1 : Method := { name := "max", desc := "(II)I", sig := { parameters := [.int, .int], returnType := some .int }, accessFlags := 9, code := some k10c1 }
def k10c2 : Code := { maxStack := 2, maxLocals := 2, code := jdk_29_method_69_code, exceptionTable := #[], attributes := #[] }
def k10m2 : Method := { name := "min", desc := "(II)I", sig := { parameters := [.int, .int], returnType := some .int }, accessFlags := 9, code := some k10c2 }
/-- java/lang/Math -/
def k10 : Class := { plain "java/lang/Math" (some 0) with
  accessFlags := 49
  interfaces := #[]
  cf := some (fileOf pool10 1 #[.nestMembers #[98]] #[{ accessFlags := 2, nameIndex := 7, descriptorIndex := 8, attributes := #[] }, { accessFlags := 9, nameIndex := 198, descriptorIndex := 335, attributes := #[] }, { accessFlags := 9, nameIndex := 201, descriptorIndex := 335, attributes := #[] }] 49 4 #[] #[{ accessFlags := 25, nameIndex := 354, descriptorIndex := 339, attributes := #[] }, { accessFlags := 25, nameIndex := 358, descriptorIndex := 339, attributes := #[] }, { accessFlags := 25, nameIndex := 361, descriptorIndex := 339, attributes := #[] }, { accessFlags := 26, nameIndex := 364, descriptorIndex := 339, attributes := #[] }, { accessFlags := 26, nameIndex := 365, descriptorIndex := 339, attributes := #[] }, { accessFlags := 26, nameIndex := 172, descriptorIndex := 173, attributes := #[] }, { accessFlags := 26, nameIndex := 176, descriptorIndex := 173, attributes := #[] }, { accessFlags := 8, nameIndex := 344, descriptorIndex := 339, attributes := #[] }, { accessFlags := 8, nameIndex := 338, descriptorIndex := 339, attributes := #[] }, { accessFlags := 4120, nameIndex := 245, descriptorIndex := 246, attributes := #[] }])
  fields := #[{ name := "E", type := .double, accessFlags := 25, slot := 0, constantValue := 0 }, { name := "PI", type := .double, accessFlags := 25, slot := 1, constantValue := 0 }, { name := "TAU", type := .double, accessFlags := 25, slot := 2, constantValue := 0 }, { name := "DEGREES_TO_RADIANS", type := .double, accessFlags := 26, slot := 3, constantValue := 0 }, { name := "RADIANS_TO_DEGREES", type := .double, accessFlags := 26, slot := 4, constantValue := 0 }, { name := "negativeZeroFloatBits", type := .long, accessFlags := 26, slot := 5, constantValue := 0 }, { name := "negativeZeroDoubleBits", type := .long, accessFlags := 26, slot := 6, constantValue := 0 }, { name := "twoToTheDoubleScaleUp", type := .double, accessFlags := 8, slot := 7, constantValue := 0 }, { name := "twoToTheDoubleScaleDown", type := .double, accessFlags := 8, slot := 8, constantValue := 0 }, { name := "$assertionsDisabled", type := .boolean, accessFlags := 4120, slot := 9, constantValue := 0 }]
  methods := #[k10m0, k10m1, k10m2]
  instanceTypes := #[]
  staticTypes := #[.double, .double, .double, .double, .double, .long, .long, .double, .double, .boolean]
  resolved := Array.replicate 460 none
  statics := none }

def pool11 : Array CpInfo := pool [(6, .class_ 8), (1, u "java/lang/Object"), (0, u "<init>"), (0, u "()V"), (1, .class_ 14), (1, u "java/lang/StringUTF16"), (31, u "$assertionsDisabled"), (0, u "Z"), (13, u "HI_BYTE_SHIFT"), (0, u "I"), (2, u "LO_BYTE_SHIFT"), (49, .methodref 12 116), (0, .nameAndType 117 118), (0, u "compress"), (0, u "([CI[BII)I"), (3, u "([CII)[B"), (138, u "coderFromArrayLen"), (0, u "([BI)B"), (106, .class_ 371), (1, u "java/lang/StringUTF16$LinesSpliterator"), (58, u "MAX_LENGTH"), (196, .class_ 628), (0, u "java/lang/StringUTF16$CodePointsSpliterator"), (0, .class_ 630), (0, u "java/lang/StringUTF16$CharsSpliterator")] 4

def k11m0 : Method := { name := "<init>", desc := "()V", sig := { parameters := [], returnType := none }, accessFlags := 0, code := none }
def k11c1 : Code := { maxStack := 2, maxLocals := 2, code := jdk_52_method_15_code, exceptionTable := #[], attributes := #[] }
def k11m1 : Method := { name := "coderFromArrayLen", desc := "([BI)B", sig := { parameters := [(.array .byte), .int], returnType := some .byte }, accessFlags := 8, code := some k11c1 }
def k11c2 : Code := { maxStack := 5, maxLocals := 6, code := jdk_52_method_16_code, exceptionTable := #[], attributes := #[] }
def k11m2 : Method := { name := "compress", desc := "([CII)[B", sig := { parameters := [(.array .char), .int, .int], returnType := some (.array .byte) }, accessFlags := 9, code := some k11c2 }
def k11c3 : Code := { maxStack := 3, maxLocals := 7, code := jdk_52_method_21_code, exceptionTable := #[], attributes := #[] }
def k11m3 : Method := { name := "compress", desc := "([CI[BII)I", sig := { parameters := [(.array .char), .int, (.array .byte), .int, .int], returnType := some .int }, accessFlags := 9, code := some k11c3 }
/-- java/lang/StringUTF16 -/
def k11 : Class := { plain "java/lang/StringUTF16" (some 0) with
  accessFlags := 48
  interfaces := #[]
  cf := some (fileOf pool11 12 #[.nestMembers #[627, 629, 369]] #[{ accessFlags := 0, nameIndex := 9, descriptorIndex := 10, attributes := #[] }, { accessFlags := 8, nameIndex := 261, descriptorIndex := 262, attributes := #[] }, { accessFlags := 9, nameIndex := 117, descriptorIndex := 122, attributes := #[] }, { accessFlags := 9, nameIndex := 117, descriptorIndex := 118, attributes := #[] }] 48 6 #[] #[{ accessFlags := 26, nameIndex := 61, descriptorIndex := 62, attributes := #[] }, { accessFlags := 26, nameIndex := 65, descriptorIndex := 62, attributes := #[] }, { accessFlags := 24, nameIndex := 430, descriptorIndex := 62, attributes := #[] }, { accessFlags := 4120, nameIndex := 46, descriptorIndex := 47, attributes := #[] }])
  fields := #[{ name := "HI_BYTE_SHIFT", type := .int, accessFlags := 26, slot := 0, constantValue := 0 }, { name := "LO_BYTE_SHIFT", type := .int, accessFlags := 26, slot := 1, constantValue := 0 }, { name := "MAX_LENGTH", type := .int, accessFlags := 24, slot := 2, constantValue := 0 }, { name := "$assertionsDisabled", type := .boolean, accessFlags := 4120, slot := 3, constantValue := 0 }]
  methods := #[k11m0, k11m1, k11m2, k11m3]
  instanceTypes := #[]
  staticTypes := #[.int, .int, .int, .boolean]
  resolved := Array.replicate 635 none
  statics := none }

def pool12 : Array CpInfo := pool [(2, .class_ 4), (1, u "java/lang/Object"), (0, u "<init>"), (0, u "()V"), (17, .class_ 26), (1, u "jdk/internal/util/Preconditions"), (20, u "checkFromToIndex"), (7, .class_ 56), (0, u "jdk/internal/util/Preconditions$4"), (57, .class_ 115), (0, u "jdk/internal/util/Preconditions$1"), (7, u "SIOOBE_FORMATTER"), (0, u "Ljava/util/function/BiFunction;"), (0, .class_ 126), (0, u "jdk/internal/util/Preconditions$2"), (3, u "AIOOBE_FORMATTER"), (0, .class_ 132), (0, u "jdk/internal/util/Preconditions$3"), (3, u "IOOBE_FORMATTER"), (46, u "(IIILjava/util/function/BiFunction;)I")] 10

def k12m0 : Method := { name := "<init>", desc := "()V", sig := { parameters := [], returnType := none }, accessFlags := 1, code := none }
def k12c1 : Code := { maxStack := 4, maxLocals := 4, code := jdk_41_method_12_code, exceptionTable := #[], attributes := #[] }
def k12m1 : Method := { name := "checkFromToIndex", desc := "(IIILjava/util/function/BiFunction;)I", sig := { parameters := [.int, .int, .int, (.object "java/util/function/BiFunction")], returnType := some .int }, accessFlags := 9, code := some k12c1 }
/-- jdk/internal/util/Preconditions -/
def k12 : Class := { plain "jdk/internal/util/Preconditions" (some 0) with
  accessFlags := 33
  interfaces := #[]
  cf := some (fileOf pool12 24 #[.nestMembers #[55, 131, 125, 114]] #[{ accessFlags := 1, nameIndex := 5, descriptorIndex := 6, attributes := #[] }, { accessFlags := 9, nameIndex := 47, descriptorIndex := 183, attributes := #[] }] 33 2 #[] #[{ accessFlags := 25, nameIndex := 123, descriptorIndex := 124, attributes := #[] }, { accessFlags := 25, nameIndex := 130, descriptorIndex := 124, attributes := #[] }, { accessFlags := 25, nameIndex := 136, descriptorIndex := 124, attributes := #[] }])
  fields := #[{ name := "SIOOBE_FORMATTER", type := (.object "java/util/function/BiFunction"), accessFlags := 25, slot := 0, constantValue := 0 }, { name := "AIOOBE_FORMATTER", type := (.object "java/util/function/BiFunction"), accessFlags := 25, slot := 1, constantValue := 0 }, { name := "IOOBE_FORMATTER", type := (.object "java/util/function/BiFunction"), accessFlags := 25, slot := 2, constantValue := 0 }]
  methods := #[k12m0, k12m1]
  instanceTypes := #[]
  staticTypes := #[(.object "java/util/function/BiFunction"), (.object "java/util/function/BiFunction"), (.object "java/util/function/BiFunction")]
  resolved := Array.replicate 194 none
  statics := some 1 }

def pool13 : Array CpInfo := pool [(2, .class_ 4), (1, u "java/lang/Object"), (0, u "<init>"), (0, u "()V"), (7, .class_ 16), (1, u "java/util/Arrays"), (57, .class_ 76), (1, u "java/util/Arrays$NaturalOrder"), (36, .class_ 115), (1, u "java/util/Arrays$LegacyMergeSort"), (1, u "Z"), (21, u "copyOfRange"), (10, .methodref 151 152), (0, .class_ 153), (0, .nameAndType 154 155), (0, u "java/lang/System"), (0, u "arraycopy"), (0, u "(Ljava/lang/Object;ILjava/lang/Object;II)V"), (148, .methodref 305 306), (0, .class_ 307), (0, .nameAndType 308 309), (0, u "java/lang/Math"), (0, u "min"), (0, u "(II)I"), (29, .methodref 14 340), (0, .nameAndType 341 342), (0, u "copyOfRangeByte"), (0, u "([BII)[B"), (0, .methodref 14 344), (0, .nameAndType 345 346), (0, u "checkLength"), (0, u "(II)V"), (28, .class_ 376), (0, u "java/util/Arrays$ArrayList"), (68, u "$assertionsDisabled"), (269, u "MIN_ARRAY_SORT_GRAN"), (0, u "I"), (2, u "INSERTIONSORT_THRESHOLD"), (255, .class_ 976), (0, u "java/util/Arrays$ArrayItr")] 52

def k13m0 : Method := { name := "<init>", desc := "()V", sig := { parameters := [], returnType := none }, accessFlags := 2, code := none }
def k13c1 : Code := { maxStack := 4, maxLocals := 2, code := jdk_65_method_131_code, exceptionTable := #[], attributes := #[] }
def k13m1 : Method := { name := "checkLength", desc := "(II)V", sig := { parameters := [.int, .int], returnType := none }, accessFlags := 10, code := some k13c1 }
def k13c2 : Code := { maxStack := 3, maxLocals := 3, code := jdk_65_method_132_code, exceptionTable := #[], attributes := #[] }
def k13m2 : Method := { name := "copyOfRange", desc := "([BII)[B", sig := { parameters := [(.array .byte), .int, .int], returnType := some (.array .byte) }, accessFlags := 9, code := some k13c2 }
def k13c3 : Code := { maxStack := 6, maxLocals := 5, code := jdk_65_method_133_code, exceptionTable := #[], attributes := #[] }
def k13m3 : Method := { name := "copyOfRangeByte", desc := "([BII)[B", sig := { parameters := [(.array .byte), .int, .int], returnType := some (.array .byte) }, accessFlags := 10, code := some k13c3 }
/-- java/util/Arrays -/
def k13 : Class := { plain "java/util/Arrays" (some 0) with
  accessFlags := 49
  interfaces := #[]
  cf := some (fileOf pool13 14 #[.nestMembers #[975, 375, 113, 74]] #[{ accessFlags := 2, nameIndex := 5, descriptorIndex := 6, attributes := #[] }, { accessFlags := 10, nameIndex := 345, descriptorIndex := 346, attributes := #[] }, { accessFlags := 9, nameIndex := 139, descriptorIndex := 342, attributes := #[] }, { accessFlags := 10, nameIndex := 341, descriptorIndex := 342, attributes := #[] }] 49 2 #[] #[{ accessFlags := 26, nameIndex := 715, descriptorIndex := 716, attributes := #[] }, { accessFlags := 26, nameIndex := 719, descriptorIndex := 716, attributes := #[] }, { accessFlags := 4120, nameIndex := 445, descriptorIndex := 117, attributes := #[] }])
  fields := #[{ name := "MIN_ARRAY_SORT_GRAN", type := .int, accessFlags := 26, slot := 0, constantValue := 0 }, { name := "INSERTIONSORT_THRESHOLD", type := .int, accessFlags := 26, slot := 1, constantValue := 0 }, { name := "$assertionsDisabled", type := .boolean, accessFlags := 4120, slot := 2, constantValue := 0 }]
  methods := #[k13m0, k13m1, k13m2, k13m3]
  instanceTypes := #[]
  staticTypes := #[.int, .int, .boolean]
  resolved := Array.replicate 1029 none
  statics := none }

def pool14 : Array CpInfo := pool [(2, .class_ 4), (1, u "java/lang/Object"), (0, u "<init>"), (0, u "()V"), (1, .class_ 10), (1, u "java/lang/System"), (0, u "allowSecurityManager"), (0, u "I"), (16, u "cons"), (0, u "Ljava/io/Console;"), (77, .class_ 110), (1, u "java/lang/System$CallersHolder"), (43, u "initialErrStream"), (0, u "Ljava/io/PrintStream;"), (19, u "security"), (0, u "Ljava/lang/SecurityManager;"), (31, .class_ 209), (0, u "java/lang/System$1"), (7, u "props"), (0, u "Ljava/util/Properties;"), (2, u "lineSeparator"), (0, u "Ljava/lang/String;"), (96, .class_ 321), (1, u "java/lang/System$LoggerFinder"), (5, .class_ 328), (0, u "java/lang/System$Logger"), (67, u "err"), (2, u "out"), (91, u "notSupportedJnuEncoding"), (15, u "in"), (17, u "initialIn"), (0, u "Ljava/io/InputStream;"), (35, u "bootLayer"), (0, u "Ljava/lang/ModuleLayer;"), (99, .class_ 664), (0, u "java/lang/System$2"), (9, u "NEVER"), (2, u "MAYBE"), (49, u "arraycopy"), (0, u "(Ljava/lang/Object;ILjava/lang/Object;II)V"), (72, .class_ 802), (0, u "java/lang/System$Logger$Level")] 31

def k14m0 : Method := { name := "<init>", desc := "()V", sig := { parameters := [], returnType := none }, accessFlags := 2, code := none }
def k14m1 : Method := { name := "arraycopy", desc := "(Ljava/lang/Object;ILjava/lang/Object;II)V", sig := { parameters := [(.object "java/lang/Object"), .int, (.object "java/lang/Object"), .int, .int], returnType := none }, accessFlags := 265, code := none }
/-- java/lang/System -/
def k14 : Class := { plain "java/lang/System" (some 0) with
  accessFlags := 49
  interfaces := #[]
  cf := some (fileOf pool14 8 #[.nestMembers #[319, 327, 801, 108, 663, 208]] #[{ accessFlags := 2, nameIndex := 5, descriptorIndex := 6, attributes := #[] }, { accessFlags := 265, nameIndex := 727, descriptorIndex := 728, attributes := #[] }] 49 2 #[] #[{ accessFlags := 25, nameIndex := 507, descriptorIndex := 526, attributes := #[] }, { accessFlags := 25, nameIndex := 399, descriptorIndex := 155, attributes := #[] }, { accessFlags := 25, nameIndex := 396, descriptorIndex := 155, attributes := #[] }, { accessFlags := 10, nameIndex := 525, descriptorIndex := 526, attributes := #[] }, { accessFlags := 26, nameIndex := 674, descriptorIndex := 12, attributes := #[] }, { accessFlags := 26, nameIndex := 677, descriptorIndex := 12, attributes := #[] }, { accessFlags := 10, nameIndex := 11, descriptorIndex := 12, attributes := #[] }, { accessFlags := 74, nameIndex := 175, descriptorIndex := 176, attributes := #[] }, { accessFlags := 10, nameIndex := 491, descriptorIndex := 222, attributes := #[] }, { accessFlags := 74, nameIndex := 29, descriptorIndex := 30, attributes := #[] }, { accessFlags := 74, nameIndex := 154, descriptorIndex := 155, attributes := #[] }, { accessFlags := 10, nameIndex := 217, descriptorIndex := 218, attributes := #[] }, { accessFlags := 10, nameIndex := 221, descriptorIndex := 222, attributes := #[] }, { accessFlags := 8, nameIndex := 562, descriptorIndex := 563, attributes := #[] }])
  fields := #[{ name := "in", type := (.object "java/io/InputStream"), accessFlags := 25, slot := 0, constantValue := 0 }, { name := "out", type := (.object "java/io/PrintStream"), accessFlags := 25, slot := 1, constantValue := 0 }, { name := "err", type := (.object "java/io/PrintStream"), accessFlags := 25, slot := 2, constantValue := 0 }, { name := "initialIn", type := (.object "java/io/InputStream"), accessFlags := 10, slot := 3, constantValue := 0 }, { name := "NEVER", type := .int, accessFlags := 26, slot := 4, constantValue := 0 }, { name := "MAYBE", type := .int, accessFlags := 26, slot := 5, constantValue := 0 }, { name := "allowSecurityManager", type := .int, accessFlags := 10, slot := 6, constantValue := 0 }, { name := "security", type := (.object "java/lang/SecurityManager"), accessFlags := 74, slot := 7, constantValue := 0 }, { name := "notSupportedJnuEncoding", type := (.object "java/lang/String"), accessFlags := 10, slot := 8, constantValue := 0 }, { name := "cons", type := (.object "java/io/Console"), accessFlags := 74, slot := 9, constantValue := 0 }, { name := "initialErrStream", type := (.object "java/io/PrintStream"), accessFlags := 74, slot := 10, constantValue := 0 }, { name := "props", type := (.object "java/util/Properties"), accessFlags := 10, slot := 11, constantValue := 0 }, { name := "lineSeparator", type := (.object "java/lang/String"), accessFlags := 10, slot := 12, constantValue := 0 }, { name := "bootLayer", type := (.object "java/lang/ModuleLayer"), accessFlags := 8, slot := 13, constantValue := 0 }]
  methods := #[k14m0, k14m1]
  instanceTypes := #[]
  staticTypes := #[(.object "java/io/InputStream"), (.object "java/io/PrintStream"), (.object "java/io/PrintStream"), (.object "java/io/InputStream"), .int, .int, .int, (.object "java/lang/SecurityManager"), (.object "java/lang/String"), (.object "java/io/Console"), (.object "java/io/PrintStream"), (.object "java/util/Properties"), (.object "java/lang/String"), (.object "java/lang/ModuleLayer")]
  resolved := Array.replicate 834 none
  statics := none }

def pool15 : Array CpInfo := pool [(9, u "<init>"), (6, .class_ 18), (1, u "java/lang/Object"), (0, u "()V"), (1, .class_ 23), (1, u "jdk/internal/util/ArraysSupport"), (0, u "LOG2_ARRAY_LONG_INDEX_SCALE"), (0, u "I"), (2, u "U"), (0, u "Ljdk/internal/misc/Unsafe;"), (8, u "BIG_ENDIAN"), (0, u "Z"), (8, u "LOG2_BYTE_BIT_SIZE"), (4, u "LOG2_ARRAY_INT_INDEX_SCALE"), (54, u "JLA"), (0, u "Ljdk/internal/access/JavaLangAccess;"), (11, u "LOG2_ARRAY_BOOLEAN_INDEX_SCALE"), (9, u "LOG2_ARRAY_BYTE_INDEX_SCALE"), (5, u "LOG2_ARRAY_CHAR_INDEX_SCALE"), (5, u "LOG2_ARRAY_SHORT_INDEX_SCALE"), (18, u "LOG2_ARRAY_FLOAT_INDEX_SCALE"), (24, u "LOG2_ARRAY_DOUBLE_INDEX_SCALE"), (89, u "T_BOOLEAN"), (2, u "T_CHAR"), (1, u "T_FLOAT"), (1, u "T_DOUBLE"), (1, u "T_BYTE"), (1, u "T_SHORT"), (1, u "T_INT"), (1, u "T_LONG"), (1, u "SOFT_MAX_ARRAY_LENGTH")] 83

def k15m0 : Method := { name := "<init>", desc := "()V", sig := { parameters := [], returnType := none }, accessFlags := 2, code := none }
/-- jdk/internal/util/ArraysSupport -/
def k15 : Class := { plain "jdk/internal/util/ArraysSupport" (some 0) with
  accessFlags := 33
  interfaces := #[]
  cf := some (fileOf pool15 21 #[] #[{ accessFlags := 2, nameIndex := 9, descriptorIndex := 19, attributes := #[] }] 33 16 #[] #[{ accessFlags := 24, nameIndex := 28, descriptorIndex := 29, attributes := #[] }, { accessFlags := 26, nameIndex := 38, descriptorIndex := 39, attributes := #[] }, { accessFlags := 25, nameIndex := 121, descriptorIndex := 25, attributes := #[] }, { accessFlags := 25, nameIndex := 131, descriptorIndex := 25, attributes := #[] }, { accessFlags := 25, nameIndex := 137, descriptorIndex := 25, attributes := #[] }, { accessFlags := 25, nameIndex := 143, descriptorIndex := 25, attributes := #[] }, { accessFlags := 25, nameIndex := 53, descriptorIndex := 25, attributes := #[] }, { accessFlags := 25, nameIndex := 24, descriptorIndex := 25, attributes := #[] }, { accessFlags := 25, nameIndex := 162, descriptorIndex := 25, attributes := #[] }, { accessFlags := 25, nameIndex := 187, descriptorIndex := 25, attributes := #[] }, { accessFlags := 26, nameIndex := 48, descriptorIndex := 25, attributes := #[] }, { accessFlags := 25, nameIndex := 277, descriptorIndex := 25, attributes := #[] }, { accessFlags := 25, nameIndex := 280, descriptorIndex := 25, attributes := #[] }, { accessFlags := 25, nameIndex := 282, descriptorIndex := 25, attributes := #[] }, { accessFlags := 25, nameIndex := 284, descriptorIndex := 25, attributes := #[] }, { accessFlags := 25, nameIndex := 286, descriptorIndex := 25, attributes := #[] }, { accessFlags := 25, nameIndex := 288, descriptorIndex := 25, attributes := #[] }, { accessFlags := 25, nameIndex := 290, descriptorIndex := 25, attributes := #[] }, { accessFlags := 25, nameIndex := 292, descriptorIndex := 25, attributes := #[] }, { accessFlags := 26, nameIndex := 108, descriptorIndex := 109, attributes := #[] }, { accessFlags := 25, nameIndex := 294, descriptorIndex := 25, attributes := #[] }])
  fields := #[{ name := "U", type := (.object "jdk/internal/misc/Unsafe"), accessFlags := 24, slot := 0, constantValue := 0 }, { name := "BIG_ENDIAN", type := .boolean, accessFlags := 26, slot := 1, constantValue := 0 }, { name := "LOG2_ARRAY_BOOLEAN_INDEX_SCALE", type := .int, accessFlags := 25, slot := 2, constantValue := 0 }, { name := "LOG2_ARRAY_BYTE_INDEX_SCALE", type := .int, accessFlags := 25, slot := 3, constantValue := 0 }, { name := "LOG2_ARRAY_CHAR_INDEX_SCALE", type := .int, accessFlags := 25, slot := 4, constantValue := 0 }, { name := "LOG2_ARRAY_SHORT_INDEX_SCALE", type := .int, accessFlags := 25, slot := 5, constantValue := 0 }, { name := "LOG2_ARRAY_INT_INDEX_SCALE", type := .int, accessFlags := 25, slot := 6, constantValue := 0 }, { name := "LOG2_ARRAY_LONG_INDEX_SCALE", type := .int, accessFlags := 25, slot := 7, constantValue := 0 }, { name := "LOG2_ARRAY_FLOAT_INDEX_SCALE", type := .int, accessFlags := 25, slot := 8, constantValue := 0 }, { name := "LOG2_ARRAY_DOUBLE_INDEX_SCALE", type := .int, accessFlags := 25, slot := 9, constantValue := 0 }, { name := "LOG2_BYTE_BIT_SIZE", type := .int, accessFlags := 26, slot := 10, constantValue := 0 }, { name := "T_BOOLEAN", type := .int, accessFlags := 25, slot := 11, constantValue := 0 }, { name := "T_CHAR", type := .int, accessFlags := 25, slot := 12, constantValue := 0 }, { name := "T_FLOAT", type := .int, accessFlags := 25, slot := 13, constantValue := 0 }, { name := "T_DOUBLE", type := .int, accessFlags := 25, slot := 14, constantValue := 0 }, { name := "T_BYTE", type := .int, accessFlags := 25, slot := 15, constantValue := 0 }, { name := "T_SHORT", type := .int, accessFlags := 25, slot := 16, constantValue := 0 }, { name := "T_INT", type := .int, accessFlags := 25, slot := 17, constantValue := 0 }, { name := "T_LONG", type := .int, accessFlags := 25, slot := 18, constantValue := 0 }, { name := "JLA", type := (.object "jdk/internal/access/JavaLangAccess"), accessFlags := 26, slot := 19, constantValue := 0 }, { name := "SOFT_MAX_ARRAY_LENGTH", type := .int, accessFlags := 25, slot := 20, constantValue := 0 }]
  methods := #[k15m0]
  instanceTypes := #[]
  staticTypes := #[(.object "jdk/internal/misc/Unsafe"), .boolean, .int, .int, .int, .int, .int, .int, .int, .int, .int, .int, .int, .int, .int, .int, .int, .int, .int, (.object "jdk/internal/access/JavaLangAccess"), .int]
  resolved := Array.replicate 378 none
  statics := none }

def pool16 : Array CpInfo := pool [(1, u "java/lang/Cloneable"), (0, .class_ 1), (0, u "java/lang/Object"), (0, .class_ 3)] 3

/-- java/lang/Cloneable -/
def k16 : Class := { plain "java/lang/Cloneable" (some 0) with
  accessFlags := 1537
  interfaces := #[]
  cf := some (fileOf pool16 2 #[] #[] 1537 4 #[] #[])
  fields := #[]
  methods := #[]
  instanceTypes := #[]
  staticTypes := #[]
  resolved := Array.replicate 8 none
  statics := none }

/-- the primitive byte -/
def k17 : Class := { plain "byte" none with kind := .primitive 'B', accessFlags := 0x411 }
/-- [B -/
def k18 : Class := { plain "[B" (some 0) with kind := .array 17 .byte, interfaces := #[16, 2], accessFlags := 1041 }

/-- the primitive char -/
def k19 : Class := { plain "char" none with kind := .primitive 'C', accessFlags := 0x411 }
/-- [C -/
def k20 : Class := { plain "[C" (some 0) with kind := .array 19 .char, interfaces := #[16, 2], accessFlags := 1041 }

/-- the primitive int -/
def k21 : Class := { plain "int" none with kind := .primitive 'I', accessFlags := 0x411 }
/-- [I -/
def k22 : Class := { plain "[I" (some 0) with kind := .array 21 .int, interfaces := #[16, 2], accessFlags := 1041 }

def heap : Heap := #[{ cls := 7, slots := #[.long 0, .int 1, .null, .int 0, .null, .int 0, .int 0], vm := .statics 7 },
  { cls := 12, slots := #[.null, .null, .null], vm := .statics 12 }]
def classes : Array Class := #[k0, k1, k2, k3, k4, k5, k6, k7, k8, k9, k10, k11, k12, k13, k14, k15, k16, k17, k18, k19, k20, k21, k22]
def interned : List (Array UInt16 × Addr) := []
def slotsUsed : Nat := 10
def theMethod : MethodId := ⟨1, 2⟩
def args0 : Array Value := #[.int 5, .int 300, .int 7, .int 9, .int 2]
def aboutOver (below : List Frame) : State where
  vm := { classes := classes, interned := interned.toArray }
  heap := heap
  slotsUsed := slotsUsed
  threads := #[{ frames := .invoking theMethod args0 :: below }]
def below0 : List Frame := [.native { method := ⟨0, 0⟩, args := #[] }]
def about1 : State := aboutOver below0
def p0 : Program := .bare "" "" ""
def e0 : Env := launch0.env 0 0 0
theorem w_frames : about1.frames = Frame.invoking theMethod args0 :: below0 := rfl
set_option maxRecDepth 65536 in
theorem w_args : argsFit about1.vm theMethod args0 = true := by decide +kernel
set_option maxRecDepth 65536 in
theorem w_heap : heapFits about1 = true := by decide +kernel
set_option maxRecDepth 65536 in
theorem w_runnable : about1.curStatus? = some .runnable := by decide +kernel
set_option maxRecDepth 65536 in
theorem w_alone : about1.alone = true := by decide +kernel
set_option maxRecDepth 65536 in
theorem w_named : about1.methodNamed? x = some theMethod := by decide +kernel
set_option maxRecDepth 65536 in
theorem w_hears : about1.hears theMethod below0 = true := by decide +kernel
set_option maxRecDepth 65536 in
theorem w_ripe : about1.ripe theMethod args0 below0 = true := by decide +kernel
theorem w_running : about1.status = .running := rfl
set_option maxRecDepth 65536 in
theorem w_room : about1.hasRoom e0.platform room_1 = true :=
  launch0.hasRoom_least _ room_1 (by decide +kernel) (by decide +kernel) (by decide +kernel) (by decide +kernel) (by decide +kernel) (by decide +kernel)
theorem allAtoms_all (ts : List Jvm.Cond) (a : Array Jvm.Value) (st : Jvm.State) : (allAtoms ts).before a st = ts.all (fun c => c.before a st) := by
  induction ts with
  | nil => rfl
  | cons c t ih =>
    show (Jvm.Cond.and c (allAtoms t)).before a st = _
    rw [Jvm.Cond.before_and, ih, List.all_cons]
def words1 : List Jvm.Cond := Jvm.Cond.code x code maxLocals ret :: tables_1
/-- a 'code' word, met by the world's own term for the bytes: nothing is compared byte by byte -/
theorem code_word {y : MethodName} {bytes : ByteArray} {mx : Nat} {rt : Option FieldType} {a : Array Value} {s : State} {m : MethodId} {meth : Method} {c : Code} (h1 : s.methodNamed? y = some m) (h2 : s.vm.method? m = some meth) (h3 : meth.code = some c) (h4 : c.code = bytes)
    (h5 : (c.maxLocals == mx && c.exceptionTable.isEmpty && decide (c.maxStack ≤ mostOperands) && decide (meth.sig.returnType = rt) && !meth.locks && decide (parseMethodDescriptor y.desc = some meth.sig)) = true) : (Jvm.Cond.code y bytes mx rt).before a s = true := by
  simp only [Bool.and_eq_true, beq_iff_eq, Bool.not_eq_true', decide_eq_true_eq] at h5
  obtain ⟨⟨⟨⟨⟨g1, g2⟩, g3⟩, g4⟩, g5⟩, g6⟩ := h5
  simp [Cond.before, Cond.holds, Cond.value, h1, h2, h3, h4, g1, g2, g3, g4, g5, g6]
def isCode : Jvm.Cond → Bool
  | .code _ _ _ _ => true
  | _ => false
theorem all_split {L : List Jvm.Cond} {P : Jvm.Cond → Bool} (h1 : L.all (fun c => isCode c || P c) = true) (h2 : ∀ c ∈ L.filter isCode, P c = true) : L.all P = true := by
  refine List.all_eq_true.mpr fun c hc => ?_
  have h := List.all_eq_true.mp h1 c hc
  rcases Bool.eq_false_or_eq_true (isCode c) with hi | hi
  · exact h2 c (List.mem_filter.mpr ⟨hc, hi⟩)
  · simpa [hi] using h
set_option maxRecDepth 65536 in
theorem w_c0 : (Jvm.Cond.code x code maxLocals ret).before args0 about1 = true := code_word (m := ⟨1, 2⟩) (meth := k1m2) (c := k1c2) (by decide +kernel) rfl rfl rfl (by decide +kernel)
set_option maxRecDepth 65536 in
theorem w_c1 : (Jvm.Cond.code ({ cls := "com/example/applicator/applicator/IriWithoutFragmentPinLaw", name := "ch", desc := "(I)C" } : Jvm.MethodName) method_2_code (1 : Nat) (Option.some Jvm.ClassFile.FieldType.char)).before args0 about1 = true := code_word (m := ⟨1, 1⟩) (meth := k1m1) (c := k1c1) (by decide +kernel) rfl rfl rfl (by decide +kernel)
set_option maxRecDepth 65536 in
theorem w_c2 : (Jvm.Cond.code ({ cls := "java/lang/String", name := "<init>", desc := "([C)V" } : Jvm.MethodName) jdk_42_method_3_code (2 : Nat) (Option.none : Option Jvm.ClassFile.FieldType)).before args0 about1 = true := code_word (m := ⟨7, 1⟩) (meth := k7m1) (c := k7c1) (by decide +kernel) rfl rfl rfl (by decide +kernel)
set_option maxRecDepth 65536 in
theorem w_c3 : (Jvm.Cond.code ({ cls := "java/lang/String", name := "<init>", desc := "([CIILjava/lang/Void;)V" } : Jvm.MethodName) jdk_42_method_149_code (6 : Nat) (Option.none : Option Jvm.ClassFile.FieldType)).before args0 about1 = true := code_word (m := ⟨7, 7⟩) (meth := k7m7) (c := k7c7) (by decide +kernel) rfl rfl rfl (by decide +kernel)
set_option maxRecDepth 65536 in
theorem w_c4 : (Jvm.Cond.code ({ cls := "java/lang/Object", name := "<init>", desc := "()V" } : Jvm.MethodName) object_method_1_code (1 : Nat) (Option.none : Option Jvm.ClassFile.FieldType)).before args0 about1 = true := code_word (m := ⟨0, 0⟩) (meth := k0m0) (c := k0c0) (by decide +kernel) rfl rfl rfl (by decide +kernel)
set_option maxRecDepth 65536 in
theorem w_c5 : (Jvm.Cond.code ({ cls := "com/example/applicator/applicator/Iri", name := "withoutFragment", desc := "(Ljava/lang/String;)Ljava/lang/String;" } : Jvm.MethodName) prog_9_method_6_code (2 : Nat) (Option.some (Jvm.ClassFile.FieldType.object "java/lang/String"))).before args0 about1 = true := code_word (m := ⟨8, 1⟩) (meth := k8m1) (c := k8c1) (by decide +kernel) rfl rfl rfl (by decide +kernel)
set_option maxRecDepth 65536 in
theorem w_c6 : (Jvm.Cond.code ({ cls := "java/lang/String", name := "indexOf", desc := "(I)I" } : Jvm.MethodName) jdk_42_method_79_code (2 : Nat) (Option.some Jvm.ClassFile.FieldType.int)).before args0 about1 = true := code_word (m := ⟨7, 4⟩) (meth := k7m4) (c := k7c4) (by decide +kernel) rfl rfl rfl (by decide +kernel)
set_option maxRecDepth 65536 in
theorem w_c7 : (Jvm.Cond.code ({ cls := "java/lang/String", name := "indexOf", desc := "(II)I" } : Jvm.MethodName) jdk_42_method_80_code (3 : Nat) (Option.some Jvm.ClassFile.FieldType.int)).before args0 about1 = true := code_word (m := ⟨7, 5⟩) (meth := k7m5) (c := k7c5) (by decide +kernel) rfl rfl rfl (by decide +kernel)
set_option maxRecDepth 65536 in
theorem w_c8 : (Jvm.Cond.code ({ cls := "java/lang/String", name := "isLatin1", desc := "()Z" } : Jvm.MethodName) jdk_42_method_154_code (1 : Nat) (Option.some Jvm.ClassFile.FieldType.boolean)).before args0 about1 = true := code_word (m := ⟨7, 10⟩) (meth := k7m10) (c := k7c10) (by decide +kernel) rfl rfl rfl (by decide +kernel)
set_option maxRecDepth 65536 in
theorem w_c9 : (Jvm.Cond.code ({ cls := "java/lang/String", name := "length", desc := "()I" } : Jvm.MethodName) jdk_42_method_54_code (1 : Nat) (Option.some Jvm.ClassFile.FieldType.int)).before args0 about1 = true := code_word (m := ⟨7, 2⟩) (meth := k7m2) (c := k7c2) (by decide +kernel) rfl rfl rfl (by decide +kernel)
set_option maxRecDepth 65536 in
theorem w_c10 : (Jvm.Cond.code ({ cls := "java/lang/String", name := "coder", desc := "()B" } : Jvm.MethodName) jdk_42_method_152_code (1 : Nat) (Option.some Jvm.ClassFile.FieldType.byte)).before args0 about1 = true := code_word (m := ⟨7, 9⟩) (meth := k7m9) (c := k7c9) (by decide +kernel) rfl rfl rfl (by decide +kernel)
set_option maxRecDepth 65536 in
theorem w_c11 : (Jvm.Cond.code ({ cls := "java/lang/StringLatin1", name := "indexOf", desc := "([BIII)I" } : Jvm.MethodName) jdk_43_method_22_code (4 : Nat) (Option.some Jvm.ClassFile.FieldType.int)).before args0 about1 = true := code_word (m := ⟨9, 3⟩) (meth := k9m3) (c := k9c3) (by decide +kernel) rfl rfl rfl (by decide +kernel)
set_option maxRecDepth 65536 in
theorem w_c12 : (Jvm.Cond.code ({ cls := "java/lang/StringLatin1", name := "canEncode", desc := "(I)Z" } : Jvm.MethodName) jdk_43_method_4_code (1 : Nat) (Option.some Jvm.ClassFile.FieldType.boolean)).before args0 about1 = true := code_word (m := ⟨9, 1⟩) (meth := k9m1) (c := k9c1) (by decide +kernel) rfl rfl rfl (by decide +kernel)
set_option maxRecDepth 65536 in
theorem w_c13 : (Jvm.Cond.code ({ cls := "java/lang/Math", name := "max", desc := "(II)I" } : Jvm.MethodName) jdk_29_method_65_code (2 : Nat) (Option.some Jvm.ClassFile.FieldType.int)).before args0 about1 = true := code_word (m := ⟨10, 1⟩) (meth := k10m1) (c := k10c1) (by decide +kernel) rfl rfl rfl (by decide +kernel)
set_option maxRecDepth 65536 in
theorem w_c14 : (Jvm.Cond.code ({ cls := "java/lang/Math", name := "min", desc := "(II)I" } : Jvm.MethodName) jdk_29_method_69_code (2 : Nat) (Option.some Jvm.ClassFile.FieldType.int)).before args0 about1 = true := code_word (m := ⟨10, 2⟩) (meth := k10m2) (c := k10c2) (by decide +kernel) rfl rfl rfl (by decide +kernel)
set_option maxRecDepth 65536 in
theorem w_c15 : (Jvm.Cond.code ({ cls := "java/lang/String", name := "equals", desc := "(Ljava/lang/Object;)Z" } : Jvm.MethodName) jdk_42_method_66_code (3 : Nat) (Option.some Jvm.ClassFile.FieldType.boolean)).before args0 about1 = true := code_word (m := ⟨7, 3⟩) (meth := k7m3) (c := k7c3) (by decide +kernel) rfl rfl rfl (by decide +kernel)
set_option maxRecDepth 65536 in
theorem w_c16 : (Jvm.Cond.code ({ cls := "java/lang/StringLatin1", name := "equals", desc := "([B[B)Z" } : Jvm.MethodName) jdk_43_method_13_code (3 : Nat) (Option.some Jvm.ClassFile.FieldType.boolean)).before args0 about1 = true := code_word (m := ⟨9, 2⟩) (meth := k9m2) (c := k9c2) (by decide +kernel) rfl rfl rfl (by decide +kernel)
set_option maxRecDepth 65536 in
theorem w_c17 : (Jvm.Cond.code ({ cls := "java/lang/StringUTF16", name := "compress", desc := "([CII)[B" } : Jvm.MethodName) jdk_52_method_16_code (6 : Nat) (Option.some (Jvm.ClassFile.FieldType.array Jvm.ClassFile.FieldType.byte))).before args0 about1 = true := code_word (m := ⟨11, 2⟩) (meth := k11m2) (c := k11c2) (by decide +kernel) rfl rfl rfl (by decide +kernel)
set_option maxRecDepth 65536 in
theorem w_c18 : (Jvm.Cond.code ({ cls := "java/lang/StringUTF16", name := "compress", desc := "([CI[BII)I" } : Jvm.MethodName) jdk_52_method_21_code (7 : Nat) (Option.some Jvm.ClassFile.FieldType.int)).before args0 about1 = true := code_word (m := ⟨11, 3⟩) (meth := k11m3) (c := k11c3) (by decide +kernel) rfl rfl rfl (by decide +kernel)
set_option maxRecDepth 65536 in
theorem w_c19 : (Jvm.Cond.code ({ cls := "java/lang/StringUTF16", name := "coderFromArrayLen", desc := "([BI)B" } : Jvm.MethodName) jdk_52_method_15_code (2 : Nat) (Option.some Jvm.ClassFile.FieldType.byte)).before args0 about1 = true := code_word (m := ⟨11, 1⟩) (meth := k11m1) (c := k11c1) (by decide +kernel) rfl rfl rfl (by decide +kernel)
set_option maxRecDepth 65536 in
theorem w_c20 : (Jvm.Cond.code ({ cls := "java/lang/StringLatin1", name := "indexOfChar", desc := "([BIII)I" } : Jvm.MethodName) jdk_43_method_23_code (6 : Nat) (Option.some Jvm.ClassFile.FieldType.int)).before args0 about1 = true := code_word (m := ⟨9, 4⟩) (meth := k9m4) (c := k9c4) (by decide +kernel) rfl rfl rfl (by decide +kernel)
set_option maxRecDepth 65536 in
theorem w_c21 : (Jvm.Cond.code ({ cls := "java/lang/String", name := "substring", desc := "(II)Ljava/lang/String;" } : Jvm.MethodName) jdk_42_method_92_code (5 : Nat) (Option.some (Jvm.ClassFile.FieldType.object "java/lang/String"))).before args0 about1 = true := code_word (m := ⟨7, 6⟩) (meth := k7m6) (c := k7c6) (by decide +kernel) rfl rfl rfl (by decide +kernel)
set_option maxRecDepth 65536 in
theorem w_c22 : (Jvm.Cond.code ({ cls := "java/lang/String", name := "checkBoundsBeginEnd", desc := "(III)V" } : Jvm.MethodName) jdk_42_method_158_code (3 : Nat) (Option.none : Option Jvm.ClassFile.FieldType)).before args0 about1 = true := code_word (m := ⟨7, 11⟩) (meth := k7m11) (c := k7c11) (by decide +kernel) rfl rfl rfl (by decide +kernel)
set_option maxRecDepth 65536 in
theorem w_c23 : (Jvm.Cond.code ({ cls := "jdk/internal/util/Preconditions", name := "checkFromToIndex", desc := "(IIILjava/util/function/BiFunction;)I" } : Jvm.MethodName) jdk_41_method_12_code (4 : Nat) (Option.some Jvm.ClassFile.FieldType.int)).before args0 about1 = true := code_word (m := ⟨12, 1⟩) (meth := k12m1) (c := k12c1) (by decide +kernel) rfl rfl rfl (by decide +kernel)
set_option maxRecDepth 65536 in
theorem w_c24 : (Jvm.Cond.code ({ cls := "java/lang/StringLatin1", name := "newString", desc := "([BII)Ljava/lang/String;" } : Jvm.MethodName) jdk_43_method_47_code (3 : Nat) (Option.some (Jvm.ClassFile.FieldType.object "java/lang/String"))).before args0 about1 = true := code_word (m := ⟨9, 5⟩) (meth := k9m5) (c := k9c5) (by decide +kernel) rfl rfl rfl (by decide +kernel)
set_option maxRecDepth 65536 in
theorem w_c25 : (Jvm.Cond.code ({ cls := "java/util/Arrays", name := "copyOfRange", desc := "([BII)[B" } : Jvm.MethodName) jdk_65_method_132_code (3 : Nat) (Option.some (Jvm.ClassFile.FieldType.array Jvm.ClassFile.FieldType.byte))).before args0 about1 = true := code_word (m := ⟨13, 2⟩) (meth := k13m2) (c := k13c2) (by decide +kernel) rfl rfl rfl (by decide +kernel)
set_option maxRecDepth 65536 in
theorem w_c26 : (Jvm.Cond.code ({ cls := "java/util/Arrays", name := "copyOfRangeByte", desc := "([BII)[B" } : Jvm.MethodName) jdk_65_method_133_code (5 : Nat) (Option.some (Jvm.ClassFile.FieldType.array Jvm.ClassFile.FieldType.byte))).before args0 about1 = true := code_word (m := ⟨13, 3⟩) (meth := k13m3) (c := k13c3) (by decide +kernel) rfl rfl rfl (by decide +kernel)
set_option maxRecDepth 65536 in
theorem w_c27 : (Jvm.Cond.code ({ cls := "java/util/Arrays", name := "checkLength", desc := "(II)V" } : Jvm.MethodName) jdk_65_method_131_code (2 : Nat) (Option.none : Option Jvm.ClassFile.FieldType)).before args0 about1 = true := code_word (m := ⟨13, 1⟩) (meth := k13m1) (c := k13c1) (by decide +kernel) rfl rfl rfl (by decide +kernel)
set_option maxRecDepth 65536 in
theorem w_c28 : (Jvm.Cond.code ({ cls := "java/lang/String", name := "<init>", desc := "([BB)V" } : Jvm.MethodName) jdk_42_method_151_code (3 : Nat) (Option.none : Option Jvm.ClassFile.FieldType)).before args0 about1 = true := code_word (m := ⟨7, 8⟩) (meth := k7m8) (c := k7c8) (by decide +kernel) rfl rfl rfl (by decide +kernel)
def codes1 : List Jvm.Cond := [Jvm.Cond.code x code maxLocals ret, Jvm.Cond.code ({ cls := "com/example/applicator/applicator/IriWithoutFragmentPinLaw", name := "ch", desc := "(I)C" } : Jvm.MethodName) method_2_code (1 : Nat) (Option.some Jvm.ClassFile.FieldType.char), Jvm.Cond.code ({ cls := "java/lang/String", name := "<init>", desc := "([C)V" } : Jvm.MethodName) jdk_42_method_3_code (2 : Nat) (Option.none : Option Jvm.ClassFile.FieldType), Jvm.Cond.code ({ cls := "java/lang/String", name := "<init>", desc := "([CIILjava/lang/Void;)V" } : Jvm.MethodName) jdk_42_method_149_code (6 : Nat) (Option.none : Option Jvm.ClassFile.FieldType), Jvm.Cond.code ({ cls := "java/lang/Object", name := "<init>", desc := "()V" } : Jvm.MethodName) object_method_1_code (1 : Nat) (Option.none : Option Jvm.ClassFile.FieldType), Jvm.Cond.code ({ cls := "com/example/applicator/applicator/Iri", name := "withoutFragment", desc := "(Ljava/lang/String;)Ljava/lang/String;" } : Jvm.MethodName) prog_9_method_6_code (2 : Nat) (Option.some (Jvm.ClassFile.FieldType.object "java/lang/String")), Jvm.Cond.code ({ cls := "java/lang/String", name := "indexOf", desc := "(I)I" } : Jvm.MethodName) jdk_42_method_79_code (2 : Nat) (Option.some Jvm.ClassFile.FieldType.int), Jvm.Cond.code ({ cls := "java/lang/String", name := "indexOf", desc := "(II)I" } : Jvm.MethodName) jdk_42_method_80_code (3 : Nat) (Option.some Jvm.ClassFile.FieldType.int), Jvm.Cond.code ({ cls := "java/lang/String", name := "isLatin1", desc := "()Z" } : Jvm.MethodName) jdk_42_method_154_code (1 : Nat) (Option.some Jvm.ClassFile.FieldType.boolean), Jvm.Cond.code ({ cls := "java/lang/String", name := "length", desc := "()I" } : Jvm.MethodName) jdk_42_method_54_code (1 : Nat) (Option.some Jvm.ClassFile.FieldType.int), Jvm.Cond.code ({ cls := "java/lang/String", name := "coder", desc := "()B" } : Jvm.MethodName) jdk_42_method_152_code (1 : Nat) (Option.some Jvm.ClassFile.FieldType.byte), Jvm.Cond.code ({ cls := "java/lang/StringLatin1", name := "indexOf", desc := "([BIII)I" } : Jvm.MethodName) jdk_43_method_22_code (4 : Nat) (Option.some Jvm.ClassFile.FieldType.int), Jvm.Cond.code ({ cls := "java/lang/StringLatin1", name := "canEncode", desc := "(I)Z" } : Jvm.MethodName) jdk_43_method_4_code (1 : Nat) (Option.some Jvm.ClassFile.FieldType.boolean), Jvm.Cond.code ({ cls := "java/lang/Math", name := "max", desc := "(II)I" } : Jvm.MethodName) jdk_29_method_65_code (2 : Nat) (Option.some Jvm.ClassFile.FieldType.int), Jvm.Cond.code ({ cls := "java/lang/Math", name := "min", desc := "(II)I" } : Jvm.MethodName) jdk_29_method_69_code (2 : Nat) (Option.some Jvm.ClassFile.FieldType.int), Jvm.Cond.code ({ cls := "java/lang/String", name := "equals", desc := "(Ljava/lang/Object;)Z" } : Jvm.MethodName) jdk_42_method_66_code (3 : Nat) (Option.some Jvm.ClassFile.FieldType.boolean), Jvm.Cond.code ({ cls := "java/lang/StringLatin1", name := "equals", desc := "([B[B)Z" } : Jvm.MethodName) jdk_43_method_13_code (3 : Nat) (Option.some Jvm.ClassFile.FieldType.boolean), Jvm.Cond.code ({ cls := "java/lang/StringUTF16", name := "compress", desc := "([CII)[B" } : Jvm.MethodName) jdk_52_method_16_code (6 : Nat) (Option.some (Jvm.ClassFile.FieldType.array Jvm.ClassFile.FieldType.byte)), Jvm.Cond.code ({ cls := "java/lang/StringUTF16", name := "compress", desc := "([CI[BII)I" } : Jvm.MethodName) jdk_52_method_21_code (7 : Nat) (Option.some Jvm.ClassFile.FieldType.int), Jvm.Cond.code ({ cls := "java/lang/StringUTF16", name := "coderFromArrayLen", desc := "([BI)B" } : Jvm.MethodName) jdk_52_method_15_code (2 : Nat) (Option.some Jvm.ClassFile.FieldType.byte), Jvm.Cond.code ({ cls := "java/lang/StringLatin1", name := "indexOfChar", desc := "([BIII)I" } : Jvm.MethodName) jdk_43_method_23_code (6 : Nat) (Option.some Jvm.ClassFile.FieldType.int), Jvm.Cond.code ({ cls := "java/lang/String", name := "substring", desc := "(II)Ljava/lang/String;" } : Jvm.MethodName) jdk_42_method_92_code (5 : Nat) (Option.some (Jvm.ClassFile.FieldType.object "java/lang/String")), Jvm.Cond.code ({ cls := "java/lang/String", name := "checkBoundsBeginEnd", desc := "(III)V" } : Jvm.MethodName) jdk_42_method_158_code (3 : Nat) (Option.none : Option Jvm.ClassFile.FieldType), Jvm.Cond.code ({ cls := "jdk/internal/util/Preconditions", name := "checkFromToIndex", desc := "(IIILjava/util/function/BiFunction;)I" } : Jvm.MethodName) jdk_41_method_12_code (4 : Nat) (Option.some Jvm.ClassFile.FieldType.int), Jvm.Cond.code ({ cls := "java/lang/StringLatin1", name := "newString", desc := "([BII)Ljava/lang/String;" } : Jvm.MethodName) jdk_43_method_47_code (3 : Nat) (Option.some (Jvm.ClassFile.FieldType.object "java/lang/String")), Jvm.Cond.code ({ cls := "java/util/Arrays", name := "copyOfRange", desc := "([BII)[B" } : Jvm.MethodName) jdk_65_method_132_code (3 : Nat) (Option.some (Jvm.ClassFile.FieldType.array Jvm.ClassFile.FieldType.byte)), Jvm.Cond.code ({ cls := "java/util/Arrays", name := "copyOfRangeByte", desc := "([BII)[B" } : Jvm.MethodName) jdk_65_method_133_code (5 : Nat) (Option.some (Jvm.ClassFile.FieldType.array Jvm.ClassFile.FieldType.byte)), Jvm.Cond.code ({ cls := "java/util/Arrays", name := "checkLength", desc := "(II)V" } : Jvm.MethodName) jdk_65_method_131_code (2 : Nat) (Option.none : Option Jvm.ClassFile.FieldType), Jvm.Cond.code ({ cls := "java/lang/String", name := "<init>", desc := "([BB)V" } : Jvm.MethodName) jdk_42_method_151_code (3 : Nat) (Option.none : Option Jvm.ClassFile.FieldType)]
set_option maxRecDepth 65536 in
theorem codes_eq : words1.filter isCode = codes1 := rfl
theorem w_codes : ∀ c ∈ words1.filter isCode, c.before args0 about1 = true := by
  rw [codes_eq]
  intro c hc
  simp only [codes1, List.mem_cons, List.not_mem_nil, or_false] at hc
  rcases hc with rfl | rfl | rfl | rfl | rfl | rfl | rfl | rfl | rfl | rfl | rfl | rfl | rfl | rfl | rfl | rfl | rfl | rfl | rfl | rfl | rfl | rfl | rfl | rfl | rfl | rfl | rfl | rfl | rfl
  · exact w_c0
  · exact w_c1
  · exact w_c2
  · exact w_c3
  · exact w_c4
  · exact w_c5
  · exact w_c6
  · exact w_c7
  · exact w_c8
  · exact w_c9
  · exact w_c10
  · exact w_c11
  · exact w_c12
  · exact w_c13
  · exact w_c14
  · exact w_c15
  · exact w_c16
  · exact w_c17
  · exact w_c18
  · exact w_c19
  · exact w_c20
  · exact w_c21
  · exact w_c22
  · exact w_c23
  · exact w_c24
  · exact w_c25
  · exact w_c26
  · exact w_c27
  · exact w_c28
set_option maxRecDepth 65536 in
theorem w_t1 : (words1.take 24).all (fun c => isCode c || c.before args0 about1) = true := by decide +kernel
set_option maxRecDepth 65536 in
theorem w_t2 : ((words1.drop 24).take 24).all (fun c => isCode c || c.before args0 about1) = true := by decide +kernel
set_option maxRecDepth 65536 in
theorem w_t3 : (((words1.drop 24).drop 24).take 24).all (fun c => isCode c || c.before args0 about1) = true := by decide +kernel
set_option maxRecDepth 65536 in
theorem w_t4 : ((((words1.drop 24).drop 24).drop 24).take 24).all (fun c => isCode c || c.before args0 about1) = true := by decide +kernel
set_option maxRecDepth 65536 in
theorem w_t5 : (((((words1.drop 24).drop 24).drop 24).drop 24).take 24).all (fun c => isCode c || c.before args0 about1) = true := by decide +kernel
set_option maxRecDepth 65536 in
theorem w_t6 : (((((words1.drop 24).drop 24).drop 24).drop 24).drop 24).all (fun c => isCode c || c.before args0 about1) = true := by decide +kernel
theorem w_tables : (allAtoms (Jvm.Cond.code x code maxLocals ret :: tables_1)).before args0 about1 = true := by
  rw [allAtoms_all]
  show words1.all (fun c => c.before args0 about1) = true
  refine all_split ?_ w_codes
  rw [← List.take_append_drop 24 words1, List.all_append, w_t1, ← List.take_append_drop 24 (words1.drop 24), List.all_append, w_t2, ← List.take_append_drop 24 ((words1.drop 24).drop 24), List.all_append, w_t3, ← List.take_append_drop 24 (((words1.drop 24).drop 24).drop 24), List.all_append, w_t4, ← List.take_append_drop 24 ((((words1.drop 24).drop 24).drop 24).drop 24), List.all_append, w_t5, w_t6]
  rfl
set_option maxRecDepth 65536 in
theorem w_rest : rest_1_c.before args0 about1 = true := by decide +kernel
set_option maxRecDepth 65536 in
theorem w_case : (Jvm.Cond.and given_1 narrow_1).before args0 about1 = true := by decide +kernel
set_option maxRecDepth 65536 in
theorem w_consts : constsHeld consts_1 about1 := Jvm.Lit.constsHeldB_iff.mp (by decide +kernel)
theorem w_applies : (headSpec (Jvm.Cond.code x code maxLocals ret :: tables_1) room_1).applies x e0.platform about1 = true :=
  (Spec.applies_iff w_frames).mpr ⟨w_running, w_runnable, w_alone, w_named, w_hears, w_ripe, w_room, w_tables⟩
theorem atStart : AtStart classFile x code maxLocals ret World_1 tables_1 room_1 Calls_1 rest_1 Pre_1 launch0 p0 e0 about1 theMethod args0 below0 :=
  ⟨lists_1, trivial, launch0.admits_env _ _ _, launch0.least_env, fairChoices_fair.cas, fairChoices_fair.clock, w_frames, w_args, w_heap, w_applies, ⟨w_consts, trivial⟩, w_rest, w_case⟩
end start1
theorem witness_1 : WitnessClaimed_1 := ⟨start1.p0, start1.e0, start1.about1, start1.theMethod, start1.args0, start1.below0, start1.atStart⟩
end Jvm.Pilot.@@N@@
