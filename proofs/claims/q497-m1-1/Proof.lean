import JvmDerived
import JvmDerived.Pilot.@@N@@Statement
import JvmDerived.Pilot.@@N@@Code
set_option linter.unusedVariables false
set_option linter.unusedSimpArgs false
/- laws to paste: Road.backV, Road.lenW, Road.chN, Road.eqW, Road.codOf (cut by pick.py; bodies as the Statement names them) -/
namespace Jvm.Pilot.@@N@@
namespace StrChars
open Jvm Sem ClassFile Op Lib Jvm.Stand Jvm.Free.XT Jvm.Free.ALB Jvm.Free.JM Jvm.Free
open Jvm.Lib.Cold (StaticIs)
/-- a char array whose places are chars -/
def Ch (a : Addr) (A : Cell) (U : State) : Prop := Arr .char a A U ∧ Typed .char A
theorem Ch.mv {a : Addr} {A : Cell} {U U' : State} (h : Ch a A U) (hal : U.vm.Alike U'.vm) (hh : U'.heap = U.heap) : Ch a A U' := ⟨h.1.mv hal hh, h.2⟩
theorem Ch.keep {a : Addr} {A : Cell} {U U' : State} (h : Ch a A U) (hal : U.vm.Alike U'.vm) (hk : U'.heap[a]? = some A) : Ch a A U' := ⟨h.1.keep hal hk, h.2⟩
/-- what place i of a char[]'s cell holds -/
def cv (A : Cell) (i : Nat) : Int32 := match A.slots[i]? with | some (.int x) => x | _ => 0
theorem Ch.get {a : Addr} {A : Cell} {U : State} (h : Ch a A U) {i : Nat} (hi : i < A.slots.size) : A.slots[i]? = some (.int (cv A i)) := by
  have e := Array.getElem?_eq_getElem hi
  have f := h.2 i _ e
  unfold cv; rw [e]
  generalize A.slots[i] = v at f
  cases v <;> simp [fits] at f ⊢
/-- the byte that i2b leaves of a char -/
def lo8 (x : Int32) : Int32 := x.toInt8.toInt32
theorem fits_lo8 (y : Int32) : fits .byte (.int (lo8 y)) = true := by
  have h1 := y.toInt8.le_toInt
  have h2 := y.toInt8.toInt_lt
  simp only [lo8, fits, Bool.and_eq_true, decide_eq_true_eq, Int32.le_iff_toInt_le, Int8.toInt_toInt32, show (-128 : Int32).toInt = -128 from by decide, show (127 : Int32).toInt = 127 from by decide]
  omega
/-- A' is A but that each place j of lo .. hi - 1 holds f j -/
def Laid (A A' : Cell) (lo hi : Nat) (f : Nat → Value) : Prop := A'.cls = A.cls ∧ A'.vm = A.vm ∧ A'.slots.size = A.slots.size ∧ ∀ i, A'.slots[i]? = if lo ≤ i ∧ i < hi then some (f i) else A.slots[i]?
theorem Laid.zero (A : Cell) (lo : Nat) (f : Nat → Value) : Laid A A lo (lo + 0) f := ⟨rfl, rfl, rfl, fun i => by rw [if_neg (by omega)]⟩
theorem Laid.step {A Ak : Cell} {lo k : Nat} {f : Nat → Value} {v : Value} (h : Laid A Ak lo k f) (hlo : lo ≤ k) (hk : k < Ak.slots.size) (hv : v = f k) : Laid A (Ak.setSlot k v) lo (k + 1) f := by
  refine ⟨h.1, h.2.1, by simpa [Cell.setSlot] using h.2.2.1, fun i => ?_⟩
  by_cases e : k = i
  · subst e; rw [Cell.slots_setSlot_self v hk, if_pos (by omega), hv]
  · rw [Cell.slots_setSlot_ne v e, h.2.2.2 i]
    by_cases q : lo ≤ i ∧ i < k
    · rw [if_pos q, if_pos (by omega)]
    · rw [if_neg q, if_neg (by omega)]
def U16 : String := "java/lang/StringUTF16"
namespace Cmp5
def yN : MethodName := ⟨"java/lang/StringUTF16", "compress", "([CI[BII)I"⟩
abbrev yB : ByteArray := jdk_52_method_21_code
theorem d0 : decode yB 0 = .ok (.iconst 0, 1) := by decide +kernel
theorem d1 : decode yB 1 = .ok (.istore 5, 2) := by decide +kernel
theorem d3 : decode yB 3 = .ok (.iload 5, 2) := by decide +kernel
theorem d5 : decode yB 5 = .ok (.iload 4, 2) := by decide +kernel
theorem d7 : decode yB 7 = .ok (.if_icmp (.ge) 37, 3) := by decide +kernel
theorem d10 : decode yB 10 = .ok (.aload_n 0, 1) := by decide +kernel
theorem d11 : decode yB 11 = .ok (.iload_n 1, 1) := by decide +kernel
theorem d12 : decode yB 12 = .ok (.caload, 1) := by decide +kernel
theorem d13 : decode yB 13 = .ok (.istore 6, 2) := by decide +kernel
theorem d15 : decode yB 15 = .ok (.iload 6, 2) := by decide +kernel
theorem d17 : decode yB 17 = .ok (.sipush 255, 3) := by decide +kernel
theorem d20 : decode yB 20 = .ok (.if_icmp (.le) 6, 3) := by decide +kernel
theorem d26 : decode yB 26 = .ok (.aload_n 2, 1) := by decide +kernel
theorem d27 : decode yB 27 = .ok (.iload_n 3, 1) := by decide +kernel
theorem d28 : decode yB 28 = .ok (.iload 6, 2) := by decide +kernel
theorem d30 : decode yB 30 = .ok (.i2b, 1) := by decide +kernel
theorem d31 : decode yB 31 = .ok (.bastore, 1) := by decide +kernel
theorem d32 : decode yB 32 = .ok (.iinc 1 1, 3) := by decide +kernel
theorem d35 : decode yB 35 = .ok (.iinc 3 1, 3) := by decide +kernel
theorem d38 : decode yB 38 = .ok (.iinc 5 1, 3) := by decide +kernel
theorem d41 : decode yB 41 = .ok (.goto (-38), 3) := by decide +kernel
theorem d44 : decode yB 44 = .ok (.iload 4, 2) := by decide +kernel
theorem d46 : decode yB 46 = .ok (.ireturn, 1) := by decide +kernel
def site : List Cond := []
def tab : Cond := tabOf yN yB 7 (some .int) site
def P (b : Addr) (A : Cell) (d : Addr) (B : Cell) (o q len : Nat) (args : Array Value) (s : State) : Prop := args = #[.ref b, .int (Int32.ofNat o), .ref d, .int (Int32.ofNat q), .int (Int32.ofNat len)] ∧ Ch b A s ∧ Arr .byte d B s ∧ b ≠ d ∧ o + len ≤ A.slots.size ∧ q + len ≤ B.slots.size ∧ ∀ i, i < len → ¬ 255 < cv A (o + i)
def E (b : Addr) (A : Cell) (d : Addr) (B : Cell) (o q len : Nat) (r : Option Value) (s u : State) : Prop := r = some (.int (Int32.ofNat len)) ∧ ∃ B', Put d B' s u ∧ Laid B B' q (q + len) (fun j => Value.int (lo8 (cv A (o + (j - q)))))
/-- no char of the range above 255: len; the places written hold each char's low byte -/
theorem law (l : Launch) (b : Addr) (A : Cell) (d : Addr) (B : Cell) (o q len : Nat) : Law l yN 5 5 0 0 yB 7 (some .int) site (P b A d B o q len) (E b A d B o q len) (copyLocs d q len) 0 0 := by
  refine Law.of_walk (plainFor_of_name (by decide +kernel)) (by decide +kernel) (by decide +kernel) (by decide) (fun _ _ h => by rw [h.1]; rfl) (fun _ U U' hal hh h => ⟨h.1, h.2.1.mv hal hh, h.2.2.1.mv hal hh, h.2.2.2⟩) (fun r U U' V V' h1 hal h2 h => ⟨h.1, h.2.elim fun B' q => ⟨B', q.1.mv h1 h2, q.2⟩⟩) ?_
  intro p e s m args below meth c s₁ X0 hexec hbytes hml hret hlk hnm hown hh0 W hP
  obtain ⟨rfl, hA, hB, hne, l1, l2, hp⟩ := hP
  have c1 : Steps p.tables e below (s₁.setTop (entryFrame m #[.ref b, .int (Int32.ofNat o), .ref d, .int (Int32.ofNat q), .int (Int32.ofNat len)] 7)) (s₁.setTop (mkF m 0 #[.val (.ref b), .val (.int (Int32.ofNat o)), .val (.ref d), .val (.int (Int32.ofNat q)), .val (.int (Int32.ofNat len)), .unset, .unset] [])) := entry rfl
  have hA0 := hA.1.mv X0.warmed.alike hh0
  have hB0 := hB.mv X0.warmed.alike hh0
  have a31 := hA.1.2.2.2
  have c2 : Steps p.tables e below (s₁.setTop (entryFrame m #[.ref b, .int (Int32.ofNat o), .ref d, .int (Int32.ofNat q), .int (Int32.ofNat len)] 7)) (s₁.setTop (mkF m 3 #[.val (.ref b), .val (.int (Int32.ofNat o)), .val (.ref d), .val (.int (Int32.ofNat q)), .val (.int (Int32.ofNat len)), .val (.int 0), .unset] [])) := c1.trans (by
    refine iconstV X0.here hexec rfl 0 (hb hbytes d0) (by decide) ?_
    refine XS.istore X0.here hexec rfl (hb hbytes d1) rfl rfl ?_
    exact Steps.refl _)
  have loop : ∀ (r i : Nat), i + r = len → ∀ (z : Slot), (z = .unset ∨ ∃ w, z = .val w ∧ w.category = 1) → ∀ (Tl : State) (Bk : Cell), Stand p l e { frames := 0, locals := 0, cells := 0, slots := 0 } s m #[.ref b, .int (Int32.ofNat o), .ref d, .int (Int32.ofNat q), .int (Int32.ofNat len)] below meth c Tl ([] ++ copyLocs d q i) 0 0 → Put d Bk s₁ Tl → Laid B Bk q (q + i) (fun j => Value.int (lo8 (cv A (o + (j - q))))) →
      Steps p.tables e below (s₁.setTop (entryFrame m #[.ref b, .int (Int32.ofNat o), .ref d, .int (Int32.ofNat q), .int (Int32.ofNat len)] 7)) (Tl.setTop (mkF m 3 #[.val (.ref b), .val (.int (Int32.ofNat (o + i))), .val (.ref d), .val (.int (Int32.ofNat (q + i))), .val (.int (Int32.ofNat len)), .val (.int (Int32.ofNat i)), z] [])) → ∃ (T' : State) (B' : Cell) (z' : Slot), Stand p l e { frames := 0, locals := 0, cells := 0, slots := 0 } s m #[.ref b, .int (Int32.ofNat o), .ref d, .int (Int32.ofNat q), .int (Int32.ofNat len)] below meth c T' ([] ++ copyLocs d q len) 0 0 ∧ Put d B' s₁ T' ∧ Laid B B' q (q + len) (fun j => Value.int (lo8 (cv A (o + (j - q))))) ∧
      Steps p.tables e below (s₁.setTop (entryFrame m #[.ref b, .int (Int32.ofNat o), .ref d, .int (Int32.ofNat q), .int (Int32.ofNat len)] 7)) (T'.setTop (mkF m 3 #[.val (.ref b), .val (.int (Int32.ofNat (o + len))), .val (.ref d), .val (.int (Int32.ofNat (q + len))), .val (.int (Int32.ofNat len)), .val (.int (Int32.ofNat len)), z'] [])) := by
    intro r
    induction r with
    | zero =>
      intro i hi z hz Tl Bk Xl pl fl cl
      have hil : i = len := by omega
      rw [hil] at Xl fl cl
      exact ⟨Tl, Bk, z, Xl, pl, fl, cl⟩
    | succ r ih =>
      intro i hi z hz Tl Bk Xl pl fl cl
      have all := X0.warmed.alike.symm.trans Xl.warmed.alike
      have hAl := hA0.keep all (pl.other hne hA0.1)
      have hBk := hB0.like all pl.1 fl.1 fl.2.1 fl.2.2.1
      have hlt : q + i < Bk.slots.size := by rw [fl.2.2.1]; omega
      have c3 : Steps p.tables e below (s₁.setTop (entryFrame m #[.ref b, .int (Int32.ofNat o), .ref d, .int (Int32.ofNat q), .int (Int32.ofNat len)] 7)) (Tl.setTop (mkF m 12 #[.val (.ref b), .val (.int (Int32.ofNat (o + i))), .val (.ref d), .val (.int (Int32.ofNat (q + i))), .val (.int (Int32.ofNat len)), .val (.int (Int32.ofNat i)), z] [.int (Int32.ofNat (o + i)), .ref b])) := cl.trans (by
        refine XS.iload Xl.here hexec rfl (hb hbytes d3) rfl ?_
        refine XS.iload Xl.here hexec rfl (hb hbytes d5) rfl ?_
        refine XS.icmpNo Xl.here hexec rfl (hb hbytes d7) rfl (ii_ge_f (lt32 (by omega) (by omega))) ?_
        refine XS.aloadN Xl.here hexec rfl (hb hbytes d10) rfl rfl ?_
        refine XS.iloadN Xl.here hexec rfl (hb hbytes d11) rfl ?_
        exact Steps.refl _)
      have c4 : Steps p.tables e below (s₁.setTop (entryFrame m #[.ref b, .int (Int32.ofNat o), .ref d, .int (Int32.ofNat q), .int (Int32.ofNat len)] 7)) (Tl.setTop (mkF m 13 #[.val (.ref b), .val (.int (Int32.ofNat (o + i))), .val (.ref d), .val (.int (Int32.ofNat (q + i))), .val (.int (Int32.ofNat len)), .val (.int (Int32.ofNat i)), z] [.int (cv A (o + i))])) := c3.trans (by
        refine Xl.aget hexec hAl rfl (hA.get (i := o + i) (by omega)) rfl rfl (hb hbytes d12) ?_
        exact Steps.refl _)
      have c5 : Steps p.tables e below (s₁.setTop (entryFrame m #[.ref b, .int (Int32.ofNat o), .ref d, .int (Int32.ofNat q), .int (Int32.ofNat len)] 7)) (Tl.setTop (mkF m 15 #[.val (.ref b), .val (.int (Int32.ofNat (o + i))), .val (.ref d), .val (.int (Int32.ofNat (q + i))), .val (.int (Int32.ofNat len)), .val (.int (Int32.ofNat i)), .val (.int (cv A (o + i)))] [])) := c4.trans (by
        refine XS.istoreS Xl.here hexec rfl (hb hbytes d13) rfl rfl hz ?_
        exact Steps.refl _)
      have c6 : Steps p.tables e below (s₁.setTop (entryFrame m #[.ref b, .int (Int32.ofNat o), .ref d, .int (Int32.ofNat q), .int (Int32.ofNat len)] 7)) (Tl.setTop (mkF m 31 #[.val (.ref b), .val (.int (Int32.ofNat (o + i))), .val (.ref d), .val (.int (Int32.ofNat (q + i))), .val (.int (Int32.ofNat len)), .val (.int (Int32.ofNat i)), .val (.int (cv A (o + i)))] [.int (lo8 (cv A (o + i))), .int (Int32.ofNat (q + i)), .ref d])) := c5.trans (by
        refine XS.iload Xl.here hexec rfl (hb hbytes d15) rfl ?_
        refine sipushV Xl.here hexec rfl 255 (hb hbytes d17) (by decide) ?_
        refine XS.icmpYes Xl.here hexec rfl (pc0 := 20) rfl (hb hbytes d20) rfl (ii_le_t (hp i (by omega))) (by decide) rfl ?_
        refine XS.aloadN Xl.here hexec rfl (hb hbytes d26) rfl rfl ?_
        refine XS.iloadN Xl.here hexec rfl (hb hbytes d27) rfl ?_
        refine XS.iload Xl.here hexec rfl (hb hbytes d28) rfl ?_
        refine i2b Xl.here hexec rfl (hb hbytes d30) rfl ?_
        exact Steps.refl _)
      obtain ⟨T7, X7, p7, st7⟩ := Xl.aput hexec hBk rfl hlt rfl (fits_lo8 (cv A (o + i))) (g := (mkF m 31 #[.val (.ref b), .val (.int (Int32.ofNat (o + i))), .val (.ref d), .val (.int (Int32.ofNat (q + i))), .val (.int (Int32.ofNat len)), .val (.int (Int32.ofNat i)), .val (.int (cv A (o + i)))] [.int (lo8 (cv A (o + i))), .int (Int32.ofNat (q + i)), .ref d])) rfl (rest := []) rfl (hb hbytes d31)
      have c8 : Steps p.tables e below (s₁.setTop (entryFrame m #[.ref b, .int (Int32.ofNat o), .ref d, .int (Int32.ofNat q), .int (Int32.ofNat len)] 7)) (T7.setTop (mkF m 32 #[.val (.ref b), .val (.int (Int32.ofNat (o + i))), .val (.ref d), .val (.int (Int32.ofNat (q + i))), .val (.int (Int32.ofNat len)), .val (.int (Int32.ofNat i)), .val (.int (cv A (o + i)))] [])) := c6.trans (st7 _ (Steps.refl _))
      have c9 : Steps p.tables e below (s₁.setTop (entryFrame m #[.ref b, .int (Int32.ofNat o), .ref d, .int (Int32.ofNat q), .int (Int32.ofNat len)] 7)) (T7.setTop (mkF m 3 #[.val (.ref b), .val (.int (Int32.ofNat (o + i) + 1)), .val (.ref d), .val (.int (Int32.ofNat (q + i) + 1)), .val (.int (Int32.ofNat len)), .val (.int (Int32.ofNat i + 1)), .val (.int (cv A (o + i)))] [])) := c8.trans (by
        refine iincV X7.here hexec rfl 1 (hb hbytes d32) (by decide) rfl rfl ?_
        refine iincV X7.here hexec rfl 1 (hb hbytes d35) (by decide) rfl rfl ?_
        refine iincV X7.here hexec rfl 1 (hb hbytes d38) (by decide) rfl rfl ?_
        refine XS.goto X7.here hexec rfl (pc0 := 41) rfl (hb hbytes d41) (by decide) rfl ?_
        exact Steps.refl _)
      have c10 : Steps p.tables e below (s₁.setTop (entryFrame m #[.ref b, .int (Int32.ofNat o), .ref d, .int (Int32.ofNat q), .int (Int32.ofNat len)] 7)) (T7.setTop (mkF m 3 #[.val (.ref b), .val (.int (Int32.ofNat (o + (i + 1)))), .val (.ref d), .val (.int (Int32.ofNat (q + (i + 1)))), .val (.int (Int32.ofNat len)), .val (.int (Int32.ofNat (i + 1))), .val (.int (cv A (o + i)))] [])) := by
        have := c9
        rw [succ32, succ32, succ32] at this
        exact this
      exact ih (i + 1) (by omega) _ (Or.inr ⟨_, rfl, rfl⟩) T7 _ (by rw [copyLocs_step, ← List.append_assoc]; exact X7) (pl.trans p7) (fl.step (by omega) hlt (by simp)) c10
  obtain ⟨T9, B9, z9, X9, p9, f9, g9⟩ := loop len 0 (by omega) .unset (Or.inl rfl) s₁ B (by simpa [copyLocs] using X0) ⟨hB0.1, fun _ _ => rfl, rfl⟩ (Laid.zero _ _ _) c2
  have c11 : Steps p.tables e below (s₁.setTop (entryFrame m #[.ref b, .int (Int32.ofNat o), .ref d, .int (Int32.ofNat q), .int (Int32.ofNat len)] 7)) (T9.setTop (mkF m 46 #[.val (.ref b), .val (.int (Int32.ofNat (o + len))), .val (.ref d), .val (.int (Int32.ofNat (q + len))), .val (.int (Int32.ofNat len)), .val (.int (Int32.ofNat len)), z9] [.int (Int32.ofNat len)])) := g9.trans (by
    refine XS.iload X9.here hexec rfl (hb hbytes d3) rfl ?_
    refine XS.iload X9.here hexec rfl (hb hbytes d5) rfl ?_
    refine XS.icmpYes X9.here hexec rfl (pc0 := 7) rfl (hb hbytes d7) rfl (ii_ge_t (nlt32 (by omega) (Nat.le_refl _))) (by decide) rfl ?_
    refine XS.iload X9.here hexec rfl (hb hbytes d44) rfl ?_
    exact Steps.refl _)
  exact ⟨T9, some (.int (Int32.ofNat len)), _, _, _, X9, by simp, rfl, rfl, (fun h => by cases h), ⟨rfl, B9, p9.from hh0, f9⟩, fun fs hl => c11.trans (X9.ireturnOut hexec hret rfl (Or.inl rfl) (hb hbytes d46) hl)⟩
end Cmp5
namespace Cmp3
def yN : MethodName := ⟨"java/lang/StringUTF16", "compress", "([CII)[B"⟩
abbrev yB : ByteArray := jdk_52_method_16_code
theorem d0 : decode yB 0 = .ok (.iload_n 2, 1) := by decide +kernel
theorem d1 : decode yB 1 = .ok (.newarray .byte, 2) := by decide +kernel
theorem d3 : decode yB 3 = .ok (.astore_n 3, 1) := by decide +kernel
theorem d4 : decode yB 4 = .ok (.aload_n 0, 1) := by decide +kernel
theorem d5 : decode yB 5 = .ok (.iload_n 1, 1) := by decide +kernel
theorem d6 : decode yB 6 = .ok (.aload_n 3, 1) := by decide +kernel
theorem d7 : decode yB 7 = .ok (.iconst 0, 1) := by decide +kernel
theorem d8 : decode yB 8 = .ok (.iload_n 2, 1) := by decide +kernel
theorem d9 : decode yB 9 = .ok (.invokestatic 115, 3) := by decide +kernel
theorem d12 : decode yB 12 = .ok (.istore 4, 2) := by decide +kernel
theorem d14 : decode yB 14 = .ok (.iload 4, 2) := by decide +kernel
theorem d16 : decode yB 16 = .ok (.iload_n 2, 1) := by decide +kernel
theorem d17 : decode yB 17 = .ok (.if_icmp (.eq) 40, 3) := by decide +kernel
theorem d57 : decode yB 57 = .ok (.aload_n 3, 1) := by decide +kernel
theorem d58 : decode yB 58 = .ok (.areturn, 1) := by decide +kernel
def site : List Cond := [.arrayClass .byte, Cmp5.tab] ++ staticW U16 115 Cmp5.yN
def tab : Cond := tabOf yN yB 6 (some (.array .byte)) site
def P (b : Addr) (A : Cell) (o len : Nat) (args : Array Value) (s : State) : Prop := args = #[.ref b, .int (Int32.ofNat o), .int (Int32.ofNat len)] ∧ Ch b A s ∧ o + len ≤ A.slots.size ∧ len ≤ 536870912 ∧ ∀ i, i < len → ¬ 255 < cv A (o + i)
def E (b : Addr) (A : Cell) (o len : Nat) (r : Option Value) (s u : State) : Prop := NewArr .byte "[B" len (fun j => .int (lo8 (cv A (o + j)))) r s u ∧ u.heap.size = s.heap.size + 1
/-- no char of the range above 255: a new byte[] of their low bytes -/
theorem law (l : Launch) (b : Addr) (A : Cell) (o len : Nat) : Law l yN 3 3 1 18 yB 6 (some (.array .byte)) site (P b A o len) (E b A o len) [] 1 len := by
  refine Law.of_walk (plainFor_of_name (by decide +kernel)) (by decide +kernel) (by decide +kernel) (by decide) (fun _ _ h => by rw [h.1]; rfl) (fun _ U U' hal hh h => ⟨h.1, h.2.1.mv hal hh, h.2.2⟩) (fun r U U' V V' h1 hal h2 h => ⟨NewArr.mv r U U' V V' h1 hal h2 h.1, by rw [h1, h2]; exact h.2⟩) ?_
  intro p e s m args below meth c s₁ X0 hexec hbytes hml hret hlk hnm hown hh0 W hP
  obtain ⟨rfl, hA, l1, l2, hp⟩ := hP
  have a31 := hA.1.2.2.2
  have c1 : Steps p.tables e below (s₁.setTop (entryFrame m #[.ref b, .int (Int32.ofNat o), .int (Int32.ofNat len)] 6)) (s₁.setTop (mkF m 0 #[.val (.ref b), .val (.int (Int32.ofNat o)), .val (.int (Int32.ofNat len)), .unset, .unset, .unset] [])) := entry rfl
  have c2 : Steps p.tables e below (s₁.setTop (entryFrame m #[.ref b, .int (Int32.ofNat o), .int (Int32.ofNat len)] 6)) (s₁.setTop (mkF m 1 #[.val (.ref b), .val (.int (Int32.ofNat o)), .val (.int (Int32.ofNat len)), .unset, .unset, .unset] [.int (Int32.ofNat len)])) := c1.trans (by
    refine XS.iloadN X0.here hexec rfl (hb hbytes d0) rfl ?_
    exact Steps.refl _)
  obtain ⟨T3, B3, X3, ba3, bs3, bv3, bh3, bf3, st3⟩ := X0.anew hexec (atype := .byte) (wk W (.arrayClass .byte)) rfl (by show len * 1 ≤ _; omega) (by omega) (g := (mkF m 1 #[.val (.ref b), .val (.int (Int32.ofNat o)), .val (.int (Int32.ofNat len)), .unset, .unset, .unset] [.int (Int32.ofNat len)])) rfl (hb hbytes d1) (rest := []) rfl (Nat.le_refl _) (by show 0 + len ≤ len; omega)
  rw [hh0] at ba3 st3
  have kp3 : XT.Kept s T3 := (XT.Kept.of_eq hh0).push bh3
  have hA3 := hA.keep X3.warmed.alike (kp3 _ _ hA.1.1)
  have hne : b ≠ s.heap.size := hA.1.ne
  have c4 : Steps p.tables e below (s₁.setTop (entryFrame m #[.ref b, .int (Int32.ofNat o), .int (Int32.ofNat len)] 6)) (T3.setTop (mkF m 3 #[.val (.ref b), .val (.int (Int32.ofNat o)), .val (.int (Int32.ofNat len)), .unset, .unset, .unset] [.ref s.heap.size])) := c2.trans (st3 _ (Steps.refl _))
  have c5 : Steps p.tables e below (s₁.setTop (entryFrame m #[.ref b, .int (Int32.ofNat o), .int (Int32.ofNat len)] 6)) (T3.setTop (mkF m 9 #[.val (.ref b), .val (.int (Int32.ofNat o)), .val (.int (Int32.ofNat len)), .val (.ref s.heap.size), .unset, .unset] [.int (Int32.ofNat len), .int 0, .ref s.heap.size, .int (Int32.ofNat o), .ref b])) := c4.trans (by
    refine XS.astoreN X3.here hexec rfl (hb hbytes d3) rfl rfl rfl ?_
    refine XS.aloadN X3.here hexec rfl (hb hbytes d4) rfl rfl ?_
    refine XS.iloadN X3.here hexec rfl (hb hbytes d5) rfl ?_
    refine XS.aloadN X3.here hexec rfl (hb hbytes d6) rfl rfl ?_
    refine iconstV X3.here hexec rfl 0 (hb hbytes d7) (by decide) ?_
    refine XS.iloadN X3.here hexec rfl (hb hbytes d8) rfl ?_
    exact Steps.refl _)
  obtain ⟨v6, T6, X6, E6, g6⟩ := X3.callS hexec (Cmp5.law l b A s.heap.size B3 o 0 len) hown (wks W (staticW U16 115 Cmp5.yN)) (wk W Cmp5.tab) (W := 0) (Nat.le_of_ble_eq_true rfl) (Nat.le_of_ble_eq_true rfl) (Nat.le_refl _) (by show 0 + len + 0 ≤ len; omega) (g := (mkF m 9 #[.val (.ref b), .val (.int (Int32.ofNat o)), .val (.int (Int32.ofNat len)), .val (.ref s.heap.size), .unset, .unset] [.int (Int32.ofNat len), .int (Int32.ofNat 0), .ref s.heap.size, .int (Int32.ofNat o), .ref b])) rfl (by rw [hml]; rfl) c5 (argsL := [.ref b, .int (Int32.ofNat o), .ref s.heap.size, .int (Int32.ofNat 0), .int (Int32.ofNat len)]) (rest := []) rfl rfl (by show 2 * 0 + 0 ≤ _; decide) (hb hbytes d9) (⟨rfl, hA3, ba3, hne, l1, by rw [bs3]; simp, hp⟩)
  obtain ⟨rfl, B6, p6, f6⟩ := E6
  have c7 : Steps p.tables e below (s₁.setTop (entryFrame m #[.ref b, .int (Int32.ofNat o), .int (Int32.ofNat len)] 6)) (T6.setTop (mkF m 12 #[.val (.ref b), .val (.int (Int32.ofNat o)), .val (.int (Int32.ofNat len)), .val (.ref s.heap.size), .unset, .unset] [.int (Int32.ofNat len)])) := g6
  have c8 : Steps p.tables e below (s₁.setTop (entryFrame m #[.ref b, .int (Int32.ofNat o), .int (Int32.ofNat len)] 6)) (T6.setTop (mkF m 58 #[.val (.ref b), .val (.int (Int32.ofNat o)), .val (.int (Int32.ofNat len)), .val (.ref s.heap.size), .val (.int (Int32.ofNat len)), .unset] [.ref s.heap.size])) := c7.trans (by
    refine XS.istore X6.here hexec rfl (hb hbytes d12) rfl rfl ?_
    refine XS.iload X6.here hexec rfl (hb hbytes d14) rfl ?_
    refine XS.iloadN X6.here hexec rfl (hb hbytes d16) rfl ?_
    refine XS.icmpYes X6.here hexec rfl (pc0 := 17) rfl (hb hbytes d17) rfl (ii_eq_t rfl) (by decide) rfl ?_
    refine XS.aloadN X6.here hexec rfl (hb hbytes d57) rfl rfl ?_
    exact Steps.refl _)
  have X8 := X6.wide (L' := []) (cells' := 1) (slots' := len) (fun x hx hlt => by
    simp only [List.nil_append, copyLocs, List.mem_map, List.mem_range] at hx
    obtain ⟨i, -, rfl⟩ := hx
    exact absurd hlt (Nat.lt_irrefl _)) (Nat.le_refl _) (by omega)
  exact ⟨T6, some (.ref s.heap.size), _, _, _, X8, rfl, rfl, rfl, (fun h => by cases h), ⟨⟨rfl, B6, ba3.like (X3.warmed.alike.symm.trans X6.warmed.alike) p6.1 f6.1 f6.2.1 f6.2.2.1, f6.2.1.trans bv3, by rw [X6.warmed.alike.findClass, f6.1]; exact bf3, by rw [f6.2.2.1, bs3]; simp, fun j hj => by rw [f6.2.2.2 j, if_pos (by omega)]; rfl, kp3.put p6 (Nat.le_refl _)⟩, by rw [p6.2.2, bh3, hh0]; simp⟩, fun fs hl => c8.trans (X8.areturnOut hexec rfl hret rfl (hb hbytes d58) hl)⟩
end Cmp3
namespace CodL
def yN : MethodName := ⟨"java/lang/StringUTF16", "coderFromArrayLen", "([BI)B"⟩
abbrev yB : ByteArray := jdk_52_method_15_code
theorem d0 : decode yB 0 = .ok (.iload_n 1, 1) := by decide +kernel
theorem d1 : decode yB 1 = .ok (.aload_n 0, 1) := by decide +kernel
theorem d2 : decode yB 2 = .ok (.arraylength, 1) := by decide +kernel
theorem d3 : decode yB 3 = .ok (.isub, 1) := by decide +kernel
theorem d4 : decode yB 4 = .ok (.bipush 31, 2) := by decide +kernel
theorem d6 : decode yB 6 = .ok (.iushr, 1) := by decide +kernel
theorem d7 : decode yB 7 = .ok (.i2b, 1) := by decide +kernel
theorem d8 : decode yB 8 = .ok (.ireturn, 1) := by decide +kernel
def site : List Cond := []
def tab : Cond := tabOf yN yB 2 (some .byte) site
def P (d : Addr) (B : Cell) (args : Array Value) (s : State) : Prop := args = #[.ref d, .int (Int32.ofNat B.slots.size)] ∧ Arr .byte d B s
def E (r : Option Value) (s u : State) : Prop := XT.PureE (some (.int 0)) r s u
/-- an array as long as the number of chars: LATIN1 -/
theorem law (l : Launch) (d : Addr) (B : Cell) : Law l yN 2 2 0 0 yB 2 (some .byte) site (P d B) E [] 0 0 := by
  refine Law.of_walk (plainFor_of_name (by decide +kernel)) (by decide +kernel) (by decide +kernel) (by decide) (fun _ _ h => by rw [h.1]; rfl) (fun _ U U' hal hh h => ⟨h.1, h.2.mv hal hh⟩) (fun r U U' V V' h1 hal h2 h => XT.PureE.mv r U U' V V' h1 hal h2 h) ?_
  intro p e s m args below meth c s₁ X0 hexec hbytes hml hret hlk hnm hown hh0 W hP
  obtain ⟨rfl, hB⟩ := hP
  have hB0 := hB.mv X0.warmed.alike hh0
  have c1 : Steps p.tables e below (s₁.setTop (entryFrame m #[.ref d, .int (Int32.ofNat B.slots.size)] 2)) (s₁.setTop (mkF m 0 #[.val (.ref d), .val (.int (Int32.ofNat B.slots.size))] [])) := entry rfl
  have c2 : Steps p.tables e below (s₁.setTop (entryFrame m #[.ref d, .int (Int32.ofNat B.slots.size)] 2)) (s₁.setTop (mkF m 2 #[.val (.ref d), .val (.int (Int32.ofNat B.slots.size))] [.ref d, .int (Int32.ofNat B.slots.size)])) := c1.trans (by
    refine XS.iloadN X0.here hexec rfl (hb hbytes d0) rfl ?_
    refine XS.aloadN X0.here hexec rfl (hb hbytes d1) rfl rfl ?_
    exact Steps.refl _)
  have c3 : Steps p.tables e below (s₁.setTop (entryFrame m #[.ref d, .int (Int32.ofNat B.slots.size)] 2)) (s₁.setTop (mkF m 8 #[.val (.ref d), .val (.int (Int32.ofNat B.slots.size))] [.int (lo8 (ushr (Int32.ofNat B.slots.size - Int32.ofNat B.slots.size) 31))])) := c2.trans (by
    refine X0.alen hexec hB0 rfl rfl (hb hbytes d2) ?_
    refine XS.isub X0.here hexec rfl (hb hbytes d3) rfl ?_
    refine bipushV X0.here hexec rfl 31 (hb hbytes d4) (by decide) ?_
    refine iushr X0.here hexec rfl (hb hbytes d6) rfl ?_
    refine i2b X0.here hexec rfl (hb hbytes d7) rfl ?_
    exact Steps.refl _)
  have e0 : lo8 (ushr (Int32.ofNat B.slots.size - Int32.ofNat B.slots.size) 31) = 0 := by rw [Int32.sub_self]; decide
  rw [e0] at c3
  exact ⟨s₁, some (.int 0), _, _, _, X0, rfl, rfl, rfl, (fun h => by cases h), ⟨rfl, hh0⟩, fun fs hl => c3.trans (X0.ireturnOut hexec hret rfl (Or.inr (Or.inr (Or.inl rfl))) (hb hbytes d8) hl)⟩
end CodL
/-- the String at a is Latin-1 over a new byte[] (the heap's one new cell): the low bytes of the len chars of A from o on; every cell but a is kept -/
def Got (a : Addr) (D : Cell) (fV fC : Field) (A : Cell) (o len : Nat) (r : Option Value) (s u : State) : Prop := r = none ∧ ∃ D' V : Cell, Blank "java/lang/String" a D' u ∧ Same D D' [fV.slot, fC.slot] ∧ D'.slots[fV.slot]? = some (.ref s.heap.size) ∧ D'.slots[fC.slot]? = some (.int 0) ∧ Arr .byte s.heap.size V u ∧ V.vm = .none ∧ u.vm.findClass "[B" = some V.cls ∧ V.slots.size = len ∧ (∀ j, j < len → V.slots[j]? = some (.int (lo8 (cv A (o + j))))) ∧ (∀ (y : Addr) (c : Cell), y ≠ a → s.heap[y]? = some c → u.heap[y]? = some c) ∧ u.heap.size = s.heap.size + 1
theorem Got.mv {a : Addr} {D A : Cell} {fV fC : Field} {o len : Nat} : ∀ r (U U' V V' : State), U'.heap = U.heap → V.vm.Alike V'.vm → V'.heap = V.heap → Got a D fV fC A o len r U V → Got a D fV fC A o len r U' V' :=
  fun r U U' V V' h1 hal h2 ⟨e0, D', X, a1, a2, a3, a4, a5, a6, a7, a8, a9, a10, a11⟩ => ⟨e0, D', X, a1.mv hal h2, a2, by rw [h1]; exact a3, a4, by rw [h1]; exact a5.mv hal h2, a6, by rw [hal.findClass]; exact a7, a8, a9, by rw [h1, h2]; exact a10, by rw [h1, h2]; exact a11⟩
namespace New4
def yN : MethodName := ⟨"java/lang/String", "<init>", "([CIILjava/lang/Void;)V"⟩
abbrev yB : ByteArray := jdk_42_method_149_code
theorem d0 : decode yB 0 = .ok (.aload_n 0, 1) := by decide +kernel
theorem d1 : decode yB 1 = .ok (.invokespecial 1, 3) := by decide +kernel
theorem d4 : decode yB 4 = .ok (.iload_n 3, 1) := by decide +kernel
theorem d5 : decode yB 5 = .ok (.ifCond (.ne) 22, 3) := by decide +kernel
theorem d27 : decode yB 27 = .ok (.getstatic 38, 3) := by decide +kernel
theorem d30 : decode yB 30 = .ok (.ifCond (.eq) 28, 3) := by decide +kernel
theorem d33 : decode yB 33 = .ok (.aload_n 1, 1) := by decide +kernel
theorem d34 : decode yB 34 = .ok (.iload_n 2, 1) := by decide +kernel
theorem d35 : decode yB 35 = .ok (.iload_n 3, 1) := by decide +kernel
theorem d36 : decode yB 36 = .ok (.invokestatic 177, 3) := by decide +kernel
theorem d39 : decode yB 39 = .ok (.astore 5, 2) := by decide +kernel
theorem d41 : decode yB 41 = .ok (.aload_n 0, 1) := by decide +kernel
theorem d42 : decode yB 42 = .ok (.aload 5, 2) := by decide +kernel
theorem d44 : decode yB 44 = .ok (.iload_n 3, 1) := by decide +kernel
theorem d45 : decode yB 45 = .ok (.invokestatic 47, 3) := by decide +kernel
theorem d48 : decode yB 48 = .ok (.putfield 15, 3) := by decide +kernel
theorem d51 : decode yB 51 = .ok (.aload_n 0, 1) := by decide +kernel
theorem d52 : decode yB 52 = .ok (.aload 5, 2) := by decide +kernel
theorem d54 : decode yB 54 = .ok (.putfield 9, 3) := by decide +kernel
theorem d57 : decode yB 57 = .ok (.return_, 1) := by decide +kernel
def site : List Cond := [.fieldLink "java/lang/String" 38 "java/lang/String" "COMPACT_STRINGS" "Z", Cmp3.tab, CodL.tab, .laysFinal "java/lang/String" "java/lang/String" "value" "[B", .fieldLink "java/lang/String" 9 "java/lang/String" "value" "[B", .laysFinal "java/lang/String" "java/lang/String" "coder" "B", .fieldLink "java/lang/String" 15 "java/lang/String" "coder" "B"] ++ objW "java/lang/String" 1 ++ staticW "java/lang/String" 177 Cmp3.yN ++ staticW "java/lang/String" 47 CodL.yN
def tab : Cond := tabOf yN yB 6 none site
def P (a : Addr) (D : Cell) (fV fC : Field) (b : Addr) (A : Cell) (z : Int32) (o len : Nat) (args : Array Value) (s : State) : Prop := args = #[.ref a, .ref b, .int (Int32.ofNat o), .int (Int32.ofNat len), .null] ∧ Blank "java/lang/String" a D s ∧ Found "java/lang/String" "value" "[B" fV s ∧ Found "java/lang/String" "coder" "B" fC s ∧ Ch b A s ∧ StaticIs s "java/lang/String" "COMPACT_STRINGS" "Z" (.int z) ∧ ¬ z = 0 ∧ 0 < len ∧ o + len ≤ A.slots.size ∧ len ≤ 536870912 ∧ ∀ i, i < len → ¬ 255 < cv A (o + i)
def E (a : Addr) (D : Cell) (fV fC : Field) (A : Cell) (o len : Nat) (r : Option Value) (s u : State) : Prop := Got a D fV fC A o len r s u
/-- len > 0, no char of the range above 255: a Latin-1 String of their low bytes -/
theorem law (l : Launch) (a : Addr) (D : Cell) (fV fC : Field) (b : Addr) (A : Cell) (z : Int32) (o len : Nat) : Law l yN 5 4 2 35 yB 6 none site (P a D fV fC b A z o len) (E a D fV fC A o len) [⟨a, fC.slot⟩, ⟨a, fV.slot⟩] 1 len := by
  refine Law.of_walk (plainFor_of_name (by decide +kernel)) (by decide +kernel) (by decide +kernel) (by decide) (fun _ _ h => by rw [h.1]; rfl) (fun _ U U' hal hh h => ⟨h.1, h.2.1.mv hal hh, h.2.2.1.al hal, h.2.2.2.1.al hal, h.2.2.2.2.1.mv hal hh, h.2.2.2.2.2.1.there hal hh, h.2.2.2.2.2.2⟩) (fun r U U' V V' h1 hal h2 h => Got.mv r U U' V V' h1 hal h2 h) ?_
  intro p e s m args below meth c s₁ X0 hexec hbytes hml hret hlk hnm hown hh0 W hP
  obtain ⟨rfl, hB, f1, f2, hA, s1, hz, l0, l1, l2, hp⟩ := hP
  have a31 := hA.1.2.2.2
  have c1 : Steps p.tables e below (s₁.setTop (entryFrame m #[.ref a, .ref b, .int (Int32.ofNat o), .int (Int32.ofNat len), .null] 6)) (s₁.setTop (mkF m 0 #[.val (.ref a), .val (.ref b), .val (.int (Int32.ofNat o)), .val (.int (Int32.ofNat len)), .val .null, .unset] [])) := entry rfl
  have c2 : Steps p.tables e below (s₁.setTop (entryFrame m #[.ref a, .ref b, .int (Int32.ofNat o), .int (Int32.ofNat len), .null] 6)) (s₁.setTop (mkF m 1 #[.val (.ref a), .val (.ref b), .val (.int (Int32.ofNat o)), .val (.int (Int32.ofNat len)), .val .null, .unset] [.ref a])) := c1.trans (by
    refine XS.aloadN X0.here hexec rfl (hb hbytes d0) rfl rfl ?_
    exact Steps.refl _)
  obtain ⟨T3, X3, q3, st3⟩ := X0.oinit hexec hown (wks W (objW "java/lang/String" 1)) (g := (mkF m 1 #[.val (.ref a), .val (.ref b), .val (.int (Int32.ofNat o)), .val (.int (Int32.ofNat len)), .val .null, .unset] [.ref a])) rfl (by rw [hml]; rfl) (rest := []) rfl (hb hbytes d1) (W := 0) (by show 2 * 0 + 0 ≤ _; decide) (Nat.le_of_ble_eq_true rfl) (Nat.le_of_ble_eq_true rfl)
  have hh3 := q3.trans hh0
  have c4 : Steps p.tables e below (s₁.setTop (entryFrame m #[.ref a, .ref b, .int (Int32.ofNat o), .int (Int32.ofNat len), .null] 6)) (T3.setTop (mkF m 27 #[.val (.ref a), .val (.ref b), .val (.int (Int32.ofNat o)), .val (.int (Int32.ofNat len)), .val .null, .unset] [])) := (c2.trans (st3 _ (Steps.refl _))).trans (by
    refine XS.iloadN X3.here hexec rfl (hb hbytes d4) rfl ?_
    refine XS.ifYes X3.here hexec rfl (pc0 := 5) rfl (hb hbytes d5) rfl (i0_ne_t (nz32 (by omega) l0)) (by decide) rfl ?_
    exact Steps.refl _)
  obtain ⟨T5, X5, q5, st5⟩ := X3.sget hexec hown (wk W (.fieldLink "java/lang/String" 38 "java/lang/String" "COMPACT_STRINGS" "Z")) s1 (fun _ _ h => by rw [hh3]; exact h) (g := (mkF m 27 #[.val (.ref a), .val (.ref b), .val (.int (Int32.ofNat o)), .val (.int (Int32.ofNat len)), .val .null, .unset] [])) rfl (hb hbytes d27)
  have hh5 := q5.trans hh3
  have c6 : Steps p.tables e below (s₁.setTop (entryFrame m #[.ref a, .ref b, .int (Int32.ofNat o), .int (Int32.ofNat len), .null] 6)) (T5.setTop (mkF m 30 #[.val (.ref a), .val (.ref b), .val (.int (Int32.ofNat o)), .val (.int (Int32.ofNat len)), .val .null, .unset] [.int z])) := c4.trans (st5 _ (Steps.refl _))
  have c7 : Steps p.tables e below (s₁.setTop (entryFrame m #[.ref a, .ref b, .int (Int32.ofNat o), .int (Int32.ofNat len), .null] 6)) (T5.setTop (mkF m 36 #[.val (.ref a), .val (.ref b), .val (.int (Int32.ofNat o)), .val (.int (Int32.ofNat len)), .val .null, .unset] [.int (Int32.ofNat len), .int (Int32.ofNat o), .ref b])) := c6.trans (by
    refine XS.ifNo X5.here hexec rfl (hb hbytes d30) rfl (i0_eq_f hz) ?_
    refine XS.aloadN X5.here hexec rfl (hb hbytes d33) rfl rfl ?_
    refine XS.iloadN X5.here hexec rfl (hb hbytes d34) rfl ?_
    refine XS.iloadN X5.here hexec rfl (hb hbytes d35) rfl ?_
    exact Steps.refl _)
  obtain ⟨v8, T8, X8, E8, g8⟩ := X5.callS hexec (Cmp3.law l b A o len) hown (wks W (staticW "java/lang/String" 177 Cmp3.yN)) (wk W Cmp3.tab) (W := 0) (Nat.le_of_ble_eq_true rfl) (Nat.le_of_ble_eq_true rfl) (Nat.le_refl _) (by show 0 + len ≤ len; omega) (g := (mkF m 36 #[.val (.ref a), .val (.ref b), .val (.int (Int32.ofNat o)), .val (.int (Int32.ofNat len)), .val .null, .unset] [.int (Int32.ofNat len), .int (Int32.ofNat o), .ref b])) rfl (by rw [hml]; rfl) c7 (argsL := [.ref b, .int (Int32.ofNat o), .int (Int32.ofNat len)]) (rest := []) rfl rfl (by show 2 * 0 + 0 ≤ _; decide) (hb hbytes d36) (⟨rfl, hA.mv X5.warmed.alike hh5, l1, l2, hp⟩)
  obtain ⟨e8, z8⟩ := E8
  obtain ⟨rfl, N, n1, n2, n3, n4, n5, n6⟩ := NewArr.mv _ T5 s _ _ hh5.symm (Vm.Alike.refl _) rfl e8
  rw [hh5] at z8
  have hB1 := hB.keep X8.warmed.alike (n6 _ _ hB.1)
  have hne : s.heap.size ≠ a := (Nat.ne_of_lt (Array.getElem?_eq_some_iff.mp hB.1).1).symm
  have c9 : Steps p.tables e below (s₁.setTop (entryFrame m #[.ref a, .ref b, .int (Int32.ofNat o), .int (Int32.ofNat len), .null] 6)) (T8.setTop (mkF m 39 #[.val (.ref a), .val (.ref b), .val (.int (Int32.ofNat o)), .val (.int (Int32.ofNat len)), .val .null, .unset] [.ref s.heap.size])) := g8
  have c10 : Steps p.tables e below (s₁.setTop (entryFrame m #[.ref a, .ref b, .int (Int32.ofNat o), .int (Int32.ofNat len), .null] 6)) (T8.setTop (mkF m 45 #[.val (.ref a), .val (.ref b), .val (.int (Int32.ofNat o)), .val (.int (Int32.ofNat len)), .val .null, .val (.ref s.heap.size)] [.int (Int32.ofNat N.slots.size), .ref s.heap.size, .ref a])) := by
    have hc : Steps p.tables e below (s₁.setTop (entryFrame m #[.ref a, .ref b, .int (Int32.ofNat o), .int (Int32.ofNat len), .null] 6)) (T8.setTop (mkF m 45 #[.val (.ref a), .val (.ref b), .val (.int (Int32.ofNat o)), .val (.int (Int32.ofNat len)), .val .null, .val (.ref s.heap.size)] [.int (Int32.ofNat len), .ref s.heap.size, .ref a])) := c9.trans (by
      refine XS.astore X8.here hexec rfl (hb hbytes d39) rfl rfl rfl ?_
      refine XS.aloadN X8.here hexec rfl (hb hbytes d41) rfl rfl ?_
      refine XS.aload X8.here hexec rfl (hb hbytes d42) rfl rfl ?_
      refine XS.iloadN X8.here hexec rfl (hb hbytes d44) rfl ?_
      exact Steps.refl _)
    rw [n4]; exact hc
  obtain ⟨v11, T11, X11, E11, g11⟩ := X8.callS hexec (CodL.law l s.heap.size N) hown (wks W (staticW "java/lang/String" 47 CodL.yN)) (wk W CodL.tab) (W := 1) (Nat.le_of_ble_eq_true rfl) (Nat.le_of_ble_eq_true rfl) (Nat.le_refl _) (by show 0 + len + 0 ≤ len; omega) (g := (mkF m 45 #[.val (.ref a), .val (.ref b), .val (.int (Int32.ofNat o)), .val (.int (Int32.ofNat len)), .val .null, .val (.ref s.heap.size)] [.int (Int32.ofNat N.slots.size), .ref s.heap.size, .ref a])) rfl (by rw [hml]; rfl) c10 (argsL := [.ref s.heap.size, .int (Int32.ofNat N.slots.size)]) (rest := [.ref a]) rfl rfl (by show 2 * 0 + (1 + 0) ≤ _; decide) (hb hbytes d45) (⟨rfl, n1⟩)
  obtain ⟨rfl, q11⟩ := E11
  have hB11 := hB1.mv (X8.warmed.alike.symm.trans X11.warmed.alike) q11
  have c12 : Steps p.tables e below (s₁.setTop (entryFrame m #[.ref a, .ref b, .int (Int32.ofNat o), .int (Int32.ofNat len), .null] 6)) (T11.setTop (mkF m 48 #[.val (.ref a), .val (.ref b), .val (.int (Int32.ofNat o)), .val (.int (Int32.ofNat len)), .val .null, .val (.ref s.heap.size)] [.int 0, .ref a])) := g11
  obtain ⟨T13, X13, p13, bl13, sl13, st13⟩ := X11.finit hexec hown (wk W (.fieldLink "java/lang/String" 15 "java/lang/String" "coder" "B")) (Or.inr ⟨_, (wk W (.laysFinal "java/lang/String" "java/lang/String" "coder" "B"))⟩) (Or.inl ⟨rfl, hnm⟩) f2 (Or.inl rfl) hB11 (t := .byte) (by decide +kernel) rfl (g := (mkF m 48 #[.val (.ref a), .val (.ref b), .val (.int (Int32.ofNat o)), .val (.int (Int32.ofNat len)), .val .null, .val (.ref s.heap.size)] [.int 0, .ref a])) rfl (rest := []) rfl (hb hbytes d48)
  have c14 : Steps p.tables e below (s₁.setTop (entryFrame m #[.ref a, .ref b, .int (Int32.ofNat o), .int (Int32.ofNat len), .null] 6)) (T13.setTop (mkF m 54 #[.val (.ref a), .val (.ref b), .val (.int (Int32.ofNat o)), .val (.int (Int32.ofNat len)), .val .null, .val (.ref s.heap.size)] [.ref s.heap.size, .ref a])) := (c12.trans (st13 _ (Steps.refl _))).trans (by
    refine XS.aloadN X13.here hexec rfl (hb hbytes d51) rfl rfl ?_
    refine XS.aload X13.here hexec rfl (hb hbytes d52) rfl rfl ?_
    exact Steps.refl _)
  obtain ⟨T15, X15, p15, bl15, sl15, st15⟩ := X13.finit hexec hown (wk W (.fieldLink "java/lang/String" 9 "java/lang/String" "value" "[B")) (Or.inr ⟨_, (wk W (.laysFinal "java/lang/String" "java/lang/String" "value" "[B"))⟩) (Or.inl ⟨rfl, hnm⟩) f1 (Or.inl rfl) bl13 (t := (.array .byte)) (by decide +kernel) rfl (g := (mkF m 54 #[.val (.ref a), .val (.ref b), .val (.int (Int32.ofNat o)), .val (.int (Int32.ofNat len)), .val .null, .val (.ref s.heap.size)] [.ref s.heap.size, .ref a])) rfl (rest := []) rfl (hb hbytes d54)
  have c16 : Steps p.tables e below (s₁.setTop (entryFrame m #[.ref a, .ref b, .int (Int32.ofNat o), .int (Int32.ofNat len), .null] 6)) (T15.setTop (mkF m 57 #[.val (.ref a), .val (.ref b), .val (.int (Int32.ofNat o)), .val (.int (Int32.ofNat len)), .val .null, .val (.ref s.heap.size)] [])) := c14.trans (st15 _ (Steps.refl _))
  have ap := apart (Or.inr ⟨_, (wk W (.laysFinal "java/lang/String" "java/lang/String" "value" "[B"))⟩) (Or.inr ⟨_, (wk W (.laysFinal "java/lang/String" "java/lang/String" "coder" "B"))⟩) f1 f2 (t₁ := .array .byte) (t₂ := .byte) (by decide +kernel) (by decide +kernel) (by decide)
  have al := X8.warmed.alike.symm.trans X15.warmed.alike
  have n7 : T11.heap[s.heap.size]? = some N := by rw [q11]; exact n1.1
  exact ⟨T15, none, _, _, _, X15, by simp, rfl, by omega, (fun _ => rfl), ⟨rfl, _, N, bl15, ((Same.refl D _).set _ (by simp)).set _ (by simp), sl15, (Cell.slots_setSlot_ne _ ap).trans sl13, n1.keep al (p15.other hne (p13.other hne n7)), n2, by rw [al.findClass]; exact n3, n4, n5, fun y c h1 h2 => p15.other h1 (p13.other h1 (by rw [q11]; exact n6 y c h2)), by rw [p15.2.2, p13.2.2, q11]; exact z8⟩, fun fs hl => c16.trans (X15.returnOut hexec hret (hb hbytes d57) hl)⟩
end New4
namespace New1
def yN : MethodName := ⟨"java/lang/String", "<init>", "([C)V"⟩
abbrev yB : ByteArray := jdk_42_method_3_code
theorem d0 : decode yB 0 = .ok (.aload_n 0, 1) := by decide +kernel
theorem d1 : decode yB 1 = .ok (.aload_n 1, 1) := by decide +kernel
theorem d2 : decode yB 2 = .ok (.iconst 0, 1) := by decide +kernel
theorem d3 : decode yB 3 = .ok (.aload_n 1, 1) := by decide +kernel
theorem d4 : decode yB 4 = .ok (.arraylength, 1) := by decide +kernel
theorem d5 : decode yB 5 = .ok (.aconst_null, 1) := by decide +kernel
theorem d6 : decode yB 6 = .ok (.invokespecial 27, 3) := by decide +kernel
theorem d9 : decode yB 9 = .ok (.return_, 1) := by decide +kernel
def site : List Cond := [New4.tab] ++ initW "java/lang/String" 27 New4.yN
def tab : Cond := tabOf yN yB 2 none site
def P (a : Addr) (D : Cell) (fV fC : Field) (b : Addr) (A : Cell) (z : Int32) (args : Array Value) (s : State) : Prop := args = #[.ref a, .ref b] ∧ Blank "java/lang/String" a D s ∧ Found "java/lang/String" "value" "[B" fV s ∧ Found "java/lang/String" "coder" "B" fC s ∧ Ch b A s ∧ StaticIs s "java/lang/String" "COMPACT_STRINGS" "Z" (.int z) ∧ ¬ z = 0 ∧ 0 < A.slots.size ∧ A.slots.size ≤ 536870912 ∧ ∀ i, i < A.slots.size → ¬ 255 < cv A i
def E (a : Addr) (D : Cell) (fV fC : Field) (A : Cell) (r : Option Value) (s u : State) : Prop := Got a D fV fC A 0 A.slots.size r s u
/-- new String(chars), not empty, no char above 255: a Latin-1 String of their low bytes -/
theorem law (l : Launch) (a : Addr) (D : Cell) (fV fC : Field) (b : Addr) (A : Cell) (z : Int32) : Law l yN 2 1 3 52 yB 2 none site (P a D fV fC b A z) (E a D fV fC A) [⟨a, fC.slot⟩, ⟨a, fV.slot⟩] 1 A.slots.size := by
  refine Law.of_walk (plainFor_of_name (by decide +kernel)) (by decide +kernel) (by decide +kernel) (by decide) (fun _ _ h => by rw [h.1]; rfl) (fun _ U U' hal hh h => ⟨h.1, h.2.1.mv hal hh, h.2.2.1.al hal, h.2.2.2.1.al hal, h.2.2.2.2.1.mv hal hh, h.2.2.2.2.2.1.there hal hh, h.2.2.2.2.2.2⟩) (fun r U U' V V' h1 hal h2 h => Got.mv r U U' V V' h1 hal h2 h) ?_
  intro p e s m args below meth c s₁ X0 hexec hbytes hml hret hlk hnm hown hh0 W hP
  obtain ⟨rfl, hB, f1, f2, hA, s1, hz, l0, l2, hp⟩ := hP
  have c1 : Steps p.tables e below (s₁.setTop (entryFrame m #[.ref a, .ref b] 2)) (s₁.setTop (mkF m 0 #[.val (.ref a), .val (.ref b)] [])) := entry rfl
  have c2 : Steps p.tables e below (s₁.setTop (entryFrame m #[.ref a, .ref b] 2)) (s₁.setTop (mkF m 6 #[.val (.ref a), .val (.ref b)] [.null, .int (Int32.ofNat A.slots.size), .int 0, .ref b, .ref a])) := c1.trans (by
    refine XS.aloadN X0.here hexec rfl (hb hbytes d0) rfl rfl ?_
    refine XS.aloadN X0.here hexec rfl (hb hbytes d1) rfl rfl ?_
    refine iconstV X0.here hexec rfl 0 (hb hbytes d2) (by decide) ?_
    refine XS.aloadN X0.here hexec rfl (hb hbytes d3) rfl rfl ?_
    refine X0.alen hexec (hA.1.mv X0.warmed.alike hh0) rfl rfl (hb hbytes d4) ?_
    refine XS.aconstNull X0.here hexec rfl (hb hbytes d5) ?_
    exact Steps.refl _)
  obtain ⟨v3, T3, X3, E3, g3⟩ := X0.callN hexec (New4.law l a D fV fC b A z 0 A.slots.size) rfl hown (wks W (initW "java/lang/String" 27 New4.yN)) (W New4.tab (by simp only [site, List.mem_cons, List.mem_append, true_or, or_true])) (W := 0) (Nat.le_of_ble_eq_true rfl) (Nat.le_of_ble_eq_true rfl) (Nat.le_refl _) (by show 0 + A.slots.size ≤ A.slots.size; omega) (g := (mkF m 6 #[.val (.ref a), .val (.ref b)] [.null, .int (Int32.ofNat A.slots.size), .int (Int32.ofNat 0), .ref b, .ref a])) rfl (by rw [hml]; rfl) c2 (argsL := [.ref b, .int (Int32.ofNat 0), .int (Int32.ofNat A.slots.size), .null]) (rest := []) rfl rfl (by show 2 * 0 + 0 ≤ _; decide) (hb hbytes d6) (⟨rfl, hB.mv X0.warmed.alike hh0, f1.al X0.warmed.alike, f2.al X0.warmed.alike, hA.mv X0.warmed.alike hh0, s1.there X0.warmed.alike hh0, hz, l0, by omega, l2, fun i hi => by rw [Nat.zero_add]; exact hp i hi⟩)
  have e0 := Got.mv _ s₁ s _ _ hh0.symm (Vm.Alike.refl _) rfl E3
  obtain rfl := e0.1
  have c4 : Steps p.tables e below (s₁.setTop (entryFrame m #[.ref a, .ref b] 2)) (T3.setTop (mkF m 9 #[.val (.ref a), .val (.ref b)] [])) := g3
  exact ⟨T3, none, _, _, _, X3, by simp, rfl, by omega, (fun _ => rfl), e0, fun fs hl => c4.trans (X3.returnOut hexec hret (hb hbytes d9) hl)⟩
theorem pays {l : Launch} {R : Room} {p : Program} {e : Env} {below : List Frame} {s : State} {sargs : Array Value} {len W : Nat} (a : Addr) (D : Cell) (fV fC : Field) (b : Addr) (A : Cell) (z : Int32) (htab : tab.before sargs s = true) (hfr : 4 ≤ R.frames) (hlo : W + 65 ≤ R.locals) :
    Back l R p e below s sargs yN len W (fun A₁ a₁ => A₁.cells + 1 ≤ R.cells ∧ A₁.slots + A.slots.size ≤ R.slots ∧ P a D fV fC b A z a₁ A₁.U) (fun A₁ _ v₁ B₁ => E a D fV fC A v₁ A₁.U B₁.U ∧ B₁.locs = A₁.locs ++ [⟨a, fC.slot⟩, ⟨a, fV.slot⟩] ∧ B₁.cells = A₁.cells + 1 ∧ B₁.slots = A₁.slots + A.slots.size) :=
  (law l a D fV fC b A z).pays htab hfr (by omega)
end New1
/-- the byte, read back as charAt reads it, is the char -/
theorem lo8_mask {x : Int32} (h0 : ¬ x < 0) (h1 : ¬ 255 < x) : lo8 x &&& 255 = x := by
  have t : ∀ k : Fin 256, lo8 (Int32.ofNat k.val) &&& 255 = Int32.ofNat k.val := by decide +kernel
  rw [Int32.lt_iff_toInt_lt] at h0 h1
  have e0 : (0 : Int32).toInt = 0 := rfl
  have e1 : (255 : Int32).toInt = 255 := rfl
  obtain ⟨k, hk⟩ : ∃ k : Nat, x.toInt = k := ⟨x.toInt.toNat, by omega⟩
  have hx : x = Int32.ofNat k := Int32.toInt_inj.mp (by rw [hk, Int32.toInt_ofNat_small (by omega)])
  rw [hx]
  exact t ⟨k, by omega⟩
end StrChars
namespace StrChars.Road
open Jvm Sem ClassFile Op Lib Jvm.Stand Jvm.Free Jvm.Free.XT
open Jvm.Lib.Cold (StaticIs)
abbrev ST : String := "java/lang/String"
/-- every table word that New1's law asks, flat -/
abbrev words : List Jvm.Cond := [.code New1.yN New1.yB 2 none, .initialized ST, .methodLink ST 27 New4.yN, .instanceMethod New4.yN,
  .code New4.yN New4.yB 6 none, .fieldLink ST 38 ST "COMPACT_STRINGS" "Z", .laysFinal ST ST "value" "[B", .fieldLink ST 9 ST "value" "[B", .laysFinal ST ST "coder" "B", .fieldLink ST 15 ST "coder" "B",
  .methodLink ST 1 Lib.objectInit, .instanceMethod Lib.objectInit, .code Lib.objectInit ⟨#[0xb1]⟩ 1 none, .methodLink ST 177 Cmp3.yN, .static Cmp3.yN, .methodLink ST 47 CodL.yN, .static CodL.yN,
  .code Cmp3.yN Cmp3.yB 6 (some (.array .byte)), .initialized U16, .arrayClass .byte, .methodLink U16 115 Cmp5.yN, .static Cmp5.yN, .code Cmp5.yN Cmp5.yB 7 (some .int), .code CodL.yN CodL.yB 2 (some .byte)]
theorem tab_of {a : Array Value} {s : State} (h : ∀ w ∈ words, w.before a s = true) : New1.tab.before a s = true := by
  have h5 : Cmp5.tab.before a s = true := unparts (wk h (.code Cmp5.yN Cmp5.yB 7 (some .int))) (wks h (.initialized Cmp5.yN.cls :: Cmp5.site))
  have hc : CodL.tab.before a s = true := unparts (wk h (.code CodL.yN CodL.yB 2 (some .byte))) (wks h (.initialized CodL.yN.cls :: CodL.site))
  have q5 : ∀ w ∈ Cmp5.tab :: words, w.before a s = true := fun w hw => (List.mem_cons.mp hw).elim (fun e => e ▸ h5) (h w)
  have h3 : Cmp3.tab.before a s = true := unparts (wk q5 (.code Cmp3.yN Cmp3.yB 6 (some (.array .byte)))) (wks q5 (.initialized Cmp3.yN.cls :: Cmp3.site))
  have q3 : ∀ w ∈ Cmp3.tab :: CodL.tab :: words, w.before a s = true := fun w hw => (List.mem_cons.mp hw).elim (fun e => e ▸ h3) fun hw => (List.mem_cons.mp hw).elim (fun e => e ▸ hc) (h w)
  have h4 : New4.tab.before a s = true := unparts (wk q3 (.code New4.yN New4.yB 6 none)) (wks q3 (.initialized New4.yN.cls :: New4.site))
  have q4 : ∀ w ∈ New4.tab :: words, w.before a s = true := fun w hw => (List.mem_cons.mp hw).elim (fun e => e ▸ h4) (h w)
  exact unparts (wk q4 (.code New1.yN New1.yB 2 none)) (wks q4 (.initialized New1.yN.cls :: New1.site))
/-- the words ride from the start Z to the walk's own state -/
theorem moved {Z s : State} {a0 args : Array Value} (hZ : Z.Warmed39 s.vm) (hw : ∀ d ∈ words, d.before a0 Z = true) : ∀ d ∈ words, d.before args s = true := fun d hd => by
  have q := hw d hd
  have t : ∀ d ∈ words, d = .arrayClass .byte ∨ (d.onTables && d.keepsFace) = true := by decide +kernel
  rcases t d hd with rfl | t
  · exact RoadKit.mvA hZ q
  · exact RoadKit.mv hZ q t
/-- WHAT COMES BACK, over the tables of the start Z: h the heap at the call, h' behind it -/
def Q (Z : State) (x : Addr) (A : Cell) (h : Heap) (v : Option Value) (h' : Heap) (L : List Loc) : Prop := v = none ∧ (∀ y ∈ L, y.base = x) ∧ RoadKit.Keep h h' [x] ∧ h'.size = h.size + 1 ∧ RoadKit.Exa Z h' x ST ∧ RoadKit.Fld Z h' x ST "value" "[B" (.ref h.size) ∧ RoadKit.Fld Z h' x ST "coder" "B" (.int 0) ∧
  (∃ V : Cell, RoadKit.Arr Z h' h.size V .byte ∧ V.vm = .none ∧ Z.vm.findClass "[B" = some V.cls ∧ V.slots.size = A.slots.size ∧ ∀ j, j < A.slots.size → V.slots[j]? = some (.int (lo8 (cv A j)))) ∧
  ∀ (O n d : String) (w : Value), RoadKit.Fld Z h x O n d w → RoadKit.slotOf Z O n d ≠ RoadKit.slotOf Z ST "value" "[B" → RoadKit.slotOf Z O n d ≠ RoadKit.slotOf Z ST "coder" "B" → RoadKit.Fld Z h' x O n d w
/-- **new String(chars) AT A CALL, IN THE ROAD'S FORM**: for specialBack behind newO: x the fresh String, b the char[] with the cell A -/
theorem back {p : Program} {l : Launch} {e : Env} {R : Room} {s : State} {args : Array Value} {below : List Frame} {len W : Nat} {Z : State} {a0 : Array Value} {h : Heap} (hZ : Z.Warmed39 s.vm) (hw : ∀ d ∈ words, d.before a0 Z = true) {kI : Nat} (wi : (Jvm.Cond.instantiable ST kI).before a0 Z = true)
    {x b : Addr} {A : Cell} {z : Int32} {v0 c0 : Value} (E : RoadKit.Exa Z h x ST) (V : RoadKit.Fld Z h x ST "value" "[B" v0) (C : RoadKit.Fld Z h x ST "coder" "B" c0) (K : RoadKit.Arr Z h b A .char) (hty : Typed .char A) (S : RoadKit.Sta Z h ST "COMPACT_STRINGS" "Z" (.int z)) (hz : ¬ z = 0)
    (l0 : 0 < A.slots.size) (l2 : A.slots.size ≤ 536870912) (hp : ∀ i, i < A.slots.size → ¬ 255 < cv A i) (hfr : 4 ≤ R.frames) (hlo : W + 65 ≤ R.locals) :
    Back l R p e below s args New1.yN len W (fun P a => a = #[.ref x, .ref b] ∧ P.U.heap = h ∧ P.cells + 1 ≤ R.cells ∧ P.slots + A.slots.size ≤ R.slots)
      (fun P _ v B => ∃ L, Q Z x A h v B.U.heap L ∧ B.locs = P.locs ++ L ∧ B.cells = P.cells + 1 ∧ B.slots = P.slots + A.slots.size) := by
  intro m meth c P g ig mk a X hg hsize hdg hW hn hp'
  obtain ⟨rfl, rfl, r1, r2⟩ := hp'
  have al : Z.vm.Alike P.U.vm := hZ.alike.trans X.warmed.alike
  obtain ⟨D, cfV, kV, iV, fV, hD, gV, stV, knV, obV, asV, slV⟩ := id V
  obtain ⟨D', cfC, kC, iC, fC, hD', gC, stC, -, -, asC, slC⟩ := id C
  cases hD.symm.trans hD'
  obtain ⟨D2, kD, e1, e2, e3, e4, e5⟩ := id E
  cases hD.symm.trans e1
  obtain ⟨c2, k2, i1, i2, i3, -⟩ := Cond.instantiable_spec wi
  cases e2.symm.trans i1
  cases e3.symm.trans i2
  obtain ⟨kU, u1, u2⟩ := al.2.2 _ _ e3
  have hB : Blank ST x D P.U := ⟨hD, ⟨knV, fun q hq => by rw [hq] at obV; cases obV⟩, by rw [al.findClass]; exact e2, kU, u1, by rw [u2]; exact i3, by rw [u2]; exact e5 i3⟩
  have F1 : Found ST "value" "[B" fV P.U := ⟨SBG.found_only al ⟨cfV, kV, iV, gV⟩, stV⟩
  have F2 : Found ST "coder" "B" fC P.U := ⟨SBG.found_only al ⟨cfC, kC, iC, gC⟩, stC⟩
  have hA : Ch b A P.U := ⟨⟨K.1, State.isArrayOf_alike al K.2.1, K.2.2, by omega⟩, hty⟩
  have hS : StaticIs P.U ST "COMPACT_STRINGS" "Z" (.int z) := by
    obtain ⟨cfS, iS, kS, fS, st, cS, t1, t2, t3, t4, t5, t6, t7⟩ := S
    exact StaticIs.there (s := { Z with heap := P.U.heap }) ⟨cfS, iS, kS, fS, st, cS, t1, t2, t3, t4, t5, (fun q => by rw [q] at t6; cases t6), t7⟩ al rfl
  obtain ⟨v, B, X', ⟨⟨hv, E', V', q1, q2, q3, q4, q5, q6, q7, q8, q9, q10, q11⟩, hl, hc, hs⟩, st⟩ := New1.pays x D fV fC b A z (tab_of (moved hZ hw)) hfr hlo m meth c P g ig mk _ X hg hsize hdg hW hn ⟨r1, r2, rfl, hB, F1, F2, hA, hS, hz, l0, l2, hp⟩
  have al' : Z.vm.Alike B.U.vm := hZ.alike.trans X'.warmed.alike
  have hsz : E'.slots.size = D.slots.size := by
    obtain ⟨-, -, -, kB, w1, w2, w3⟩ := q1
    obtain ⟨kB', y1, y2⟩ := al'.2.2 _ _ e3
    rw [q2.2.1] at w1
    cases w1.symm.trans y1
    rw [w3, e5 i3, y2]
  refine ⟨v, B, X', ⟨_, ⟨hv, ?_, ⟨by omega, fun y cy hy hn' => q10 y cy (by simpa using hn') hy, fun y cy hy => ?_⟩, q11, ⟨E', _, q1.1, by rw [q2.2.1]; exact e2, by rw [q2.2.1]; exact e3, by rw [q2.1]; exact obV, fun _ => by rw [hsz]; exact e5 i3⟩,
    ⟨E', cfV, kV, iV, fV, q1.1, gV, stV, by rw [q2.1]; exact knV, by rw [q2.1]; exact obV, by rw [q2.2.1]; exact asV, q3⟩, ⟨E', cfC, kC, iC, fC, q1.1, gC, stC, by rw [q2.1]; exact knV, by rw [q2.1]; exact obV, by rw [q2.2.1]; exact asC, q4⟩,
    ⟨V', ⟨q5.1, State.isArrayOf_alike al'.symm q5.2.1, q5.2.2.1⟩, q6, by rw [← al'.findClass]; exact q7, q8, fun j hj => by have := q9 j hj; rwa [Nat.zero_add] at this⟩, fun O n d w F n1 n2 => ?_⟩, hl, hc, hs⟩, st⟩
  · intro y hy
    simp only [List.mem_cons, List.not_mem_nil, or_false] at hy
    rcases hy with rfl | rfl <;> rfl
  · by_cases q : y = x
    · subst q
      cases hD.symm.trans hy
      exact ⟨E', q1.1, q2.2.1, q2.1, hsz⟩
    · exact ⟨cy, q10 y cy q hy, rfl, rfl, rfl⟩
  · obtain ⟨D3, cf, k, i, f, g1, g2, g3, g4, g5, g6, g7⟩ := F
    cases hD.symm.trans g1
    simp only [RoadKit.slotOf, g2, gV, gC, Option.map_some, Option.getD_some] at n1 n2
    exact ⟨E', cf, k, i, f, q1.1, g2, g3, by rw [q2.1]; exact g4, by rw [q2.1]; exact g5, by rw [q2.2.1]; exact g6, by rw [q2.2.2 f.slot (by simp [n1, n2])]; exact g7⟩
end StrChars.Road
namespace StrChars.Road
open Jvm Sem ClassFile Op Lib Jvm.Stand Jvm.Free Jvm.Free.XT
/-- WHAT COMES BACK, the byte[] as a list of values -/
def QA (Z : State) (x : Addr) (zn : Int32) (cs : List Int32) (h : Heap) (v : Option Value) (h' : Heap) (L : List Loc) : Prop := v = none ∧ (∀ y ∈ L, y.base = x) ∧ RoadKit.Keep h h' [x] ∧ h'.size = h.size + 1 ∧ RoadKit.Exa Z h' x ST ∧ RoadKit.Fld Z h' x ST "value" "[B" (.ref h.size) ∧ RoadKit.Fld Z h' x ST "coder" "B" (.int 0) ∧
  (∃ kb, Z.vm.findClass "[B" = some kb ∧ RoadKit.Arv Z h' h.size kb .byte zn (cs.map fun c => .int (lo8 c)) (.int 0)) ∧
  ∀ (O n d : String) (w : Value), RoadKit.Fld Z h x O n d w → RoadKit.slotOf Z O n d ≠ RoadKit.slotOf Z ST "value" "[B" → RoadKit.slotOf Z O n d ≠ RoadKit.slotOf Z ST "coder" "B" → RoadKit.Fld Z h' x O n d w
/-- **new String(chars) AT A CALL, THE ARRAYS AS LISTS**: the char[] at b holds cs, not empty, no char above 255 -/
theorem backArv {p : Program} {l : Launch} {e : Env} {R : Room} {s : State} {args : Array Value} {below : List Frame} {len W : Nat} {Z : State} {a0 : Array Value} {h : Heap} (hZ : Z.Warmed39 s.vm) (hw : ∀ d ∈ words, d.before a0 Z = true) {kI : Nat} (wi : (Jvm.Cond.instantiable ST kI).before a0 Z = true)
    {x b : Addr} {k : ClassId} {zn z : Int32} {cs : List Int32} {dv v0 c0 : Value} (E : RoadKit.Exa Z h x ST) (V : RoadKit.Fld Z h x ST "value" "[B" v0) (C : RoadKit.Fld Z h x ST "coder" "B" c0) (K : RoadKit.Arv Z h b k .char zn (cs.map Value.int) dv) (S : RoadKit.Sta Z h ST "COMPACT_STRINGS" "Z" (.int z)) (hz : ¬ z = 0)
    (hlen : zn.toNatClampNeg = cs.length) (h0 : 0 < cs.length) (hbig : cs.length ≤ 536870912) (hall : ∀ c ∈ cs, ¬ 255 < c) (hfr : 4 ≤ R.frames) (hlo : W + 65 ≤ R.locals) :
    Back l R p e below s args New1.yN len W (fun P a => a = #[.ref x, .ref b] ∧ P.U.heap = h ∧ P.cells + 1 ≤ R.cells ∧ P.slots + cs.length ≤ R.slots)
      (fun P _ v B => ∃ L, QA Z x zn cs h v B.U.heap L ∧ B.locs = P.locs ++ L ∧ B.cells = P.cells + 1 ∧ B.slots = P.slots + cs.length) := by
  obtain ⟨A, K1, K2, K3, K4, K5, K6⟩ := K
  have e : A.slots.size = cs.length := K3.trans hlen
  have hat : ∀ (i : Nat) (hi : i < cs.length), A.slots[i]? = some (.int cs[i]) := fun i hi => by rw [K5 i (by omega)]; simp [List.getD_eq_getElem?_getD, hi]
  have hcv : ∀ (i : Nat) (hi : i < cs.length), cv A i = cs[i] := fun i hi => by unfold cv; rw [hat i hi]
  have hty : Typed .char A := fun i v hv => by
    have hi : i < A.slots.size := (Array.getElem?_eq_some_iff.mp hv).1
    have q := K5 i hi
    rw [hv] at q
    rw [Option.some.inj q]
    exact K6 i hi
  refine Back.mono (back hZ hw wi E V C K1 hty S hz (by omega) (by omega) (fun i hi => by rw [hcv i (by omega)]; exact hall _ (List.getElem_mem _)) hfr hlo) (fun P a hp => ⟨hp.1, hp.2.1, hp.2.2.1, by rw [e]; exact hp.2.2.2⟩) (fun P a v B hp hq => ?_)
  obtain ⟨L, ⟨q1, q2, q3, q4, q5, q6, q7, ⟨V', v1, v2, v3, v4, v5⟩, q9⟩, hl, hc, hs⟩ := hq
  refine ⟨L, ⟨q1, q2, q3, q4, q5, q6, q7, ⟨V'.cls, v3, V', v1, rfl, by rw [v4, e, hlen], K4, fun i hi => ?_, fun i hi => ?_⟩, q9⟩, hl, hc, by rw [hs, e]⟩
  · have hi' : i < cs.length := by omega
    rw [v5 i (by omega), hcv i hi']; simp [List.getD_eq_getElem?_getD, hi']
  · have hi' : i < cs.length := by omega
    simp only [List.getD_eq_getElem?_getD, List.getElem?_map, List.getElem?_eq_getElem hi', Option.map_some, Option.getD_some]
    exact fits_lo8 _
end StrChars.Road
namespace StrChars.Road
open Jvm Sem ClassFile Op Lib Jvm.Stand Jvm.Free Jvm.Free.XT
/-- WHAT COMES BACK, in the writer's own shape -/
def QV (Z : State) (x : Addr) (N : Int32) (bs : List Int32) (h : Heap) (n0 : Nat) (v : Option Value) (h' : Heap) (L : List Loc) : Prop := v = none ∧ RoadKit.Fr n0 L ∧ RoadKit.Keep h h' [x] ∧ RoadKit.Exa Z h' x ST ∧ RoadKit.Fld Z h' x ST "coder" "B" (.int 0) ∧
  ∃ (t : Addr) (kb : ClassId), n0 ≤ t ∧ h.size ≤ t ∧ ¬ t = x ∧ RoadKit.Fld Z h' x ST "value" "[B" (.ref t) ∧ RoadKit.Arv Z h' t kb .byte N (bs.map Value.int) (.int 0)
/-- **new String(chars) AT A CALL, FOR THE WRITER**: a char[] of n known ints, each 0 to 255 -/
theorem backV {p : Program} {l : Launch} {e : Env} {R : Room} {s : State} {args : Array Value} {below : List Frame} {len W : Nat} {Z : State} {a0 : Array Value} {h : Heap} (hZ : Z.Warmed39 s.vm) (hw : ∀ d ∈ words, d.before a0 Z = true) {kI : Nat} (wi : (Jvm.Cond.instantiable ST kI).before a0 Z = true)
    {x b : Addr} {kC : ClassId} {cs bs : List Int32} {d v0 c0 : Value} {z N : Int32} {n n0 : Nat} (hx0 : n0 ≤ x) (hh0 : n0 ≤ h.size) (E : RoadKit.Exa Z h x ST) (V : RoadKit.Fld Z h x ST "value" "[B" v0) (C : RoadKit.Fld Z h x ST "coder" "B" c0) (K : RoadKit.Arv Z h b kC .char N (cs.map Value.int) d) (S : RoadKit.Sta Z h ST "COMPACT_STRINGS" "Z" (.int z)) (hz : ¬ z = 0)
    (hn : cs.length = n) (hN : N = Int32.ofNat n) (l0 : 0 < n) (l2 : n ≤ 4000) (hp : ∀ c ∈ cs, ¬ c < 0 ∧ ¬ (255 : Int32) < c) (hb : bs = cs.map (fun c => c.toInt8.toInt32)) (hfr : 4 ≤ R.frames) (hlo : W + 65 ≤ R.locals) :
    Back l R p e below s args (⟨"java/lang/String", "<init>", "([C)V"⟩ : MethodName) len W (fun P a => a = #[.ref x, .ref b] ∧ P.U.heap = h ∧ P.cells + 1 ≤ R.cells ∧ P.slots + n ≤ R.slots)
      (fun P _ v B => ∃ L, QV Z x N bs h n0 v B.U.heap L ∧ B.locs = P.locs ++ L ∧ B.cells = P.cells + 1 ∧ B.slots = P.slots + n) := by
  subst hn hN hb
  refine Back.mono (backArv hZ hw wi E V C K S hz (n32 (by omega)) l0 (by omega) (fun c hc => (hp c hc).2) hfr hlo) (fun P a hp => hp) (fun P a v B hp hq => ?_)
  obtain ⟨L, ⟨q1, q2, q3, q4, q5, q6, q7, ⟨kb, v1, v2⟩, q9⟩, hl, hc, hs⟩ := hq
  exact ⟨L, ⟨q1, fun y hy => by rw [q2 y hy]; exact hx0, q3, q5, q7, h.size, kb, hh0, Nat.le_refl _, Nat.ne_of_gt E.lt, q6, by rw [List.map_map]; exact v2⟩, hl, hc, hs⟩
end StrChars.Road
namespace StrChars
open Jvm Sem ClassFile Op Lib Jvm.Stand Jvm.Free.XT Jvm.Free.ALB Jvm.Free.JM Jvm.Free
open Jvm.Lib.Cold (StaticIs)
def hi8 (x : Int32) : Int32 := lo8 (x >>> ((8 : Int32) &&& 31))
/-- what StringUTF16.getChar makes of two bytes -/
def pairCh (u v : Int32) : Int32 := (((u &&& 255) <<< ((0 : Int32) &&& 31)) ||| ((v &&& 255) <<< ((8 : Int32) &&& 31))).toUInt32.toUInt16.toUInt32.toInt32
theorem shr0 (c : Int32) : c >>> ((0 : Int32) &&& 31) = c := by
  have e : ((0 : Int32) &&& 31) = 0 := by decide
  rw [e]
  apply Int32.toBitVec_inj.mp
  rw [Int32.toBitVec_shiftRight]
  have e1 : ((0 : Int32).toBitVec.smod 32) = 0#32 := by decide
  rw [e1, BitVec.sshiftRight_eq']
  exact BitVec.sshiftRight_zero
theorem lo8_and (x : Int32) : (lo8 x &&& 255).toBitVec.toNat = x.toBitVec.toNat % 256 := by
  have h : (lo8 x).toBitVec = (x.toBitVec.signExtend 8).signExtend 32 := by rw [lo8, Int8.toBitVec_toInt32, Int32.toBitVec_toInt8]
  rw [Int32.toBitVec_and, BitVec.toNat_and, h]
  have e : ((x.toBitVec.signExtend 8).signExtend 32).toNat % 256 = x.toBitVec.toNat % 256 := by
    rw [BitVec.toNat_signExtend]
    have hlt := x.toBitVec.isLt
    simp only [BitVec.toNat_setWidth, BitVec.toNat_signExtend]
    split <;> split <;> omega
  rw [← e]
  exact Nat.and_two_pow_sub_one_eq_mod _ 8
theorem pair_says {c : Int32} (h0 : ¬ c < 0) (h1 : ¬ 65535 < c) : pairCh (lo8 c) (hi8 c) = c := by
  rw [Int32.lt_iff_toInt_lt] at h0 h1
  have e0 : (0 : Int32).toInt = 0 := rfl
  have e1 : (65535 : Int32).toInt = 65535 := rfl
  have hc : c.toInt = c.toBitVec.toNat := by
    have := c.toBitVec.isLt
    have e : c.toInt = c.toBitVec.toInt := rfl
    rw [e] at h0 h1
    rw [e]
    rw [BitVec.toInt_eq_toNat_cond] at h0 h1 ⊢
    split at h0 <;> split <;> omega
  have hn : c.toBitVec.toNat < 65536 := by omega
  have a1 := lo8_and c
  have a2 : (hi8 c &&& 255).toBitVec.toNat = c.toBitVec.toNat / 256 := by
    rw [hi8, lo8_and]
    have e : ((8 : Int32) &&& 31) = 8 := by decide
    rw [e, Int32.toBitVec_shiftRight]
    have e2 : ((8 : Int32).toBitVec.smod 32) = 8#32 := by decide
    rw [e2, BitVec.sshiftRight_eq', BitVec.toNat_sshiftRight_of_msb_false (by rw [BitVec.msb_eq_false_iff_two_mul_lt]; omega)]
    show c.toBitVec.toNat >>> 8 % 256 = _
    rw [Nat.shiftRight_eq_div_pow]
    omega
  unfold pairCh
  apply Int32.toBitVec_inj.mp
  apply BitVec.eq_of_toNat_eq
  have f0 : ((0 : Int32) &&& 31) = 0 := by decide
  have f8 : ((8 : Int32) &&& 31) = 8 := by decide
  rw [f0, f8]
  have g : (((lo8 c &&& 255) <<< (0 : Int32)) ||| ((hi8 c &&& 255) <<< (8 : Int32))).toBitVec.toNat = c.toBitVec.toNat := by
    rw [Int32.toBitVec_or, Int32.toBitVec_shiftLeft, Int32.toBitVec_shiftLeft]
    have s0 : ((0 : Int32).toBitVec.smod 32) = 0#32 := by decide
    have s8 : ((8 : Int32).toBitVec.smod 32) = 8#32 := by decide
    rw [s0, s8, BitVec.toNat_or]
    simp only [BitVec.shiftLeft_eq', BitVec.toNat_shiftLeft, a1, a2]
    show (c.toBitVec.toNat % 256) <<< 0 % 2 ^ 32 ||| (c.toBitVec.toNat / 256) <<< 8 % 2 ^ 32 = _
    rw [Nat.shiftLeft_zero, Nat.mod_eq_of_lt (show c.toBitVec.toNat % 256 < 2 ^ 32 by omega), Nat.mod_eq_of_lt (show (c.toBitVec.toNat / 256) <<< 8 < 2 ^ 32 by rw [Nat.shiftLeft_eq]; omega), Nat.or_comm, ← Nat.shiftLeft_add_eq_or_of_lt (by omega), Nat.shiftLeft_eq]
    omega
  show BitVec.toNat (((((lo8 c &&& 255) <<< (0 : Int32)) ||| ((hi8 c &&& 255) <<< (8 : Int32))).toBitVec.setWidth 16).setWidth 32) = _
  rw [BitVec.toNat_setWidth, BitVec.toNat_setWidth, g]
  omega
end StrChars
namespace StrChars
open Jvm Sem ClassFile Op Lib Jvm.Stand Jvm.Free.XT Jvm.Free.ALB Jvm.Free.JM Jvm.Free
open Jvm.Lib.Cold (StaticIs)
theorem shr1 {n : Nat} (h : 2 * n < 2 ^ 31) : Int32.ofNat (2 * n) >>> ((1 : Int32) &&& 31) = Int32.ofNat n := by
  have e : ((1 : Int32) &&& 31) = 1 := by decide
  rw [e]
  apply Int32.toBitVec_inj.mp
  rw [Int32.toBitVec_shiftRight]
  have e1 : ((1 : Int32).toBitVec.smod 32) = 1#32 := by decide
  have hm : (BitVec.ofNat 32 (2 * n)).toNat = 2 * n := by rw [BitVec.toNat_ofNat, Nat.mod_eq_of_lt (by omega)]
  rw [e1, BitVec.sshiftRight_eq']
  apply BitVec.eq_of_toNat_eq
  show ((BitVec.ofNat 32 (2 * n)).sshiftRight 1).toNat = (BitVec.ofNat 32 n).toNat
  rw [BitVec.toNat_sshiftRight_of_msb_false (by rw [BitVec.msb_eq_false_iff_two_mul_lt, hm]; omega), hm, BitVec.toNat_ofNat, Nat.shiftRight_eq_div_pow]
  omega
/-- charAt's cast of a byte read back -/
def chr8 (u : Int32) : Int32 := (u &&& 255).toUInt32.toUInt16.toUInt32.toInt32
theorem chr8_lo8 {c : Int32} (h0 : ¬ c < 0) (h1 : ¬ 255 < c) : chr8 (lo8 c) = c := by
  have t : ∀ k : Fin 256, (Int32.ofNat k.val).toUInt32.toUInt16.toUInt32.toInt32 = Int32.ofNat k.val := by decide +kernel
  unfold chr8
  rw [lo8_mask h0 h1]
  rw [Int32.lt_iff_toInt_lt] at h0 h1
  have e0 : (0 : Int32).toInt = 0 := rfl
  have e1 : (255 : Int32).toInt = 255 := rfl
  obtain ⟨k, hk⟩ : ∃ k : Nat, c.toInt = k := ⟨c.toInt.toNat, by omega⟩
  have hx : c = Int32.ofNat k := Int32.toInt_inj.mp (by rw [hk, Int32.toInt_ofNat_small (by omega)])
  rw [hx]
  exact t ⟨k, by omega⟩
theorem narrow_ch {c : Int32} (h0 : ¬ c < 0) (h1 : ¬ 65535 < c) : narrow .char (.int c) = .int c := by
  have q : narrow .char (.int (pairCh (lo8 c) (hi8 c))) = .int (pairCh (lo8 c) (hi8 c)) := narrow_c _
  rwa [pair_says h0 h1] at q
/-- the array's cell V codes the n chars f 0 .. f (n - 1) by the coder cd, as the JDK does: coder 1 just where some char is above 255 -/
def Cod (cd : Int32) (n : Nat) (f : Nat → Int32) (V : Cell) : Prop := (cd = 0 ∧ V.slots.size = n ∧ ∀ j, j < n → V.slots[j]? = some (.int (lo8 (f j))) ∧ ¬ 255 < f j) ∨ (cd = 1 ∧ V.slots.size = 2 * n ∧ (∀ j, j < n → V.slots[2 * j]? = some (.int (lo8 (f j))) ∧ V.slots[2 * j + 1]? = some (.int (hi8 (f j)))) ∧ ∃ j, j < n ∧ 255 < f j)
theorem Cod.cd {cd : Int32} {n : Nat} {f : Nat → Int32} {V : Cell} (h : Cod cd n f V) : cd = 0 ∨ cd = 1 := h.imp (fun q => q.1) fun q => q.1
theorem Cod.len {cd : Int32} {n : Nat} {f : Nat → Int32} {V : Cell} (h : Cod cd n f V) (hs : V.slots.size < 2 ^ 31) : Int32.ofNat V.slots.size >>> (cd &&& 31) = Int32.ofNat n := by
  rcases h with ⟨rfl, h, -⟩ | ⟨rfl, h, -⟩
  · rw [shr0, h]
  · rw [h, shr1 (by omega)]
/-- **x is a String of the n chars f 0 .. f (n - 1)**, Latin-1 or UTF-16; its array at t has the cell V -/
def Txt (x t : Addr) (V : Cell) (cd : Int32) (n : Nat) (f : Nat → Int32) (U : State) : Prop := Exact "java/lang/String" x U ∧ Has x "java/lang/String" "value" "[B" (.ref t) U ∧ Has x "java/lang/String" "coder" "B" (.int cd) U ∧ XT.Arr .byte t V U ∧ Cod cd n f V ∧ ∀ j, j < n → ¬ f j < 0 ∧ ¬ 65535 < f j
theorem Txt.mv {x t : Addr} {V : Cell} {cd : Int32} {n : Nat} {f : Nat → Int32} {U U' : State} (h : Txt x t V cd n f U) (hal : U.vm.Alike U'.vm) (hh : U'.heap = U.heap) : Txt x t V cd n f U' := ⟨h.1.mv hal hh, h.2.1.mv hal hh, h.2.2.1.mv hal hh, h.2.2.2.1.mv hal hh, h.2.2.2.2⟩
namespace Cdr
def yN : MethodName := ⟨"java/lang/String", "coder", "()B"⟩
abbrev yB : ByteArray := jdk_42_method_152_code
theorem d0 : decode yB 0 = .ok (.getstatic 38, 3) := by decide +kernel
theorem d3 : decode yB 3 = .ok (.ifCond (.eq) 10, 3) := by decide +kernel
theorem d6 : decode yB 6 = .ok (.aload_n 0, 1) := by decide +kernel
theorem d7 : decode yB 7 = .ok (.getfield 15, 3) := by decide +kernel
theorem d10 : decode yB 10 = .ok (.goto 4, 3) := by decide +kernel
theorem d14 : decode yB 14 = .ok (.ireturn, 1) := by decide +kernel
def site : List Cond := [.fieldLink "java/lang/String" 38 "java/lang/String" "COMPACT_STRINGS" "Z", .fieldLink "java/lang/String" 15 "java/lang/String" "coder" "B"]
def tab : Cond := tabOf yN yB 1 (some .byte) site
def P (x : Addr) (cd z : Int32) (args : Array Value) (s : State) : Prop := args = #[.ref x] ∧ Has x "java/lang/String" "coder" "B" (.int cd) s ∧ (cd = 0 ∨ cd = 1) ∧ StaticIs s "java/lang/String" "COMPACT_STRINGS" "Z" (.int z) ∧ ¬ z = 0
def E (cd : Int32) (r : Option Value) (s u : State) : Prop := XT.PureE (some (.int cd)) r s u
theorem law (l : Launch) (x : Addr) (cd z : Int32) : Law l yN 1 0 0 0 yB 1 (some .byte) site (P x cd z) (E cd) [] 0 0 := by
  refine Law.of_walk (plainFor_of_name (by decide +kernel)) (by decide +kernel) (by decide +kernel) (by decide) (fun _ _ h => by rw [h.1]; rfl) (fun _ U U' hal hh h => ⟨h.1, h.2.1.mv hal hh, h.2.2.1, h.2.2.2.1.there hal hh, h.2.2.2.2⟩) (fun r U U' V V' h1 hal h2 h => XT.PureE.mv r U U' V V' h1 hal h2 h) ?_
  intro p e s m args below meth c s₁ X0 hexec hbytes hml hret hlk hnm hown hh0 W hP
  obtain ⟨rfl, hx, hc, s1, hz⟩ := hP
  have c1 : Steps p.tables e below (s₁.setTop (entryFrame m #[.ref x] 1)) (s₁.setTop (mkF m 0 #[.val (.ref x)] [])) := entry rfl
  obtain ⟨T2, X2, q2, st2⟩ := X0.sget hexec hown (wk W (.fieldLink "java/lang/String" 38 "java/lang/String" "COMPACT_STRINGS" "Z")) s1 (fun _ _ h => by rw [hh0]; exact h) (g := (mkF m 0 #[.val (.ref x)] [])) rfl (hb hbytes d0)
  have hh2 := q2.trans hh0
  have c3 : Steps p.tables e below (s₁.setTop (entryFrame m #[.ref x] 1)) (T2.setTop (mkF m 7 #[.val (.ref x)] [.ref x])) := (c1.trans (st2 _ (Steps.refl _))).trans (by
    refine XS.ifNo X2.here hexec rfl (hb hbytes d3) rfl (i0_eq_f hz) ?_
    refine XS.aloadN X2.here hexec rfl (hb hbytes d6) rfl rfl ?_
    exact Steps.refl _)
  obtain ⟨T4, X4, q4, st4⟩ := X2.hget hexec hown (wk W (.fieldLink "java/lang/String" 15 "java/lang/String" "coder" "B")) (hx.mv X2.warmed.alike hh2) (g := (mkF m 7 #[.val (.ref x)] [.ref x])) rfl (rest := []) rfl (hb hbytes d7)
  have c5 : Steps p.tables e below (s₁.setTop (entryFrame m #[.ref x] 1)) (T4.setTop (mkF m 14 #[.val (.ref x)] [.int cd])) := (c3.trans (st4 _ (Steps.refl _))).trans (by
    refine XS.goto X4.here hexec rfl (pc0 := 10) rfl (hb hbytes d10) (by decide) rfl ?_
    exact Steps.refl _)
  exact ⟨T4, some (.int cd), _, _, _, X4, rfl, rfl, rfl, (fun h => by cases h), ⟨rfl, q4.trans hh2⟩, fun fs hl => c5.trans (X4.ireturnOut hexec hret (by rcases hc with rfl | rfl <;> rfl) (Or.inr (Or.inr (Or.inl rfl))) (hb hbytes d14) hl)⟩
end Cdr
namespace Len
def yN : MethodName := ⟨"java/lang/String", "length", "()I"⟩
abbrev yB : ByteArray := jdk_42_method_54_code
theorem d0 : decode yB 0 = .ok (.aload_n 0, 1) := by decide +kernel
theorem d1 : decode yB 1 = .ok (.getfield 9, 3) := by decide +kernel
theorem d4 : decode yB 4 = .ok (.arraylength, 1) := by decide +kernel
theorem d5 : decode yB 5 = .ok (.aload_n 0, 1) := by decide +kernel
theorem d6 : decode yB 6 = .ok (.invokevirtual 335, 3) := by decide +kernel
theorem d9 : decode yB 9 = .ok (.ishr, 1) := by decide +kernel
theorem d10 : decode yB 10 = .ok (.ireturn, 1) := by decide +kernel
def site : List Cond := [.fieldLink "java/lang/String" 9 "java/lang/String" "value" "[B", Cdr.tab] ++ virtW "java/lang/String" 335 "java/lang/String" Cdr.yN Cdr.yN
def tab : Cond := tabOf yN yB 1 (some .int) site
def P (x t : Addr) (V : Cell) (cd : Int32) (n : Nat) (f : Nat → Int32) (z : Int32) (args : Array Value) (s : State) : Prop := args = #[.ref x] ∧ Txt x t V cd n f s ∧ StaticIs s "java/lang/String" "COMPACT_STRINGS" "Z" (.int z) ∧ ¬ z = 0
def E (n : Nat) (r : Option Value) (s u : State) : Prop := XT.PureE (some (.int (Int32.ofNat n))) r s u
/-- length() of a String of n chars, in either coding -/
theorem law (l : Launch) (x t : Addr) (V : Cell) (cd : Int32) (n : Nat) (f : Nat → Int32) (z : Int32) : Law l yN 1 0 1 13 yB 1 (some .int) site (P x t V cd n f z) (E n) [] 0 0 := by
  refine Law.of_walk (plainFor_of_name (by decide +kernel)) (by decide +kernel) (by decide +kernel) (by decide) (fun _ _ h => by rw [h.1]; rfl) (fun _ U U' hal hh h => ⟨h.1, h.2.1.mv hal hh, h.2.2.1.there hal hh, h.2.2.2⟩) (fun r U U' V V' h1 hal h2 h => XT.PureE.mv r U U' V V' h1 hal h2 h) ?_
  intro p e s m args below meth c s₁ X0 hexec hbytes hml hret hlk hnm hown hh0 W hP
  obtain ⟨rfl, hx, s1, hz⟩ := hP
  have v31 := hx.2.2.2.1.2.2.2
  have c1 : Steps p.tables e below (s₁.setTop (entryFrame m #[.ref x] 1)) (s₁.setTop (mkF m 1 #[.val (.ref x)] [.ref x])) := Steps.trans (entry rfl) (by
    show Steps p.tables e below (s₁.setTop (mkF m 0 #[.val (.ref x)] [])) _
    refine XS.aloadN X0.here hexec rfl (hb hbytes d0) rfl rfl ?_
    exact Steps.refl _)
  obtain ⟨T2, X2, q2, st2⟩ := X0.hget hexec hown (wk W (.fieldLink "java/lang/String" 9 "java/lang/String" "value" "[B")) (hx.mv X0.warmed.alike hh0).2.1 (g := (mkF m 1 #[.val (.ref x)] [.ref x])) rfl (rest := []) rfl (hb hbytes d1)
  have hh2 := q2.trans hh0
  have hx2 := hx.mv X2.warmed.alike hh2
  have c3 : Steps p.tables e below (s₁.setTop (entryFrame m #[.ref x] 1)) (T2.setTop (mkF m 6 #[.val (.ref x)] [.ref x, .int (Int32.ofNat V.slots.size)])) := (c1.trans (st2 _ (Steps.refl _))).trans (by
    refine X2.alen hexec hx2.2.2.2.1 rfl rfl (hb hbytes d4) ?_
    refine XS.aloadN X2.here hexec rfl (hb hbytes d5) rfl rfl ?_
    exact Steps.refl _)
  obtain ⟨v4, T4, X4, E4, g4⟩ := X2.callV hexec (Cdr.law l x cd z) hown (wks W (virtW "java/lang/String" 335 "java/lang/String" Cdr.yN Cdr.yN)) rfl (by decide) (wk W Cdr.tab) (W := 1) (Nat.le_of_ble_eq_true rfl) (Nat.le_of_ble_eq_true rfl) (Nat.le_refl _) (Nat.le_refl _) (hx2.1.fc X2.warmed.alike) hx2.1.is (g := (mkF m 6 #[.val (.ref x)] [.ref x, .int (Int32.ofNat V.slots.size)])) rfl (by rw [hml]; rfl) c3 (argsL := []) (rest := [.int (Int32.ofNat V.slots.size)]) rfl rfl (by show 2 * 0 + (1 + 0) ≤ _; decide) (hb hbytes d6) (⟨rfl, hx2.2.2.1, hx.2.2.2.2.1.cd, s1.there X2.warmed.alike hh2, hz⟩)
  obtain ⟨rfl, q4⟩ := E4
  have c5 : Steps p.tables e below (s₁.setTop (entryFrame m #[.ref x] 1)) (T4.setTop (mkF m 10 #[.val (.ref x)] [.int (Int32.ofNat V.slots.size >>> (cd &&& 31))])) := Steps.trans g4 (by
    refine ishr X4.here hexec rfl (hb hbytes d9) rfl ?_
    exact Steps.refl _)
  rw [hx.2.2.2.2.1.len v31] at c5
  exact ⟨T4, some (.int (Int32.ofNat n)), _, _, _, X4, rfl, rfl, rfl, (fun h => by cases h), ⟨rfl, q4.trans hh2⟩, fun fs hl => c5.trans (X4.ireturnOut hexec hret rfl (Or.inl rfl) (hb hbytes d10) hl)⟩
theorem pays {l : Launch} {R : Room} {p : Program} {e : Env} {below : List Frame} {s : State} {sargs : Array Value} {len W : Nat} (x t : Addr) (V : Cell) (cd : Int32) (n : Nat) (f : Nat → Int32) (z : Int32) (htab : tab.before sargs s = true) (hfr : 2 ≤ R.frames) (hlo : W + 25 ≤ R.locals) :
    Back l R p e below s sargs yN len W (fun A₁ a₁ => A₁.cells + 0 ≤ R.cells ∧ A₁.slots + 0 ≤ R.slots ∧ P x t V cd n f z a₁ A₁.U) (fun A₁ _ v₁ B₁ => E n v₁ A₁.U B₁.U ∧ B₁.locs = A₁.locs ++ [] ∧ B₁.cells = A₁.cells + 0 ∧ B₁.slots = A₁.slots + 0) :=
  (law l x t V cd n f z).pays htab hfr (by omega)
end Len
namespace IsL
def yN : MethodName := ⟨"java/lang/String", "isLatin1", "()Z"⟩
abbrev yB : ByteArray := jdk_42_method_154_code
theorem d0 : decode yB 0 = .ok (.getstatic 38, 3) := by decide +kernel
theorem d3 : decode yB 3 = .ok (.ifCond (.eq) 14, 3) := by decide +kernel
theorem d6 : decode yB 6 = .ok (.aload_n 0, 1) := by decide +kernel
theorem d7 : decode yB 7 = .ok (.getfield 15, 3) := by decide +kernel
theorem d10 : decode yB 10 = .ok (.ifCond (.ne) 7, 3) := by decide +kernel
theorem d13 : decode yB 13 = .ok (.iconst 1, 1) := by decide +kernel
theorem d14 : decode yB 14 = .ok (.goto 4, 3) := by decide +kernel
theorem d17 : decode yB 17 = .ok (.iconst 0, 1) := by decide +kernel
theorem d18 : decode yB 18 = .ok (.ireturn, 1) := by decide +kernel
def site : List Cond := [.fieldLink "java/lang/String" 38 "java/lang/String" "COMPACT_STRINGS" "Z", .fieldLink "java/lang/String" 15 "java/lang/String" "coder" "B"]
def tab : Cond := tabOf yN yB 1 (some .boolean) site
def P (x : Addr) (cd z : Int32) (args : Array Value) (s : State) : Prop := args = #[.ref x] ∧ Has x "java/lang/String" "coder" "B" (.int cd) s ∧ (cd = 0 ∨ cd = 1) ∧ StaticIs s "java/lang/String" "COMPACT_STRINGS" "Z" (.int z) ∧ ¬ z = 0
def E (cd : Int32) (r : Option Value) (s u : State) : Prop := XT.PureE (some (.int (1 - cd))) r s u
theorem law (l : Launch) (x : Addr) (cd z : Int32) : Law l yN 1 0 0 0 yB 1 (some .boolean) site (P x cd z) (E cd) [] 0 0 := by
  refine Law.of_walk (plainFor_of_name (by decide +kernel)) (by decide +kernel) (by decide +kernel) (by decide) (fun _ _ h => by rw [h.1]; rfl) (fun _ U U' hal hh h => ⟨h.1, h.2.1.mv hal hh, h.2.2.1, h.2.2.2.1.there hal hh, h.2.2.2.2⟩) (fun r U U' V V' h1 hal h2 h => XT.PureE.mv r U U' V V' h1 hal h2 h) ?_
  intro p e s m args below meth c s₁ X0 hexec hbytes hml hret hlk hnm hown hh0 W hP
  obtain ⟨rfl, hx, hc, s1, hz⟩ := hP
  have c1 : Steps p.tables e below (s₁.setTop (entryFrame m #[.ref x] 1)) (s₁.setTop (mkF m 0 #[.val (.ref x)] [])) := entry rfl
  obtain ⟨T2, X2, q2, st2⟩ := X0.sget hexec hown (wk W (.fieldLink "java/lang/String" 38 "java/lang/String" "COMPACT_STRINGS" "Z")) s1 (fun _ _ h => by rw [hh0]; exact h) (g := (mkF m 0 #[.val (.ref x)] [])) rfl (hb hbytes d0)
  have hh2 := q2.trans hh0
  have c3 : Steps p.tables e below (s₁.setTop (entryFrame m #[.ref x] 1)) (T2.setTop (mkF m 7 #[.val (.ref x)] [.ref x])) := (c1.trans (st2 _ (Steps.refl _))).trans (by
    refine XS.ifNo X2.here hexec rfl (hb hbytes d3) rfl (i0_eq_f hz) ?_
    refine XS.aloadN X2.here hexec rfl (hb hbytes d6) rfl rfl ?_
    exact Steps.refl _)
  obtain ⟨T4, X4, q4, st4⟩ := X2.hget hexec hown (wk W (.fieldLink "java/lang/String" 15 "java/lang/String" "coder" "B")) (hx.mv X2.warmed.alike hh2) (g := (mkF m 7 #[.val (.ref x)] [.ref x])) rfl (rest := []) rfl (hb hbytes d7)
  have c5 : Steps p.tables e below (s₁.setTop (entryFrame m #[.ref x] 1)) (T4.setTop (mkF m 10 #[.val (.ref x)] [.int cd])) := c3.trans (st4 _ (Steps.refl _))
  have c6 : Steps p.tables e below (s₁.setTop (entryFrame m #[.ref x] 1)) (T4.setTop (mkF m 18 #[.val (.ref x)] [.int (1 - cd)])) := by
    rcases hc with rfl | rfl
    · exact c5.trans (by
        refine XS.ifNo X4.here hexec rfl (hb hbytes d10) rfl (i0_ne_f rfl) ?_
        refine iconstV X4.here hexec rfl 1 (hb hbytes d13) (by decide) ?_
        refine XS.goto X4.here hexec rfl (pc0 := 14) rfl (hb hbytes d14) (by decide) rfl ?_
        exact Steps.refl _)
    · exact c5.trans (by
        refine XS.ifYes X4.here hexec rfl (pc0 := 10) rfl (hb hbytes d10) rfl (i0_ne_t (by decide)) (by decide) rfl ?_
        refine iconstV X4.here hexec rfl 0 (hb hbytes d17) (by decide) ?_
        exact Steps.refl _)
  exact ⟨T4, some (.int (1 - cd)), _, _, _, X4, rfl, rfl, rfl, (fun h => by cases h), ⟨rfl, q4.trans hh2⟩, fun fs hl => c6.trans (X4.ireturnOut hexec hret (by rcases hc with rfl | rfl <;> rfl) (Or.inr (Or.inl rfl)) (hb hbytes d18) hl)⟩
end IsL
namespace LChA
def yN : MethodName := ⟨"java/lang/StringLatin1", "charAt", "([BI)C"⟩
abbrev yB : ByteArray := jdk_43_method_2_code
theorem d0 : decode yB 0 = .ok (.iload_n 1, 1) := by decide +kernel
theorem d1 : decode yB 1 = .ok (.aload_n 0, 1) := by decide +kernel
theorem d2 : decode yB 2 = .ok (.arraylength, 1) := by decide +kernel
theorem d3 : decode yB 3 = .ok (.invokestatic 9, 3) := by decide +kernel
theorem d6 : decode yB 6 = .ok (.aload_n 0, 1) := by decide +kernel
theorem d7 : decode yB 7 = .ok (.iload_n 1, 1) := by decide +kernel
theorem d8 : decode yB 8 = .ok (.baload, 1) := by decide +kernel
theorem d9 : decode yB 9 = .ok (.sipush 255, 3) := by decide +kernel
theorem d12 : decode yB 12 = .ok (.iand, 1) := by decide +kernel
theorem d13 : decode yB 13 = .ok (.i2c, 1) := by decide +kernel
theorem d14 : decode yB 14 = .ok (.ireturn, 1) := by decide +kernel
def site : List Cond := [JO.Str_checkIndex.tab] ++ staticW "java/lang/StringLatin1" 9 JO.Str_checkIndex.yN
def tab : Cond := tabOf yN yB 2 (some .char) site
def P (t : Addr) (V : Cell) (i : Nat) (u : Int32) (fm : Value) (args : Array Value) (s : State) : Prop := args = #[.ref t, .int (Int32.ofNat i)] ∧ XT.Arr .byte t V s ∧ V.slots[i]? = some (.int u) ∧ (StaticIs s "jdk/internal/util/Preconditions" "SIOOBE_FORMATTER" "Ljava/util/function/BiFunction;" fm ∧ fm.isRef = true)
def E (u : Int32) (r : Option Value) (s w : State) : Prop := XT.PureE (some (.int (chr8 u))) r s w
theorem law (l : Launch) (t : Addr) (V : Cell) (i : Nat) (u : Int32) (fm : Value) : Law l yN 2 2 2 27 yB 2 (some .char) site (P t V i u fm) (E u) [] 0 0 := by
  refine Law.of_walk (plainFor_of_name (by decide +kernel)) (by decide +kernel) (by decide +kernel) (by decide) (fun _ _ h => by rw [h.1]; rfl) (fun _ U U' hal hh h => ⟨h.1, h.2.1.mv hal hh, h.2.2.1, h.2.2.2.1.there hal hh, h.2.2.2.2⟩) (fun r U U' V V' h1 hal h2 h => XT.PureE.mv r U U' V V' h1 hal h2 h) ?_
  intro p e s m args below meth c s₁ X0 hexec hbytes hml hret hlk hnm hown hh0 W hP
  obtain ⟨rfl, hV, hu, s1, rf⟩ := hP
  have v31 := hV.2.2.2
  have hi : i < V.slots.size := (Array.getElem?_eq_some_iff.mp hu).1
  have c1 : Steps p.tables e below (s₁.setTop (entryFrame m #[.ref t, .int (Int32.ofNat i)] 2)) (s₁.setTop (mkF m 0 #[.val (.ref t), .val (.int (Int32.ofNat i))] [])) := entry rfl
  have c2 : Steps p.tables e below (s₁.setTop (entryFrame m #[.ref t, .int (Int32.ofNat i)] 2)) (s₁.setTop (mkF m 3 #[.val (.ref t), .val (.int (Int32.ofNat i))] [.int (Int32.ofNat V.slots.size), .int (Int32.ofNat i)])) := c1.trans (by
    refine XS.iloadN X0.here hexec rfl (hb hbytes d0) rfl ?_
    refine XS.aloadN X0.here hexec rfl (hb hbytes d1) rfl rfl ?_
    refine X0.alen hexec (hV.mv X0.warmed.alike hh0) rfl rfl (hb hbytes d2) ?_
    exact Steps.refl _)
  obtain ⟨v3, T3, X3, E3, g3⟩ := X0.callS hexec (JO.Str_checkIndex.law l (Int32.ofNat i) (Int32.ofNat V.slots.size) fm) hown (wks W (staticW "java/lang/StringLatin1" 9 JO.Str_checkIndex.yN)) (wk W JO.Str_checkIndex.tab) (W := 0) (Nat.le_of_ble_eq_true rfl) (Nat.le_of_ble_eq_true rfl) (Nat.le_refl _) (Nat.le_refl _) (g := (mkF m 3 #[.val (.ref t), .val (.int (Int32.ofNat i))] [.int (Int32.ofNat V.slots.size), .int (Int32.ofNat i)])) rfl (by rw [hml]; rfl) c2 (argsL := [.int (Int32.ofNat i), .int (Int32.ofNat V.slots.size)]) (rest := []) rfl rfl (by show 2 * 0 + 0 ≤ _; decide) (hb hbytes d3) (⟨rfl, rf, s1.there X0.warmed.alike hh0, Int32.ofNat_not_neg (by omega), lt32 v31 hi⟩)
  obtain ⟨rfl, q3⟩ := E3
  have hh3 := q3.trans hh0
  have c4 : Steps p.tables e below (s₁.setTop (entryFrame m #[.ref t, .int (Int32.ofNat i)] 2)) (T3.setTop (mkF m 14 #[.val (.ref t), .val (.int (Int32.ofNat i))] [.int (chr8 u)])) := Steps.trans g3 (by
    refine XS.aloadN X3.here hexec rfl (hb hbytes d6) rfl rfl ?_
    refine XS.iloadN X3.here hexec rfl (hb hbytes d7) rfl ?_
    refine X3.aget hexec (hV.mv X3.warmed.alike hh3) rfl hu rfl rfl (hb hbytes d8) ?_
    refine sipushV X3.here hexec rfl 255 (hb hbytes d9) (by decide) ?_
    refine XS.iand X3.here hexec rfl (hb hbytes d12) rfl ?_
    refine i2c X3.here hexec rfl (hb hbytes d13) rfl ?_
    exact Steps.refl _)
  exact ⟨T3, some (.int (chr8 u)), _, _, _, X3, rfl, rfl, rfl, (fun h => by cases h), ⟨rfl, hh3⟩, fun fs hl => c4.trans (X3.ireturnOut hexec hret (narrow_c _) (Or.inr (Or.inr (Or.inr (Or.inl rfl)))) (hb hbytes d14) hl)⟩
end LChA
end StrChars
namespace StrChars.Road
open Jvm Sem ClassFile Op Lib Jvm.Stand Jvm.Free Jvm.Free.XT
open Jvm.Lib.Cold (StaticIs)
theorem consq {a : Array Value} {s : State} {c : Jvm.Cond} {L : List Jvm.Cond} (h0 : c.before a s = true) (h : ∀ w ∈ L, w.before a s = true) : ∀ w ∈ c :: L, w.before a s = true := fun w hw => (List.mem_cons.mp hw).elim (fun e => e ▸ h0) (h w)
/-- the words of String.length(), either coding -/
abbrev wordsLen : List Jvm.Cond := [.code Len.yN Len.yB 1 (some .int), .initialized ST, .fieldLink ST 9 ST "value" "[B", .fieldLink ST 38 ST "COMPACT_STRINGS" "Z", .fieldLink ST 15 ST "coder" "B", .code Cdr.yN Cdr.yB 1 (some .byte), .methodLink ST 335 Cdr.yN, .declares Cdr.yN, .selects ST Cdr.yN Cdr.yN, .instanceMethod Cdr.yN]
theorem tabLen_of {a : Array Value} {s : State} (h : ∀ w ∈ wordsLen, w.before a s = true) : Len.tab.before a s = true := by
  have hc : Cdr.tab.before a s = true := unparts (wk h (.code Cdr.yN Cdr.yB 1 (some .byte))) (wks h (.initialized Cdr.yN.cls :: Cdr.site))
  have q := consq hc h
  exact unparts (wk q (.code Len.yN Len.yB 1 (some .int))) (wks q (.initialized Len.yN.cls :: Len.site))
theorem movedLen {Z s : State} {a0 args : Array Value} (hZ : Z.Warmed39 s.vm) (hw : ∀ d ∈ wordsLen, d.before a0 Z = true) : ∀ d ∈ wordsLen, d.before args s = true := fun d hd => by
  have q := hw d hd
  have t : ∀ d ∈ wordsLen, d = .arrayClass .byte ∨ (d.onTables && d.keepsFace) = true := by decide +kernel
  rcases t d hd with rfl | t
  · exact RoadKit.mvA hZ q
  · exact RoadKit.mv hZ q t
/-- the bytes of the chars cs, low before high -/
def wideBytes : List Int32 → List Value
  | [] => []
  | c :: cs => .int (lo8 c) :: .int (hi8 c) :: wideBytes cs
theorem wide_lo (d : Value) : ∀ (cs : List Int32) (j : Nat), j < cs.length → (wideBytes cs).getD (2 * j) d = .int (lo8 (cs.getD j 0))
  | [], j, h => absurd h (Nat.not_lt_zero j)
  | c :: cs, 0, _ => rfl
  | c :: cs, j + 1, h => by
    have q := wide_lo d cs j (by simpa using h)
    rw [show 2 * (j + 1) = 2 * j + 1 + 1 from by omega]
    simpa [wideBytes] using q
theorem wide_hi (d : Value) : ∀ (cs : List Int32) (j : Nat), j < cs.length → (wideBytes cs).getD (2 * j + 1) d = .int (hi8 (cs.getD j 0))
  | [], j, h => absurd h (Nat.not_lt_zero j)
  | c :: cs, 0, _ => rfl
  | c :: cs, j + 1, h => by
    have q := wide_hi d cs j (by simpa using h)
    rw [show 2 * (j + 1) + 1 = 2 * j + 1 + 1 + 1 from by omega]
    simpa [wideBytes] using q
theorem low_at (d : Value) (cs : List Int32) (j : Nat) (h : j < cs.length) : (cs.map fun c => Value.int (lo8 c)).getD j d = .int (lo8 (cs.getD j 0)) := by
  simp [List.getD_eq_getElem?_getD, h]
/-- an array of N2 bytes vs codes the chars cs by the coder cd -/
def CodA (cs : List Int32) (cd N2 : Int32) (vs : List Value) : Prop := (cd = 0 ∧ N2 = Int32.ofNat cs.length ∧ vs = (cs.map fun c => Value.int (lo8 c)) ∧ ∀ c ∈ cs, ¬ 255 < c) ∨ (cd = 1 ∧ N2 = Int32.ofNat (2 * cs.length) ∧ vs = wideBytes cs ∧ ∃ c ∈ cs, 255 < c)
theorem CodA.cod {cs : List Int32} {cd N2 : Int32} {vs : List Value} {V : Cell} (h : CodA cs cd N2 vs) (hn : 2 * cs.length < 2 ^ 31) (hs : V.slots.size = N2.toNatClampNeg) (hv : RoadKit.Has V vs (.int 0)) : Cod cd cs.length (fun j => cs.getD j 0) V := by
  rcases h with ⟨rfl, rfl, rfl, h⟩ | ⟨rfl, rfl, rfl, c, hc, hw⟩
  · rw [n32 (by omega)] at hs
    exact Or.inl ⟨rfl, hs, fun j hj => ⟨by rw [hv j (by omega), low_at _ _ _ hj], by
      have e : cs.getD j 0 = cs[j] := by simp [List.getD_eq_getElem?_getD, hj]
      show ¬ 255 < cs.getD j 0
      rw [e]; exact h _ (List.getElem_mem _)⟩⟩
  · rw [n32 (by omega)] at hs
    obtain ⟨j, hj, rfl⟩ := List.getElem_of_mem hc
    exact Or.inr ⟨rfl, hs, fun j hj => ⟨by rw [hv _ (by omega), wide_lo _ _ _ hj], by rw [hv _ (by omega), wide_hi _ _ _ hj]⟩, j, hj, by
      have e : cs.getD j 0 = cs[j] := by simp [List.getD_eq_getElem?_getD, hj]
      show 255 < cs.getD j 0
      rw [e]; exact hw⟩
/-- an object of exactly java/lang/String, its two fields found: as the laws ask it -/
theorem strObj {Z U : State} {a0 : Array Value} {kI : Nat} (wi : (Jvm.Cond.instantiable ST kI).before a0 Z = true) (al : Z.vm.Alike U.vm) {x : Addr} {v0 c0 : Value} (E : RoadKit.Exa Z U.heap x ST) (V : RoadKit.Fld Z U.heap x ST "value" "[B" v0) (C : RoadKit.Fld Z U.heap x ST "coder" "B" c0) :
    ∃ (D : Cell) (fV fC : Field), Blank ST x D U ∧ Found ST "value" "[B" fV U ∧ Found ST "coder" "B" fC U ∧ D.slots[fV.slot]? = some v0 ∧ D.slots[fC.slot]? = some c0 ∧ RoadKit.slotOf Z ST "value" "[B" = fV.slot ∧ RoadKit.slotOf Z ST "coder" "B" = fC.slot := by
  obtain ⟨D, cfV, kV, iV, fV, hD, gV, stV, knV, obV, asV, slV⟩ := V
  obtain ⟨D', cfC, kC, iC, fC, hD', gC, stC, -, -, asC, slC⟩ := C
  cases hD.symm.trans hD'
  obtain ⟨D2, kD, e1, e2, e3, e4, e5⟩ := E
  cases hD.symm.trans e1
  obtain ⟨c2, k2, i1, i2, i3, -⟩ := Cond.instantiable_spec wi
  cases e2.symm.trans i1
  cases e3.symm.trans i2
  obtain ⟨kU, u1, u2⟩ := al.2.2 _ _ e3
  exact ⟨D, fV, fC, ⟨hD, ⟨knV, fun q hq => by rw [hq] at obV; cases obV⟩, by rw [al.findClass]; exact e2, kU, u1, by rw [u2]; exact i3, by rw [u2]; exact e5 i3⟩, ⟨SBG.found_only al ⟨cfV, kV, iV, gV⟩, stV⟩, ⟨SBG.found_only al ⟨cfC, kC, iC, gC⟩, stC⟩, slV, slC, by simp [RoadKit.slotOf, gV], by simp [RoadKit.slotOf, gC]⟩
theorem sta_is {Z U : State} (al : Z.vm.Alike U.vm) {C n d : String} {v : Value} (S : RoadKit.Sta Z U.heap C n d v) : StaticIs U C n d v := by
  obtain ⟨cfS, iS, kS, fS, st, cS, t1, t2, t3, t4, t5, t6, t7⟩ := S
  exact StaticIs.there (s := { Z with heap := U.heap }) ⟨cfS, iS, kS, fS, st, cS, t1, t2, t3, t4, t5, (fun q => by rw [q] at t6; cases t6), t7⟩ al rfl
/-- **length() OF SUCH A STRING** -/
theorem lenW {p : Program} {l : Launch} {e : Env} {R : Room} {s : State} {args : Array Value} {below : List Frame} {len W : Nat} {Z : State} {a0 : Array Value} {h : Heap} (hZ : Z.Warmed39 s.vm) (hw : ∀ d ∈ wordsLen, d.before a0 Z = true) {kI : Nat} (wi : (Jvm.Cond.instantiable ST kI).before a0 Z = true)
    {x t : Addr} {kb : ClassId} {cs : List Int32} {cd N2 z : Int32} {vs : List Value} (E : RoadKit.Exa Z h x ST) (V : RoadKit.Fld Z h x ST "value" "[B" (.ref t)) (C : RoadKit.Fld Z h x ST "coder" "B" (.int cd)) (K : RoadKit.Arv Z h t kb .byte N2 vs (.int 0)) (hc : CodA cs cd N2 vs) (hb : ∀ c ∈ cs, ¬ c < 0 ∧ ¬ (65535 : Int32) < c)
    (S : RoadKit.Sta Z h ST "COMPACT_STRINGS" "Z" (.int z)) (hz : ¬ z = 0) (l2 : cs.length ≤ 4000) (hfr : 2 ≤ R.frames) (hlo : W + 25 ≤ R.locals) :
    Back l R p e below s args (⟨"java/lang/String", "length", "()I"⟩ : MethodName) len W (fun P a => a = #[.ref x] ∧ P.U.heap = h ∧ P.cells + 0 ≤ R.cells ∧ P.slots + 0 ≤ R.slots)
      (fun P _ v B => ∃ L, (v = some (.int (Int32.ofNat cs.length)) ∧ L = [] ∧ B.U.heap = h) ∧ B.locs = P.locs ++ L ∧ B.cells = P.cells + 0 ∧ B.slots = P.slots + 0) := by
  obtain ⟨A, K1, K2, K3, K4, K5, K6⟩ := K
  have hcod := hc.cod (by omega) K3 K5
  intro m meth c P g ig mk a X hg hsize hdg hW hn hp'
  obtain ⟨rfl, rfl, r1, r2⟩ := hp'
  have al : Z.vm.Alike P.U.vm := hZ.alike.trans X.warmed.alike
  obtain ⟨D, fV, fC, hB, F1, F2, g1, g2, -, -⟩ := strObj wi al E V C
  have hx : Txt x t A cd cs.length (fun j => cs.getD j 0) P.U := ⟨⟨_, hB.2.2.1, D, hB.1, rfl, by cases q : D.vm <;> first | rfl | exact absurd q (hB.2.1.2 _)⟩, Has.of hB F1 g1, Has.of hB F2 g2, ⟨K1.1, State.isArrayOf_alike al K1.2.1, K1.2.2, by rcases hcod with ⟨-, q, -⟩ | ⟨-, q, -⟩ <;> omega⟩, hcod, fun j hj => by
    have e : cs.getD j 0 = cs[j] := by simp [List.getD_eq_getElem?_getD, hj]
    show ¬ cs.getD j 0 < 0 ∧ ¬ 65535 < cs.getD j 0
    rw [e]; exact hb _ (List.getElem_mem _)⟩
  obtain ⟨v, B, X', ⟨⟨hv, hh⟩, hl, hk, hs⟩, st⟩ := Len.pays x t A cd cs.length (fun j => cs.getD j 0) z (tabLen_of (movedLen hZ hw)) hfr hlo m meth c P g ig mk _ X hg hsize hdg hW hn ⟨r1, r2, rfl, hx, sta_is al S, hz⟩
  exact ⟨v, B, X', ⟨[], ⟨hv, rfl, hh⟩, hl, hk, hs⟩, st⟩
end StrChars.Road
namespace StrChars
open Jvm Sem ClassFile Op Lib Jvm.Stand Jvm.Free.XT Jvm.Free.ALB Jvm.Free.JM Jvm.Free
open Jvm.Lib.Cold (StaticIs)
/-- what place i of a byte[]'s cell holds -/
def yv (A : Cell) (i : Nat) : Int32 := match A.slots[i]? with | some (.int x) => x | _ => 0
theorem yv_get {a : Addr} {A : Cell} {U : State} (h : XT.Arr .byte a A U) (ht : Typed .byte A) {i : Nat} (hi : i < A.slots.size) : A.slots[i]? = some (.int (yv A i)) := by
  have e := Array.getElem?_eq_getElem hi
  have f := ht i _ e
  unfold yv; rw [e]
  generalize A.slots[i] = v at f
  cases v <;> simp [fits] at f ⊢
/-- the two arrays are equal, place for place -/
def EqC (A B : Cell) : Prop := A.slots.size = B.slots.size ∧ ∀ i, i < A.slots.size → yv A i = yv B i
/-- a boolean that says whether p -/
def Says01 (q : Prop) (r : Option Value) (s u : State) : Prop := ∃ v : Int32, r = some (.int v) ∧ u.heap = s.heap ∧ ((v = 1 ∧ q) ∨ (v = 0 ∧ ¬ q))
theorem Says01.mv {q : Prop} : ∀ r (U U' V V' : State), U'.heap = U.heap → V.vm.Alike V'.vm → V'.heap = V.heap → Says01 q r U V → Says01 q r U' V' :=
  fun r U U' V V' h1 _ h2 ⟨v, a, b, c⟩ => ⟨v, a, by rw [h1, h2]; exact b, c⟩
namespace LEq
def yN : MethodName := ⟨"java/lang/StringLatin1", "equals", "([B[B)Z"⟩
abbrev yB : ByteArray := jdk_43_method_13_code
theorem d0 : decode yB 0 = .ok (.aload_n 0, 1) := by decide +kernel
theorem d1 : decode yB 1 = .ok (.arraylength, 1) := by decide +kernel
theorem d2 : decode yB 2 = .ok (.aload_n 1, 1) := by decide +kernel
theorem d3 : decode yB 3 = .ok (.arraylength, 1) := by decide +kernel
theorem d4 : decode yB 4 = .ok (.if_icmp (.ne) 30, 3) := by decide +kernel
theorem d7 : decode yB 7 = .ok (.iconst 0, 1) := by decide +kernel
theorem d8 : decode yB 8 = .ok (.istore_n 2, 1) := by decide +kernel
theorem d9 : decode yB 9 = .ok (.iload_n 2, 1) := by decide +kernel
theorem d10 : decode yB 10 = .ok (.aload_n 0, 1) := by decide +kernel
theorem d11 : decode yB 11 = .ok (.arraylength, 1) := by decide +kernel
theorem d12 : decode yB 12 = .ok (.if_icmp (.ge) 20, 3) := by decide +kernel
theorem d15 : decode yB 15 = .ok (.aload_n 0, 1) := by decide +kernel
theorem d16 : decode yB 16 = .ok (.iload_n 2, 1) := by decide +kernel
theorem d17 : decode yB 17 = .ok (.baload, 1) := by decide +kernel
theorem d18 : decode yB 18 = .ok (.aload_n 1, 1) := by decide +kernel
theorem d19 : decode yB 19 = .ok (.iload_n 2, 1) := by decide +kernel
theorem d20 : decode yB 20 = .ok (.baload, 1) := by decide +kernel
theorem d21 : decode yB 21 = .ok (.if_icmp (.eq) 5, 3) := by decide +kernel
theorem d24 : decode yB 24 = .ok (.iconst 0, 1) := by decide +kernel
theorem d25 : decode yB 25 = .ok (.ireturn, 1) := by decide +kernel
theorem d26 : decode yB 26 = .ok (.iinc 2 1, 3) := by decide +kernel
theorem d29 : decode yB 29 = .ok (.goto (-20), 3) := by decide +kernel
theorem d32 : decode yB 32 = .ok (.iconst 1, 1) := by decide +kernel
theorem d33 : decode yB 33 = .ok (.ireturn, 1) := by decide +kernel
theorem d34 : decode yB 34 = .ok (.iconst 0, 1) := by decide +kernel
theorem d35 : decode yB 35 = .ok (.ireturn, 1) := by decide +kernel
def site : List Cond := []
def tab : Cond := tabOf yN yB 3 (some .boolean) site
def P (a : Addr) (A : Cell) (b : Addr) (B : Cell) (args : Array Value) (s : State) : Prop := args = #[.ref a, .ref b] ∧ XT.Arr .byte a A s ∧ Typed .byte A ∧ XT.Arr .byte b B s ∧ Typed .byte B
/-- whether two byte[] are equal, place for place -/
theorem law (l : Launch) (a : Addr) (A : Cell) (b : Addr) (B : Cell) : Law l yN 2 2 0 0 yB 3 (some .boolean) site (P a A b B) (Says01 (EqC A B)) [] 0 0 := by
  refine Law.of_walk (plainFor_of_name (by decide +kernel)) (by decide +kernel) (by decide +kernel) (by decide) (fun _ _ h => by rw [h.1]; rfl) (fun _ U U' hal hh h => ⟨h.1, h.2.1.mv hal hh, h.2.2.1, h.2.2.2.1.mv hal hh, h.2.2.2.2⟩) (fun r U U' V V' h1 hal h2 h => Says01.mv r U U' V V' h1 hal h2 h) ?_
  intro p e s m args below meth c s₁ X0 hexec hbytes hml hret hlk hnm hown hh0 W hP
  obtain ⟨rfl, hA, tA, hB, tB⟩ := hP
  have a31 := hA.2.2.2
  have b31 := hB.2.2.2
  have hA0 := hA.mv X0.warmed.alike hh0
  have hB0 := hB.mv X0.warmed.alike hh0
  have c1 : Steps p.tables e below (s₁.setTop (entryFrame m #[.ref a, .ref b] 3)) (s₁.setTop (mkF m 0 #[.val (.ref a), .val (.ref b), .unset] [])) := entry rfl
  have c2 : Steps p.tables e below (s₁.setTop (entryFrame m #[.ref a, .ref b] 3)) (s₁.setTop (mkF m 4 #[.val (.ref a), .val (.ref b), .unset] [.int (Int32.ofNat B.slots.size), .int (Int32.ofNat A.slots.size)])) := c1.trans (by
    refine XS.aloadN X0.here hexec rfl (hb hbytes d0) rfl rfl ?_
    refine X0.alen hexec hA0 rfl rfl (hb hbytes d1) ?_
    refine XS.aloadN X0.here hexec rfl (hb hbytes d2) rfl rfl ?_
    refine X0.alen hexec hB0 rfl rfl (hb hbytes d3) ?_
    exact Steps.refl _)
  by_cases hs : A.slots.size = B.slots.size
  · have c3 : Steps p.tables e below (s₁.setTop (entryFrame m #[.ref a, .ref b] 3)) (s₁.setTop (mkF m 9 #[.val (.ref a), .val (.ref b), .val (.int 0)] [])) := c2.trans (by
      refine XS.icmpNo X0.here hexec rfl (hb hbytes d4) rfl (ii_ne_f (by rw [hs])) ?_
      refine iconstV X0.here hexec rfl 0 (hb hbytes d7) (by decide) ?_
      refine XS.istoreN X0.here hexec rfl (hb hbytes d8) rfl rfl ?_
      exact Steps.refl _)
    have loop : ∀ (r i : Nat), i + r = A.slots.size → (∀ j, j < i → yv A j = yv B j) → Steps p.tables e below (s₁.setTop (entryFrame m #[.ref a, .ref b] 3)) (s₁.setTop (mkF m 9 #[.val (.ref a), .val (.ref b), .val (.int (Int32.ofNat i))] [])) → ∃ (pc : Nat) (Ls : Array Slot) (v : Int32), (pc = 25 ∨ pc = 33) ∧ ((v = 1 ∧ EqC A B) ∨ (v = 0 ∧ ¬ EqC A B)) ∧ Steps p.tables e below (s₁.setTop (entryFrame m #[.ref a, .ref b] 3)) (s₁.setTop (mkF m pc Ls [.int v])) := by
      intro r
      induction r with
      | zero =>
        intro i hi he cl
        exact ⟨33, _, 1, Or.inr rfl, Or.inl ⟨rfl, hs, fun j hj => he j (by omega)⟩, cl.trans (by
          refine XS.iloadN X0.here hexec rfl (hb hbytes d9) rfl ?_
          refine XS.aloadN X0.here hexec rfl (hb hbytes d10) rfl rfl ?_
          refine X0.alen hexec hA0 rfl rfl (hb hbytes d11) ?_
          refine XS.icmpYes X0.here hexec rfl (pc0 := 12) rfl (hb hbytes d12) rfl (ii_ge_t (nlt32 (by omega) (by omega))) (by decide) rfl ?_
          refine iconstV X0.here hexec rfl 1 (hb hbytes d32) (by decide) ?_
          exact Steps.refl _)⟩
      | succ r ih =>
        intro i hi he cl
        have c4 : Steps p.tables e below (s₁.setTop (entryFrame m #[.ref a, .ref b] 3)) (s₁.setTop (mkF m 21 #[.val (.ref a), .val (.ref b), .val (.int (Int32.ofNat i))] [.int (yv B i), .int (yv A i)])) := cl.trans (by
          refine XS.iloadN X0.here hexec rfl (hb hbytes d9) rfl ?_
          refine XS.aloadN X0.here hexec rfl (hb hbytes d10) rfl rfl ?_
          refine X0.alen hexec hA0 rfl rfl (hb hbytes d11) ?_
          refine XS.icmpNo X0.here hexec rfl (hb hbytes d12) rfl (ii_ge_f (lt32 (by omega) (by omega))) ?_
          refine XS.aloadN X0.here hexec rfl (hb hbytes d15) rfl rfl ?_
          refine XS.iloadN X0.here hexec rfl (hb hbytes d16) rfl ?_
          refine X0.aget hexec hA0 rfl (yv_get hA tA (i := i) (by omega)) rfl rfl (hb hbytes d17) ?_
          refine XS.aloadN X0.here hexec rfl (hb hbytes d18) rfl rfl ?_
          refine XS.iloadN X0.here hexec rfl (hb hbytes d19) rfl ?_
          refine X0.aget hexec hB0 rfl (yv_get hB tB (i := i) (by omega)) rfl rfl (hb hbytes d20) ?_
          exact Steps.refl _)
        by_cases hv : yv A i = yv B i
        · have c5 : Steps p.tables e below (s₁.setTop (entryFrame m #[.ref a, .ref b] 3)) (s₁.setTop (mkF m 9 #[.val (.ref a), .val (.ref b), .val (.int (Int32.ofNat i + 1))] [])) := c4.trans (by
            refine XS.icmpYes X0.here hexec rfl (pc0 := 21) rfl (hb hbytes d21) rfl (ii_eq_t hv) (by decide) rfl ?_
            refine iincV X0.here hexec rfl 1 (hb hbytes d26) (by decide) rfl rfl ?_
            refine XS.goto X0.here hexec rfl (pc0 := 29) rfl (hb hbytes d29) (by decide) rfl ?_
            exact Steps.refl _)
          rw [succ32] at c5
          exact ih (i + 1) (by omega) (fun j hj => by
            by_cases e : j = i
            · rw [e]; exact hv
            · exact he j (by omega)) c5
        · exact ⟨25, _, 0, Or.inl rfl, Or.inr ⟨rfl, fun q => hv (q.2 i (by omega))⟩, c4.trans (by
            refine XS.icmpNo X0.here hexec rfl (hb hbytes d21) rfl (ii_eq_f hv) ?_
            refine iconstV X0.here hexec rfl 0 (hb hbytes d24) (by decide) ?_
            exact Steps.refl _)⟩
    obtain ⟨pc, Ls, v, hpc, hv, cz⟩ := loop A.slots.size 0 (by omega) (fun j hj => absurd hj (Nat.not_lt_zero j)) c3
    have nv : narrow .boolean (.int v) = .int v := by rcases hv with ⟨rfl, -⟩ | ⟨rfl, -⟩ <;> rfl
    rcases hpc with rfl | rfl
    · exact ⟨s₁, some (.int v), _, _, _, X0, rfl, rfl, rfl, (fun h => by cases h), ⟨v, rfl, hh0, hv⟩, fun fs hl => cz.trans (X0.ireturnOut hexec hret nv (Or.inr (Or.inl rfl)) (hb hbytes d25) hl)⟩
    · exact ⟨s₁, some (.int v), _, _, _, X0, rfl, rfl, rfl, (fun h => by cases h), ⟨v, rfl, hh0, hv⟩, fun fs hl => cz.trans (X0.ireturnOut hexec hret nv (Or.inr (Or.inl rfl)) (hb hbytes d33) hl)⟩
  · have c3 : Steps p.tables e below (s₁.setTop (entryFrame m #[.ref a, .ref b] 3)) (s₁.setTop (mkF m 35 #[.val (.ref a), .val (.ref b), .unset] [.int 0])) := c2.trans (by
      refine XS.icmpYes X0.here hexec rfl (pc0 := 4) rfl (hb hbytes d4) rfl (ii_ne_t (ne32 a31 b31 hs)) (by decide) rfl ?_
      refine iconstV X0.here hexec rfl 0 (hb hbytes d34) (by decide) ?_
      exact Steps.refl _)
    exact ⟨s₁, some (.int 0), _, _, _, X0, rfl, rfl, rfl, (fun h => by cases h), ⟨0, rfl, hh0, Or.inr ⟨rfl, fun q => hs q.1⟩⟩, fun fs hl => c3.trans (X0.ireturnOut hexec hret rfl (Or.inr (Or.inl rfl)) (hb hbytes d35) hl)⟩
end LEq
theorem Cod.ty {cd : Int32} {n : Nat} {f : Nat → Int32} {V : Cell} (h : Cod cd n f V) : Typed .byte V := fun i v hv => by
  have hi : i < V.slots.size := (Array.getElem?_eq_some_iff.mp hv).1
  rcases h with ⟨-, k1, k2⟩ | ⟨-, k1, k2, -⟩
  · rw [(k2 i (by omega)).1] at hv; cases hv; exact fits_lo8 _
  · rcases Nat.mod_two_eq_zero_or_one i with e | e
    · obtain ⟨j, rfl⟩ : ∃ j, i = 2 * j := ⟨i / 2, by omega⟩
      rw [(k2 j (by omega)).1] at hv; cases hv; exact fits_lo8 _
    · obtain ⟨j, rfl⟩ : ∃ j, i = 2 * j + 1 := ⟨i / 2, by omega⟩
      rw [(k2 j (by omega)).2] at hv; cases hv; exact fits_lo8 _
/-- the same text -/
def SameT (n : Nat) (f : Nat → Int32) (k : Nat) (g : Nat → Int32) : Prop := n = k ∧ ∀ j, j < n → f j = g j
theorem lo8_inj {x y : Int32} (h0 : ¬ x < 0) (h1 : ¬ 255 < x) (k0 : ¬ y < 0) (k1 : ¬ 255 < y) (h : lo8 x = lo8 y) : x = y := by
  rw [← lo8_mask h0 h1, ← lo8_mask k0 k1, h]
/-- arrays coded by one coder are equal just where the texts are -/
theorem Cod.eqv {cd : Int32} {n k : Nat} {f g : Nat → Int32} {V V' : Cell} (h : Cod cd n f V) (h' : Cod cd k g V') (hf : ∀ j, j < n → ¬ f j < 0 ∧ ¬ 65535 < f j) (hg : ∀ j, j < k → ¬ g j < 0 ∧ ¬ 65535 < g j) : EqC V V' ↔ SameT n f k g := by
  have yvv : ∀ {W : Cell} {i : Nat} {x : Int32}, W.slots[i]? = some (.int x) → yv W i = x := fun q => by unfold yv; rw [q]
  rcases h with ⟨rfl, k1, k2⟩ | ⟨rfl, k1, k2, -⟩
  · rcases h' with ⟨-, m1, m2⟩ | ⟨e, -⟩
    · constructor
      · rintro ⟨e1, e2⟩
        refine ⟨by omega, fun j hj => ?_⟩
        have q := e2 j (by omega)
        rw [yvv (k2 j hj).1, yvv (m2 j (by omega)).1] at q
        exact lo8_inj (hf j hj).1 (k2 j hj).2 (hg j (by omega)).1 (m2 j (by omega)).2 q
      · rintro ⟨rfl, e2⟩
        refine ⟨by omega, fun j hj => ?_⟩
        rw [yvv (k2 j (by omega)).1, yvv (m2 j (by omega)).1, e2 j (by omega)]
    · exact absurd e (by decide)
  · rcases h' with ⟨e, -⟩ | ⟨-, m1, m2, -⟩
    · exact absurd e (by decide)
    · constructor
      · rintro ⟨e1, e2⟩
        refine ⟨by omega, fun j hj => ?_⟩
        have q1 := e2 (2 * j) (by omega)
        have q2 := e2 (2 * j + 1) (by omega)
        rw [yvv (k2 j hj).1, yvv (m2 j (by omega)).1] at q1
        rw [yvv (k2 j hj).2, yvv (m2 j (by omega)).2] at q2
        rw [← pair_says (hf j hj).1 (hf j hj).2, ← pair_says (hg j (by omega)).1 (hg j (by omega)).2, q1, q2]
      · rintro ⟨rfl, e2⟩
        refine ⟨by omega, fun i hi => ?_⟩
        rcases Nat.mod_two_eq_zero_or_one i with e | e
        · obtain ⟨j, rfl⟩ : ∃ j, i = 2 * j := ⟨i / 2, by omega⟩
          rw [yvv (k2 j (by omega)).1, yvv (m2 j (by omega)).1, e2 j (by omega)]
        · obtain ⟨j, rfl⟩ : ∃ j, i = 2 * j + 1 := ⟨i / 2, by omega⟩
          rw [yvv (k2 j (by omega)).2, yvv (m2 j (by omega)).2, e2 j (by omega)]
/-- two codings differ: so do the texts -/
theorem Cod.dif {cd cd' : Int32} {n k : Nat} {f g : Nat → Int32} {V V' : Cell} (h : Cod cd n f V) (h' : Cod cd' k g V') (hne : ¬ cd = cd') : ¬ SameT n f k g := by
  rintro ⟨rfl, e⟩
  rcases h with ⟨rfl, -, k2⟩ | ⟨rfl, -, -, j, hj, hw⟩
  · rcases h' with ⟨rfl, -⟩ | ⟨-, -, -, j, hj, hw⟩
    · exact hne rfl
    · exact (k2 j hj).2 (by rw [e j hj]; exact hw)
  · rcases h' with ⟨-, -, m2⟩ | ⟨rfl, -⟩
    · exact (m2 j hj).2 (by rw [← e j hj]; exact hw)
    · exact hne rfl
/-- an object of exactly C is an instance of C -/
theorem cinst {p : Program} {l : Launch} {e : Env} {R : Room} {s : State} {m : MethodId} {args : Array Value} {below : List Frame} {meth : Method} {c : Code} {T : State} {locs : List Loc} {cells slots : Nat} (X : Stand p l e R s m args below meth c T locs cells slots) (hexec : p.tables.exec = Jvm.exec) {own C : String} {index : Nat} (hown : s.vm.findClass own = some m.cls) (hlink : (Cond.classLink own index C).before args s = true) {a : Addr} (hE : Exact C a T)
    {g : JFrame} (hg : g.method = m) {rest : List Value} (hstack : g.stack = .ref a :: rest) (hdg : decode c.code g.pc = .ok (.instanceof index, 3)) :
    ∃ T', Stand p l e R s m args below meth c T' locs cells slots ∧ T'.heap = T.heap ∧ ∀ target, Steps p.tables e below (T'.setTop { g with pc := g.pc + 3, stack := .int 1 :: rest }) target → Steps p.tables e below (T.setTop g) target := by
  obtain ⟨cB, h1, D, h2, h3, h4⟩ := hE
  have h1' : s.vm.findClass C = some cB := by rw [← X.warmed.alike.findClass]; exact h1
  obtain ⟨vm', X', st⟩ := X.instanceofYes hexec hown hlink h2 h4 h1' (by rw [h3]; exact Jvm.Free.SB.assignable_self _ _) hg hstack hdg
  exact ⟨_, X', rfl, st⟩
theorem cself {p : Program} {l : Launch} {e : Env} {R : Room} {s : State} {m : MethodId} {args : Array Value} {below : List Frame} {meth : Method} {c : Code} {T : State} {locs : List Loc} {cells slots : Nat} (X : Stand p l e R s m args below meth c T locs cells slots) (hexec : p.tables.exec = Jvm.exec) {own C : String} {index : Nat} (hown : s.vm.findClass own = some m.cls) (hlink : (Cond.classLink own index C).before args s = true) {a : Addr} (hE : Exact C a T)
    {g : JFrame} (hg : g.method = m) {rest : List Value} (hstack : g.stack = .ref a :: rest) (hdg : decode c.code g.pc = .ok (.checkcast index, 3)) :
    ∃ T', Stand p l e R s m args below meth c T' locs cells slots ∧ T'.heap = T.heap ∧ ∀ target, Steps p.tables e below (T'.setTop { g with pc := g.pc + 3, stack := .ref a :: rest }) target → Steps p.tables e below (T.setTop g) target := by
  obtain ⟨cB, h1, D, h2, h3, h4⟩ := hE
  have h1' : s.vm.findClass C = some cB := by rw [← X.warmed.alike.findClass]; exact h1
  obtain ⟨vm', X', st⟩ := X.checkcastYes hexec hown hlink h2 h4 h1' (by rw [h3]; exact Jvm.Free.SB.assignable_self _ _) hg hstack hdg
  exact ⟨_, X', rfl, fun t h => st t (by rw [← hstack] at h; exact h)⟩
namespace SEq
def yN : MethodName := ⟨"java/lang/String", "equals", "(Ljava/lang/Object;)Z"⟩
abbrev yB : ByteArray := jdk_42_method_66_code
theorem d0 : decode yB 0 = .ok (.aload_n 0, 1) := by decide +kernel
theorem d1 : decode yB 1 = .ok (.aload_n 1, 1) := by decide +kernel
theorem d2 : decode yB 2 = .ok (.if_acmp (.ne) 5, 3) := by decide +kernel
theorem d5 : decode yB 5 = .ok (.iconst 1, 1) := by decide +kernel
theorem d6 : decode yB 6 = .ok (.ireturn, 1) := by decide +kernel
theorem d7 : decode yB 7 = .ok (.aload_n 1, 1) := by decide +kernel
theorem d8 : decode yB 8 = .ok (.instanceof 10, 3) := by decide +kernel
theorem d11 : decode yB 11 = .ok (.ifCond (.eq) 43, 3) := by decide +kernel
theorem d14 : decode yB 14 = .ok (.aload_n 1, 1) := by decide +kernel
theorem d15 : decode yB 15 = .ok (.checkcast 10, 3) := by decide +kernel
theorem d18 : decode yB 18 = .ok (.astore_n 2, 1) := by decide +kernel
theorem d19 : decode yB 19 = .ok (.getstatic 38, 3) := by decide +kernel
theorem d22 : decode yB 22 = .ok (.ifCond (.eq) 14, 3) := by decide +kernel
theorem d25 : decode yB 25 = .ok (.aload_n 0, 1) := by decide +kernel
theorem d26 : decode yB 26 = .ok (.getfield 15, 3) := by decide +kernel
theorem d29 : decode yB 29 = .ok (.aload_n 2, 1) := by decide +kernel
theorem d30 : decode yB 30 = .ok (.getfield 15, 3) := by decide +kernel
theorem d33 : decode yB 33 = .ok (.if_icmp (.ne) 21, 3) := by decide +kernel
theorem d36 : decode yB 36 = .ok (.aload_n 0, 1) := by decide +kernel
theorem d37 : decode yB 37 = .ok (.getfield 9, 3) := by decide +kernel
theorem d40 : decode yB 40 = .ok (.aload_n 2, 1) := by decide +kernel
theorem d41 : decode yB 41 = .ok (.getfield 9, 3) := by decide +kernel
theorem d44 : decode yB 44 = .ok (.invokestatic 541, 3) := by decide +kernel
theorem d47 : decode yB 47 = .ok (.ifCond (.eq) 7, 3) := by decide +kernel
theorem d50 : decode yB 50 = .ok (.iconst 1, 1) := by decide +kernel
theorem d51 : decode yB 51 = .ok (.goto 4, 3) := by decide +kernel
theorem d54 : decode yB 54 = .ok (.iconst 0, 1) := by decide +kernel
theorem d55 : decode yB 55 = .ok (.ireturn, 1) := by decide +kernel
def site : List Cond := [.classLink "java/lang/String" 10 "java/lang/String", .fieldLink "java/lang/String" 38 "java/lang/String" "COMPACT_STRINGS" "Z", .fieldLink "java/lang/String" 15 "java/lang/String" "coder" "B", .fieldLink "java/lang/String" 9 "java/lang/String" "value" "[B", LEq.tab] ++ staticW "java/lang/String" 541 LEq.yN
def tab : Cond := tabOf yN yB 3 (some .boolean) site
def P (x t : Addr) (V : Cell) (cd : Int32) (n : Nat) (f : Nat → Int32) (y t' : Addr) (V' : Cell) (cd' : Int32) (k : Nat) (g : Nat → Int32) (z : Int32) (args : Array Value) (s : State) : Prop := args = #[.ref x, .ref y] ∧ Txt x t V cd n f s ∧ Txt y t' V' cd' k g s ∧ StaticIs s "java/lang/String" "COMPACT_STRINGS" "Z" (.int z) ∧ ¬ z = 0
/-- equals(Object) of two Strings: whether the texts are the same -/
theorem law (l : Launch) (x t : Addr) (V : Cell) (cd : Int32) (n : Nat) (f : Nat → Int32) (y t' : Addr) (V' : Cell) (cd' : Int32) (k : Nat) (g : Nat → Int32) (z : Int32) : Law l yN 2 1 1 14 yB 3 (some .boolean) site (P x t V cd n f y t' V' cd' k g z) (Says01 (SameT n f k g)) [] 0 0 := by
  refine Law.of_walk (plainFor_of_name (by decide +kernel)) (by decide +kernel) (by decide +kernel) (by decide) (fun _ _ h => by rw [h.1]; rfl) (fun _ U U' hal hh h => ⟨h.1, h.2.1.mv hal hh, h.2.2.1.mv hal hh, h.2.2.2.1.there hal hh, h.2.2.2.2⟩) (fun r U U' V V' h1 hal h2 h => Says01.mv r U U' V V' h1 hal h2 h) ?_
  intro p e s m args below meth c s₁ X0 hexec hbytes hml hret hlk hnm hown hh0 W hP
  obtain ⟨rfl, hx, hy, s1, hz⟩ := hP
  have c1 : Steps p.tables e below (s₁.setTop (entryFrame m #[.ref x, .ref y] 3)) (s₁.setTop (mkF m 2 #[.val (.ref x), .val (.ref y), .unset] [.ref y, .ref x])) := Steps.trans (entry rfl) (by
    show Steps p.tables e below (s₁.setTop (mkF m 0 #[.val (.ref x), .val (.ref y), .unset] [])) _
    refine XS.aloadN X0.here hexec rfl (hb hbytes d0) rfl rfl ?_
    refine XS.aloadN X0.here hexec rfl (hb hbytes d1) rfl rfl ?_
    exact Steps.refl _)
  by_cases hxy : x = y
  · have c2 : Steps p.tables e below (s₁.setTop (entryFrame m #[.ref x, .ref y] 3)) (s₁.setTop (mkF m 6 #[.val (.ref x), .val (.ref y), .unset] [.int 1])) := c1.trans (by
      refine acmpNo X0.here hexec rfl (hb hbytes d2) rfl rfl rfl (by simp [acmp, hxy]) ?_
      refine iconstV X0.here hexec rfl 1 (hb hbytes d5) (by decide) ?_
      exact Steps.refl _)
    subst hxy
    have ec : cd = cd' := by
      obtain ⟨D, fd, a1, a2, a3⟩ := hx.2.2.1
      obtain ⟨D', fd', b1, b2, b3⟩ := hy.2.2.1
      cases a1.symm.trans b1
      obtain ⟨q1, q2, q3, q4⟩ := a2.1
      obtain ⟨r1, r2, r3, r4⟩ := b2.1
      cases q4.symm.trans r4
      cases a3.symm.trans b3; rfl
    have et : t = t' := by
      obtain ⟨D, fd, a1, a2, a3⟩ := hx.2.1
      obtain ⟨D', fd', b1, b2, b3⟩ := hy.2.1
      cases a1.symm.trans b1
      obtain ⟨q1, q2, q3, q4⟩ := a2.1
      obtain ⟨r1, r2, r3, r4⟩ := b2.1
      cases q4.symm.trans r4
      cases a3.symm.trans b3; rfl
    subst ec et
    have ev : V = V' := by cases hx.2.2.2.1.1.symm.trans hy.2.2.2.1.1; rfl
    subst ev
    have hs : SameT n f k g := (Cod.eqv hx.2.2.2.2.1 hy.2.2.2.2.1 hx.2.2.2.2.2 hy.2.2.2.2.2).mp ⟨rfl, fun _ _ => rfl⟩
    exact ⟨s₁, some (.int 1), _, _, _, X0, rfl, rfl, rfl, (fun h => by cases h), ⟨1, rfl, hh0, Or.inl ⟨rfl, hs⟩⟩, fun fs hl => c2.trans (X0.ireturnOut hexec hret rfl (Or.inr (Or.inl rfl)) (hb hbytes d6) hl)⟩
  · have c2 : Steps p.tables e below (s₁.setTop (entryFrame m #[.ref x, .ref y] 3)) (s₁.setTop (mkF m 8 #[.val (.ref x), .val (.ref y), .unset] [.ref y])) := c1.trans (by
      refine acmpYes X0.here hexec rfl (pc0 := 2) rfl (hb hbytes d2) rfl rfl rfl (by simp [acmp, hxy]) (by decide) rfl ?_
      refine XS.aloadN X0.here hexec rfl (hb hbytes d7) rfl rfl ?_
      exact Steps.refl _)
    obtain ⟨T3, X3, q3, st3⟩ := cinst X0 hexec hown (wk W (.classLink "java/lang/String" 10 "java/lang/String")) (hy.mv X0.warmed.alike hh0).1 (g := (mkF m 8 #[.val (.ref x), .val (.ref y), .unset] [.ref y])) rfl (rest := []) rfl (hb hbytes d8)
    have hh3 := q3.trans hh0
    have c4 : Steps p.tables e below (s₁.setTop (entryFrame m #[.ref x, .ref y] 3)) (T3.setTop (mkF m 15 #[.val (.ref x), .val (.ref y), .unset] [.ref y])) := (c2.trans (st3 _ (Steps.refl _))).trans (by
      refine XS.ifNo X3.here hexec rfl (hb hbytes d11) rfl (i0_eq_f (by decide)) ?_
      refine XS.aloadN X3.here hexec rfl (hb hbytes d14) rfl rfl ?_
      exact Steps.refl _)
    obtain ⟨T5, X5, q5, st5⟩ := cself X3 hexec hown (wk W (.classLink "java/lang/String" 10 "java/lang/String")) (hy.mv X3.warmed.alike hh3).1 (g := (mkF m 15 #[.val (.ref x), .val (.ref y), .unset] [.ref y])) rfl (rest := []) rfl (hb hbytes d15)
    have hh5 := q5.trans hh3
    have c6 : Steps p.tables e below (s₁.setTop (entryFrame m #[.ref x, .ref y] 3)) (T5.setTop (mkF m 19 #[.val (.ref x), .val (.ref y), .val (.ref y)] [])) := (c4.trans (st5 _ (Steps.refl _))).trans (by
      refine XS.astoreN X5.here hexec rfl (hb hbytes d18) rfl rfl rfl ?_
      exact Steps.refl _)
    obtain ⟨T7, X7, q7, st7⟩ := X5.sget hexec hown (wk W (.fieldLink "java/lang/String" 38 "java/lang/String" "COMPACT_STRINGS" "Z")) s1 (fun _ _ h => by rw [hh5]; exact h) (g := (mkF m 19 #[.val (.ref x), .val (.ref y), .val (.ref y)] [])) rfl (hb hbytes d19)
    have hh7 := q7.trans hh5
    have c8 : Steps p.tables e below (s₁.setTop (entryFrame m #[.ref x, .ref y] 3)) (T7.setTop (mkF m 26 #[.val (.ref x), .val (.ref y), .val (.ref y)] [.ref x])) := (c6.trans (st7 _ (Steps.refl _))).trans (by
      refine XS.ifNo X7.here hexec rfl (hb hbytes d22) rfl (i0_eq_f hz) ?_
      refine XS.aloadN X7.here hexec rfl (hb hbytes d25) rfl rfl ?_
      exact Steps.refl _)
    obtain ⟨T9, X9, q9, st9⟩ := X7.hget hexec hown (wk W (.fieldLink "java/lang/String" 15 "java/lang/String" "coder" "B")) (hx.mv X7.warmed.alike hh7).2.2.1 (g := (mkF m 26 #[.val (.ref x), .val (.ref y), .val (.ref y)] [.ref x])) rfl (rest := []) rfl (hb hbytes d26)
    have hh9 := q9.trans hh7
    have c10 : Steps p.tables e below (s₁.setTop (entryFrame m #[.ref x, .ref y] 3)) (T9.setTop (mkF m 30 #[.val (.ref x), .val (.ref y), .val (.ref y)] [.ref y, .int cd])) := (c8.trans (st9 _ (Steps.refl _))).trans (by
      refine XS.aloadN X9.here hexec rfl (hb hbytes d29) rfl rfl ?_
      exact Steps.refl _)
    obtain ⟨T11, X11, q11, st11⟩ := X9.hget hexec hown (wk W (.fieldLink "java/lang/String" 15 "java/lang/String" "coder" "B")) (hy.mv X9.warmed.alike hh9).2.2.1 (g := (mkF m 30 #[.val (.ref x), .val (.ref y), .val (.ref y)] [.ref y, .int cd])) rfl (rest := [.int cd]) rfl (hb hbytes d30)
    have hh11 := q11.trans hh9
    have c12 : Steps p.tables e below (s₁.setTop (entryFrame m #[.ref x, .ref y] 3)) (T11.setTop (mkF m 33 #[.val (.ref x), .val (.ref y), .val (.ref y)] [.int cd', .int cd])) := c10.trans (st11 _ (Steps.refl _))
    by_cases hcd : cd = cd'
    · subst hcd
      have c13 : Steps p.tables e below (s₁.setTop (entryFrame m #[.ref x, .ref y] 3)) (T11.setTop (mkF m 37 #[.val (.ref x), .val (.ref y), .val (.ref y)] [.ref x])) := c12.trans (by
        refine XS.icmpNo X11.here hexec rfl (hb hbytes d33) rfl (ii_ne_f rfl) ?_
        refine XS.aloadN X11.here hexec rfl (hb hbytes d36) rfl rfl ?_
        exact Steps.refl _)
      obtain ⟨T14, X14, q14, st14⟩ := X11.hget hexec hown (wk W (.fieldLink "java/lang/String" 9 "java/lang/String" "value" "[B")) (hx.mv X11.warmed.alike hh11).2.1 (g := (mkF m 37 #[.val (.ref x), .val (.ref y), .val (.ref y)] [.ref x])) rfl (rest := []) rfl (hb hbytes d37)
      have hh14 := q14.trans hh11
      have c15 : Steps p.tables e below (s₁.setTop (entryFrame m #[.ref x, .ref y] 3)) (T14.setTop (mkF m 41 #[.val (.ref x), .val (.ref y), .val (.ref y)] [.ref y, .ref t])) := (c13.trans (st14 _ (Steps.refl _))).trans (by
        refine XS.aloadN X14.here hexec rfl (hb hbytes d40) rfl rfl ?_
        exact Steps.refl _)
      obtain ⟨T16, X16, q16, st16⟩ := X14.hget hexec hown (wk W (.fieldLink "java/lang/String" 9 "java/lang/String" "value" "[B")) (hy.mv X14.warmed.alike hh14).2.1 (g := (mkF m 41 #[.val (.ref x), .val (.ref y), .val (.ref y)] [.ref y, .ref t])) rfl (rest := [.ref t]) rfl (hb hbytes d41)
      have hh16 := q16.trans hh14
      have c17 : Steps p.tables e below (s₁.setTop (entryFrame m #[.ref x, .ref y] 3)) (T16.setTop (mkF m 44 #[.val (.ref x), .val (.ref y), .val (.ref y)] [.ref t', .ref t])) := c15.trans (st16 _ (Steps.refl _))
      obtain ⟨v18, T18, X18, E18, g18⟩ := X16.callS hexec (LEq.law l t V t' V') hown (wks W (staticW "java/lang/String" 541 LEq.yN)) (wk W LEq.tab) (W := 0) (Nat.le_of_ble_eq_true rfl) (Nat.le_of_ble_eq_true rfl) (Nat.le_refl _) (Nat.le_refl _) (g := (mkF m 44 #[.val (.ref x), .val (.ref y), .val (.ref y)] [.ref t', .ref t])) rfl (by rw [hml]; rfl) c17 (argsL := [.ref t, .ref t']) (rest := []) rfl rfl (by show 2 * 0 + 0 ≤ _; decide) (hb hbytes d44) (⟨rfl, hx.2.2.2.1.mv X16.warmed.alike hh16, hx.2.2.2.2.1.ty, hy.2.2.2.1.mv X16.warmed.alike hh16, hy.2.2.2.2.1.ty⟩)
      obtain ⟨v, rfl, q18, hv⟩ := E18
      have iff := Cod.eqv hx.2.2.2.2.1 hy.2.2.2.2.1 hx.2.2.2.2.2 hy.2.2.2.2.2
      rcases hv with ⟨rfl, he⟩ | ⟨rfl, he⟩
      · have c19 : Steps p.tables e below (s₁.setTop (entryFrame m #[.ref x, .ref y] 3)) (T18.setTop (mkF m 55 #[.val (.ref x), .val (.ref y), .val (.ref y)] [.int 1])) := Steps.trans g18 (by
          refine XS.ifNo X18.here hexec rfl (hb hbytes d47) rfl (i0_eq_f (by decide)) ?_
          refine iconstV X18.here hexec rfl 1 (hb hbytes d50) (by decide) ?_
          refine XS.goto X18.here hexec rfl (pc0 := 51) rfl (hb hbytes d51) (by decide) rfl ?_
          exact Steps.refl _)
        exact ⟨T18, some (.int 1), _, _, _, X18, rfl, rfl, rfl, (fun h => by cases h), ⟨1, rfl, q18.trans hh16, Or.inl ⟨rfl, iff.mp he⟩⟩, fun fs hl => c19.trans (X18.ireturnOut hexec hret rfl (Or.inr (Or.inl rfl)) (hb hbytes d55) hl)⟩
      · have c19 : Steps p.tables e below (s₁.setTop (entryFrame m #[.ref x, .ref y] 3)) (T18.setTop (mkF m 55 #[.val (.ref x), .val (.ref y), .val (.ref y)] [.int 0])) := Steps.trans g18 (by
          refine XS.ifYes X18.here hexec rfl (pc0 := 47) rfl (hb hbytes d47) rfl (i0_eq_t rfl) (by decide) rfl ?_
          refine iconstV X18.here hexec rfl 0 (hb hbytes d54) (by decide) ?_
          exact Steps.refl _)
        exact ⟨T18, some (.int 0), _, _, _, X18, rfl, rfl, rfl, (fun h => by cases h), ⟨0, rfl, q18.trans hh16, Or.inr ⟨rfl, fun q => he (iff.mpr q)⟩⟩, fun fs hl => c19.trans (X18.ireturnOut hexec hret rfl (Or.inr (Or.inl rfl)) (hb hbytes d55) hl)⟩
    · have c13 : Steps p.tables e below (s₁.setTop (entryFrame m #[.ref x, .ref y] 3)) (T11.setTop (mkF m 55 #[.val (.ref x), .val (.ref y), .val (.ref y)] [.int 0])) := c12.trans (by
        refine XS.icmpYes X11.here hexec rfl (pc0 := 33) rfl (hb hbytes d33) rfl (ii_ne_t hcd) (by decide) rfl ?_
        refine iconstV X11.here hexec rfl 0 (hb hbytes d54) (by decide) ?_
        exact Steps.refl _)
      exact ⟨T11, some (.int 0), _, _, _, X11, rfl, rfl, rfl, (fun h => by cases h), ⟨0, rfl, hh11, Or.inr ⟨rfl, Cod.dif hx.2.2.2.2.1 hy.2.2.2.2.1 hcd⟩⟩, fun fs hl => c13.trans (X11.ireturnOut hexec hret rfl (Or.inr (Or.inl rfl)) (hb hbytes d55) hl)⟩
theorem pays {l : Launch} {R : Room} {p : Program} {e : Env} {below : List Frame} {s : State} {sargs : Array Value} {len W : Nat} (x t : Addr) (V : Cell) (cd : Int32) (n : Nat) (f : Nat → Int32) (y t' : Addr) (V' : Cell) (cd' : Int32) (k : Nat) (g : Nat → Int32) (z : Int32) (htab : tab.before sargs s = true) (hfr : 2 ≤ R.frames) (hlo : W + 28 ≤ R.locals) :
    Back l R p e below s sargs yN len W (fun A₁ a₁ => A₁.cells + 0 ≤ R.cells ∧ A₁.slots + 0 ≤ R.slots ∧ P x t V cd n f y t' V' cd' k g z a₁ A₁.U) (fun A₁ _ v₁ B₁ => Says01 (SameT n f k g) v₁ A₁.U B₁.U ∧ B₁.locs = A₁.locs ++ [] ∧ B₁.cells = A₁.cells + 0 ∧ B₁.slots = A₁.slots + 0) :=
  (law l x t V cd n f y t' V' cd' k g z).pays htab hfr (by omega)
end SEq
end StrChars
namespace StrChars.Road
open Jvm Sem ClassFile Op Lib Jvm.Stand Jvm.Free Jvm.Free.XT
open Jvm.Lib.Cold (StaticIs)
/-- the words of String.equals(Object) -/
abbrev wordsEq : List Jvm.Cond := [.code SEq.yN SEq.yB 3 (some .boolean), .initialized ST, .classLink ST 10 ST, .fieldLink ST 38 ST "COMPACT_STRINGS" "Z", .fieldLink ST 15 ST "coder" "B", .fieldLink ST 9 ST "value" "[B", .methodLink ST 541 LEq.yN, .static LEq.yN, .code LEq.yN LEq.yB 3 (some .boolean), .initialized "java/lang/StringLatin1"]
theorem tabEq_of {a : Array Value} {s : State} (h : ∀ w ∈ wordsEq, w.before a s = true) : SEq.tab.before a s = true := by
  have hl : LEq.tab.before a s = true := unparts (wk h (.code LEq.yN LEq.yB 3 (some .boolean))) (wks h (.initialized LEq.yN.cls :: LEq.site))
  have q := consq hl h
  exact unparts (wk q (.code SEq.yN SEq.yB 3 (some .boolean))) (wks q (.initialized SEq.yN.cls :: SEq.site))
theorem movedEq {Z s : State} {a0 args : Array Value} (hZ : Z.Warmed39 s.vm) (hw : ∀ d ∈ wordsEq, d.before a0 Z = true) : ∀ d ∈ wordsEq, d.before args s = true := fun d hd => by
  have t : ∀ d ∈ wordsEq, (d.onTables && d.keepsFace) = true := by decide +kernel
  exact RoadKit.mv hZ (hw d hd) (t d hd)
/-- the road's facts of a String, as the laws ask it -/
theorem txt_of {Z U : State} {a0 : Array Value} {kI : Nat} (wi : (Jvm.Cond.instantiable ST kI).before a0 Z = true) (al : Z.vm.Alike U.vm) {x t : Addr} {kb : ClassId} {cs : List Int32} {cd N2 : Int32} {vs : List Value} (E : RoadKit.Exa Z U.heap x ST) (V : RoadKit.Fld Z U.heap x ST "value" "[B" (.ref t)) (C : RoadKit.Fld Z U.heap x ST "coder" "B" (.int cd)) (K : RoadKit.Arv Z U.heap t kb .byte N2 vs (.int 0)) (hc : CodA cs cd N2 vs) (hb : ∀ c ∈ cs, ¬ c < 0 ∧ ¬ (65535 : Int32) < c) (l2 : cs.length ≤ 4000) :
    ∃ A, Txt x t A cd cs.length (fun j => cs.getD j 0) U := by
  obtain ⟨A, K1, K2, K3, K4, K5, K6⟩ := K
  have hcod := hc.cod (by omega) K3 K5
  obtain ⟨D, fV, fC, hB, F1, F2, g1, g2, -, -⟩ := strObj wi al E V C
  exact ⟨A, ⟨_, hB.2.2.1, D, hB.1, rfl, by cases q : D.vm <;> first | rfl | exact absurd q (hB.2.1.2 _)⟩, Has.of hB F1 g1, Has.of hB F2 g2, ⟨K1.1, State.isArrayOf_alike al K1.2.1, K1.2.2, by rcases hcod with ⟨-, q, -⟩ | ⟨-, q, -⟩ <;> omega⟩, hcod, fun j hj => by
    have e : cs.getD j 0 = cs[j] := by simp [List.getD_eq_getElem?_getD, hj]
    show ¬ cs.getD j 0 < 0 ∧ ¬ 65535 < cs.getD j 0
    rw [e]; exact hb _ (List.getElem_mem _)⟩
theorem same_list (cs ds : List Int32) : SameT cs.length (fun j => cs.getD j 0) ds.length (fun j => ds.getD j 0) ↔ cs = ds := by
  constructor
  · rintro ⟨e, q⟩
    refine List.ext_getElem e fun j h1 h2 => ?_
    have := q j h1
    simpa [List.getD_eq_getElem?_getD, h1, h2] using this
  · rintro rfl
    exact ⟨rfl, fun _ _ => rfl⟩
/-- **equals(Object) OF TWO SUCH STRINGS**: 1 just where the chars are the same -/
theorem eqW {p : Program} {l : Launch} {e : Env} {R : Room} {s : State} {args : Array Value} {below : List Frame} {len W : Nat} {Z : State} {a0 : Array Value} {h : Heap} (hZ : Z.Warmed39 s.vm) (hw : ∀ d ∈ wordsEq, d.before a0 Z = true) {kI : Nat} (wi : (Jvm.Cond.instantiable ST kI).before a0 Z = true)
    {x t : Addr} {kb : ClassId} {cs : List Int32} {cd N2 : Int32} {vs : List Value} (E : RoadKit.Exa Z h x ST) (V : RoadKit.Fld Z h x ST "value" "[B" (.ref t)) (C : RoadKit.Fld Z h x ST "coder" "B" (.int cd)) (K : RoadKit.Arv Z h t kb .byte N2 vs (.int 0)) (hc : CodA cs cd N2 vs) (hb : ∀ c ∈ cs, ¬ c < 0 ∧ ¬ (65535 : Int32) < c) (l2 : cs.length ≤ 4000)
    {y t' : Addr} {kb' : ClassId} {ds : List Int32} {cd' N2' : Int32} {vs' : List Value} (E' : RoadKit.Exa Z h y ST) (V' : RoadKit.Fld Z h y ST "value" "[B" (.ref t')) (C' : RoadKit.Fld Z h y ST "coder" "B" (.int cd')) (K' : RoadKit.Arv Z h t' kb' .byte N2' vs' (.int 0)) (hc' : CodA ds cd' N2' vs') (hb' : ∀ c ∈ ds, ¬ c < 0 ∧ ¬ (65535 : Int32) < c) (l2' : ds.length ≤ 4000)
    {z : Int32} (S : RoadKit.Sta Z h ST "COMPACT_STRINGS" "Z" (.int z)) (hz : ¬ z = 0) (hfr : 2 ≤ R.frames) (hlo : W + 28 ≤ R.locals) :
    Back l R p e below s args (⟨"java/lang/String", "equals", "(Ljava/lang/Object;)Z"⟩ : MethodName) len W (fun P a => a = #[.ref x, .ref y] ∧ P.U.heap = h ∧ P.cells + 0 ≤ R.cells ∧ P.slots + 0 ≤ R.slots)
      (fun P _ v B => ∃ L, (((v = some (.int 1) ∧ cs = ds) ∨ (v = some (.int 0) ∧ ¬ cs = ds)) ∧ L = [] ∧ B.U.heap = h) ∧ B.locs = P.locs ++ L ∧ B.cells = P.cells + 0 ∧ B.slots = P.slots + 0) := by
  intro m meth c P g ig mk a X hg hsize hdg hW hn hp'
  obtain ⟨rfl, rfl, r1, r2⟩ := hp'
  have al : Z.vm.Alike P.U.vm := hZ.alike.trans X.warmed.alike
  obtain ⟨A, hx⟩ := txt_of wi al E V C K hc hb l2
  obtain ⟨A', hy⟩ := txt_of wi al E' V' C' K' hc' hb' l2'
  obtain ⟨v, B, X', ⟨⟨w, hv, hh, hq⟩, hl, hk, hs⟩, st⟩ := SEq.pays x t A cd cs.length (fun j => cs.getD j 0) y t' A' cd' ds.length (fun j => ds.getD j 0) z (tabEq_of (movedEq hZ hw)) hfr hlo m meth c P g ig mk _ X hg hsize hdg hW hn ⟨r1, r2, rfl, hx, hy, sta_is al S, hz⟩
  refine ⟨v, B, X', ⟨[], ⟨?_, rfl, hh⟩, hl, hk, hs⟩, st⟩
  rcases hq with ⟨rfl, q⟩ | ⟨rfl, q⟩
  · exact Or.inl ⟨hv, (same_list cs ds).mp q⟩
  · exact Or.inr ⟨hv, fun e => q ((same_list cs ds).mpr e)⟩
end StrChars.Road
namespace StrChars
open Jvm Sem ClassFile Op Lib Jvm.Stand Jvm.Free.XT Jvm.Free.ALB Jvm.Free.JM Jvm.Free
open Jvm.Lib.Cold (StaticIs)
namespace ChN
def yN : MethodName := ⟨"java/lang/String", "charAt", "(I)C"⟩
abbrev yB : ByteArray := jdk_42_method_56_code
theorem d0 : decode yB 0 = .ok (.aload_n 0, 1) := by decide +kernel
theorem d1 : decode yB 1 = .ok (.invokevirtual 492, 3) := by decide +kernel
theorem d4 : decode yB 4 = .ok (.ifCond (.eq) 12, 3) := by decide +kernel
theorem d7 : decode yB 7 = .ok (.aload_n 0, 1) := by decide +kernel
theorem d8 : decode yB 8 = .ok (.getfield 9, 3) := by decide +kernel
theorem d11 : decode yB 11 = .ok (.iload_n 1, 1) := by decide +kernel
theorem d12 : decode yB 12 = .ok (.invokestatic 495, 3) := by decide +kernel
theorem d15 : decode yB 15 = .ok (.ireturn, 1) := by decide +kernel
def site : List Cond := [.fieldLink "java/lang/String" 9 "java/lang/String" "value" "[B", IsL.tab, LChA.tab] ++ virtW "java/lang/String" 492 "java/lang/String" IsL.yN IsL.yN ++ staticW "java/lang/String" 495 LChA.yN
def tab : Cond := tabOf yN yB 2 (some .char) site
def P (x t : Addr) (V : Cell) (n : Nat) (f : Nat → Int32) (z : Int32) (fm : Value) (i : Nat) (args : Array Value) (s : State) : Prop := args = #[.ref x, .int (Int32.ofNat i)] ∧ Txt x t V 0 n f s ∧ i < n ∧ StaticIs s "java/lang/String" "COMPACT_STRINGS" "Z" (.int z) ∧ ¬ z = 0 ∧ StaticIs s "jdk/internal/util/Preconditions" "SIOOBE_FORMATTER" "Ljava/util/function/BiFunction;" fm ∧ fm.isRef = true
def E (f : Nat → Int32) (i : Nat) (r : Option Value) (s u : State) : Prop := XT.PureE (some (.int (f i))) r s u
/-- charAt(i) of a Latin-1 String of n chars, i < n: f i -/
theorem law (l : Launch) (x t : Addr) (V : Cell) (n : Nat) (f : Nat → Int32) (z : Int32) (fm : Value) (i : Nat) : Law l yN 2 1 3 40 yB 2 (some .char) site (P x t V n f z fm i) (E f i) [] 0 0 := by
  refine Law.of_walk (plainFor_of_name (by decide +kernel)) (by decide +kernel) (by decide +kernel) (by decide) (fun _ _ h => by rw [h.1]; rfl) (fun _ U U' hal hh h => ⟨h.1, h.2.1.mv hal hh, h.2.2.1, h.2.2.2.1.there hal hh, h.2.2.2.2.1, h.2.2.2.2.2.1.there hal hh, h.2.2.2.2.2.2⟩) (fun r U U' V V' h1 hal h2 h => XT.PureE.mv r U U' V V' h1 hal h2 h) ?_
  intro p e s m args below meth c s₁ X0 hexec hbytes hml hret hlk hnm hown hh0 W hP
  obtain ⟨rfl, hx, hi, s1, hz, s3, rf⟩ := hP
  have v31 := hx.2.2.2.1.2.2.2
  have hr := hx.2.2.2.2.2 i hi
  have hx0 := hx.mv X0.warmed.alike hh0
  have c1 : Steps p.tables e below (s₁.setTop (entryFrame m #[.ref x, .int (Int32.ofNat i)] 2)) (s₁.setTop (mkF m 1 #[.val (.ref x), .val (.int (Int32.ofNat i))] [.ref x])) := Steps.trans (entry rfl) (by
    show Steps p.tables e below (s₁.setTop (mkF m 0 #[.val (.ref x), .val (.int (Int32.ofNat i))] [])) _
    refine XS.aloadN X0.here hexec rfl (hb hbytes d0) rfl rfl ?_
    exact Steps.refl _)
  obtain ⟨v2, T2, X2, E2, g2⟩ := X0.callV hexec (IsL.law l x 0 z) hown (wks W (virtW "java/lang/String" 492 "java/lang/String" IsL.yN IsL.yN)) rfl (by decide) (wk W IsL.tab) (W := 0) (Nat.le_of_ble_eq_true rfl) (Nat.le_of_ble_eq_true rfl) (Nat.le_refl _) (Nat.le_refl _) (hx0.1.fc X0.warmed.alike) hx0.1.is (g := (mkF m 1 #[.val (.ref x), .val (.int (Int32.ofNat i))] [.ref x])) rfl (by rw [hml]; rfl) c1 (argsL := []) (rest := []) rfl rfl (by show 2 * 0 + 0 ≤ _; decide) (hb hbytes d1) (⟨rfl, hx0.2.2.1, hx.2.2.2.2.1.cd, s1.there X0.warmed.alike hh0, hz⟩)
  obtain ⟨rfl, q2⟩ := E2
  have hh2 := q2.trans hh0
  have hx2 := hx.mv X2.warmed.alike hh2
  obtain ⟨-, k1, k2⟩ | ⟨k0, -⟩ := hx.2.2.2.2.1
  · have c3 : Steps p.tables e below (s₁.setTop (entryFrame m #[.ref x, .int (Int32.ofNat i)] 2)) (T2.setTop (mkF m 8 #[.val (.ref x), .val (.int (Int32.ofNat i))] [.ref x])) := Steps.trans g2 (by
      refine XS.ifNo X2.here hexec rfl (hb hbytes d4) rfl (i0_eq_f (by decide)) ?_
      refine XS.aloadN X2.here hexec rfl (hb hbytes d7) rfl rfl ?_
      exact Steps.refl _)
    obtain ⟨T4, X4, q4, st4⟩ := X2.hget hexec hown (wk W (.fieldLink "java/lang/String" 9 "java/lang/String" "value" "[B")) hx2.2.1 (g := (mkF m 8 #[.val (.ref x), .val (.int (Int32.ofNat i))] [.ref x])) rfl (rest := []) rfl (hb hbytes d8)
    have hh4 := q4.trans hh2
    have c5 : Steps p.tables e below (s₁.setTop (entryFrame m #[.ref x, .int (Int32.ofNat i)] 2)) (T4.setTop (mkF m 12 #[.val (.ref x), .val (.int (Int32.ofNat i))] [.int (Int32.ofNat i), .ref t])) := (c3.trans (st4 _ (Steps.refl _))).trans (by
      refine XS.iloadN X4.here hexec rfl (hb hbytes d11) rfl ?_
      exact Steps.refl _)
    obtain ⟨v6, T6, X6, E6, g6⟩ := X4.callS hexec (LChA.law l t V i (lo8 (f i)) fm) hown (wks W (staticW "java/lang/String" 495 LChA.yN)) (wk W LChA.tab) (W := 0) (Nat.le_of_ble_eq_true rfl) (Nat.le_of_ble_eq_true rfl) (Nat.le_refl _) (Nat.le_refl _) (g := (mkF m 12 #[.val (.ref x), .val (.int (Int32.ofNat i))] [.int (Int32.ofNat i), .ref t])) rfl (by rw [hml]; rfl) c5 (argsL := [.ref t, .int (Int32.ofNat i)]) (rest := []) rfl rfl (by show 2 * 0 + 0 ≤ _; decide) (hb hbytes d12) (⟨rfl, hx.2.2.2.1.mv X4.warmed.alike hh4, (k2 i hi).1, s3.there X4.warmed.alike hh4, rf⟩)
    obtain ⟨rfl, q6⟩ := E6
    rw [chr8_lo8 hr.1 (k2 i hi).2] at g6
    exact ⟨T6, some (.int (f i)), _, _, _, X6, rfl, rfl, rfl, (fun h => by cases h), ⟨rfl, q6.trans hh4⟩, fun fs hl => Steps.trans g6 (X6.ireturnOut hexec hret (narrow_ch hr.1 hr.2) (Or.inr (Or.inr (Or.inr (Or.inl rfl)))) (hb hbytes d15) hl)⟩
  · exact absurd k0 (by decide)
theorem pays {l : Launch} {R : Room} {p : Program} {e : Env} {below : List Frame} {s : State} {sargs : Array Value} {len W : Nat} (x t : Addr) (V : Cell) (n : Nat) (f : Nat → Int32) (z : Int32) (fm : Value) (i : Nat) (htab : tab.before sargs s = true) (hfr : 4 ≤ R.frames) (hlo : W + 53 ≤ R.locals) :
    Back l R p e below s sargs yN len W (fun A₁ a₁ => A₁.cells + 0 ≤ R.cells ∧ A₁.slots + 0 ≤ R.slots ∧ P x t V n f z fm i a₁ A₁.U) (fun A₁ _ v₁ B₁ => E f i v₁ A₁.U B₁.U ∧ B₁.locs = A₁.locs ++ [] ∧ B₁.cells = A₁.cells + 0 ∧ B₁.slots = A₁.slots + 0) :=
  (law l x t V n f z fm i).pays htab hfr (by omega)
end ChN
end StrChars
namespace StrChars.Road
open Jvm Sem ClassFile Op Lib Jvm.Stand Jvm.Free Jvm.Free.XT
open Jvm.Lib.Cold (StaticIs)
/-- the words of String.charAt(int), the Latin-1 road alone -/
abbrev wordsChN : List Jvm.Cond := [.code ChN.yN ChN.yB 2 (some .char), .initialized ST, .fieldLink ST 9 ST "value" "[B", .fieldLink ST 38 ST "COMPACT_STRINGS" "Z", .fieldLink ST 15 ST "coder" "B", .code IsL.yN IsL.yB 1 (some .boolean), .methodLink ST 492 IsL.yN, .declares IsL.yN, .selects ST IsL.yN IsL.yN, .instanceMethod IsL.yN,
  .methodLink ST 495 LChA.yN, .static LChA.yN, .code LChA.yN LChA.yB 2 (some .char), .initialized "java/lang/StringLatin1", .methodLink "java/lang/StringLatin1" 9 JO.Str_checkIndex.yN, .static JO.Str_checkIndex.yN, .code JO.Str_checkIndex.yN JO.Str_checkIndex.yB 2 none,
  .fieldLink ST 1053 "jdk/internal/util/Preconditions" "SIOOBE_FORMATTER" "Ljava/util/function/BiFunction;", .methodLink ST 1059 JC.PreCheck.yN, .static JC.PreCheck.yN, .code JC.PreCheck.yN JC.PreCheck.yB 3 (some .int), .initialized "jdk/internal/util/Preconditions"]
theorem tabChN_of {a : Array Value} {s : State} (h : ∀ w ∈ wordsChN, w.before a s = true) : ChN.tab.before a s = true := by
  have hp : JC.PreCheck.tab.before a s = true := unparts (wk h (.code JC.PreCheck.yN JC.PreCheck.yB 3 (some .int))) (wks h (.initialized JC.PreCheck.yN.cls :: JC.PreCheck.site))
  have qk := consq hp h
  have hk : JO.Str_checkIndex.tab.before a s = true := unparts (wk qk (.code JO.Str_checkIndex.yN JO.Str_checkIndex.yB 2 none)) (wks qk (.initialized JO.Str_checkIndex.yN.cls :: JO.Str_checkIndex.site))
  have ql := consq hk h
  have hl : LChA.tab.before a s = true := unparts (wk ql (.code LChA.yN LChA.yB 2 (some .char))) (wks ql (.initialized LChA.yN.cls :: LChA.site))
  have hi : IsL.tab.before a s = true := unparts (wk h (.code IsL.yN IsL.yB 1 (some .boolean))) (wks h (.initialized IsL.yN.cls :: IsL.site))
  have q := consq hi (consq hl h)
  exact unparts (wk q (.code ChN.yN ChN.yB 2 (some .char))) (wks q (.initialized ChN.yN.cls :: ChN.site))
theorem movedChN {Z s : State} {a0 args : Array Value} (hZ : Z.Warmed39 s.vm) (hw : ∀ d ∈ wordsChN, d.before a0 Z = true) : ∀ d ∈ wordsChN, d.before args s = true := fun d hd => by
  have t : ∀ d ∈ wordsChN, (d.onTables && d.keepsFace) = true := by decide +kernel
  exact RoadKit.mv hZ (hw d hd) (t d hd)
/-- **charAt(i) OF A LATIN-1 STRING**, i < n: the char -/
theorem chN {p : Program} {l : Launch} {e : Env} {R : Room} {s : State} {args : Array Value} {below : List Frame} {len W : Nat} {Z : State} {a0 : Array Value} {h : Heap} (hZ : Z.Warmed39 s.vm) (hw : ∀ d ∈ wordsChN, d.before a0 Z = true) {kI : Nat} (wi : (Jvm.Cond.instantiable ST kI).before a0 Z = true)
    {x t : Addr} {kb : ClassId} {cs : List Int32} {N2 z : Int32} {vs : List Value} {fm : Value} {i : Nat} {j : Int32} (E : RoadKit.Exa Z h x ST) (V : RoadKit.Fld Z h x ST "value" "[B" (.ref t)) (C : RoadKit.Fld Z h x ST "coder" "B" (.int 0)) (K : RoadKit.Arv Z h t kb .byte N2 vs (.int 0)) (hc : CodA cs 0 N2 vs) (hb : ∀ c ∈ cs, ¬ c < 0 ∧ ¬ (65535 : Int32) < c)
    (S : RoadKit.Sta Z h ST "COMPACT_STRINGS" "Z" (.int z)) (hz : ¬ z = 0) (F : RoadKit.Sta Z h "jdk/internal/util/Preconditions" "SIOOBE_FORMATTER" "Ljava/util/function/BiFunction;" fm) (rf : fm.isRef = true) (l2 : cs.length ≤ 4000) (hi : i < cs.length) (hj : j = Int32.ofNat i) (hfr : 4 ≤ R.frames) (hlo : W + 53 ≤ R.locals) :
    Back l R p e below s args (⟨"java/lang/String", "charAt", "(I)C"⟩ : MethodName) len W (fun P a => a = #[.ref x, .int j] ∧ P.U.heap = h ∧ P.cells + 0 ≤ R.cells ∧ P.slots + 0 ≤ R.slots)
      (fun P _ v B => ∃ L, (v = some (.int (cs.getD i 0)) ∧ L = [] ∧ B.U.heap = h) ∧ B.locs = P.locs ++ L ∧ B.cells = P.cells + 0 ∧ B.slots = P.slots + 0) := by
  subst hj
  intro m meth c P g ig mk a X hg hsize hdg hW hn hp'
  obtain ⟨rfl, rfl, r1, r2⟩ := hp'
  have al : Z.vm.Alike P.U.vm := hZ.alike.trans X.warmed.alike
  obtain ⟨A, hx⟩ := txt_of wi al E V C K hc hb l2
  obtain ⟨v, B, X', ⟨⟨hv, hh⟩, hl, hk, hs⟩, st⟩ := ChN.pays x t A cs.length (fun j => cs.getD j 0) z fm i (tabChN_of (movedChN hZ hw)) hfr hlo m meth c P g ig mk _ X hg hsize hdg hW hn ⟨r1, r2, rfl, hx, hi, sta_is al S, hz, sta_is al F, rf⟩
  exact ⟨v, B, X', ⟨[], ⟨hv, rfl, hh⟩, hl, hk, hs⟩, st⟩
/-- what backV says of its String, as the contracts of this text ask it: cs's low bytes, coder 0 -/
theorem codOf {cs : List Int32} {n : Nat} (hn : cs.length = n) (hb : ∀ c ∈ cs, ¬ 255 < c) : CodA cs 0 (Int32.ofNat n) ((cs.map lo8).map Value.int) := Or.inl ⟨rfl, by rw [hn], by simp [List.map_map, Function.comp_def], hb⟩
end StrChars.Road
end Jvm.Pilot.@@N@@
namespace Jvm.Pilot.@@N@@
open Jvm Jvm.ClassFile Sem Op Lib Jvm.Free Jvm.Stand Jvm.LawKit Jvm.RoadKit Bundle Jvm.Pilot.@@N@@.Jvm.D
section OwnKit
variable {l : Launch} {Z : State} {EL : List (String × Nat)} {n0 : Nat} {p : Program} {e : Env} {R : Room} {s : State} {m : MethodId} {args : Array Value} {below : List Frame} {meth : Method} {c : Code} {own : String} {ws : List Addr} {vm : Vm} {T : State} {h h' h2 : Heap} {locs : List Loc} {cells slots : Nat} {a0 : Array Value} {Rz : Outcome → State → Prop} {A B : State}
/-- the run goes on from here to a good end -/
def oGo (p : Program) (e : Env) (below : List Frame) (Rz : Outcome → State → Prop) (A : State) : Prop :=
  ∃ s₂ o, Steps p.tables e below A s₂ ∧ s₂.status = .running ∧ Ended s₂ below o ∧ Rz o s₂
theorem oSt (h : ∀ t, Steps p.tables e below B t → Steps p.tables e below A t) (k : oGo p e below Rz B) : oGo p e below Rz A := by
  obtain ⟨s₂, o, h1, r⟩ := k
  exact ⟨s₂, o, h _ h1, r⟩
theorem oCast {g g' : JFrame} (q : g = g') (k : oGo p e below Rz (T.setTop g')) : oGo p e below Rz (T.setTop g) := q ▸ k
theorem oExtR (h : Heap) : Ext h h := ⟨Nat.le_refl _, fun _ _ q => q⟩
theorem oExtT (E : Ext h h') (E' : Ext h' h2) : Ext h h2 := ⟨Nat.le_trans E.1 E'.1, fun a c q => E'.2 a c (E.2 a c q)⟩
theorem oExtK {ws' : List Addr} (E : Ext h h') (K : Keep h' h2 ws') (q : ∀ x ∈ ws', h.size ≤ x) : Ext h h2 :=
  ⟨Nat.le_trans E.1 K.1, fun x c r => K.2.1 x c (E.2 x c r) fun z => absurd (Array.getElem?_eq_some_iff.mp r).1 (Nat.not_lt.mpr (q x z))⟩
theorem oExtW {a : Addr} {sl : Nat} {v : Value} (E : Ext h h') (W : Wr h' h2 a sl v) (q : h.size ≤ a) : Ext h h2 :=
  oExtK E (Keep.of_wr W) (allS q all0)
theorem oExt0 (K : Keep h h' []) : Ext h h' := ⟨K.1, fun x c r => K.2.1 x c r nin0⟩
theorem oKeep0 (E : Ext h h') : Keep h h' [] := (Keep.refl _ _).ext E
theorem oIn1 {P : Addr → Prop} {x : Addr} (q : P x) : ∀ y ∈ [x], P y := allS q all0
/-- where the walk stands: the run, the heap, the tables, the places written, what stood, what the literals' book says -/
def oA (l : Launch) (Z : State) (EL : List (String × Nat)) (n0 : Nat) (p : Program) (e : Env) (R : Room) (s : State) (m : MethodId) (args : Array Value) (below : List Frame) (meth : Method) (c : Code) (own : String) (ws : List Addr) (vm : Vm) (T : State) (h : Heap) (locs : List Loc) (cells slots : Nat) : Prop :=
  Stand p l e R (s.setVm vm) m args below meth c T locs cells slots ∧ T.heap = h ∧ Z.Warmed39 vm ∧ vm.findClass own = some m.cls ∧ (∃ k, s.Since vm k ∧ k ≤ h.size) ∧ Fr n0 locs ∧ Old Z n0 h ∧ Keep s.heap h ws ∧ CHr Z EL s.vm s.heap vm h
theorem oA.here (A : oA l Z EL n0 p e R s m args below meth c own ws vm T h locs cells slots) : At T m c below := A.1.here
theorem oA.al (A : oA l Z EL n0 p e R s m args below meth c own ws vm T h locs cells slots) : Z.vm.Alike vm := A.2.2.1.alike
theorem oA.old (A : oA l Z EL n0 p e R s m args below meth c own ws vm T h locs cells slots) : Ext Z.heap h := A.2.2.2.2.2.2.1.2
theorem oA.oldn (A : oA l Z EL n0 p e R s m args below meth c own ws vm T h locs cells slots) : Old Z n0 h := A.2.2.2.2.2.2.1
theorem oA.n0le (A : oA l Z EL n0 p e R s m args below meth c own ws vm T h locs cells slots) : n0 ≤ h.size := A.2.2.2.2.2.2.1.1 ▸ A.2.2.2.2.2.2.1.2.1
theorem oA.keep (A : oA l Z EL n0 p e R s m args below meth c own ws vm T h locs cells slots) : Keep s.heap h ws := A.2.2.2.2.2.2.2.1
theorem oA.ch (A : oA l Z EL n0 p e R s m args below meth c own ws vm T h locs cells slots) : CHv Z EL vm h := A.2.2.2.2.2.2.2.2.1
theorem oA.sle (A : oA l Z EL n0 p e R s m args below meth c own ws vm T h locs cells slots) : s.heap.size ≤ h.size := A.keep.1
theorem oA.mono {k n : Nat} (A : oA l Z EL n0 p e R s m args below meth c own ws vm T h locs cells slots) (h1 : cells ≤ k) (h2 : slots ≤ n) : oA l Z EL n0 p e R s m args below meth c own ws vm T h locs k n := ⟨A.1.mono h1 h2, A.2⟩
/-- the walk stands behind a step that moved the tables alone -/
theorem oA.set {T' : State} (A : oA l Z EL n0 p e R s m args below meth c own ws vm T h locs cells slots) (X : Stand p l e R (s.setVm vm) m args below meth c T' locs cells slots) (eT : T'.heap = h) : oA l Z EL n0 p e R s m args below meth c own ws vm T' h locs cells slots := ⟨X, eT, A.2.2⟩
/-- .. that made a cell or more -/
theorem oA.grow {T' : State} {k n : Nat} (A : oA l Z EL n0 p e R s m args below meth c own ws vm T h locs cells slots) (X : Stand p l e R (s.setVm vm) m args below meth c T' locs k n) (eT : T'.heap = h') (E : Ext h h') : oA l Z EL n0 p e R s m args below meth c own ws vm T' h' locs k n := by
  obtain ⟨-, -, hZ, ho, ⟨k, hS, hk⟩, N, O, K, C⟩ := A
  exact ⟨X, eT, hZ, ho, ⟨k, hS, Nat.le_trans hk E.1⟩, N, O.ext E, K.ext E, C.trans (CHr.ext E C.1)⟩
/-- .. that wrote one place -/
theorem oA.write {T' : State} {a : Addr} {sl : Nat} {v : Value} (A : oA l Z EL n0 p e R s m args below meth c own ws vm T h locs cells slots) (X : Stand p l e R (s.setVm vm) m args below meth c T' (locs ++ [⟨a, sl⟩]) cells slots) (eT : T'.heap = h') (W : Wr h h' a sl v) (q1 : n0 ≤ a) (q2 : a ∈ ws ∨ s.heap.size ≤ a) (q3 : Safe Z EL vm h a) : oA l Z EL n0 p e R s m args below meth c own ws vm T' h' (locs ++ [⟨a, sl⟩]) cells slots := by
  obtain ⟨-, -, hZ, ho, ⟨k, hS, hk⟩, N, O, K, C⟩ := A
  exact ⟨X, eT, hZ, ho, ⟨k, hS, by rw [W.size]; exact hk⟩, N.app fun y hy => by cases List.mem_singleton.mp hy; exact q1, O.wr W q1, K.wr W q2, C.trans (CHr.wr W q3 C.1)⟩
theorem oA.safeExa {x : Addr} {C : String} (A : oA l Z EL n0 p e R s m args below meth c own ws vm T h locs cells slots) (E : Exa Z h x C) (h1 : C ≠ "java/lang/String") (h2 : C ≠ "[B") : Safe Z EL vm h x := Safe.exa A.al E h1 h2
/-! single steps -/
theorem oA.getF (A : oA l Z EL n0 p e R s m args below meth c own ws vm T h locs cells slots) (hx : p.tables.exec = Jvm.exec) {R0 O n d host : String} {index : Nat} (w : (Jvm.Cond.fieldLink own index R0 n d).before a0 Z = true ∨ (Jvm.Cond.fieldLinkNest own index R0 n d host).before a0 Z = true) (via : Via Z R0 O n d) {a : Addr} {v : Value} (F : Fld Z h a O n d v) {g : JFrame} (hg : g.method = m) {rest : List Value} (hs : g.stack = .ref a :: rest) (hd : decode c.code g.pc = .ok (.getfield index, 3)) :
    ∃ T', oA l Z EL n0 p e R s m args below meth c own ws vm T' h locs cells slots ∧ ∀ t, Steps p.tables e below (T'.setTop { g with pc := g.pc + 3, stack := v :: rest }) t → Steps p.tables e below (T.setTop g) t := by
  obtain ⟨T', X', e', st⟩ := RoadKit.getF A.1 hx A.2.2.1 A.2.2.2.1 w via A.2.1 F hg hs hd
  exact ⟨T', A.set X' e', st⟩
theorem oA.putF (A : oA l Z EL n0 p e R s m args below meth c own ws vm T h locs cells slots) (hx : p.tables.exec = Jvm.exec) {R0 O n d host C : String} {index kk : Nat} {ty : FieldType} (w : (Jvm.Cond.fieldLink own index R0 n d).before a0 Z = true ∨ (Jvm.Cond.fieldLinkNest own index R0 n d host).before a0 Z = true) (via : Via Z R0 O n d) {a : Addr} {v old : Value} (F : Fld Z h a O n d old) (E : Exa Z h a C)
    (L : (Jvm.Cond.lays C O n d).before a0 Z = true ∨ ((Jvm.Cond.laysFinal C O n d).before a0 Z = true ∧ own = O ∧ meth.name = "<init>")) (wi : (Jvm.Cond.instantiable C kk).before a0 Z = true) (hty : parseFieldDescriptor d = some ty) (hn : narrow ty v = v) (hf : fits ty v = true) (q1 : n0 ≤ a) (q2 : a ∈ ws ∨ s.heap.size ≤ a) (q3 : Safe Z EL vm h a)
    {g : JFrame} (hg : g.method = m) {rest : List Value} (hs : g.stack = v :: .ref a :: rest) (hd : decode c.code g.pc = .ok (.putfield index, 3)) :
    ∃ T' h', oA l Z EL n0 p e R s m args below meth c own ws vm T' h' (locs ++ [⟨a, Jvm.RoadKit.slotOf Z O n d⟩]) cells slots ∧ Wr h h' a (Jvm.RoadKit.slotOf Z O n d) v ∧ ∀ t, Steps p.tables e below (T'.setTop { g with pc := g.pc + 3, stack := rest }) t → Steps p.tables e below (T.setTop g) t := by
  obtain ⟨T', h', X', e', W, st⟩ := RoadKit.putF A.1 hx A.2.2.1 A.2.2.2.1 w via A.2.1 F E L wi hty hn hf hg hs hd
  exact ⟨T', h', A.write X' e' W q1 q2 q3, W, st⟩
theorem oA.getS (A : oA l Z EL n0 p e R s m args below meth c own ws vm T h locs cells slots) (hx : p.tables.exec = Jvm.exec) {R0 O n d host : String} {index : Nat} (w : (Jvm.Cond.fieldLink own index R0 n d).before a0 Z = true ∨ (Jvm.Cond.fieldLinkNest own index R0 n d host).before a0 Z = true) (via : Via Z R0 O n d) {v : Value} (F : Sta Z Z.heap O n d v) {g : JFrame} (hg : g.method = m) (hd : decode c.code g.pc = .ok (.getstatic index, 3)) :
    ∃ T', oA l Z EL n0 p e R s m args below meth c own ws vm T' h locs cells slots ∧ ∀ t, Steps p.tables e below (T'.setTop { g with pc := g.pc + 3, stack := v :: g.stack }) t → Steps p.tables e below (T.setTop g) t := by
  obtain ⟨T', X', e', st⟩ := RoadKit.getS2 A.1 hx A.2.2.1 A.2.2.2.1 w via A.2.1 (F.ext A.old) hg hd
  exact ⟨T', A.set X' e', st⟩
theorem oA.newO (A : oA l Z EL n0 p e R s m args below meth c own ws vm T h locs cells slots) (hx : p.tables.exec = Jvm.exec) {C : String} {index n : Nat} (w : (Jvm.Cond.classLink own index C).before a0 Z = true) (wi : (Jvm.Cond.instantiable C n).before a0 Z = true) (wz : (Jvm.Cond.initialized C).before a0 Z = true) {g : JFrame} (hg : g.method = m) (hd : decode c.code g.pc = .ok (.new index, 3)) (hc : cells + 1 ≤ R.cells) (hl : slots + n ≤ R.slots) :
    ∃ T' h' x, x = h.size ∧ x < h'.size ∧ n0 ≤ x ∧ s.heap.size ≤ x ∧ oA l Z EL n0 p e R s m args below meth c own ws vm T' h' locs (cells + 1) (slots + n) ∧ Ext h h' ∧ Exa Z h' x C ∧ Safe Z EL vm h' x ∧ (∀ {O nm d : String} {ty : FieldType}, Laid Z a0 C O nm d → parseFieldDescriptor d = some ty → Fld Z h' x O nm d (defaultValue ty)) ∧
      ∀ t, Steps p.tables e below (T'.setTop { g with pc := g.pc + 3, stack := .ref x :: g.stack }) t → Steps p.tables e below (T.setTop g) t := by
  obtain ⟨T', h', X', e', E, Ex, D, -, st⟩ := RoadKit.newO A.1 hx A.2.2.1 A.2.2.2.1 w wi wz A.2.1 hg hd hc hl
  exact ⟨T', h', h.size, rfl, Ex.lt, A.n0le, A.sle, A.grow X' e' E, E, Ex, (Safe.new (Nat.le_refl _)).ext E A.ch, D, st⟩
theorem oA.newP (A : oA l Z EL n0 p e R s m args below meth c own ws vm T h locs cells slots) (hx : p.tables.exec = Jvm.exec) {aty : ArrayType} (w : (Jvm.Cond.arrayClass (newarray.typeOf aty)).before a0 Z = true) {g : JFrame} (hg : g.method = m) (hd : decode c.code g.pc = .ok (.newarray aty, 2)) {n : Int32} {rest : List Value} (hs : g.stack = .int n :: rest)
    (hn : ¬ n < 0) {cap : Nat} (hcap : n.toNatClampNeg ≤ cap) (hb : cap * 8 ≤ 536870912) (hc : cells + 1 ≤ R.cells) (hl : slots + cap ≤ R.slots) :
    ∃ T' h' x k, x = h.size ∧ x < h'.size ∧ n0 ≤ x ∧ s.heap.size ≤ x ∧ oA l Z EL n0 p e R s m args below meth c own ws vm T' h' locs (cells + 1) (slots + cap) ∧ Ext h h' ∧ Arv Z h' x k (newarray.typeOf aty) n [] (defaultValue (newarray.typeOf aty)) ∧ Safe Z EL vm h' x ∧
      ∀ t, Steps p.tables e below (T'.setTop { g with pc := g.pc + 2, stack := .ref x :: rest }) t → Steps p.tables e below (T.setTop g) t := by
  obtain ⟨T', h', k, X', e', E, Ar, st⟩ := RoadKit.newP A.1 hx A.2.2.1 w A.2.1 hg hd hs hn hcap hb hc hl
  exact ⟨T', h', h.size, k, rfl, Ar.lt, A.n0le, A.sle, A.grow X' e' E, E, Arv.new Ar hn, (Safe.new (Nat.le_refl _)).ext E A.ch, st⟩
theorem oA.stC (A : oA l Z EL n0 p e R s m args below meth c own ws vm T h locs cells slots) (hx : p.tables.exec = Jvm.exec) {a : Addr} {k : ClassId} {z : Int32} {vs : List Value} {d : Value} (V : Arv Z h a k .char z vs d) {j x : Int32} (i : Nat) (hj : j.toNatClampNeg = i) (hj0 : ¬ j < 0 ∧ j < z) (hi : i < vs.length) (q1 : n0 ≤ a) (q2 : a ∈ ws ∨ s.heap.size ≤ a)
    {g : JFrame} (hg : g.method = m) {rest : List Value} (hs : g.stack = .int x :: .int j :: .ref a :: rest) (hd : decode c.code g.pc = .ok (.castore, 1)) :
    ∃ T' h', oA l Z EL n0 p e R s m args below meth c own ws vm T' h' (locs ++ [⟨a, j.toNatClampNeg⟩]) cells slots ∧ Wr h h' a j.toNatClampNeg (.int (nar .char x)) ∧ Arv Z h' a k .char z (vs.set i (.int (nar .char x))) d ∧ ∀ t, Steps p.tables e below (T'.setTop { g with pc := g.pc + 1, stack := rest }) t → Steps p.tables e below (T.setTop g) t := by
  have hsafe : Safe Z EL vm h a := Safe.arv A.al V (by simp)
  obtain ⟨cl, Ar, r1, S, r3, H, G⟩ := V
  obtain ⟨T', h', X', e', W, st⟩ := RoadKit.stC A.1 hx A.2.2.1 A.2.1 Ar (inb_of S hj0) hg hs hd
  exact ⟨T', h', A.write X' e' W q1 q2 hsafe, W, Arv.set Ar r1 S r3 H G (fits_nar_char _) W i hj hi, st⟩
theorem oA.stB (A : oA l Z EL n0 p e R s m args below meth c own ws vm T h locs cells slots) (hx : p.tables.exec = Jvm.exec) {a : Addr} {k : ClassId} {z : Int32} {vs : List Value} {d : Value} (V : Arv Z h a k .byte z vs d) {j x : Int32} (i : Nat) (hj : j.toNatClampNeg = i) (hj0 : ¬ j < 0 ∧ j < z) (hi : i < vs.length) (q1 : n0 ≤ a) (q2 : a ∈ ws ∨ s.heap.size ≤ a) (q3 : Safe Z EL vm h a)
    {g : JFrame} (hg : g.method = m) {rest : List Value} (hs : g.stack = .int x :: .int j :: .ref a :: rest) (hd : decode c.code g.pc = .ok (.bastore, 1)) :
    ∃ T' h', oA l Z EL n0 p e R s m args below meth c own ws vm T' h' (locs ++ [⟨a, j.toNatClampNeg⟩]) cells slots ∧ Wr h h' a j.toNatClampNeg (.int (nar .byte x)) ∧ Arv Z h' a k .byte z (vs.set i (.int (nar .byte x))) d ∧ ∀ t, Steps p.tables e below (T'.setTop { g with pc := g.pc + 1, stack := rest }) t → Steps p.tables e below (T.setTop g) t := by
  obtain ⟨cl, Ar, r1, S, r3, H, G⟩ := V
  obtain ⟨T', h', X', e', W, st⟩ := RoadKit.stB A.1 hx A.2.2.1 A.2.1 Ar (inb_of S hj0) hg hs hd
  exact ⟨T', h', A.write X' e' W q1 q2 q3, W, Arv.set Ar r1 S r3 H G (fits_nar_byte _) W i hj hi, st⟩
theorem oA.len (A : oA l Z EL n0 p e R s m args below meth c own ws vm T h locs cells slots) (hx : p.tables.exec = Jvm.exec) {a : Addr} {k : ClassId} {ty : FieldType} {z : Int32} {vs : List Value} {d : Value} (V : Arv Z h a k ty z vs d) {g : JFrame} (hg : g.method = m) {rest : List Value} (hs : g.stack = .ref a :: rest) (hd : decode c.code g.pc = .ok (.arraylength, 1)) :
    ∀ t, Steps p.tables e below (T.setTop { g with pc := g.pc + 1, stack := .int z :: rest }) t → Steps p.tables e below (T.setTop g) t := by
  obtain ⟨cl, Ar, r1, S, r3, H, G⟩ := V
  intro t ht
  refine A.1.arraylength hx (by rw [A.2.1]; exact Ar.1) (State.isArrayOf_alike A.al Ar.2.1) hg hs hd _ ?_
  rw [len_of S r3]
  exact ht
theorem oA.ldC (A : oA l Z EL n0 p e R s m args below meth c own ws vm T h locs cells slots) (hx : p.tables.exec = Jvm.exec) {a : Addr} {k : ClassId} {z : Int32} {vs : List Value} {d v : Value} (V : Arv Z h a k .char z vs d) {j : Int32} (hj0 : ¬ j < 0 ∧ j < z) (hv : vs.getD j.toNatClampNeg d = v) {g : JFrame} (hg : g.method = m) {rest : List Value} (hs : g.stack = .int j :: .ref a :: rest) (hd : decode c.code g.pc = .ok (.caload, 1)) :
    ∀ t, Steps p.tables e below (T.setTop { g with pc := g.pc + 1, stack := v :: rest }) t → Steps p.tables e below (T.setTop g) t := by
  obtain ⟨cl, Ar, r1, S, r3, H, G⟩ := V
  intro t ht
  exact A.1.caload hx (by rw [A.2.1]; exact Ar.1) (State.isArrayOf_alike A.al Ar.2.1) Ar.2.2 (inb_of S hj0) (H.at (inb_of S hj0) hv) hg hs hd _ ht
theorem oA.ldB (A : oA l Z EL n0 p e R s m args below meth c own ws vm T h locs cells slots) (hx : p.tables.exec = Jvm.exec) {a : Addr} {k : ClassId} {z : Int32} {vs : List Value} {d v : Value} (V : Arv Z h a k .byte z vs d) {j : Int32} (hj0 : ¬ j < 0 ∧ j < z) (hv : vs.getD j.toNatClampNeg d = v) {g : JFrame} (hg : g.method = m) {rest : List Value} (hs : g.stack = .int j :: .ref a :: rest) (hd : decode c.code g.pc = .ok (.baload, 1)) :
    ∀ t, Steps p.tables e below (T.setTop { g with pc := g.pc + 1, stack := v :: rest }) t → Steps p.tables e below (T.setTop g) t := by
  obtain ⟨cl, Ar, r1, S, r3, H, G⟩ := V
  intro t ht
  exact A.1.baloadBytes hx (by rw [A.2.1]; exact Ar.1) (State.isArrayOf_alike A.al Ar.2.1) Ar.2.2 (inb_of S hj0) (H.at (inb_of S hj0) hv) hg hs hd _ ht
theorem oA.ldR (A : oA l Z EL n0 p e R s m args below meth c own ws vm T h locs cells slots) (hx : p.tables.exec = Jvm.exec) {a : Addr} {k : ClassId} {ty : FieldType} {z : Int32} {vs : List Value} {d v : Value} (V : Arv Z h a k ty z vs d) (hty : ty.isReference = true) {j : Int32} (hj0 : ¬ j < 0 ∧ j < z) (hv : vs.getD j.toNatClampNeg d = v) {g : JFrame} (hg : g.method = m) {rest : List Value} (hs : g.stack = .int j :: .ref a :: rest) (hd : decode c.code g.pc = .ok (.aaload, 1)) :
    ∀ t, Steps p.tables e below (T.setTop { g with pc := g.pc + 1, stack := v :: rest }) t → Steps p.tables e below (T.setTop g) t := by
  obtain ⟨cl, Ar, r1, S, r3, H, G⟩ := V
  intro t ht
  exact A.1.aaload hx (by rw [A.2.1]; exact Ar.1) (State.isArrayOf_alike A.al Ar.2.1) hty Ar.2.2 (inb_of S hj0) (H.at (inb_of S hj0) hv) hg hs hd _ ht
theorem oA.ldcI (A : oA l Z EL n0 p e R s m args below meth c own ws vm T h locs cells slots) (hx : p.tables.exec = Jvm.exec) {index : Nat} {v : Int32} (w : (Jvm.Cond.constant own index v).before a0 Z = true) {g : JFrame} (hg : g.method = m) (hd : decode c.code g.pc = .ok (.ldc index, 2)) :
    ∀ t, Steps p.tables e below (T.setTop { g with pc := g.pc + 2, stack := .int v :: g.stack }) t → Steps p.tables e below (T.setTop g) t :=
  A.1.ldcInt hx A.2.2.2.1 (mvT A.2.2.1 w) hg hd
theorem oA.ldcJ (A : oA l Z EL n0 p e R s m args below meth c own ws vm T h locs cells slots) (hx : p.tables.exec = Jvm.exec) {index : Nat} {v : Int64} (w : (Jvm.Cond.constantLong own index v).before a0 Z = true) {g : JFrame} (hg : g.method = m) (hd : decode c.code g.pc = .ok (.ldc2_w index, 3)) :
    ∀ t, Steps p.tables e below (T.setTop { g with pc := g.pc + 3, stack := .long v :: g.stack }) t → Steps p.tables e below (T.setTop g) t :=
  fun t ht => A.1.ldc2J hx A.2.2.2.1 (mvT A.2.2.1 w) hg hd ht
theorem oA.initO (A : oA l Z EL n0 p e R s m args below meth c own ws vm T h locs cells slots) (hx : p.tables.exec = Jvm.exec) {idx : Nat} (w1 : (Jvm.Cond.methodLink own idx Lib.objectInit).before a0 Z = true) (w2 : (Jvm.Cond.instanceMethod Lib.objectInit).before a0 Z = true) (w3 : (Jvm.Cond.code Lib.objectInit ⟨#[0xb1]⟩ 1 none).before a0 Z = true) {g : JFrame} (hg : g.method = m) (hsize : g.locals.size = c.maxLocals) {a : Addr} {rest : List Value} (hs : g.stack = .ref a :: rest) (hd : decode c.code g.pc = .ok (.invokespecial idx, 3))
    (hf : 1 ≤ R.frames) {W : Nat} (hW : 2 * g.monitorRoom + (rest.map fun v => v.category).sum ≤ W) (hl : W + 12 ≤ R.locals) :
    ∃ T', oA l Z EL n0 p e R s m args below meth c own ws vm T' h locs cells slots ∧ ∀ t, Steps p.tables e below (T'.setTop { g with pc := g.pc + 3, stack := rest }) t → Steps p.tables e below (T.setTop g) t := by
  obtain ⟨T', X', e', st⟩ := RoadKit.initO A.1 hx A.2.2.1 A.2.2.2.1 w1 w2 w3 A.2.1 hg hsize hs hd hf hW hl
  exact ⟨T', A.set X' e', st⟩
theorem oA.castY (A : oA l Z EL n0 p e R s m args below meth c own ws vm T h locs cells slots) (hx : p.tables.exec = Jvm.exec) {K : String} {index : Nat} (w : (Jvm.Cond.classLink own index K).before a0 Z = true) {a : Addr} (F : Ins Z h a K true) {g : JFrame} (hg : g.method = m) {rest : List Value} (hs : g.stack = .ref a :: rest) (hd : decode c.code g.pc = .ok (.checkcast index, 3)) :
    ∃ T', oA l Z EL n0 p e R s m args below meth c own ws vm T' h locs cells slots ∧ ∀ t, Steps p.tables e below (T'.setTop { g with pc := g.pc + 3 }) t → Steps p.tables e below (T.setTop g) t := by
  obtain ⟨T', X', e', st⟩ := RoadKit.castY A.1 hx A.2.2.1 A.2.2.2.1 w A.2.1 F hg hs hd
  exact ⟨T', A.set X' e', st⟩
theorem oA.instY (A : oA l Z EL n0 p e R s m args below meth c own ws vm T h locs cells slots) (hx : p.tables.exec = Jvm.exec) {K : String} {index : Nat} (w : (Jvm.Cond.classLink own index K).before a0 Z = true) {a : Addr} (F : Ins Z h a K true) {g : JFrame} (hg : g.method = m) {rest : List Value} (hs : g.stack = .ref a :: rest) (hd : decode c.code g.pc = .ok (.instanceof index, 3)) :
    ∃ T', oA l Z EL n0 p e R s m args below meth c own ws vm T' h locs cells slots ∧ ∀ t, Steps p.tables e below (T'.setTop { g with pc := g.pc + 3, stack := .int 1 :: rest }) t → Steps p.tables e below (T.setTop g) t := by
  obtain ⟨T', X', e', st⟩ := RoadKit.instY A.1 hx A.2.2.1 A.2.2.2.1 w A.2.1 F hg hs hd
  exact ⟨T', A.set X' e', st⟩
theorem oA.instNo (A : oA l Z EL n0 p e R s m args below meth c own ws vm T h locs cells slots) (hx : p.tables.exec = Jvm.exec) {K C : String} {index : Nat} (w : (Jvm.Cond.classLink own index K).before a0 Z = true) {a : Addr} (E : Exa Z h a C) (F : ∃ c t, Z.vm.findClass C = some c ∧ Z.vm.findClass K = some t ∧ Z.vm.assignable c t = false) {g : JFrame} (hg : g.method = m) {rest : List Value} (hs : g.stack = .ref a :: rest) (hd : decode c.code g.pc = .ok (.instanceof index, 3)) :
    ∃ T', oA l Z EL n0 p e R s m args below meth c own ws vm T' h locs cells slots ∧ ∀ t, Steps p.tables e below (T'.setTop { g with pc := g.pc + 3, stack := .int 0 :: rest }) t → Steps p.tables e below (T.setTop g) t := by
  obtain ⟨T', X', e', st⟩ := RoadKit.instNo A.1 hx A.2.2.1 A.2.2.2.1 w A.2.1 E F hg hs hd
  exact ⟨T', A.set X' e', st⟩
/-- ldc of a String constant of the book: the String, its array, its text -/
theorem oA.ldcS (A : oA l Z EL n0 p e R s m args below meth c own ws vm T h locs cells slots) (hx : p.tables.exec = Jvm.exec) {text : String} {index : Nat} (w : (Jvm.Cond.stringLink own index text).before a0 Z = true) (wS : ∀ a ∈ Bundle.stringAtoms, a.before a0 Z = true) (hEL : EW Z a0 EL) (hmem : (own, index) ∈ EL)
    {vs : List Value} {z : Int32} (ht : (∀ c ∈ text.toList, c.toNat < 256) ∧ text.toList.map (fun c => Value.int (Jvm.Lit.byteI c.toNat.toUInt16)) = vs) (hz : ¬ z < 0) (hl : z.toNatClampNeg = vs.length)
    {g : JFrame} (hg : g.method = m) (hd : decode c.code g.pc = .ok (.ldc index, 2)) {n : Nat} (hn : 4 * text.toList.length ≤ n) (hbig : n ≤ 536870912) (hc : cells + 2 ≤ R.cells) (hl' : slots + (n + 4) ≤ R.slots) :
    ∃ (x : Addr) (T' : State) (h' : Heap) (b : Addr) (k : ClassId), oA l Z EL n0 p e R s m args below meth c own ws T'.vm T' h' locs (cells + 2) (slots + (n + 4)) ∧ Ext h h' ∧ CHr Z EL vm h T'.vm h' ∧ Exa Z h' x "java/lang/String" ∧ Fld Z h' x "java/lang/String" "coder" "B" (.int 0) ∧ Fld Z h' x "java/lang/String" "value" "[B" (.ref b) ∧ Arv Z h' b k .byte z vs (.int 0) ∧ (∀ y, Safe Z EL T'.vm h' y → y ≠ x ∧ y ≠ b) ∧ Lit (s.setVm T'.vm) own index x ∧
      ∀ t, Steps p.tables e below (T'.setTop { g with pc := g.pc + 2, stack := .ref x :: g.stack }) t → Steps p.tables e below (T.setTop g) t := by
  obtain ⟨X, eT, hZ, ho, ⟨k0, hS, hk⟩, N, O, K, C⟩ := A
  obtain ⟨a, T', h', k1, b, k, r1, r2, r3, r4, r5, r6, r7, r8, r9, r10, r11, r12, r13, r14, r15, r16, st⟩ := ldcCH X hx hZ ho w wS eT hS hk hEL hmem C.1 ht hz hl hg hd hn hbig hc hl'
  exact ⟨a, T', h', b, k, ⟨r1, r2, r6, r7, ⟨k1, r4, r5⟩, N, O.ext r3, K.ext r3, C.trans r14⟩, r3, r14, r8, r9, r10, r11, r16, r15, st⟩
/-- a second load of the same constant -/
theorem oA.ldcS2 (A : oA l Z EL n0 p e R s m args below meth c own ws vm T h locs cells slots) (hx : p.tables.exec = Jvm.exec) {text : String} {index : Nat} (w : (Jvm.Cond.stringLink own index text).before a0 Z = true) {x : Addr} (L : Lit (s.setVm vm) own index x) {g : JFrame} (hg : g.method = m) (hd : decode c.code g.pc = .ok (.ldc index, 2)) :
    ∀ t, Steps p.tables e below (T.setTop { g with pc := g.pc + 2, stack := .ref x :: g.stack }) t → Steps p.tables e below (T.setTop g) t :=
  ldcAgain A.1 hx A.2.2.1 A.2.2.2.1 w L hg hd
/-! the contract of a body -/
def oMet (l : Launch) (Z : State) (EL : List (String × Nat)) (n0 : Nat) (y : MethodName) (bytes : ByteArray) (maxL : Nat) (ret : Option FieldType) (wz : List Jvm.Cond) (rm : Room) (as' : Array Value) (h0 : Heap) (ws : List Addr) (P : Option Value → Vm → Heap → Prop) : Prop :=
  MetFree l y (head1 (Jvm.Cond.code y bytes maxL ret :: wz) rm) (fun a U => a = as' ∧ Z.Warmed39 U.vm ∧ U.heap = h0 ∧ CHv Z EL U.vm h0 ∧ ∀ y ∈ ws, Safe Z EL U.vm h0 y) (fun _ _ _ _ _ => True) (fun _ U o U' => ∃ v L, o = .returned v ∧ (Fr n0 L ∧ Keep h0 U'.heap ws ∧ P v U'.vm U'.heap) ∧ CHr Z EL U.vm U.heap U'.vm U'.heap ∧ ReturnedEndW U o U' L rm.cells rm.slots)
/-- what the walk of a body must come to -/
def oEnd (Z : State) (EL : List (String × Nat)) (n0 : Nat) (rm : Room) (s : State) (ws : List Addr) (P : Option Value → Vm → Heap → Prop) (o : Outcome) (u : State) : Prop :=
  ∃ v L, o = .returned v ∧ (Fr n0 L ∧ Keep s.heap u.heap ws ∧ P v u.vm u.heap) ∧ CHr Z EL s.vm s.heap u.vm u.heap ∧ ReturnedEndW s o u L rm.cells rm.slots
theorem oMet.of {y : MethodName} {bytes : ByteArray} {maxL : Nat} {ret : Option FieldType} {wz : List Jvm.Cond} {rm : Room} {as' : Array Value} {h0 : Heap} {P : Option Value → Vm → Heap → Prop} (hpl : plainFor y = true) (hO : Old Z n0 h0)
    (body : ∀ (p : Program) (e : Env) (s : State) (m : MethodId) (below : List Frame) (meth : Method) (c : Code) (s₁ : State), p.tables.exec = Jvm.exec → c.code = bytes → c.maxLocals = maxL → meth.sig.returnType = ret → meth.name = y.name → meth.locks = false → s.heap = h0 → (∀ y ∈ ws, Safe Z EL s.vm h0 y) →
      oA l Z EL n0 p e rm s m as' below meth c y.cls ws s.vm s₁ h0 [] 0 0 → oGo p e below (oEnd Z EL n0 rm s ws P) (s₁.setTop (entryFrame m as' maxL))) : oMet l Z EL n0 y bytes maxL ret wz rm as' h0 ws P := by
  refine MetFree.of_bodySF hpl hisR ?_
  intro p e s m args below meth c s₁ Bd hml0 hP hK
  obtain ⟨ha, hZ, hh, hC, hsf⟩ := hP
  subst ha
  subst hh
  have X0 : Stand p l e rm (s.setVm s.vm) m args below meth c s₁ [] 0 0 := Stand.of_body Bd
  have e0 : s₁.heap = s.heap := by rw [Bd.state]; rfl
  exact body p e s m below meth c s₁ Bd.exec Bd.bytes hml0 Bd.returns (name_of_methodNamed Bd.named Bd.method).1 (BodyLoose.notSynchronized Bd) rfl hsf ⟨X0, e0, hZ, findClass_of_methodNamed Bd.named, ⟨0, (State.WarmedH.refl s).since _, Nat.zero_le _⟩, Fr.nil _, hO, Keep.refl _ _, CHr.refl hC⟩
/-- the end of a body's walk -/
theorem oA.leave (A : oA l Z EL n0 p e R s m args below meth c own ws vm T h locs cells slots) (hlk : meth.locks = false) (hEL : EW Z a0 EL) {v : Option Value} (hv : meth.sig.returnType = none → v = none) {P : Option Value → Vm → Heap → Prop} (hP : ∀ vm', CHr Z EL vm h vm' h → P v vm' h) (hc : cells ≤ R.cells) (hsl : slots ≤ R.slots)
    (st : ∀ fs, (∀ (f : JFrame) (acts : List Action), f.method = m → f.locked = none → f.entered = [] → (doReturn e (T.setTop f) acts v).1 = T.setFrames fs) → Steps p.tables e below B (T.setFrames fs)) : oGo p e below (oEnd Z EL n0 R s ws P) B := by
  obtain ⟨X, eT, hZ, ho, ⟨k, hS, hk⟩, N, O, K, C⟩ := A
  have C3 := CHv.at X hZ hEL C.1
  have C2 := C.trans C3
  subst eT
  obtain ⟨fs, h1, h2, h3, r1, r2, r3, r4⟩ := X.leaveW hS hk hv hlk
  exact ⟨T.setFrames fs, .returned v, st fs h1, h2, h3, v, locs, rfl, ⟨N, K, hP _ C3⟩, C2, r1, r2, r3, r4.mono hc hsl⟩
/-! calls by a contract -/
theorem oBackOf {y : MethodName} {bytes : ByteArray} {maxL : Nat} {ret : Option FieldType} {rm : Room} {len W : Nat} {as' : Array Value} {ws' : List Addr} {P : Option Value → Vm → Heap → Prop} (hM : oMet l Z EL n0 y bytes maxL ret [] rm as' h ws' P) (hZ : Z.Warmed39 vm) (wc : (Jvm.Cond.code y bytes maxL ret).before a0 Z = true) (wz : (Jvm.Cond.initialized y.cls).before a0 Z = true) (hf : rm.frames + 1 ≤ R.frames) (hl : W + (maxL + 11) + rm.locals ≤ R.locals) (hEL : EW Z a0 EL) (H : CHv Z EL vm h) (hsf : ∀ y ∈ ws', Safe Z EL vm h y) :
    BackS l R p e below (s.setVm vm) args y len W (fun A a => a = as' ∧ A.U.heap = h ∧ A.cells + rm.cells ≤ R.cells ∧ A.slots + rm.slots ≤ R.slots)
      (fun A _ v B => ∃ L, (Fr n0 L ∧ Keep h B.U.heap ws' ∧ P v B.U.vm B.U.heap) ∧ B.locs = A.locs ++ L ∧ B.cells = A.cells + rm.cells ∧ B.slots = A.slots + rm.slots ∧ CHr Z EL vm h B.U.vm B.U.heap) := by
  refine BackS.of_freeW (bytes := bytes) (maxL := maxL) (ret := ret) (E := fun _ U o t L k n => (k = rm.cells ∧ n = rm.slots) ∧ (∃ v, o = .returned v ∧ Fr n0 L ∧ Keep h t.heap ws' ∧ P v t.vm t.heap) ∧ CHr Z EL U.vm U.heap t.vm t.heap) hM hf hl ?_ ?_ (fun _ _ _ _ _ _ _ _ _ => trivial) ?_ ?_
  · intro m meth c A a Y hp
    have hU : Z.Warmed39 A.U.vm := wtrans (s := s.setVm vm) hZ Y.warmed
    exact ⟨by show (Jvm.Cond.and _ .tt).before a A.U = true; rw [Cond.before_and, mv hU wc]; rfl, mv hU wc, mv hU wz, hp.2.2.1, hp.2.2.2⟩
  · intro m meth c A a g mk Y hp
    have hC := CHv.at Y hZ hEL H
    refine ⟨hp.1, wtrans (s := s.setVm vm) hZ Y.warmed, hp.2.1, hC.1, fun y hy => ?_⟩
    by_cases q : y < h.size
    · exact hC.safe q (hsf y hy)
    · exact Safe.new (Nat.le_of_not_lt q)
  · intro _ _ _ _ ⟨v, L, h1, h2, h3, h4⟩
    exact ⟨L, _, _, h4, ⟨rfl, rfl⟩, ⟨v, h1, h2⟩, h3⟩
  · intro m meth c A a g mk v t L k n Y hp _ _ ⟨⟨e1, e2⟩, ⟨v', e3, e4⟩, e5⟩
    cases e3
    subst e1 e2
    refine ⟨L, e4, rfl, rfl, rfl, (CHv.at Y hZ hEL H).trans ?_⟩
    rw [← hp.2.1]
    exact e5
theorem oA.back (A : oA l Z EL n0 p e R s m args below meth c own ws vm T h locs cells slots) {rm : Room} {y : MethodName} {ws' : List Addr} {P : Option Value → Vm → Heap → Prop} {v : Option Value} {vm₁ : Vm} {as' : Array Value} {B : Pt} {k n : Nat}
    (X' : Stand p l e R ((s.setVm vm).setVm B.U.vm) m args below meth c B.U B.locs B.cells B.slots) (hS' : (s.setVm vm).Since B.U.vm B.U.heap.size) (hgr : T.heap.size ≤ B.U.heap.size)
    (hQ : ∃ L, (Fr n0 L ∧ Keep h B.U.heap ws' ∧ P v B.U.vm B.U.heap) ∧ B.locs = locs ++ L ∧ B.cells = cells + k ∧ B.slots = slots + n ∧ CHr Z EL vm h B.U.vm B.U.heap) (q1 : ∀ x ∈ ws', n0 ≤ x) (q2 : ∀ x ∈ ws', x ∈ ws ∨ s.heap.size ≤ x) :
    ∃ L, oA l Z EL n0 p e R s m args below meth c own ws B.U.vm B.U B.U.heap (locs ++ L) (cells + k) (slots + n) ∧ Keep h B.U.heap ws' ∧ CHr Z EL vm h B.U.vm B.U.heap ∧ P v B.U.vm B.U.heap := by
  obtain ⟨X, eT, hZ, ho, ⟨k0, hS, hk⟩, N, O, K, C⟩ := A
  obtain ⟨L, ⟨f1, f2, f3⟩, e1, e2, e3, hC⟩ := hQ
  obtain ⟨X2, S2, Z2, o2⟩ := rebS hS (show k0 ≤ T.heap.size by rw [eT]; exact hk) X' hS' hgr hZ ho
  rw [e1, e2, e3] at X2
  exact ⟨L, ⟨X2, rfl, Z2, o2, ⟨_, S2, Nat.le_refl _⟩, N.app f1, O.keep f2 q1, K.trans f2 q2, C.trans hC⟩, f2, hC, f3⟩
theorem oA.callS (A : oA l Z EL n0 p e R s m args below meth c own ws vm T h locs cells slots) (hx : p.tables.exec = Jvm.exec) {index : Nat} {y : MethodName} {bytes : ByteArray} {maxL : Nat} {ret : Option FieldType} (w1 : (Jvm.Cond.methodLink own index y).before a0 Z = true) (w2 : (Jvm.Cond.static y).before a0 Z = true) (w3 : (Jvm.Cond.initialized y.cls).before a0 Z = true) (w4 : (Jvm.Cond.code y bytes maxL ret).before a0 Z = true) (hy : y.cls ≠ "java/lang/invoke/MethodHandle" ∧ y.cls ≠ "java/lang/invoke/VarHandle") (hEL : EW Z a0 EL)
    {rm : Room} {argsL rest : List Value} {ws' : List Addr} {P : Option Value → Vm → Heap → Prop} (M : oMet l Z EL n0 y bytes maxL ret [] rm argsL.toArray h ws' P) {W : Nat} (hf : rm.frames + 1 ≤ R.frames) (hl : W + (maxL + 11) + rm.locals ≤ R.locals) (hc : cells + rm.cells ≤ R.cells) (hsl : slots + rm.slots ≤ R.slots) (q1 : ∀ x ∈ ws', n0 ≤ x) (q2 : ∀ x ∈ ws', x ∈ ws ∨ s.heap.size ≤ x) (q3 : ∀ x ∈ ws', Safe Z EL vm h x)
    {g : JFrame} (hg : g.method = m) (hsize : g.locals.size = c.maxLocals) (hlen : ∀ sig, parseMethodDescriptor y.desc = some sig → argsL.length = sig.parameters.length) (hstack : g.stack = argsL.reverse ++ rest) (hW : 2 * g.monitorRoom + (rest.map fun v => v.category).sum ≤ W) (hd : decode c.code g.pc = .ok (.invokestatic index, 3)) :
    ∃ (v : Option Value) (vm' : Vm) (T' : State) (h' : Heap) (L : List Loc), oA l Z EL n0 p e R s m args below meth c own ws vm' T' h' (locs ++ L) (cells + rm.cells) (slots + rm.slots) ∧ Keep h h' ws' ∧ CHr Z EL vm h vm' h' ∧ P v vm' h' ∧ ∀ t, Steps p.tables e below (T'.setTop { g with pc := g.pc + 3, stack := v.toList ++ rest }) t → Steps p.tables e below (T.setTop g) t := by
  have hZ := A.2.2.1
  obtain ⟨v, vm₁, B, -, X', hS', hgr, hQ, st⟩ := RoadKit.callSS (s := s.setVm vm) A.1 hx A.2.2.2.1 (mvT (s := s.setVm vm) hZ w1) (mvT (s := s.setVm vm) hZ w2) (mvT (s := s.setVm vm) hZ w3) (mvT (s := s.setVm vm) hZ w4) hy (oBackOf (s := s) (args := args) M hZ w4 w3 hf hl hEL A.ch q3) hg hsize hlen hstack hW hd (fun vm₁ _ => ⟨rfl, A.2.1, hc, hsl⟩)
  obtain ⟨L, A', r⟩ := A.back (rm := rm) (y := y) (vm₁ := vm₁) (as' := #[]) X' hS' hgr hQ q1 q2
  exact ⟨v, _, B.U, _, L, A', r.1, r.2.1, r.2.2, fun t ht => st.trans ht⟩
theorem oA.callN (A : oA l Z EL n0 p e R s m args below meth c own ws vm T h locs cells slots) (hx : p.tables.exec = Jvm.exec) {index : Nat} {y : MethodName} {bytes : ByteArray} {maxL : Nat} (hy1 : y.name = "<init>") (w1 : (Jvm.Cond.methodLink own index y).before a0 Z = true) (w2 : (Jvm.Cond.instanceMethod y).before a0 Z = true) (w3 : (Jvm.Cond.initialized y.cls).before a0 Z = true) (w4 : (Jvm.Cond.code y bytes maxL none).before a0 Z = true) (hy : y.cls ≠ "java/lang/invoke/MethodHandle" ∧ y.cls ≠ "java/lang/invoke/VarHandle") (hEL : EW Z a0 EL)
    {rm : Room} {a : Addr} {argsL rest : List Value} {ws' : List Addr} {P : Option Value → Vm → Heap → Prop} (M : oMet l Z EL n0 y bytes maxL none [] rm (.ref a :: argsL).toArray h ws' P) {W : Nat} (hf : rm.frames + 1 ≤ R.frames) (hl : W + (maxL + 11) + rm.locals ≤ R.locals) (hc : cells + rm.cells ≤ R.cells) (hsl : slots + rm.slots ≤ R.slots) (q1 : ∀ x ∈ ws', n0 ≤ x) (q2 : ∀ x ∈ ws', x ∈ ws ∨ s.heap.size ≤ x) (q3 : ∀ x ∈ ws', Safe Z EL vm h x)
    {g : JFrame} (hg : g.method = m) (hsize : g.locals.size = c.maxLocals) (hlen : ∀ sig, parseMethodDescriptor y.desc = some sig → argsL.length = sig.parameters.length) (hstack : g.stack = argsL.reverse ++ .ref a :: rest) (hW : 2 * g.monitorRoom + (rest.map fun v => v.category).sum ≤ W) (hd : decode c.code g.pc = .ok (.invokespecial index, 3)) :
    ∃ (v : Option Value) (vm' : Vm) (T' : State) (h' : Heap) (L : List Loc), oA l Z EL n0 p e R s m args below meth c own ws vm' T' h' (locs ++ L) (cells + rm.cells) (slots + rm.slots) ∧ Keep h h' ws' ∧ CHr Z EL vm h vm' h' ∧ P v vm' h' ∧ ∀ t, Steps p.tables e below (T'.setTop { g with pc := g.pc + 3, stack := v.toList ++ rest }) t → Steps p.tables e below (T.setTop g) t := by
  have hZ := A.2.2.1
  obtain ⟨v, vm₁, B, -, X', hS', hgr, hQ, st⟩ := Stand.specialBackS (s := s.setVm vm) A.1 hx hy1 A.2.2.2.1 (mvT (s := s.setVm vm) hZ w1) (mvT (s := s.setVm vm) hZ w2) (mvT (s := s.setVm vm) hZ w4) hy (oBackOf (s := s) (args := args) M hZ w4 w3 hf hl hEL A.ch q3) hg hsize (Steps.refl _) hlen hstack hW hd (fun vm₁ _ => ⟨rfl, A.2.1, hc, hsl⟩)
  obtain ⟨L, A', r⟩ := A.back (rm := rm) (y := y) (vm₁ := vm₁) (as' := #[]) X' hS' hgr hQ q1 q2
  exact ⟨v, _, B.U, _, L, A', r.1, r.2.1, r.2.2, fun t ht => st.trans ht⟩
theorem oA.callV (A : oA l Z EL n0 p e R s m args below meth c own ws vm T h locs cells slots) (hx : p.tables.exec = Jvm.exec) {index : Nat} {C : String} {y z : MethodName} {bytes : ByteArray} {maxL : Nat} {ret : Option FieldType} (w1 : (Jvm.Cond.methodLink own index y).before a0 Z = true) (w2 : (Jvm.Cond.declares y).before a0 Z = true) (nf : NotFace (s.setVm vm) y) (w5 : (Jvm.Cond.selects C y z).before a0 Z = true) (w6 : (Jvm.Cond.instanceMethod z).before a0 Z = true) (w3 : (Jvm.Cond.initialized z.cls).before a0 Z = true) (w4 : (Jvm.Cond.code z bytes maxL ret).before a0 Z = true) (hy : y.cls ≠ "java/lang/invoke/MethodHandle" ∧ y.cls ≠ "java/lang/invoke/VarHandle") (hEL : EW Z a0 EL)
    {rm : Room} {a : Addr} {argsL rest : List Value} {ws' : List Addr} {P : Option Value → Vm → Heap → Prop} (M : oMet l Z EL n0 z bytes maxL ret [] rm (.ref a :: argsL).toArray h ws' P) (E : Exa Z h a C) {W : Nat} (hf : rm.frames + 1 ≤ R.frames) (hl : W + (maxL + 11) + rm.locals ≤ R.locals) (hc : cells + rm.cells ≤ R.cells) (hsl : slots + rm.slots ≤ R.slots) (q1 : ∀ x ∈ ws', n0 ≤ x) (q2 : ∀ x ∈ ws', x ∈ ws ∨ s.heap.size ≤ x) (q3 : ∀ x ∈ ws', Safe Z EL vm h x)
    {g : JFrame} (hg : g.method = m) (hsize : g.locals.size = c.maxLocals) (hlen : ∀ sig, parseMethodDescriptor y.desc = some sig → argsL.length = sig.parameters.length) (hstack : g.stack = argsL.reverse ++ .ref a :: rest) (hW : 2 * g.monitorRoom + (rest.map fun v => v.category).sum ≤ W) (hd : decode c.code g.pc = .ok (.invokevirtual index, 3)) :
    ∃ (v : Option Value) (vm' : Vm) (T' : State) (h' : Heap) (L : List Loc), oA l Z EL n0 p e R s m args below meth c own ws vm' T' h' (locs ++ L) (cells + rm.cells) (slots + rm.slots) ∧ Keep h h' ws' ∧ CHr Z EL vm h vm' h' ∧ P v vm' h' ∧ ∀ t, Steps p.tables e below (T'.setTop { g with pc := g.pc + 3, stack := v.toList ++ rest }) t → Steps p.tables e below (T.setTop g) t := by
  have hZ := A.2.2.1
  obtain ⟨cq, kq, qa, qb, qc⟩ := isOf (s := s.setVm vm) hZ A.2.1 E
  obtain ⟨v, vm₁, B, -, X', hS', hgr, hQ, st⟩ := Stand.virtualBackS (s := s.setVm vm) A.1 hx A.2.2.2.1 (mvT (s := s.setVm vm) hZ w1) (mvT (s := s.setVm vm) hZ w2) nf (mvT (s := s.setVm vm) hZ w5) (mvT (s := s.setVm vm) hZ w6) hy (oBackOf (s := s) (args := args) M hZ w4 w3 hf hl hEL A.ch q3) qa qc hg hsize (Steps.refl _) hlen hstack hW hd (fun vm₁ _ => ⟨rfl, A.2.1, hc, hsl⟩)
  obtain ⟨L, A', r⟩ := A.back (rm := rm) (y := y) (vm₁ := vm₁) (as' := #[]) X' hS' hgr hQ q1 q2
  exact ⟨v, _, B.U, _, L, A', r.1, r.2.1, r.2.2, fun t ht => st.trans ht⟩
theorem oA.callU (A : oA l Z EL n0 p e R s m args below meth c own ws vm T h locs cells slots) (hx : p.tables.exec = Jvm.exec) {index : Nat} {K : String} {y : MethodName} {bytes : ByteArray} {maxL : Nat} {ret : Option FieldType} (w1 : (Jvm.Cond.methodLink own index y).before a0 Z = true) (w2 : (Jvm.Cond.sameMethod y.cls y.cls y.name y.desc).before a0 Z = true) (w6 : (Jvm.Cond.instanceMethod y).before a0 Z = true) (w7 : (Jvm.Cond.superclass own y.cls).before a0 Z = true) (hn : y.name ≠ "<init>") (w3 : (Jvm.Cond.initialized y.cls).before a0 Z = true) (w4 : (Jvm.Cond.code y bytes maxL ret).before a0 Z = true) (hEL : EW Z a0 EL)
    {rm : Room} {a : Addr} {argsL rest : List Value} {ws' : List Addr} {P : Option Value → Vm → Heap → Prop} (M : oMet l Z EL n0 y bytes maxL ret [] rm (.ref a :: argsL).toArray h ws' P) (F : Ins Z h a K true) {W : Nat} (hf : rm.frames + 1 ≤ R.frames) (hl : W + (maxL + 11) + rm.locals ≤ R.locals) (hc : cells + rm.cells ≤ R.cells) (hsl : slots + rm.slots ≤ R.slots) (q1 : ∀ x ∈ ws', n0 ≤ x) (q2 : ∀ x ∈ ws', x ∈ ws ∨ s.heap.size ≤ x) (q3 : ∀ x ∈ ws', Safe Z EL vm h x)
    {g : JFrame} (hg : g.method = m) (hsize : g.locals.size = c.maxLocals) (hlen : ∀ sig, parseMethodDescriptor y.desc = some sig → argsL.length = sig.parameters.length) (hstack : g.stack = argsL.reverse ++ .ref a :: rest) (hW : 2 * g.monitorRoom + (rest.map fun v => v.category).sum ≤ W) (hd : decode c.code g.pc = .ok (.invokespecial index, 3)) :
    ∃ (v : Option Value) (vm' : Vm) (T' : State) (h' : Heap) (L : List Loc), oA l Z EL n0 p e R s m args below meth c own ws vm' T' h' (locs ++ L) (cells + rm.cells) (slots + rm.slots) ∧ Keep h h' ws' ∧ CHr Z EL vm h vm' h' ∧ P v vm' h' ∧ ∀ t, Steps p.tables e below (T'.setTop { g with pc := g.pc + 3, stack := v.toList ++ rest }) t → Steps p.tables e below (T.setTop g) t := by
  have hZ := A.2.2.1
  obtain ⟨v, vm₁, B, -, X', hS', hgr, hQ, st⟩ := RoadKit.superBackS (s := s.setVm vm) A.1 hx hZ A.2.2.2.1 w1 w2 w6 w7 hn (oBackOf (s := s) (args := args) M hZ w4 w3 hf hl hEL A.ch q3) A.2.1 F hg hsize w4 hlen hstack hW hd (fun vm₁ _ => ⟨rfl, A.2.1, hc, hsl⟩)
  obtain ⟨L, A', r⟩ := A.back (rm := rm) (y := y) (vm₁ := vm₁) (as' := #[]) X' hS' hgr hQ q1 q2
  exact ⟨v, _, B.U, _, L, A', r.1, r.2.1, r.2.2, fun t ht => st.trans ht⟩
theorem oA.nf (A : oA l Z EL n0 p e R s m args below meth c own ws vm T h locs cells slots) {C : String} {y : MethodName} (w : (Jvm.Cond.selects C y y).before a0 Z = true) : NotFace (s.setVm vm) y := notFace_of_selects (args := #[]) (mvT (s := s.setVm vm) A.2.2.1 w)
theorem oDecl {y : MethodName} {bytes : ByteArray} {maxL : Nat} {ret : Option FieldType} (w1 : (Jvm.Cond.instanceMethod y).before a0 Z = true) (w2 : (Jvm.Cond.code y bytes maxL ret).before a0 Z = true) : (Jvm.Cond.declares y).before a0 Z = true := by
  obtain ⟨m, meth, h1, h2, h3, -⟩ := Cond.instanceMethod_spec w1
  obtain ⟨meth', c, g1, -, -, -, -, -, -, g2⟩ := Cond.code_spec h1 w2
  cases h2.symm.trans g1
  simp [Cond.before, Cond.holds, Cond.value, h1, h2, h3, g2]
theorem oNfZ {C : String} {y y' : MethodName} (w : (Jvm.Cond.selects C y' y').before a0 Z = true) (e : y'.cls = y.cls) : NotFace Z y := fun r0 h0 => by
  obtain ⟨-, -, m2, -, -, q3, -, kP, hkP, hkPi⟩ := Cond.selects_spec w
  have h1 := findClass_of_methodNamed h0
  have h2 := findClass_of_methodNamed q3
  rw [e, h1] at h2
  have h3 : r0.cls = m2.cls := Option.some.inj h2
  exact ⟨kP, by rw [h3]; exact hkP, hkPi⟩
theorem oA.nf2 (A : oA l Z EL n0 p e R s m args below meth c own ws vm T h locs cells slots) {C : String} {y y' : MethodName} (w : (Jvm.Cond.selects C y' y').before a0 Z = true) (e : y'.cls = y.cls) : NotFace (s.setVm vm) y := oNfZ (a0 := #[]) (mvT (s := s.setVm vm) A.2.2.1 w) e
theorem oSame {y : MethodName} (w1 : (Jvm.Cond.instanceMethod y).before a0 Z = true) (nf : NotFace Z y) (hy : y.cls ≠ "java/lang/invoke/MethodHandle" ∧ y.cls ≠ "java/lang/invoke/VarHandle") : (Jvm.Cond.sameMethod y.cls y.cls y.name y.desc).before a0 Z = true := by
  obtain ⟨m, meth, h1, -, -, -⟩ := Cond.instanceMethod_spec w1
  have hf := State.methodFound?_of_named h1 hy
  have hc := findClass_of_methodNamed h1
  obtain ⟨kr, g1, g2⟩ := nf m h1
  have h1' : Z.methodNamed? ⟨y.cls, y.name, y.desc⟩ = some m := h1
  simp [Cond.before, Cond.holds, Cond.value, hc, hf, h1', g1, g2]
/-! a call that a payer answers and that leaves all as it was -/
theorem oA.pay (A : oA l Z EL n0 p e R s m args below meth c own ws vm T h locs cells slots) {v : Option Value} {vm₁ : Vm} {B : Pt} {Qp : Option Value → Prop} (X' : Stand p l e R (s.setVm vm) m args below meth c B.U B.locs B.cells B.slots) (hQ : ∃ L, (Qp v ∧ L = [] ∧ B.U.heap = h) ∧ B.locs = locs ++ L ∧ B.cells = cells + 0 ∧ B.slots = slots + 0) : oA l Z EL n0 p e R s m args below meth c own ws vm B.U h locs cells slots ∧ Qp v := by
  obtain ⟨L, ⟨q, rfl, eh⟩, e1, e2, e3⟩ := hQ
  rw [e1, e2, e3, List.append_nil] at X'
  exact ⟨A.set X' eh, q⟩
theorem oA.payV (A : oA l Z EL n0 p e R s m args below meth c own ws vm T h locs cells slots) (hx : p.tables.exec = Jvm.exec) {index : Nat} {C : String} {y z : MethodName} (w1 : (Jvm.Cond.methodLink own index y).before a0 Z = true) (w2 : (Jvm.Cond.declares y).before a0 Z = true) (nf : NotFace (s.setVm vm) y) (w5 : (Jvm.Cond.selects C y z).before a0 Z = true) (w6 : (Jvm.Cond.instanceMethod z).before a0 Z = true) (hy : y.cls ≠ "java/lang/invoke/MethodHandle" ∧ y.cls ≠ "java/lang/invoke/VarHandle")
    {a : Addr} {argsL rest : List Value} {W : Nat} {Qp : Option Value → Prop} (M : Back l R p e below (s.setVm vm) args z 3 W (fun P a' => a' = (.ref a :: argsL).toArray ∧ P.U.heap = h ∧ P.cells + 0 ≤ R.cells ∧ P.slots + 0 ≤ R.slots) (fun P _ v B => ∃ L, (Qp v ∧ L = [] ∧ B.U.heap = h) ∧ B.locs = P.locs ++ L ∧ B.cells = P.cells + 0 ∧ B.slots = P.slots + 0)) (E : Exa Z h a C) (hc : cells + 0 ≤ R.cells) (hsl : slots + 0 ≤ R.slots)
    {g : JFrame} (hg : g.method = m) (hsize : g.locals.size = c.maxLocals) (hlen : ∀ sig, parseMethodDescriptor y.desc = some sig → argsL.length = sig.parameters.length) (hstack : g.stack = argsL.reverse ++ .ref a :: rest) (hW : 2 * g.monitorRoom + (rest.map fun v => v.category).sum ≤ W) (hd : decode c.code g.pc = .ok (.invokevirtual index, 3)) :
    ∃ (v : Option Value) (T' : State), oA l Z EL n0 p e R s m args below meth c own ws vm T' h locs cells slots ∧ Qp v ∧ ∀ t, Steps p.tables e below (T'.setTop { g with pc := g.pc + 3, stack := v.toList ++ rest }) t → Steps p.tables e below (T.setTop g) t := by
  have hZ := A.2.2.1
  obtain ⟨cq, kq, qa, qb, qc⟩ := isOf (s := s.setVm vm) hZ A.2.1 E
  obtain ⟨v, vm₁, B, -, X', hQ, st⟩ := Stand.virtualBack (s := s.setVm vm) A.1 hx A.2.2.2.1 (mvT (s := s.setVm vm) hZ w1) (mvT (s := s.setVm vm) hZ w2) nf (mvT (s := s.setVm vm) hZ w5) (mvT (s := s.setVm vm) hZ w6) hy M qa qc hg hsize (Steps.refl _) hlen hstack hW hd (fun vm₁ _ => ⟨rfl, A.2.1, hc, hsl⟩)
  obtain ⟨A', q⟩ := A.pay (vm₁ := vm₁) X' hQ
  exact ⟨v, B.U, A', q, fun t ht => st.trans ht⟩
/-! Strings of Latin-1 chars -/
def oStr (Z : State) (h : Heap) (x : Addr) (cs : List Int32) : Prop :=
  (∀ c ∈ cs, ¬ c < 0 ∧ ¬ (255 : Int32) < c) ∧ cs.length ≤ 4000 ∧ ∃ (t : Addr) (k : ClassId), Exa Z h x "java/lang/String" ∧ Fld Z h x "java/lang/String" "value" "[B" (.ref t) ∧ Fld Z h x "java/lang/String" "coder" "B" (.int 0) ∧ Arv Z h t k .byte (Int32.ofNat cs.length) ((cs.map fun c => c.toInt8.toInt32).map Value.int) (.int 0)
theorem oStr.ext {x : Addr} {cs : List Int32} (S : oStr Z h x cs) (E : Ext h h') : oStr Z h' x cs := by
  obtain ⟨r1, r2, t, k, e1, e2, e3, e4⟩ := S
  exact ⟨r1, r2, t, k, e1.ext E, e2.ext E, e3.ext E, e4.ext E⟩
theorem oStr.exa {x : Addr} {cs : List Int32} (S : oStr Z h x cs) : Exa Z h x "java/lang/String" := by
  obtain ⟨r1, r2, t, k, e1, e2, e3, e4⟩ := S
  exact e1
theorem oStr.lt {x : Addr} {cs : List Int32} (S : oStr Z h x cs) : x < h.size := S.exa.lt
theorem oUp {cs : List Int32} (h : ∀ c ∈ cs, ¬ c < 0 ∧ ¬ (255 : Int32) < c) : ∀ c ∈ cs, ¬ c < 0 ∧ ¬ (65535 : Int32) < c := fun c hc => ⟨(h c hc).1, fun q => (h c hc).2 (by rw [Int32.lt_iff_toInt_lt] at q ⊢; have e1 : (65535 : Int32).toInt = 65535 := rfl; have e2 : (255 : Int32).toInt = 255 := rfl; omega)⟩

theorem oA.sNew (A : oA l Z EL n0 p e R s m args below meth c own ws vm T h locs cells slots) (hx : p.tables.exec = Jvm.exec) (hws : ∀ d ∈ StrChars.Road.words, d.before a0 Z = true) {index : Nat} {bytes : ByteArray} (wi : (Jvm.Cond.instantiable "java/lang/String" 4).before a0 Z = true) (w1 : (Jvm.Cond.methodLink own index (⟨"java/lang/String", "<init>", "([C)V"⟩ : MethodName)).before a0 Z = true) (w2 : (Jvm.Cond.instanceMethod (⟨"java/lang/String", "<init>", "([C)V"⟩ : MethodName)).before a0 Z = true) (w4 : (Jvm.Cond.code (⟨"java/lang/String", "<init>", "([C)V"⟩ : MethodName) bytes 2 none).before a0 Z = true)
    {x b : Addr} {kC : ClassId} {cs : List Int32} {N zc : Int32} {d v0 c0 : Value} (E : Exa Z h x "java/lang/String") (V : Fld Z h x "java/lang/String" "value" "[B" v0) (Cd : Fld Z h x "java/lang/String" "coder" "B" c0) (K : Arv Z h b kC .char N (cs.map Value.int) d) (C : Sta Z Z.heap "java/lang/String" "COMPACT_STRINGS" "Z" (.int zc)) (hz : ¬ zc = 0) {n : Nat} (hn : cs.length = n) (hN : N = Int32.ofNat n) (l0 : 0 < n) (l2 : n ≤ 4000) (hp : ∀ c ∈ cs, ¬ c < 0 ∧ ¬ (255 : Int32) < c)
    (q1 : n0 ≤ x) (q2 : x ∈ ws ∨ s.heap.size ≤ x) (q3 : Safe Z EL vm h x) {W : Nat} (hfr : 4 ≤ R.frames) (hlo : W + 65 ≤ R.locals) (hc : cells + 1 ≤ R.cells) (hsl : slots + n ≤ R.slots)
    {g : JFrame} (hg : g.method = m) (hsize : g.locals.size = c.maxLocals) {rest : List Value} (hs : g.stack = .ref b :: .ref x :: rest) (hW : 2 * g.monitorRoom + (rest.map fun v => v.category).sum ≤ W) (hd : decode c.code g.pc = .ok (.invokespecial index, 3)) :
    ∃ (T' : State) (h' : Heap) (L : List Loc), oA l Z EL n0 p e R s m args below meth c own ws vm T' h' (locs ++ L) (cells + 1) (slots + n) ∧ Keep h h' [x] ∧ oStr Z h' x cs ∧ ∀ t, Steps p.tables e below (T'.setTop { g with pc := g.pc + 3, stack := rest }) t → Steps p.tables e below (T.setTop g) t := by
  have hZ := A.2.2.1
  have hn0 := A.n0le
  have hold := A.old
  obtain ⟨v, vm₁, ⟨U, Ls, kk, nn⟩, -, X', ⟨L, ⟨rfl, N', K', Ex, Cd', t, kb, -, -, -, V', Ar⟩, e1, e2, e3⟩, st⟩ := Stand.specialBack (s := s.setVm vm) (y := (⟨"java/lang/String", "<init>", "([C)V"⟩ : MethodName)) A.1 hx rfl A.2.2.2.1 (mvT (s := s.setVm vm) hZ w1) (mvT (s := s.setVm vm) hZ w2) (mvT (s := s.setVm vm) hZ w4) (by decide) (StrChars.Road.backV (s := s.setVm vm) (args := args) (W := W) hZ hws wi q1 hn0 E V Cd K (C.ext hold) hz hn hN l0 l2 hp rfl hfr hlo) hg hsize (Steps.refl _) (a := x) (argsL := [.ref b]) (rest := rest) (lenOf (by decide +kernel : parseMethodDescriptor "([C)V" = some ⟨[(.array .char)], none⟩) rfl) hs hW hd (fun vm₁ _ => ⟨rfl, A.2.1, hc, hsl⟩)
  obtain ⟨X, eT, hZ, ho, ⟨k0, hS, hk⟩, N2, O, K2, C2⟩ := A
  dsimp only [Pt.U, Pt.locs, Pt.cells, Pt.slots] at X' e1 e2 e3 K' Ex Cd' V' Ar st
  subst e1 e2 e3
  refine ⟨U, U.heap, L, ⟨X', rfl, hZ, ho, ⟨k0, hS, Nat.le_trans hk K'.1⟩, N2.app N', O.keep K' (oIn1 q1), K2.trans K' (oIn1 q2), C2.trans (CHr.keep K' (oIn1 q3) C2.1)⟩, K', ⟨hp, by omega, t, kb, Ex, V', Cd', ?_⟩, fun t ht => st.trans ht⟩
  rw [hn, ← hN]
  exact Ar

theorem oA.sLen (A : oA l Z EL n0 p e R s m args below meth c own ws vm T h locs cells slots) (hx : p.tables.exec = Jvm.exec) (hws : ∀ d ∈ StrChars.Road.wordsLen, d.before a0 Z = true) {index : Nat} (wi : (Jvm.Cond.instantiable "java/lang/String" 4).before a0 Z = true) (w1 : (Jvm.Cond.methodLink own index (⟨"java/lang/String", "length", "()I"⟩ : MethodName)).before a0 Z = true) (w2 : (Jvm.Cond.declares (⟨"java/lang/String", "length", "()I"⟩ : MethodName)).before a0 Z = true) (w5 : (Jvm.Cond.selects "java/lang/String" (⟨"java/lang/String", "length", "()I"⟩ : MethodName) (⟨"java/lang/String", "length", "()I"⟩ : MethodName)).before a0 Z = true) (w6 : (Jvm.Cond.instanceMethod (⟨"java/lang/String", "length", "()I"⟩ : MethodName)).before a0 Z = true)
    {x : Addr} {cs : List Int32} (S : oStr Z h x cs) {zc : Int32} (C : Sta Z Z.heap "java/lang/String" "COMPACT_STRINGS" "Z" (.int zc)) (hz : ¬ zc = 0) {W : Nat} (hfr : 2 ≤ R.frames) (hlo : W + 25 ≤ R.locals) (hc : cells + 0 ≤ R.cells) (hsl : slots + 0 ≤ R.slots)
    {g : JFrame} (hg : g.method = m) (hsize : g.locals.size = c.maxLocals) {rest : List Value} (hs : g.stack = .ref x :: rest) (hW : 2 * g.monitorRoom + (rest.map fun v => v.category).sum ≤ W) (hd : decode c.code g.pc = .ok (.invokevirtual index, 3)) :
    ∃ T', oA l Z EL n0 p e R s m args below meth c own ws vm T' h locs cells slots ∧ ∀ t, Steps p.tables e below (T'.setTop { g with pc := g.pc + 3, stack := (.int (Int32.ofNat cs.length)) :: rest }) t → Steps p.tables e below (T.setTop g) t := by
  have hexa := S.exa
  obtain ⟨r1, r2, t, k, e1, e2, e3, e4⟩ := S
  obtain ⟨v, T', A', hv, st⟩ := A.payV hx (y := (⟨"java/lang/String", "length", "()I"⟩ : MethodName)) (z := (⟨"java/lang/String", "length", "()I"⟩ : MethodName)) w1 w2 (A.nf w5) w5 w6 (by decide) (argsL := []) (rest := rest) (W := W) (StrChars.Road.lenW (s := s.setVm vm) (args := args) (W := W) A.2.2.1 hws wi e1 e2 e3 e4 (StrChars.Road.codOf rfl (fun c hc => (r1 c hc).2)) (oUp r1) (C.ext A.old) hz r2 hfr hlo) hexa hc hsl hg hsize (lenOf (by decide +kernel : parseMethodDescriptor "()I" = some ⟨[], some .int⟩) rfl) hs hW hd
  subst hv
  exact ⟨T', A', st⟩

theorem oA.sCh (A : oA l Z EL n0 p e R s m args below meth c own ws vm T h locs cells slots) (hx : p.tables.exec = Jvm.exec) (hws : ∀ d ∈ StrChars.Road.wordsChN, d.before a0 Z = true) {index : Nat} (wi : (Jvm.Cond.instantiable "java/lang/String" 4).before a0 Z = true) (w1 : (Jvm.Cond.methodLink own index (⟨"java/lang/String", "charAt", "(I)C"⟩ : MethodName)).before a0 Z = true) (w2 : (Jvm.Cond.declares (⟨"java/lang/String", "charAt", "(I)C"⟩ : MethodName)).before a0 Z = true) (w5 : (Jvm.Cond.selects "java/lang/String" (⟨"java/lang/String", "charAt", "(I)C"⟩ : MethodName) (⟨"java/lang/String", "charAt", "(I)C"⟩ : MethodName)).before a0 Z = true) (w6 : (Jvm.Cond.instanceMethod (⟨"java/lang/String", "charAt", "(I)C"⟩ : MethodName)).before a0 Z = true)
    {x : Addr} {cs : List Int32} (S : oStr Z h x cs) {zc : Int32} (C : Sta Z Z.heap "java/lang/String" "COMPACT_STRINGS" "Z" (.int zc)) (hz : ¬ zc = 0) {fm : Value} (Fm : Sta Z Z.heap "jdk/internal/util/Preconditions" "SIOOBE_FORMATTER" "Ljava/util/function/BiFunction;" fm) (rf : fm.isRef = true) {i : Nat} {j : Int32} (hi : i < cs.length) (hj : j = Int32.ofNat i) {W : Nat} (hfr : 4 ≤ R.frames) (hlo : W + 53 ≤ R.locals) (hc : cells + 0 ≤ R.cells) (hsl : slots + 0 ≤ R.slots)
    {g : JFrame} (hg : g.method = m) (hsize : g.locals.size = c.maxLocals) {rest : List Value} (hs : g.stack = .int j :: .ref x :: rest) (hW : 2 * g.monitorRoom + (rest.map fun v => v.category).sum ≤ W) (hd : decode c.code g.pc = .ok (.invokevirtual index, 3)) :
    ∃ T', oA l Z EL n0 p e R s m args below meth c own ws vm T' h locs cells slots ∧ ∀ t, Steps p.tables e below (T'.setTop { g with pc := g.pc + 3, stack := (.int (cs.getD i 0)) :: rest }) t → Steps p.tables e below (T.setTop g) t := by
  have hexa := S.exa
  obtain ⟨r1, r2, t, k, e1, e2, e3, e4⟩ := S
  obtain ⟨v, T', A', hv, st⟩ := A.payV hx (y := (⟨"java/lang/String", "charAt", "(I)C"⟩ : MethodName)) (z := (⟨"java/lang/String", "charAt", "(I)C"⟩ : MethodName)) w1 w2 (A.nf w5) w5 w6 (by decide) (argsL := [.int j]) (rest := rest) (W := W) (StrChars.Road.chN (s := s.setVm vm) (args := args) (W := W) A.2.2.1 hws wi e1 e2 e3 e4 (StrChars.Road.codOf rfl (fun c hc => (r1 c hc).2)) (oUp r1) (C.ext A.old) hz (Fm.ext A.old) rf r2 hi hj hfr hlo) hexa hc hsl hg hsize (lenOf (by decide +kernel : parseMethodDescriptor "(I)C" = some ⟨[.int], some .char⟩) rfl) hs hW hd
  subst hv
  exact ⟨T', A', st⟩

theorem oA.sEq (A : oA l Z EL n0 p e R s m args below meth c own ws vm T h locs cells slots) (hx : p.tables.exec = Jvm.exec) (hws : ∀ d ∈ StrChars.Road.wordsEq, d.before a0 Z = true) {index : Nat} (wi : (Jvm.Cond.instantiable "java/lang/String" 4).before a0 Z = true) (w1 : (Jvm.Cond.methodLink own index (⟨"java/lang/String", "equals", "(Ljava/lang/Object;)Z"⟩ : MethodName)).before a0 Z = true) (w2 : (Jvm.Cond.declares (⟨"java/lang/String", "equals", "(Ljava/lang/Object;)Z"⟩ : MethodName)).before a0 Z = true) (w5 : (Jvm.Cond.selects "java/lang/String" (⟨"java/lang/String", "equals", "(Ljava/lang/Object;)Z"⟩ : MethodName) (⟨"java/lang/String", "equals", "(Ljava/lang/Object;)Z"⟩ : MethodName)).before a0 Z = true) (w6 : (Jvm.Cond.instanceMethod (⟨"java/lang/String", "equals", "(Ljava/lang/Object;)Z"⟩ : MethodName)).before a0 Z = true)
    {x : Addr} {cs : List Int32} (S : oStr Z h x cs) {y : Addr} {ds : List Int32} (S' : oStr Z h y ds) {zc : Int32} (C : Sta Z Z.heap "java/lang/String" "COMPACT_STRINGS" "Z" (.int zc)) (hz : ¬ zc = 0) {W : Nat} (hfr : 2 ≤ R.frames) (hlo : W + 28 ≤ R.locals) (hc : cells + 0 ≤ R.cells) (hsl : slots + 0 ≤ R.slots)
    {g : JFrame} (hg : g.method = m) (hsize : g.locals.size = c.maxLocals) {rest : List Value} (hs : g.stack = .ref y :: .ref x :: rest) (hW : 2 * g.monitorRoom + (rest.map fun v => v.category).sum ≤ W) (hd : decode c.code g.pc = .ok (.invokevirtual index, 3)) :
    ∃ (T' : State) (r : Int32), oA l Z EL n0 p e R s m args below meth c own ws vm T' h locs cells slots ∧ ((r = 1 ∧ cs = ds) ∨ (r = 0 ∧ ¬ cs = ds)) ∧ ∀ t, Steps p.tables e below (T'.setTop { g with pc := g.pc + 3, stack := (.int r) :: rest }) t → Steps p.tables e below (T.setTop g) t := by
  have hexa := S.exa
  obtain ⟨r1, r2, t, k, e1, e2, e3, e4⟩ := S
  obtain ⟨u1, u2, t', k', f1, f2, f3, f4⟩ := S'
  obtain ⟨v, T', A', hv, st⟩ := A.payV hx (y := (⟨"java/lang/String", "equals", "(Ljava/lang/Object;)Z"⟩ : MethodName)) (z := (⟨"java/lang/String", "equals", "(Ljava/lang/Object;)Z"⟩ : MethodName)) w1 w2 (A.nf w5) w5 w6 (by decide) (argsL := [.ref y]) (rest := rest) (W := W) (StrChars.Road.eqW (s := s.setVm vm) (args := args) (W := W) A.2.2.1 hws wi e1 e2 e3 e4 (StrChars.Road.codOf rfl (fun c hc => (r1 c hc).2)) (oUp r1) r2 f1 f2 f3 f4 (StrChars.Road.codOf rfl (fun c hc => (u1 c hc).2)) (oUp u1) u2 (C.ext A.old) hz hfr hlo) hexa hc hsl hg hsize (lenOf (by decide +kernel : parseMethodDescriptor "(Ljava/lang/Object;)Z" = some ⟨[(.object "java/lang/Object")], some .boolean⟩) rfl) hs hW hd
  rcases hv with ⟨rfl, q⟩ | ⟨rfl, q⟩
  · exact ⟨T', 1, A', Or.inl ⟨rfl, q⟩, st⟩
  · exact ⟨T', 0, A', Or.inr ⟨rfl, q⟩, st⟩

theorem oA.clone (A : oA l Z EL n0 p e R s m args below meth c own ws vm T h locs cells slots) (hx : p.tables.exec = Jvm.exec) {ad : String} {index : Nat} (w1 : (Jvm.Cond.methodLink own index ⟨ad, "clone", "()Ljava/lang/Object;"⟩).before a0 Z = true) (w2 : (Jvm.Cond.sameMethod ad "java/lang/Object" "clone" "()Ljava/lang/Object;").before a0 Z = true) (w3 : (Jvm.Cond.native ⟨"java/lang/Object", "clone", "()Ljava/lang/Object;"⟩).before a0 Z = true)
    (w4 : (Jvm.Cond.instanceMethod ⟨"java/lang/Object", "clone", "()Ljava/lang/Object;"⟩).before a0 Z = true) (w5 : (Jvm.Cond.selects ad ⟨ad, "clone", "()Ljava/lang/Object;"⟩ ⟨"java/lang/Object", "clone", "()Ljava/lang/Object;"⟩).before a0 Z = true) (w6 : (Jvm.Cond.castable ad "java/lang/Cloneable").before a0 Z = true)
    {a : Addr} {k : ClassId} {ty : FieldType} {z : Int32} {vs : List Value} {d : Value} (V : Arv Z h a k ty z vs d) (E : Exa Z h a ad) (F : ∀ cl : Cell, h[a]? = some cl → FitC Z cl) {g : JFrame} (hg : g.method = m) (hsize : g.locals.size = c.maxLocals) {rest : List Value} (hs : g.stack = .ref a :: rest) (hd : decode c.code g.pc = .ok (.invokevirtual index, 3))
    (hf : 1 ≤ R.frames) {W cap : Nat} (hW : 2 * g.monitorRoom + (rest.map fun v => v.category).sum ≤ W) (hl : W + 14 ≤ R.locals) (hcap : z.toNatClampNeg ≤ cap) (hc : cells + 1 ≤ R.cells) (hsl : slots + cap ≤ R.slots) :
    ∃ T' h' x, x = h.size ∧ n0 ≤ x ∧ s.heap.size ≤ x ∧ oA l Z EL n0 p e R s m args below meth c own ws vm T' h' locs (cells + 1) (slots + cap) ∧ Ext h h' ∧ Arv Z h' x k ty z vs d ∧ Exa Z h' x ad ∧
      ∀ t, Steps p.tables e below (T'.setTop { g with pc := g.pc + 3, stack := .ref x :: rest }) t → Steps p.tables e below (T.setTop g) t := by
  obtain ⟨cl, Ar, r1, S, r3, H, G⟩ := V
  obtain ⟨T', h', X', e', E', Ar', Ex, st⟩ := cloneA A.1 hx A.2.2.1 A.2.2.2.1 w1 w2 w3 w4 w5 w6 A.2.1 Ar E (F cl Ar.1) hg hsize hs hd hf hW hl (by rw [S]; exact hcap) hc hsl
  exact ⟨T', h', h.size, rfl, A.n0le, A.sle, A.grow X' e' E', E', ⟨_, Ar', r1, S, r3, H, G⟩, Ex, st⟩

theorem oAnd (x : Int32) : ∃ k : Nat, k < 256 ∧ (x &&& (255 : Int32)) = Int32.ofNat k := by
  refine ⟨(x &&& 255).toBitVec.toNat, ?_, ?_⟩
  · simp only [Int32.toBitVec_and, BitVec.toNat_and]
    exact Nat.lt_succ_of_le Nat.and_le_right
  · apply Int32.toBitVec_inj.mp
    show _ = BitVec.ofNat 32 _
    rw [BitVec.ofNat_toNat]; simp
theorem oCh (x : Int32) : ¬ (x &&& (255 : Int32)).toUInt32.toUInt16.toUInt32.toInt32 < 0 ∧ ¬ (255 : Int32) < (x &&& (255 : Int32)).toUInt32.toUInt16.toUInt32.toInt32 := by
  have t : ∀ k : Fin 256, ¬ (Int32.ofNat k.val).toUInt32.toUInt16.toUInt32.toInt32 < 0 ∧ ¬ (255 : Int32) < (Int32.ofNat k.val).toUInt32.toUInt16.toUInt32.toInt32 := by decide +kernel
  obtain ⟨k, hk, e⟩ := oAnd x
  rw [e]
  exact t ⟨k, hk⟩
theorem oB8 {x : Int32} (h : ¬ x < 0 ∧ ¬ (255 : Int32) < x) : ∃ k : Nat, k < 256 ∧ x = Int32.ofNat k := by
  obtain ⟨h1, h2⟩ := h
  rw [Int32.lt_iff_toInt_lt] at h1 h2
  have e1 : (255 : Int32).toInt = 255 := rfl
  have e2 : (0 : Int32).toInt = 0 := rfl
  refine ⟨x.toInt.toNat, by omega, ?_⟩
  apply Int32.toInt_inj.mp
  rw [Int32.toInt_ofNat_small (by omega)]
  omega
theorem oNar {x : Int32} (h : ¬ x < 0 ∧ ¬ (255 : Int32) < x) : nar .char x = x := by
  have t : ∀ k : Fin 256, nar .char (Int32.ofNat k.val) = Int32.ofNat k.val := by decide +kernel
  obtain ⟨k, hk, e⟩ := oB8 h
  rw [e]
  exact t ⟨k, hk⟩
theorem oP0 : ∀ c ∈ ([] : List Int32), ¬ c < 0 ∧ ¬ (255 : Int32) < c := fun _ q => nomatch q
theorem oPS {x : Int32} {cs : List Int32} (h : ¬ x < 0 ∧ ¬ (255 : Int32) < x) (r : ∀ c ∈ cs, ¬ c < 0 ∧ ¬ (255 : Int32) < c) : ∀ c ∈ x :: cs, ¬ c < 0 ∧ ¬ (255 : Int32) < c := fun c q => by
  rcases List.mem_cons.mp q with rfl | q
  · exact h
  · exact r c q
end OwnKit
end Jvm.Pilot.@@N@@
namespace Jvm.Pilot.@@N@@
open Jvm Jvm.ClassFile Sem Op Lib Jvm.Free Jvm.Stand Jvm.LawKit Jvm.RoadKit Bundle Jvm.Pilot.@@N@@.Jvm.D
theorem own_len {s : State} {args : Array Value} {t : Jvm.Term} {a : Addr} {cl : Cell} {ty : FieldType} {n : Int32} (et : t.eval args s none [] s = some (.ref a)) (A : Arr s s.heap a cl ty) (h : (Jvm.Cond.eq (Jvm.Term.length t) (Jvm.Term.int n)).value args s none s [] = some true) : cl.slots.size < 2 ^ 31 ∧ cl.slots.size.toInt32 = n := by
  have ha : s.arrayAt? a = some cl := A.fin (Vm.Alike.refl _)
  by_cases q : cl.slots.size < 2 ^ 31
  · refine ⟨q, ?_⟩
    simpa [Cond.value, Term.eval, et, ha, q] using h
  · simp [Cond.value, Term.eval, et, ha, q] at h
theorem own_elemR {s : State} {args : Array Value} {t u : Jvm.Term} {x b : Addr} {cl : Cell} {ty : FieldType} (et : t.eval args s none [] s = some (.ref x)) (A : Arr s s.heap x cl ty) (j : Int32) (hj : ¬ j < 0) (eu : u.eval args s none [] s = some (.ref b)) (h : (Jvm.Cond.eq (Jvm.Term.elem t (Jvm.Term.int j)) u).value args s none s [] = some true) : cl.slots[j.toNatClampNeg]? = some (.ref b) := by
  have ha : s.arrayAt? x = some cl := A.fin (Vm.Alike.refl _)
  have e1 := elem_f et (Term.int_eval j) ha hj
  generalize (Jvm.Term.elem t (Jvm.Term.int j)) = w at e1 h
  rw [← e1]
  cases hw : w.eval args s none [] s with
  | none => simp [Cond.value, hw] at h
  | some v => cases v <;> simp [Cond.value, hw, eu] at h ⊢; exact h
theorem own_elemI {s : State} {args : Array Value} {t : Jvm.Term} {x : Addr} {cl : Cell} {ty : FieldType} (et : t.eval args s none [] s = some (.ref x)) (A : Arr s s.heap x cl ty) (j n : Int32) (hj : ¬ j < 0) (h : (Jvm.Cond.eq (Jvm.Term.elem t (Jvm.Term.int j)) (Jvm.Term.int n)).value args s none s [] = some true) : cl.slots[j.toNatClampNeg]? = some (.int n) := by
  have ha : s.arrayAt? x = some cl := A.fin (Vm.Alike.refl _)
  have e1 := elem_f et (Term.int_eval j) ha hj
  rw [← e1]
  exact eqv_i (Term.int_eval n) h
theorem own_fitH {Z : State} {h : Heap} {a : Addr} {k : ClassId} {ty : FieldType} {z : Int32} {vs : List Value} {d : Value} (V : Arv Z Z.heap a k ty z vs d) (E : Ext Z.heap h) (F : ∀ cl : Cell, Z.heap[a]? = some cl → FitC Z cl) : ∀ cl : Cell, h[a]? = some cl → FitC Z cl := fun cl q => by
  obtain ⟨c, A, -⟩ := V
  have e := E.2 a c A.1
  cases e.symm.trans q
  exact F _ A.1
theorem own_nl {i n : Nat} (h : i < n) (hn : n ≤ 4000) : ¬ Int32.ofNat i < 0 ∧ Int32.ofNat i < Int32.ofNat n := by
  rw [Int32.lt_iff_toInt_lt, Int32.lt_iff_toInt_lt, Int32.toInt_ofNat_small (by omega), Int32.toInt_ofNat_small (by omega)]
  have e : (0 : Int32).toInt = 0 := rfl
  omega
theorem own_n32 {n : Nat} (hn : n ≤ 4000) : (Int32.ofNat n).toNatClampNeg = n := by
  have h := Int32.toInt_ofNat_small (n := n) (by omega)
  have : (Int32.ofNat n).toNatClampNeg = (Int32.ofNat n).toInt.toNat := rfl
  rw [this, h]; omega
theorem own_succ {i : Nat} (hi : i < 4000) : Int32.ofNat i + (1 : Int32) = Int32.ofNat (i + 1) := by
  apply Int32.toInt_inj.mp
  have e1 : (1 : Int32).toInt = 1 := rfl
  rw [Int32.toInt_add, Int32.toInt_ofNat_small (by omega), Int32.toInt_ofNat_small (by omega), e1]
  rw [Int.bmod_eq_of_le (by omega) (by omega)]
  omega
theorem own_drop {cs r : List Int32} {c : Int32} {i : Nat} (h : cs.drop i = c :: r) : i < cs.length ∧ cs.getD i 0 = c ∧ cs.drop (i + 1) = r := by
  have hi : i < cs.length := by
    rcases Nat.lt_or_ge i cs.length with q | q
    · exact q
    · rw [List.drop_eq_nil_of_le q] at h; cases h
  rw [List.drop_eq_getElem_cons hi] at h
  injection h with h1 h2
  exact ⟨hi, by simp [List.getD_eq_getElem?_getD, hi, h1], h2⟩
theorem own_drop0 {cs : List Int32} {i : Nat} (h : cs.drop i = []) : cs.length ≤ i := by
  rcases Nat.lt_or_ge i cs.length with q | q
  · rw [List.drop_eq_getElem_cons q] at h; cases h
  · exact q
theorem own_vs {cs : List Int32} {i : Nat} (hi : i < cs.length) (f : Int32 → Int32) : ((cs.map f).map Value.int).getD i (.int (0 : Int32)) = .int (f (cs.getD i 0)) := by
  simp [List.getD_eq_getElem?_getD, hi]
theorem own_lo8 {x y : Int32} (hx : ¬ x < 0 ∧ ¬ (255 : Int32) < x) (hy : ¬ y < 0 ∧ ¬ (255 : Int32) < y) : x.toInt8.toInt32 = y.toInt8.toInt32 ↔ x = y := by
  refine ⟨fun h => ?_, fun h => by rw [h]⟩
  have t : ∀ k : Fin 256, (Int32.ofNat k.val).toInt8.toInt32 &&& (255 : Int32) = Int32.ofNat k.val := by decide +kernel
  obtain ⟨i, hi, ei⟩ := oB8 hx
  obtain ⟨j, hj, ej⟩ := oB8 hy
  have h1 := t ⟨i, hi⟩
  have h2 := t ⟨j, hj⟩
  rw [ei, ej] at h ⊢
  rw [← h1, ← h2]
  show (Int32.ofNat i).toInt8.toInt32 &&& (255 : Int32) = _
  rw [h]
def own_find (ch : Int32) : List Int32 → Nat → Int32
  | [], _ => -1
  | c :: cs, i => if c = ch then Int32.ofNat i else own_find ch cs (i + 1)
def own_B (c : Int32) : Prop := ¬ c < 0 ∧ ¬ (255 : Int32) < c
theorem own_ltn {k n : Nat} (hk : k < 4000) (hn : n ≤ 4000) (h : Int32.ofNat k < Int32.ofNat n) : k < n := by
  rw [Int32.lt_iff_toInt_lt, Int32.toInt_ofNat_small (by omega), Int32.toInt_ofNat_small (by omega)] at h
  omega
theorem own_gB {cs : List Int32} {i : Nat} (h : ∀ c ∈ cs, ¬ c < 0 ∧ ¬ (255 : Int32) < c) (hi : i < cs.length) : own_B (cs.getD i 0) := h _ (by simp [List.getD_eq_getElem?_getD, hi])
theorem own_chL (x : Int64) : own_B ((x &&& (255 : Int64)).toInt32).toUInt32.toUInt16.toUInt32.toInt32 := by
  have t : ∀ k : Fin 256, own_B ((Int64.ofNat k.val).toInt32).toUInt32.toUInt16.toUInt32.toInt32 := by unfold own_B; decide +kernel
  obtain ⟨k, hk, e⟩ : ∃ k : Nat, k < 256 ∧ (x &&& (255 : Int64)) = Int64.ofNat k := by
    refine ⟨(x &&& 255).toBitVec.toNat, ?_, ?_⟩
    · simp only [Int64.toBitVec_and, BitVec.toNat_and]
      exact Nat.lt_succ_of_le Nat.and_le_right
    · apply Int64.toBitVec_inj.mp
      show _ = BitVec.ofNat 64 _
      rw [BitVec.ofNat_toNat]; simp
  rw [e]
  exact t ⟨k, hk⟩
def own_lab (cs : List Int32) (d0 d1 d2 d3 : Addr) (v : Value) : Prop := (cs = ([50, 48, 50, 48, 45, 49, 50] : List Int32) ∧ v = .ref d0) ∨ (cs = ([100, 114, 97, 102, 116, 45, 48, 55] : List Int32) ∧ v = .ref d1) ∨ (cs = ([100, 114, 97, 102, 116, 45, 48, 54] : List Int32) ∧ v = .ref d2) ∨ (cs = ([100, 114, 97, 102, 116, 45, 48, 52] : List Int32) ∧ v = .ref d3) ∨ (¬ cs = ([50, 48, 50, 48, 45, 49, 50] : List Int32) ∧ ¬ cs = ([100, 114, 97, 102, 116, 45, 48, 55] : List Int32) ∧ ¬ cs = ([100, 114, 97, 102, 116, 45, 48, 54] : List Int32) ∧ ¬ cs = ([100, 114, 97, 102, 116, 45, 48, 52] : List Int32) ∧ v = .null)
theorem own_lab1 {cs : List Int32} {d0 d1 d2 d3 : Addr} {v w : Value} (h : own_lab cs d0 d1 d2 d3 v) (h' : own_lab cs d0 d1 d2 d3 w) : v = w := by
  have n01 : ¬ ([50, 48, 50, 48, 45, 49, 50] : List Int32) = ([100, 114, 97, 102, 116, 45, 48, 55] : List Int32) := by decide
  have n02 : ¬ ([50, 48, 50, 48, 45, 49, 50] : List Int32) = ([100, 114, 97, 102, 116, 45, 48, 54] : List Int32) := by decide
  have n03 : ¬ ([50, 48, 50, 48, 45, 49, 50] : List Int32) = ([100, 114, 97, 102, 116, 45, 48, 52] : List Int32) := by decide
  have n12 : ¬ ([100, 114, 97, 102, 116, 45, 48, 55] : List Int32) = ([100, 114, 97, 102, 116, 45, 48, 54] : List Int32) := by decide
  have n13 : ¬ ([100, 114, 97, 102, 116, 45, 48, 55] : List Int32) = ([100, 114, 97, 102, 116, 45, 48, 52] : List Int32) := by decide
  have n23 : ¬ ([100, 114, 97, 102, 116, 45, 48, 54] : List Int32) = ([100, 114, 97, 102, 116, 45, 48, 52] : List Int32) := by decide
  rcases h with ⟨e, rfl⟩ | ⟨e, rfl⟩ | ⟨e, rfl⟩ | ⟨e, rfl⟩ | ⟨e0, e1, e2, e3, rfl⟩ <;> rcases h' with ⟨f, rfl⟩ | ⟨f, rfl⟩ | ⟨f, rfl⟩ | ⟨f, rfl⟩ | ⟨f0, f1, f2, f3, rfl⟩ <;> first | rfl | (exfalso; subst e; first | contradiction | exact absurd rfl ‹_› | simp at f) | (exfalso; subst f; first | contradiction | exact absurd rfl ‹_›)
theorem d_jdk_42_m149_0 : decode jdk_42_method_149_code 0 = .ok (.aload_n 0, 1) := by decide +kernel
theorem d_jdk_42_m149_1 : decode jdk_42_method_149_code 1 = .ok (.invokespecial 1, 3) := by decide +kernel
theorem d_jdk_42_m149_4 : decode jdk_42_method_149_code 4 = .ok (.iload_n 3, 1) := by decide +kernel
theorem d_jdk_42_m149_5 : decode jdk_42_method_149_code 5 = .ok (.ifCond .ne 22, 3) := by decide +kernel
theorem d_jdk_42_m149_8 : decode jdk_42_method_149_code 8 = .ok (.aload_n 0, 1) := by decide +kernel
theorem d_jdk_42_m149_9 : decode jdk_42_method_149_code 9 = .ok (.ldc 7, 2) := by decide +kernel
theorem d_jdk_42_m149_11 : decode jdk_42_method_149_code 11 = .ok (.getfield 9, 3) := by decide +kernel
theorem d_jdk_42_m149_14 : decode jdk_42_method_149_code 14 = .ok (.putfield 9, 3) := by decide +kernel
theorem d_jdk_42_m149_17 : decode jdk_42_method_149_code 17 = .ok (.aload_n 0, 1) := by decide +kernel
theorem d_jdk_42_m149_18 : decode jdk_42_method_149_code 18 = .ok (.ldc 7, 2) := by decide +kernel
theorem d_jdk_42_m149_20 : decode jdk_42_method_149_code 20 = .ok (.getfield 15, 3) := by decide +kernel
theorem d_jdk_42_m149_23 : decode jdk_42_method_149_code 23 = .ok (.putfield 15, 3) := by decide +kernel
theorem d_jdk_42_m149_26 : decode jdk_42_method_149_code 26 = .ok (.return_, 1) := by decide +kernel
theorem d_jdk_42_m149_27 : decode jdk_42_method_149_code 27 = .ok (.getstatic 38, 3) := by decide +kernel
theorem d_jdk_42_m149_30 : decode jdk_42_method_149_code 30 = .ok (.ifCond .eq 28, 3) := by decide +kernel
theorem d_jdk_42_m149_33 : decode jdk_42_method_149_code 33 = .ok (.aload_n 1, 1) := by decide +kernel
theorem d_jdk_42_m149_34 : decode jdk_42_method_149_code 34 = .ok (.iload_n 2, 1) := by decide +kernel
theorem d_jdk_42_m149_35 : decode jdk_42_method_149_code 35 = .ok (.iload_n 3, 1) := by decide +kernel
theorem d_jdk_42_m149_36 : decode jdk_42_method_149_code 36 = .ok (.invokestatic 177, 3) := by decide +kernel
theorem d_jdk_42_m149_39 : decode jdk_42_method_149_code 39 = .ok (.astore 5, 2) := by decide +kernel
theorem d_jdk_42_m149_41 : decode jdk_42_method_149_code 41 = .ok (.aload_n 0, 1) := by decide +kernel
theorem d_jdk_42_m149_42 : decode jdk_42_method_149_code 42 = .ok (.aload 5, 2) := by decide +kernel
theorem d_jdk_42_m149_44 : decode jdk_42_method_149_code 44 = .ok (.iload_n 3, 1) := by decide +kernel
theorem d_jdk_42_m149_45 : decode jdk_42_method_149_code 45 = .ok (.invokestatic 47, 3) := by decide +kernel
theorem d_jdk_42_m149_48 : decode jdk_42_method_149_code 48 = .ok (.putfield 15, 3) := by decide +kernel
theorem d_jdk_42_m149_51 : decode jdk_42_method_149_code 51 = .ok (.aload_n 0, 1) := by decide +kernel
theorem d_jdk_42_m149_52 : decode jdk_42_method_149_code 52 = .ok (.aload 5, 2) := by decide +kernel
theorem d_jdk_42_m149_54 : decode jdk_42_method_149_code 54 = .ok (.putfield 9, 3) := by decide +kernel
theorem d_jdk_42_m149_57 : decode jdk_42_method_149_code 57 = .ok (.return_, 1) := by decide +kernel
theorem d_jdk_42_m149_58 : decode jdk_42_method_149_code 58 = .ok (.aload_n 0, 1) := by decide +kernel
theorem d_jdk_42_m149_59 : decode jdk_42_method_149_code 59 = .ok (.iconst 1, 1) := by decide +kernel
theorem d_jdk_42_m149_60 : decode jdk_42_method_149_code 60 = .ok (.putfield 15, 3) := by decide +kernel
theorem d_jdk_42_m149_63 : decode jdk_42_method_149_code 63 = .ok (.aload_n 0, 1) := by decide +kernel
theorem d_jdk_42_m149_64 : decode jdk_42_method_149_code 64 = .ok (.aload_n 1, 1) := by decide +kernel
theorem d_jdk_42_m149_65 : decode jdk_42_method_149_code 65 = .ok (.iload_n 2, 1) := by decide +kernel
theorem d_jdk_42_m149_66 : decode jdk_42_method_149_code 66 = .ok (.iload_n 3, 1) := by decide +kernel
theorem d_jdk_42_m149_67 : decode jdk_42_method_149_code 67 = .ok (.invokestatic 180, 3) := by decide +kernel
theorem d_jdk_42_m149_70 : decode jdk_42_method_149_code 70 = .ok (.putfield 9, 3) := by decide +kernel
theorem d_jdk_42_m149_73 : decode jdk_42_method_149_code 73 = .ok (.return_, 1) := by decide +kernel
theorem opn_own_E4 : plainFor (⟨"java/lang/String", "<init>", "([CIILjava/lang/Void;)V"⟩ : MethodName) = true := plainFor_of_name (by first | (simp [plainName, overriddenIn]; done) | decide +kernel)
set_option maxRecDepth 65536 in
set_option maxHeartbeats 40000000 in
theorem own_E4 (l : Launch) (Z : State) (a0 : Array Value) (hw : ∀ d ∈ tables_1, d.before a0 Z = true) (hEL : EW Z a0 consts_1) (n0 : Nat) (h : Heap) (hO : Old Z n0 h) (x b : Addr) (v0 c0 : Value) (E_x : Exa Z h x "java/lang/String") (F_value_x : Fld Z h x "java/lang/String" "value" "[B" v0) (F_coder_x : Fld Z h x "java/lang/String" "coder" "B" c0) (n0_x : n0 ≤ x) (lt_x : x < h.size) :
    oMet l Z consts_1 n0 (⟨"java/lang/String", "<init>", "([CIILjava/lang/Void;)V"⟩ : MethodName) jdk_42_method_149_code 6 none [] ({ frames := 1, cells := 2, slots := 4, locals := 14 } : Room) #[(.ref x), (.ref b), (.int (0 : Int32)), (.int (0 : Int32)), .null] h [x] (fun v _ h => v = none ∧ oStr Z h x []) := by
  refine oMet.of opn_own_E4 hO ?_
  intro p e s m below meth c T hx hby hml hret hnm hlk hh hsf A
  have hml : c.maxLocals = 6 := hml
  refine oCast (g' := mkF m 0 #[.val (.ref x), .val (.ref b), .val (.int (0 : Int32)), .val (.int (0 : Int32)), .val .null, .unset] []) (by first | (simp [entryFrame, mkF, argsToLocals, Value.category]; done) | rfl) ?_
  have hlit : ∀ d ∈ Bundle.stringAtoms, d.before a0 Z = true := fun d hd => hw d ((by decide +kernel : ∀ d ∈ Bundle.stringAtoms, d ∈ tables_1) d hd)
  have S_x := hsf x (List.mem_cons_self ..)
  have q2 : x ∈ [x] ∨ s.heap.size ≤ x := Or.inl (List.mem_cons_self ..)
  show oGo p e below _ (T.setTop (mkF m 0 #[.val (.ref x), .val (.ref b), .val (.int (0 : Int32)), .val (.int (0 : Int32)), .val .null, .unset] []))
  refine oSt (fun _ => XS.aloadN A.here hx rfl (Jvm.hb hby d_jdk_42_m149_0) rfl rfl) ?_
  show oGo p e below _ (T.setTop (mkF m 1 #[.val (.ref x), .val (.ref b), .val (.int (0 : Int32)), .val (.int (0 : Int32)), .val .null, .unset] [(.ref x)]))
  obtain ⟨T, A, st⟩ := A.initO hx (hw _ (List.mem_of_getElem? (i := 66) rfl)) (hw _ (List.mem_of_getElem? (i := 67) rfl)) (hw _ (List.mem_of_getElem? (i := 68) rfl)) (g := (mkF m 1 #[.val (.ref x), .val (.ref b), .val (.int (0 : Int32)), .val (.int (0 : Int32)), .val .null, .unset] [(.ref x)])) rfl (by rw [hml]; rfl) rfl (Jvm.hb hby d_jdk_42_m149_1) (by decide) (W := 0) (by show 2 * 0 + _ ≤ _; exact Nat.le_of_eq rfl) (by decide)
  refine oSt st ?_
  show oGo p e below _ (T.setTop (mkF m 4 #[.val (.ref x), .val (.ref b), .val (.int (0 : Int32)), .val (.int (0 : Int32)), .val .null, .unset] []))
  refine oSt (fun _ => XS.iloadN A.here hx rfl (Jvm.hb hby d_jdk_42_m149_4) rfl) ?_
  show oGo p e below _ (T.setTop (mkF m 5 #[.val (.ref x), .val (.ref b), .val (.int (0 : Int32)), .val (.int (0 : Int32)), .val .null, .unset] [(.int (0 : Int32))]))
  refine oSt (fun _ => XS.ifNo A.here hx rfl (Jvm.hb hby d_jdk_42_m149_5) rfl (Jvm.Free.XT.i0_ne_f rfl)) ?_
  show oGo p e below _ (T.setTop (mkF m 8 #[.val (.ref x), .val (.ref b), .val (.int (0 : Int32)), .val (.int (0 : Int32)), .val .null, .unset] []))
  refine oSt (fun _ => XS.aloadN A.here hx rfl (Jvm.hb hby d_jdk_42_m149_8) rfl rfl) ?_
  show oGo p e below _ (T.setTop (mkF m 9 #[.val (.ref x), .val (.ref b), .val (.int (0 : Int32)), .val (.int (0 : Int32)), .val .null, .unset] [(.ref x)]))
  obtain ⟨y, T, h, bb, kb, A, X, CR, E_y, C_y, V_y, K_y, ne_y, Li, st⟩ := A.ldcS hx (hw _ (List.mem_of_getElem? (i := 121) rfl)) hlit hEL (List.mem_of_getElem? (i := 4) rfl) (vs := []) (z := 0) (by decide +kernel) (by decide) rfl (g := (mkF m 9 #[.val (.ref x), .val (.ref b), .val (.int (0 : Int32)), .val (.int (0 : Int32)), .val .null, .unset] [(.ref x)])) rfl (Jvm.hb hby d_jdk_42_m149_9) (n := 0) (by decide +kernel) (by decide) (by decide) (by decide)
  refine oSt st ?_
  show oGo p e below _ (T.setTop (mkF m 11 #[.val (.ref x), .val (.ref b), .val (.int (0 : Int32)), .val (.int (0 : Int32)), .val .null, .unset] [(.ref y), (.ref x)]))
  have S_x := CR.safe lt_x S_x
  have E_x := E_x.ext X
  have F_value_x := F_value_x.ext X
  have F_coder_x := F_coder_x.ext X
  have hne := ne_y x S_x
  obtain ⟨T, A, st⟩ := A.getF hx (host := "") (Or.inl (hw _ (List.mem_of_getElem? (i := 17) rfl))) Via.refl V_y (g := (mkF m 11 #[.val (.ref x), .val (.ref b), .val (.int (0 : Int32)), .val (.int (0 : Int32)), .val .null, .unset] [(.ref y), (.ref x)])) rfl rfl (Jvm.hb hby d_jdk_42_m149_11)
  refine oSt st ?_
  show oGo p e below _ (T.setTop (mkF m 14 #[.val (.ref x), .val (.ref b), .val (.int (0 : Int32)), .val (.int (0 : Int32)), .val .null, .unset] [(.ref bb), (.ref x)]))
  have CH := A.ch
  obtain ⟨T, h, A, W, st⟩ := A.putF hx (host := "") (Or.inl (hw _ (List.mem_of_getElem? (i := 17) rfl))) Via.refl F_value_x E_x (Or.inr ⟨(hw _ (List.mem_of_getElem? (i := 8) rfl)), rfl, hnm⟩) (hw _ (List.mem_of_getElem? (i := 6) rfl)) (ty := (.array .byte)) (by decide) rfl rfl n0_x q2 S_x (g := (mkF m 14 #[.val (.ref x), .val (.ref b), .val (.int (0 : Int32)), .val (.int (0 : Int32)), .val .null, .unset] [(.ref bb), (.ref x)])) rfl rfl (Jvm.hb hby d_jdk_42_m149_14)
  refine oSt st ?_
  show oGo p e below _ (T.setTop (mkF m 17 #[.val (.ref x), .val (.ref b), .val (.int (0 : Int32)), .val (.int (0 : Int32)), .val .null, .unset] []))
  have C_y := C_y.other W (Or.inl (Ne.symm hne.1))
  have K_y := K_y.other W (Ne.symm hne.2)
  have E_x := E_x.wr W
  have F_coder_x := F_coder_x.other W (Or.inr (slot_ne (Or.inr (hw _ (List.mem_of_getElem? (i := 9) rfl))) (Or.inr (hw _ (List.mem_of_getElem? (i := 8) rfl))) (by decide) (t := .byte) (t' := (.array .byte)) (by decide) (by decide)))
  have F_value_x := F_value_x.same W
  refine oSt (fun _ => XS.aloadN A.here hx rfl (Jvm.hb hby d_jdk_42_m149_17) rfl rfl) ?_
  show oGo p e below _ (T.setTop (mkF m 18 #[.val (.ref x), .val (.ref b), .val (.int (0 : Int32)), .val (.int (0 : Int32)), .val .null, .unset] [(.ref x)]))
  refine oSt (A.ldcS2 hx (hw _ (List.mem_of_getElem? (i := 121) rfl)) Li (g := (mkF m 18 #[.val (.ref x), .val (.ref b), .val (.int (0 : Int32)), .val (.int (0 : Int32)), .val .null, .unset] [(.ref x)])) rfl (Jvm.hb hby d_jdk_42_m149_18)) ?_
  show oGo p e below _ (T.setTop (mkF m 20 #[.val (.ref x), .val (.ref b), .val (.int (0 : Int32)), .val (.int (0 : Int32)), .val .null, .unset] [(.ref y), (.ref x)]))
  obtain ⟨T, A, st⟩ := A.getF hx (host := "") (Or.inl (hw _ (List.mem_of_getElem? (i := 24) rfl))) Via.refl C_y (g := (mkF m 20 #[.val (.ref x), .val (.ref b), .val (.int (0 : Int32)), .val (.int (0 : Int32)), .val .null, .unset] [(.ref y), (.ref x)])) rfl rfl (Jvm.hb hby d_jdk_42_m149_20)
  refine oSt st ?_
  show oGo p e below _ (T.setTop (mkF m 23 #[.val (.ref x), .val (.ref b), .val (.int (0 : Int32)), .val (.int (0 : Int32)), .val .null, .unset] [(.int (0 : Int32)), (.ref x)]))
  obtain ⟨T, h, A, W2, st⟩ := A.putF hx (host := "") (Or.inl (hw _ (List.mem_of_getElem? (i := 24) rfl))) Via.refl F_coder_x E_x (Or.inr ⟨(hw _ (List.mem_of_getElem? (i := 9) rfl)), rfl, hnm⟩) (hw _ (List.mem_of_getElem? (i := 6) rfl)) (ty := .byte) (by decide) rfl rfl n0_x q2 (Safe.wr W S_x CH S_x) (g := (mkF m 23 #[.val (.ref x), .val (.ref b), .val (.int (0 : Int32)), .val (.int (0 : Int32)), .val .null, .unset] [(.int (0 : Int32)), (.ref x)])) rfl rfl (Jvm.hb hby d_jdk_42_m149_23)
  refine oSt st ?_
  show oGo p e below _ (T.setTop (mkF m 26 #[.val (.ref x), .val (.ref b), .val (.int (0 : Int32)), .val (.int (0 : Int32)), .val .null, .unset] []))
  have F_value_x := F_value_x.other W2 (Or.inr (slot_ne (Or.inr (hw _ (List.mem_of_getElem? (i := 8) rfl))) (Or.inr (hw _ (List.mem_of_getElem? (i := 9) rfl))) (by decide) (t := (.array .byte)) (t' := .byte) (by decide) (by decide)))
  have F_coder_x := F_coder_x.same W2
  have K_y := K_y.other W2 (Ne.symm hne.2)
  have E_x := E_x.wr W2
  exact A.leave hlk hEL (v := none) (fun _ => rfl) (fun _ _ => ⟨rfl, oP0, Nat.zero_le _, bb, kb, E_x, F_value_x, F_coder_x, K_y⟩) (by decide) (by decide) (fun fs hr => A.1.returnOut hx hret (Jvm.hb hby d_jdk_42_m149_26) hr)
theorem d_jdk_42_m3_0 : decode jdk_42_method_3_code 0 = .ok (.aload_n 0, 1) := by decide +kernel
theorem d_jdk_42_m3_1 : decode jdk_42_method_3_code 1 = .ok (.aload_n 1, 1) := by decide +kernel
theorem d_jdk_42_m3_2 : decode jdk_42_method_3_code 2 = .ok (.iconst 0, 1) := by decide +kernel
theorem d_jdk_42_m3_3 : decode jdk_42_method_3_code 3 = .ok (.aload_n 1, 1) := by decide +kernel
theorem d_jdk_42_m3_4 : decode jdk_42_method_3_code 4 = .ok (.arraylength, 1) := by decide +kernel
theorem d_jdk_42_m3_5 : decode jdk_42_method_3_code 5 = .ok (.aconst_null, 1) := by decide +kernel
theorem d_jdk_42_m3_6 : decode jdk_42_method_3_code 6 = .ok (.invokespecial 27, 3) := by decide +kernel
theorem d_jdk_42_m3_9 : decode jdk_42_method_3_code 9 = .ok (.return_, 1) := by decide +kernel
theorem opd0 : parseMethodDescriptor "([CIILjava/lang/Void;)V" = some ⟨[(.array .char), .int, .int, (.object "java/lang/Void")], none⟩ := by decide +kernel
theorem opn_own_E1 : plainFor (⟨"java/lang/String", "<init>", "([C)V"⟩ : MethodName) = true := plainFor_of_name (by first | (simp [plainName, overriddenIn]; done) | decide +kernel)
set_option maxRecDepth 65536 in
set_option maxHeartbeats 40000000 in
theorem own_E1 (l : Launch) (Z : State) (a0 : Array Value) (hw : ∀ d ∈ tables_1, d.before a0 Z = true) (hEL : EW Z a0 consts_1) (n0 : Nat) (h : Heap) (hO : Old Z n0 h) (x b : Addr) (v0 c0 : Value) (E_x : Exa Z h x "java/lang/String") (F_value_x : Fld Z h x "java/lang/String" "value" "[B" v0) (F_coder_x : Fld Z h x "java/lang/String" "coder" "B" c0) (n0_x : n0 ≤ x) (lt_x : x < h.size) (k : ClassId) (V_b : Arv Z h b k .char (0 : Int32) [] (.int (0 : Int32))) :
    oMet l Z consts_1 n0 (⟨"java/lang/String", "<init>", "([C)V"⟩ : MethodName) jdk_42_method_3_code 2 none [] ({ frames := 2, cells := 2, slots := 4, locals := 31 } : Room) #[(.ref x), (.ref b)] h [x] (fun v _ h => v = none ∧ oStr Z h x []) := by
  refine oMet.of opn_own_E1 hO ?_
  intro p e s m below meth c T hx hby hml hret hnm hlk hh hsf A
  have hml : c.maxLocals = 2 := hml
  refine oCast (g' := mkF m 0 #[.val (.ref x), .val (.ref b)] []) (by first | (simp [entryFrame, mkF, argsToLocals, Value.category]; done) | rfl) ?_
  have S_x := hsf x (List.mem_cons_self ..)
  show oGo p e below _ (T.setTop (mkF m 0 #[.val (.ref x), .val (.ref b)] []))
  refine oSt (fun _ => XS.aloadN A.here hx rfl (Jvm.hb hby d_jdk_42_m3_0) rfl rfl) ?_
  show oGo p e below _ (T.setTop (mkF m 1 #[.val (.ref x), .val (.ref b)] [(.ref x)]))
  refine oSt (fun _ => XS.aloadN A.here hx rfl (Jvm.hb hby d_jdk_42_m3_1) rfl rfl) ?_
  show oGo p e below _ (T.setTop (mkF m 2 #[.val (.ref x), .val (.ref b)] [(.ref b), (.ref x)]))
  refine oSt (fun _ => XS.iconst A.here hx rfl (Jvm.hb hby d_jdk_42_m3_2)) ?_
  show oGo p e below _ (T.setTop (mkF m 3 #[.val (.ref x), .val (.ref b)] [(.int (0 : Int32)), (.ref b), (.ref x)]))
  refine oSt (fun _ => XS.aloadN A.here hx rfl (Jvm.hb hby d_jdk_42_m3_3) rfl rfl) ?_
  show oGo p e below _ (T.setTop (mkF m 4 #[.val (.ref x), .val (.ref b)] [(.ref b), (.int (0 : Int32)), (.ref b), (.ref x)]))
  refine oSt (A.len hx V_b (g := (mkF m 4 #[.val (.ref x), .val (.ref b)] [(.ref b), (.int (0 : Int32)), (.ref b), (.ref x)])) rfl rfl (Jvm.hb hby d_jdk_42_m3_4)) ?_
  show oGo p e below _ (T.setTop (mkF m 5 #[.val (.ref x), .val (.ref b)] [(.int (0 : Int32)), (.int (0 : Int32)), (.ref b), (.ref x)]))
  refine oSt (fun _ => XS.aconstNull A.here hx rfl (Jvm.hb hby d_jdk_42_m3_5)) ?_
  show oGo p e below _ (T.setTop (mkF m 6 #[.val (.ref x), .val (.ref b)] [.null, (.int (0 : Int32)), (.int (0 : Int32)), (.ref b), (.ref x)]))
  obtain ⟨_, vm, T, h, L, A, K, CR, ⟨rfl, Q_x⟩, st⟩ := A.callN hx (y := (⟨"java/lang/String", "<init>", "([CIILjava/lang/Void;)V"⟩ : MethodName)) rfl (hw _ (List.mem_of_getElem? (i := 62) rfl)) (hw _ (List.mem_of_getElem? (i := 63) rfl)) (hw _ (List.mem_of_getElem? (i := 5) rfl)) (hw _ (List.mem_of_getElem? (i := 65) rfl)) (by decide) hEL (a := x) (argsL := [(.ref b), (.int (0 : Int32)), (.int (0 : Int32)), .null]) (rest := []) (own_E4 l Z a0 hw hEL n0 h A.oldn x b v0 c0 E_x F_value_x F_coder_x n0_x lt_x) (W := 0) (by decide) (by decide) (by decide) (by decide) (oIn1 n0_x) (oIn1 (Or.inl (List.mem_cons_self ..))) (oIn1 S_x) (g := (mkF m 6 #[.val (.ref x), .val (.ref b)] [.null, (.int (0 : Int32)), (.int (0 : Int32)), (.ref b), (.ref x)])) rfl (by rw [hml]; rfl) (lenOf opd0 rfl) rfl (by show 2 * 0 + _ ≤ _; exact Nat.le_of_eq rfl) (Jvm.hb hby d_jdk_42_m3_6)
  refine oSt st ?_
  show oGo p e below _ (T.setTop (mkF m 9 #[.val (.ref x), .val (.ref b)] []))
  exact A.leave hlk hEL (v := none) (fun _ => rfl) (fun _ _ => ⟨rfl, Q_x⟩) (by decide) (by decide) (fun fs hr => A.1.returnOut hx hret (Jvm.hb hby d_jdk_42_m3_9) hr)
theorem d_prog_5_m1_0 : decode prog_5_method_1_code 0 = .ok (.getstatic 16, 3) := by decide +kernel
theorem d_prog_5_m1_3 : decode prog_5_method_1_code 3 = .ok (.invokevirtual 20, 3) := by decide +kernel
theorem d_prog_5_m1_6 : decode prog_5_method_1_code 6 = .ok (.checkcast 21, 3) := by decide +kernel
theorem d_prog_5_m1_9 : decode prog_5_method_1_code 9 = .ok (.areturn, 1) := by decide +kernel
theorem opn_own_vals : plainFor (⟨"com/example/applicator/applicator/Dialect", "values", "()[Lcom/example/applicator/applicator/Dialect;"⟩ : MethodName) = true := plainFor_of_name (by first | (simp [plainName, overriddenIn]; done) | decide +kernel)
set_option maxRecDepth 65536 in
set_option maxHeartbeats 40000000 in
theorem own_vals (l : Launch) (Z : State) (a0 : Array Value) (hw : ∀ d ∈ tables_1, d.before a0 Z = true) (hEL : EW Z a0 consts_1) (n0 : Nat) (h : Heap) (hO : Old Z n0 h) (d0 d1 d2 d3 va : Addr) (kv : ClassId) (hva : Sta Z Z.heap "com/example/applicator/applicator/Dialect" "$VALUES" "[Lcom/example/applicator/applicator/Dialect;" (.ref va)) (VV : Arv Z Z.heap va kv (.object "com/example/applicator/applicator/Dialect") (4 : Int32) [.ref d0, .ref d1, .ref d2, .ref d3] .null) (EV : Exa Z Z.heap va "[Lcom/example/applicator/applicator/Dialect;") (FV : ∀ cl : Cell, Z.heap[va]? = some cl → FitC Z cl) :
    oMet l Z consts_1 n0 (⟨"com/example/applicator/applicator/Dialect", "values", "()[Lcom/example/applicator/applicator/Dialect;"⟩ : MethodName) prog_5_method_1_code 0 (some (.array (.object "com/example/applicator/applicator/Dialect"))) [] ({ frames := 1, cells := 1, slots := 4, locals := 14 } : Room) #[] h [] (fun v _ h' => ∃ c, v = some (.ref c) ∧ Arv Z h' c kv (.object "com/example/applicator/applicator/Dialect") (4 : Int32) [.ref d0, .ref d1, .ref d2, .ref d3] .null) := by
  refine oMet.of opn_own_vals hO ?_
  intro p e s m below meth c T hx hby hml hret hnm hlk hh hsf A
  have hml : c.maxLocals = 0 := hml
  refine oCast (g' := mkF m 0 #[] []) (by first | (simp [entryFrame, mkF, argsToLocals, Value.category]; done) | rfl) ?_
  show oGo p e below _ (T.setTop (mkF m 0 #[] []))
  obtain ⟨T, A, st⟩ := A.getS hx (host := "") (Or.inl (hw _ (List.mem_of_getElem? (i := 86) rfl))) Via.refl hva (g := (mkF m 0 #[] [])) rfl (Jvm.hb hby d_prog_5_m1_0)
  refine oSt st ?_
  show oGo p e below _ (T.setTop (mkF m 3 #[] [(.ref va)]))
  obtain ⟨T, h, c_, g_c, n0_c, s_c, A, E, V_c, E_c, st⟩ := A.clone hx (hw _ (List.mem_of_getElem? (i := 88) rfl)) (hw _ (List.mem_of_getElem? (i := 89) rfl)) (hw _ (List.mem_of_getElem? (i := 93) rfl)) (hw _ (List.mem_of_getElem? (i := 91) rfl)) (hw _ (List.mem_of_getElem? (i := 92) rfl)) (hw _ (List.mem_of_getElem? (i := 94) rfl)) (VV.ext A.old) (EV.ext A.old) (own_fitH VV A.old FV) (g := (mkF m 3 #[] [(.ref va)])) rfl (by rw [hml]; rfl) rfl (Jvm.hb hby d_prog_5_m1_3) (by decide) (W := 0) (by show 2 * 0 + _ ≤ _; exact Nat.le_of_eq rfl) (by decide) (cap := 4) (by decide) (by decide) (by decide)
  refine oSt st ?_
  show oGo p e below _ (T.setTop (mkF m 6 #[] [(.ref c_)]))
  obtain ⟨T, A, st⟩ := A.castY hx (hw _ (List.mem_of_getElem? (i := 100) rfl)) (Ins.self E_c) (g := (mkF m 6 #[] [(.ref c_)])) rfl rfl (Jvm.hb hby d_prog_5_m1_6)
  refine oSt st ?_
  show oGo p e below _ (T.setTop (mkF m 9 #[] [(.ref c_)]))
  exact A.leave hlk hEL (v := some (.ref c_)) (fun h => by rw [hret] at h; cases h) (fun _ _ => ⟨c_, rfl, V_c⟩) (by decide) (by decide) (fun fs hr => retOut A.1 hx hret rfl (Or.inr (Or.inr (Or.inr (Or.inr ⟨rfl, rfl, rfl⟩)))) (Jvm.hb hby d_prog_5_m1_9) hr)
theorem d_m3_0 : decode method_3_code 0 = .ok (.iload_n 0, 1) := by decide +kernel
theorem d_m3_1 : decode method_3_code 1 = .ok (.ifCond .ne 6, 3) := by decide +kernel
theorem d_m3_4 : decode method_3_code 4 = .ok (.ldc 37, 2) := by decide +kernel
theorem d_m3_6 : decode method_3_code 6 = .ok (.areturn, 1) := by decide +kernel
theorem d_m3_7 : decode method_3_code 7 = .ok (.iload_n 0, 1) := by decide +kernel
theorem d_m3_8 : decode method_3_code 8 = .ok (.iconst 1, 1) := by decide +kernel
theorem d_m3_9 : decode method_3_code 9 = .ok (.if_icmp .ne 6, 3) := by decide +kernel
theorem d_m3_12 : decode method_3_code 12 = .ok (.ldc 39, 2) := by decide +kernel
theorem d_m3_14 : decode method_3_code 14 = .ok (.areturn, 1) := by decide +kernel
theorem d_m3_15 : decode method_3_code 15 = .ok (.iload_n 0, 1) := by decide +kernel
theorem d_m3_16 : decode method_3_code 16 = .ok (.iconst 2, 1) := by decide +kernel
theorem d_m3_17 : decode method_3_code 17 = .ok (.if_icmp .ne 6, 3) := by decide +kernel
theorem d_m3_20 : decode method_3_code 20 = .ok (.ldc 41, 2) := by decide +kernel
theorem d_m3_22 : decode method_3_code 22 = .ok (.areturn, 1) := by decide +kernel
theorem d_m3_23 : decode method_3_code 23 = .ok (.ldc 43, 2) := by decide +kernel
theorem d_m3_25 : decode method_3_code 25 = .ok (.areturn, 1) := by decide +kernel
theorem opn_own_label : plainFor (⟨"com/example/applicator/applicator/DialectLabelledPinLaw", "label", "(I)Ljava/lang/String;"⟩ : MethodName) = true := plainFor_of_name (by first | (simp [plainName, overriddenIn]; done) | decide +kernel)
set_option maxRecDepth 65536 in
set_option maxHeartbeats 40000000 in
theorem own_label (l : Launch) (Z : State) (a0 : Array Value) (hw : ∀ d ∈ tables_1, d.before a0 Z = true) (hEL : EW Z a0 consts_1) (n0 : Nat) (h : Heap) (hO : Old Z n0 h) (i : Int32) :
    oMet l Z consts_1 n0 (⟨"com/example/applicator/applicator/DialectLabelledPinLaw", "label", "(I)Ljava/lang/String;"⟩ : MethodName) method_3_code 1 (some (.object "java/lang/String")) [] ({ frames := 0, cells := 2, slots := 36, locals := 0 } : Room) #[(.int i)] h [] (fun v _ h => ∃ x cs, v = some (.ref x) ∧ oStr Z h x cs) := by
  refine oMet.of opn_own_label hO ?_
  intro p e s m below meth c T hx hby hml hret hnm hlk hh hsf A
  have hml : c.maxLocals = 1 := hml
  refine oCast (g' := mkF m 0 #[.val (.int i)] []) (by first | (simp [entryFrame, mkF, argsToLocals, Value.category]; done) | rfl) ?_
  have hlit : ∀ d ∈ Bundle.stringAtoms, d.before a0 Z = true := fun d hd => hw d ((by decide +kernel : ∀ d ∈ Bundle.stringAtoms, d ∈ tables_1) d hd)
  show oGo p e below _ (T.setTop (mkF m 0 #[.val (.int i)] []))
  refine oSt (fun _ => XS.iloadN A.here hx rfl (Jvm.hb hby d_m3_0) rfl) ?_
  show oGo p e below _ (T.setTop (mkF m 1 #[.val (.int i)] [(.int i)]))
  by_cases c0 : i = 0
  · refine oSt (fun _ => XS.ifNo A.here hx rfl (Jvm.hb hby d_m3_1) rfl (Jvm.Free.XT.i0_ne_f c0)) ?_
    show oGo p e below _ (T.setTop (mkF m 4 #[.val (.int i)] []))
    obtain ⟨x, T, h, bb, kb, A, X, CR, E_x, C_x, V_x, K_x, ne_x, Li, st⟩ := A.ldcS hx (hw _ (List.mem_of_getElem? (i := 4) rfl)) hlit hEL (List.mem_of_getElem? (i := 0) rfl) (vs := (([50, 48, 50, 48, 45, 49, 50] : List Int32).map fun c => c.toInt8.toInt32).map Value.int) (z := Int32.ofNat ([50, 48, 50, 48, 45, 49, 50] : List Int32).length) ⟨by decide +kernel, by decide +kernel⟩ (by decide +kernel) (by decide +kernel) (g := (mkF m 4 #[.val (.int i)] [])) rfl (Jvm.hb hby d_m3_4) (n := 28) (by decide +kernel) (by decide) (by decide) (by decide)
    refine oSt st ?_
    show oGo p e below _ (T.setTop (mkF m 6 #[.val (.int i)] [(.ref x)]))
    have Q_x : oStr Z h x ([50, 48, 50, 48, 45, 49, 50] : List Int32) := ⟨(oPS (by decide) (oPS (by decide) (oPS (by decide) (oPS (by decide) (oPS (by decide) (oPS (by decide) (oPS (by decide) oP0))))))), by decide, bb, kb, E_x, V_x, C_x, K_x⟩
    exact A.leave hlk hEL (v := some (.ref x)) (fun h => by rw [hret] at h; cases h) (fun _ _ => ⟨x, _, rfl, Q_x⟩) (by decide) (by decide) (fun fs hr => retOut A.1 hx hret rfl (Or.inr (Or.inr (Or.inr (Or.inr ⟨rfl, rfl, rfl⟩)))) (Jvm.hb hby d_m3_6) hr)
  · refine oSt (fun _ => XS.ifYes A.here hx rfl (pc0 := 1) (pc' := 7) rfl (Jvm.hb hby d_m3_1) rfl (Jvm.Free.XT.i0_ne_t c0) (by decide) (by decide)) ?_
    show oGo p e below _ (T.setTop (mkF m 7 #[.val (.int i)] []))
    refine oSt (fun _ => XS.iloadN A.here hx rfl (Jvm.hb hby d_m3_7) rfl) ?_
    show oGo p e below _ (T.setTop (mkF m 8 #[.val (.int i)] [(.int i)]))
    refine oSt (fun _ => XS.iconst A.here hx rfl (Jvm.hb hby d_m3_8)) ?_
    show oGo p e below _ (T.setTop (mkF m 9 #[.val (.int i)] [(.int (1 : Int32)), (.int i)]))
    by_cases c1 : i = 1
    · refine oSt (fun _ => XS.icmpNo A.here hx rfl (Jvm.hb hby d_m3_9) rfl (Jvm.Free.XT.ii_ne_f c1)) ?_
      show oGo p e below _ (T.setTop (mkF m 12 #[.val (.int i)] []))
      obtain ⟨x, T, h, bb, kb, A, X, CR, E_x, C_x, V_x, K_x, ne_x, Li, st⟩ := A.ldcS hx (hw _ (List.mem_of_getElem? (i := 117) rfl)) hlit hEL (List.mem_of_getElem? (i := 1) rfl) (vs := (([100, 114, 97, 102, 116, 45, 48, 55] : List Int32).map fun c => c.toInt8.toInt32).map Value.int) (z := Int32.ofNat ([100, 114, 97, 102, 116, 45, 48, 55] : List Int32).length) ⟨by decide +kernel, by decide +kernel⟩ (by decide +kernel) (by decide +kernel) (g := (mkF m 12 #[.val (.int i)] [])) rfl (Jvm.hb hby d_m3_12) (n := 32) (by decide +kernel) (by decide) (by decide) (by decide)
      refine oSt st ?_
      show oGo p e below _ (T.setTop (mkF m 14 #[.val (.int i)] [(.ref x)]))
      have Q_x : oStr Z h x ([100, 114, 97, 102, 116, 45, 48, 55] : List Int32) := ⟨(oPS (by decide) (oPS (by decide) (oPS (by decide) (oPS (by decide) (oPS (by decide) (oPS (by decide) (oPS (by decide) (oPS (by decide) oP0)))))))), by decide, bb, kb, E_x, V_x, C_x, K_x⟩
      exact A.leave hlk hEL (v := some (.ref x)) (fun h => by rw [hret] at h; cases h) (fun _ _ => ⟨x, _, rfl, Q_x⟩) (by decide) (by decide) (fun fs hr => retOut A.1 hx hret rfl (Or.inr (Or.inr (Or.inr (Or.inr ⟨rfl, rfl, rfl⟩)))) (Jvm.hb hby d_m3_14) hr)
    · refine oSt (fun _ => XS.icmpYes A.here hx rfl (pc0 := 9) (pc' := 15) rfl (Jvm.hb hby d_m3_9) rfl (Jvm.Free.XT.ii_ne_t c1) (by decide) (by decide)) ?_
      show oGo p e below _ (T.setTop (mkF m 15 #[.val (.int i)] []))
      refine oSt (fun _ => XS.iloadN A.here hx rfl (Jvm.hb hby d_m3_15) rfl) ?_
      show oGo p e below _ (T.setTop (mkF m 16 #[.val (.int i)] [(.int i)]))
      refine oSt (fun _ => XS.iconst A.here hx rfl (Jvm.hb hby d_m3_16)) ?_
      show oGo p e below _ (T.setTop (mkF m 17 #[.val (.int i)] [(.int (2 : Int32)), (.int i)]))
      by_cases c2 : i = 2
      · refine oSt (fun _ => XS.icmpNo A.here hx rfl (Jvm.hb hby d_m3_17) rfl (Jvm.Free.XT.ii_ne_f c2)) ?_
        show oGo p e below _ (T.setTop (mkF m 20 #[.val (.int i)] []))
        obtain ⟨x, T, h, bb, kb, A, X, CR, E_x, C_x, V_x, K_x, ne_x, Li, st⟩ := A.ldcS hx (hw _ (List.mem_of_getElem? (i := 118) rfl)) hlit hEL (List.mem_of_getElem? (i := 2) rfl) (vs := (([100, 114, 97, 102, 116, 45, 48, 54] : List Int32).map fun c => c.toInt8.toInt32).map Value.int) (z := Int32.ofNat ([100, 114, 97, 102, 116, 45, 48, 54] : List Int32).length) ⟨by decide +kernel, by decide +kernel⟩ (by decide +kernel) (by decide +kernel) (g := (mkF m 20 #[.val (.int i)] [])) rfl (Jvm.hb hby d_m3_20) (n := 32) (by decide +kernel) (by decide) (by decide) (by decide)
        refine oSt st ?_
        show oGo p e below _ (T.setTop (mkF m 22 #[.val (.int i)] [(.ref x)]))
        have Q_x : oStr Z h x ([100, 114, 97, 102, 116, 45, 48, 54] : List Int32) := ⟨(oPS (by decide) (oPS (by decide) (oPS (by decide) (oPS (by decide) (oPS (by decide) (oPS (by decide) (oPS (by decide) (oPS (by decide) oP0)))))))), by decide, bb, kb, E_x, V_x, C_x, K_x⟩
        exact A.leave hlk hEL (v := some (.ref x)) (fun h => by rw [hret] at h; cases h) (fun _ _ => ⟨x, _, rfl, Q_x⟩) (by decide) (by decide) (fun fs hr => retOut A.1 hx hret rfl (Or.inr (Or.inr (Or.inr (Or.inr ⟨rfl, rfl, rfl⟩)))) (Jvm.hb hby d_m3_22) hr)
      · refine oSt (fun _ => XS.icmpYes A.here hx rfl (pc0 := 17) (pc' := 23) rfl (Jvm.hb hby d_m3_17) rfl (Jvm.Free.XT.ii_ne_t c2) (by decide) (by decide)) ?_
        show oGo p e below _ (T.setTop (mkF m 23 #[.val (.int i)] []))
        obtain ⟨x, T, h, bb, kb, A, X, CR, E_x, C_x, V_x, K_x, ne_x, Li, st⟩ := A.ldcS hx (hw _ (List.mem_of_getElem? (i := 119) rfl)) hlit hEL (List.mem_of_getElem? (i := 3) rfl) (vs := (([100, 114, 97, 102, 116, 45, 48, 52] : List Int32).map fun c => c.toInt8.toInt32).map Value.int) (z := Int32.ofNat ([100, 114, 97, 102, 116, 45, 48, 52] : List Int32).length) ⟨by decide +kernel, by decide +kernel⟩ (by decide +kernel) (by decide +kernel) (g := (mkF m 23 #[.val (.int i)] [])) rfl (Jvm.hb hby d_m3_23) (n := 32) (by decide +kernel) (by decide) (by decide) (by decide)
        refine oSt st ?_
        show oGo p e below _ (T.setTop (mkF m 25 #[.val (.int i)] [(.ref x)]))
        have Q_x : oStr Z h x ([100, 114, 97, 102, 116, 45, 48, 52] : List Int32) := ⟨(oPS (by decide) (oPS (by decide) (oPS (by decide) (oPS (by decide) (oPS (by decide) (oPS (by decide) (oPS (by decide) (oPS (by decide) oP0)))))))), by decide, bb, kb, E_x, V_x, C_x, K_x⟩
        exact A.leave hlk hEL (v := some (.ref x)) (fun h => by rw [hret] at h; cases h) (fun _ _ => ⟨x, _, rfl, Q_x⟩) (by decide) (by decide) (fun fs hr => retOut A.1 hx hret rfl (Or.inr (Or.inr (Or.inr (Or.inr ⟨rfl, rfl, rfl⟩)))) (Jvm.hb hby d_m3_25) hr)
theorem d_m4_0 : decode method_4_code 0 = .ok (.iload_n 0, 1) := by decide +kernel
theorem d_m4_1 : decode method_4_code 1 = .ok (.bipush 8, 2) := by decide +kernel
theorem d_m4_3 : decode method_4_code 3 = .ok (.if_icmp .ge 16, 3) := by decide +kernel
theorem d_m4_6 : decode method_4_code 6 = .ok (.lload_n 1, 1) := by decide +kernel
theorem d_m4_7 : decode method_4_code 7 = .ok (.bipush 8, 2) := by decide +kernel
theorem d_m4_9 : decode method_4_code 9 = .ok (.iload_n 0, 1) := by decide +kernel
theorem d_m4_10 : decode method_4_code 10 = .ok (.imul, 1) := by decide +kernel
theorem d_m4_11 : decode method_4_code 11 = .ok (.lushr, 1) := by decide +kernel
theorem d_m4_12 : decode method_4_code 12 = .ok (.ldc2_w 45, 3) := by decide +kernel
theorem d_m4_15 : decode method_4_code 15 = .ok (.land, 1) := by decide +kernel
theorem d_m4_16 : decode method_4_code 16 = .ok (.l2i, 1) := by decide +kernel
theorem d_m4_17 : decode method_4_code 17 = .ok (.i2c, 1) := by decide +kernel
theorem d_m4_18 : decode method_4_code 18 = .ok (.ireturn, 1) := by decide +kernel
theorem d_m4_19 : decode method_4_code 19 = .ok (.lload_n 3, 1) := by decide +kernel
theorem d_m4_20 : decode method_4_code 20 = .ok (.ldc2_w 45, 3) := by decide +kernel
theorem d_m4_23 : decode method_4_code 23 = .ok (.land, 1) := by decide +kernel
theorem d_m4_24 : decode method_4_code 24 = .ok (.l2i, 1) := by decide +kernel
theorem d_m4_25 : decode method_4_code 25 = .ok (.i2c, 1) := by decide +kernel
theorem d_m4_26 : decode method_4_code 26 = .ok (.ireturn, 1) := by decide +kernel
theorem opn_own_drawn : plainFor (⟨"com/example/applicator/applicator/DialectLabelledPinLaw", "drawn", "(IJJ)C"⟩ : MethodName) = true := plainFor_of_name (by first | (simp [plainName, overriddenIn]; done) | decide +kernel)
set_option maxRecDepth 65536 in
set_option maxHeartbeats 40000000 in
theorem own_drawn (l : Launch) (Z : State) (a0 : Array Value) (hw : ∀ d ∈ tables_1, d.before a0 Z = true) (hEL : EW Z a0 consts_1) (n0 : Nat) (h : Heap) (hO : Old Z n0 h) (i : Int32) (x y : Int64) :
    oMet l Z consts_1 n0 (⟨"com/example/applicator/applicator/DialectLabelledPinLaw", "drawn", "(IJJ)C"⟩ : MethodName) method_4_code 5 (some .char) [] ({ frames := 0, cells := 0, slots := 0, locals := 0 } : Room) #[(.int i), (.long x), (.long y)] h [] (fun v _ h' => h = h' ∧ ∃ c, own_B c ∧ v = some (.int c)) := by
  refine oMet.of opn_own_drawn hO ?_
  intro p e s m below meth c T hx hby hml hret hnm hlk hh hsf A
  have hml : c.maxLocals = 5 := hml
  refine oCast (g' := mkF m 0 #[.val (.int i), .val (.long x), .second, .val (.long y), .second] []) (by first | (simp [entryFrame, mkF, argsToLocals, Value.category]; done) | rfl) ?_
  show oGo p e below _ (T.setTop (mkF m 0 #[.val (.int i), .val (.long x), .second, .val (.long y), .second] []))
  refine oSt (fun _ => XS.iloadN A.here hx rfl (Jvm.hb hby d_m4_0) rfl) ?_
  show oGo p e below _ (T.setTop (mkF m 1 #[.val (.int i), .val (.long x), .second, .val (.long y), .second] [(.int i)]))
  refine oSt (fun _ => XS.bipush A.here hx rfl (Jvm.hb hby d_m4_1)) ?_
  show oGo p e below _ (T.setTop (mkF m 3 #[.val (.int i), .val (.long x), .second, .val (.long y), .second] [(.int (8 : Int32)), (.int i)]))
  by_cases hc : i < (8 : Int32)
  · refine oSt (fun _ => XS.icmpNo A.here hx rfl (Jvm.hb hby d_m4_3) rfl (Jvm.Free.XT.ii_ge_f hc)) ?_
    show oGo p e below _ (T.setTop (mkF m 6 #[.val (.int i), .val (.long x), .second, .val (.long y), .second] []))
    refine oSt (fun _ => XS.lloadN A.here hx rfl (Jvm.hb hby d_m4_6) rfl) ?_
    show oGo p e below _ (T.setTop (mkF m 7 #[.val (.int i), .val (.long x), .second, .val (.long y), .second] [(.long x)]))
    refine oSt (fun _ => XS.bipush A.here hx rfl (Jvm.hb hby d_m4_7)) ?_
    show oGo p e below _ (T.setTop (mkF m 9 #[.val (.int i), .val (.long x), .second, .val (.long y), .second] [(.int (8 : Int32)), (.long x)]))
    refine oSt (fun _ => XS.iloadN A.here hx rfl (Jvm.hb hby d_m4_9) rfl) ?_
    show oGo p e below _ (T.setTop (mkF m 10 #[.val (.int i), .val (.long x), .second, .val (.long y), .second] [(.int i), (.int (8 : Int32)), (.long x)]))
    refine oSt (fun _ => XS.imul A.here hx rfl (Jvm.hb hby d_m4_10) rfl) ?_
    show oGo p e below _ (T.setTop (mkF m 11 #[.val (.int i), .val (.long x), .second, .val (.long y), .second] [(.int ((8 : Int32) * i)), (.long x)]))
    refine oSt (fun _ => XS.lushr A.here hx rfl (Jvm.hb hby d_m4_11) rfl) ?_
    show oGo p e below _ (T.setTop (mkF m 12 #[.val (.int i), .val (.long x), .second, .val (.long y), .second] [(.long ((x.toUInt64 >>> (((8 : Int32) * i) &&& 0x3f).toInt64.toUInt64).toInt64))]))
    refine oSt (A.ldcJ hx (hw _ (List.mem_of_getElem? (i := 31) rfl)) (g := (mkF m 12 #[.val (.int i), .val (.long x), .second, .val (.long y), .second] [(.long ((x.toUInt64 >>> (((8 : Int32) * i) &&& 0x3f).toInt64.toUInt64).toInt64))])) rfl (Jvm.hb hby d_m4_12)) ?_
    show oGo p e below _ (T.setTop (mkF m 15 #[.val (.int i), .val (.long x), .second, .val (.long y), .second] [(.long (255 : Int64)), (.long ((x.toUInt64 >>> (((8 : Int32) * i) &&& 0x3f).toInt64.toUInt64).toInt64))]))
    refine oSt (fun _ => XS.land A.here hx rfl (Jvm.hb hby d_m4_15) rfl) ?_
    show oGo p e below _ (T.setTop (mkF m 16 #[.val (.int i), .val (.long x), .second, .val (.long y), .second] [(.long (((x.toUInt64 >>> (((8 : Int32) * i) &&& 0x3f).toInt64.toUInt64).toInt64) &&& (255 : Int64)))]))
    refine oSt (fun _ => XS.l2i A.here hx rfl (Jvm.hb hby d_m4_16) rfl) ?_
    show oGo p e below _ (T.setTop (mkF m 17 #[.val (.int i), .val (.long x), .second, .val (.long y), .second] [(.int ((((x.toUInt64 >>> (((8 : Int32) * i) &&& 0x3f).toInt64.toUInt64).toInt64) &&& (255 : Int64)).toInt32))]))
    refine oSt (fun _ => XS.i2c A.here hx rfl (Jvm.hb hby d_m4_17) rfl) ?_
    show oGo p e below _ (T.setTop (mkF m 18 #[.val (.int i), .val (.long x), .second, .val (.long y), .second] [(.int (((((x.toUInt64 >>> (((8 : Int32) * i) &&& 0x3f).toInt64.toUInt64).toInt64) &&& (255 : Int64)).toInt32).toUInt32.toUInt16.toUInt32.toInt32))]))
    have hb : own_B (((((x.toUInt64 >>> (((8 : Int32) * i) &&& 0x3f).toInt64.toUInt64).toInt64) &&& (255 : Int64)).toInt32).toUInt32.toUInt16.toUInt32.toInt32) := own_chL _
    generalize (((((x.toUInt64 >>> (((8 : Int32) * i) &&& 0x3f).toInt64.toUInt64).toInt64) &&& (255 : Int64)).toInt32).toUInt32.toUInt16.toUInt32.toInt32) = c_ at hb ⊢
    show oGo p e below _ (T.setTop (mkF m 18 #[.val (.int i), .val (.long x), .second, .val (.long y), .second] [(.int c_)]))
    exact A.leave hlk hEL (v := some (.int (nar .char c_))) (fun h => by rw [hret] at h; cases h) (fun _ _ => ⟨rfl, c_, hb, by show some (Value.int (nar .char c_)) = _; rw [oNar hb]⟩) (by decide) (by decide) (fun fs hr => retN A.1 hx (t := .char) hret (by simp) (Jvm.hb hby d_m4_18) hr)
  · refine oSt (fun _ => XS.icmpYes A.here hx rfl (pc0 := 3) (pc' := 19) rfl (Jvm.hb hby d_m4_3) rfl (Jvm.Free.XT.ii_ge_t hc) (by decide) (by decide)) ?_
    show oGo p e below _ (T.setTop (mkF m 19 #[.val (.int i), .val (.long x), .second, .val (.long y), .second] []))
    refine oSt (fun _ => XS.lloadN A.here hx rfl (Jvm.hb hby d_m4_19) rfl) ?_
    show oGo p e below _ (T.setTop (mkF m 20 #[.val (.int i), .val (.long x), .second, .val (.long y), .second] [(.long y)]))
    refine oSt (A.ldcJ hx (hw _ (List.mem_of_getElem? (i := 31) rfl)) (g := (mkF m 20 #[.val (.int i), .val (.long x), .second, .val (.long y), .second] [(.long y)])) rfl (Jvm.hb hby d_m4_20)) ?_
    show oGo p e below _ (T.setTop (mkF m 23 #[.val (.int i), .val (.long x), .second, .val (.long y), .second] [(.long (255 : Int64)), (.long y)]))
    refine oSt (fun _ => XS.land A.here hx rfl (Jvm.hb hby d_m4_23) rfl) ?_
    show oGo p e below _ (T.setTop (mkF m 24 #[.val (.int i), .val (.long x), .second, .val (.long y), .second] [(.long (y &&& (255 : Int64)))]))
    refine oSt (fun _ => XS.l2i A.here hx rfl (Jvm.hb hby d_m4_24) rfl) ?_
    show oGo p e below _ (T.setTop (mkF m 25 #[.val (.int i), .val (.long x), .second, .val (.long y), .second] [(.int ((y &&& (255 : Int64)).toInt32))]))
    refine oSt (fun _ => XS.i2c A.here hx rfl (Jvm.hb hby d_m4_25) rfl) ?_
    show oGo p e below _ (T.setTop (mkF m 26 #[.val (.int i), .val (.long x), .second, .val (.long y), .second] [(.int (((y &&& (255 : Int64)).toInt32).toUInt32.toUInt16.toUInt32.toInt32))]))
    have hb : own_B (((y &&& (255 : Int64)).toInt32).toUInt32.toUInt16.toUInt32.toInt32) := own_chL _
    generalize (((y &&& (255 : Int64)).toInt32).toUInt32.toUInt16.toUInt32.toInt32) = c_ at hb ⊢
    show oGo p e below _ (T.setTop (mkF m 26 #[.val (.int i), .val (.long x), .second, .val (.long y), .second] [(.int c_)]))
    exact A.leave hlk hEL (v := some (.int (nar .char c_))) (fun h => by rw [hret] at h; cases h) (fun _ _ => ⟨rfl, c_, hb, by show some (Value.int (nar .char c_)) = _; rw [oNar hb]⟩) (by decide) (by decide) (fun fs hr => retN A.1 hx (t := .char) hret (by simp) (Jvm.hb hby d_m4_26) hr)
theorem d_m5_0 : decode method_5_code 0 = .ok (.iload_n 2, 1) := by decide +kernel
theorem d_m5_1 : decode method_5_code 1 = .ok (.iload_n 1, 1) := by decide +kernel
theorem d_m5_2 : decode method_5_code 2 = .ok (.iushr, 1) := by decide +kernel
theorem d_m5_3 : decode method_5_code 3 = .ok (.iconst 1, 1) := by decide +kernel
theorem d_m5_4 : decode method_5_code 4 = .ok (.iand, 1) := by decide +kernel
theorem d_m5_5 : decode method_5_code 5 = .ok (.ifCond .ne 17, 3) := by decide +kernel
theorem d_m5_8 : decode method_5_code 8 = .ok (.iload_n 1, 1) := by decide +kernel
theorem d_m5_9 : decode method_5_code 9 = .ok (.aload_n 0, 1) := by decide +kernel
theorem d_m5_10 : decode method_5_code 10 = .ok (.invokevirtual 13, 3) := by decide +kernel
theorem d_m5_13 : decode method_5_code 13 = .ok (.if_icmp .ge 9, 3) := by decide +kernel
theorem d_m5_16 : decode method_5_code 16 = .ok (.aload_n 0, 1) := by decide +kernel
theorem d_m5_17 : decode method_5_code 17 = .ok (.iload_n 1, 1) := by decide +kernel
theorem d_m5_18 : decode method_5_code 18 = .ok (.invokevirtual 47, 3) := by decide +kernel
theorem d_m5_21 : decode method_5_code 21 = .ok (.ireturn, 1) := by decide +kernel
theorem d_m5_22 : decode method_5_code 22 = .ok (.iload_n 1, 1) := by decide +kernel
theorem d_m5_23 : decode method_5_code 23 = .ok (.lload_n 3, 1) := by decide +kernel
theorem d_m5_24 : decode method_5_code 24 = .ok (.lload 5, 2) := by decide +kernel
theorem d_m5_26 : decode method_5_code 26 = .ok (.invokestatic 51, 3) := by decide +kernel
theorem d_m5_29 : decode method_5_code 29 = .ok (.ireturn, 1) := by decide +kernel
theorem opd1 : parseMethodDescriptor "(IJJ)C" = some ⟨[.int, .long, .long], some .char⟩ := by decide +kernel
theorem opn_own_pick : plainFor (⟨"com/example/applicator/applicator/DialectLabelledPinLaw", "pick", "(Ljava/lang/String;IIJJ)C"⟩ : MethodName) = true := plainFor_of_name (by first | (simp [plainName, overriddenIn]; done) | decide +kernel)
set_option maxRecDepth 65536 in
set_option maxHeartbeats 40000000 in
theorem own_pick (l : Launch) (Z : State) (a0 : Array Value) (hw : ∀ d ∈ tables_1, d.before a0 Z = true) (hEL : EW Z a0 consts_1) (n0 : Nat) (h : Heap) (hO : Old Z n0 h) (lab : Addr) (k : Nat) (mask : Int32) (x y : Int64) (cs : List Int32) (zc : Int32) (hcs : Sta Z Z.heap "java/lang/String" "COMPACT_STRINGS" "Z" (.int zc)) (hcz : ¬ zc = 0) (fm : Value) (hfm : Sta Z Z.heap "jdk/internal/util/Preconditions" "SIOOBE_FORMATTER" "Ljava/util/function/BiFunction;" fm) (rfm : fm.isRef = true) (hk : k < 4000) (Q : oStr Z h lab cs) :
    oMet l Z consts_1 n0 (⟨"com/example/applicator/applicator/DialectLabelledPinLaw", "pick", "(Ljava/lang/String;IIJJ)C"⟩ : MethodName) method_5_code 7 (some .char) [] ({ frames := 4, cells := 0, slots := 0, locals := 53 } : Room) #[(.ref lab), (.int (Int32.ofNat k)), (.int mask), (.long x), (.long y)] h [] (fun v _ h' => h = h' ∧ ∃ c, own_B c ∧ v = some (.int c)) := by
  refine oMet.of opn_own_pick hO ?_
  intro p e s m below meth c T hx hby hml hret hnm hlk hh hsf A
  have hml : c.maxLocals = 7 := hml
  refine oCast (g' := mkF m 0 #[.val (.ref lab), .val (.int (Int32.ofNat k)), .val (.int mask), .val (.long x), .second, .val (.long y), .second] []) (by first | (simp [entryFrame, mkF, argsToLocals, Value.category]; done) | rfl) ?_
  have hln : ∀ d ∈ StrChars.Road.wordsLen, d.before a0 Z = true := fun d hd => hw d ((by decide +kernel : ∀ d ∈ StrChars.Road.wordsLen, d ∈ tables_1) d hd)
  have hch : ∀ d ∈ StrChars.Road.wordsChN, d.before a0 Z = true := fun d hd => hw d ((by decide +kernel : ∀ d ∈ StrChars.Road.wordsChN, d ∈ tables_1) d hd)
  show oGo p e below _ (T.setTop (mkF m 0 #[.val (.ref lab), .val (.int (Int32.ofNat k)), .val (.int mask), .val (.long x), .second, .val (.long y), .second] []))
  refine oSt (fun _ => XS.iloadN A.here hx rfl (Jvm.hb hby d_m5_0) rfl) ?_
  show oGo p e below _ (T.setTop (mkF m 1 #[.val (.ref lab), .val (.int (Int32.ofNat k)), .val (.int mask), .val (.long x), .second, .val (.long y), .second] [(.int mask)]))
  refine oSt (fun _ => XS.iloadN A.here hx rfl (Jvm.hb hby d_m5_1) rfl) ?_
  show oGo p e below _ (T.setTop (mkF m 2 #[.val (.ref lab), .val (.int (Int32.ofNat k)), .val (.int mask), .val (.long x), .second, .val (.long y), .second] [(.int (Int32.ofNat k)), (.int mask)]))
  refine oSt (fun _ => XS.iushr A.here hx rfl (Jvm.hb hby d_m5_2) rfl) ?_
  show oGo p e below _ (T.setTop (mkF m 3 #[.val (.ref lab), .val (.int (Int32.ofNat k)), .val (.int mask), .val (.long x), .second, .val (.long y), .second] [(.int ((mask.toUInt32 >>> ((Int32.ofNat k) &&& 31).toUInt32).toInt32))]))
  refine oSt (fun _ => XS.iconst A.here hx rfl (Jvm.hb hby d_m5_3)) ?_
  show oGo p e below _ (T.setTop (mkF m 4 #[.val (.ref lab), .val (.int (Int32.ofNat k)), .val (.int mask), .val (.long x), .second, .val (.long y), .second] [(.int (1 : Int32)), (.int ((mask.toUInt32 >>> ((Int32.ofNat k) &&& 31).toUInt32).toInt32))]))
  refine oSt (fun _ => XS.iand A.here hx rfl (Jvm.hb hby d_m5_4) rfl) ?_
  show oGo p e below _ (T.setTop (mkF m 5 #[.val (.ref lab), .val (.int (Int32.ofNat k)), .val (.int mask), .val (.long x), .second, .val (.long y), .second] [(.int (((mask.toUInt32 >>> ((Int32.ofNat k) &&& 31).toUInt32).toInt32) &&& (1 : Int32)))]))
  by_cases hm : (((mask.toUInt32 >>> ((Int32.ofNat k) &&& 31).toUInt32).toInt32) &&& (1 : Int32)) = (0 : Int32)
  · refine oSt (fun _ => XS.ifNo A.here hx rfl (Jvm.hb hby d_m5_5) rfl (Jvm.Free.XT.i0_ne_f hm)) ?_
    show oGo p e below _ (T.setTop (mkF m 8 #[.val (.ref lab), .val (.int (Int32.ofNat k)), .val (.int mask), .val (.long x), .second, .val (.long y), .second] []))
    refine oSt (fun _ => XS.iloadN A.here hx rfl (Jvm.hb hby d_m5_8) rfl) ?_
    show oGo p e below _ (T.setTop (mkF m 9 #[.val (.ref lab), .val (.int (Int32.ofNat k)), .val (.int mask), .val (.long x), .second, .val (.long y), .second] [(.int (Int32.ofNat k))]))
    refine oSt (fun _ => XS.aloadN A.here hx rfl (Jvm.hb hby d_m5_9) rfl rfl) ?_
    show oGo p e below _ (T.setTop (mkF m 10 #[.val (.ref lab), .val (.int (Int32.ofNat k)), .val (.int mask), .val (.long x), .second, .val (.long y), .second] [(.ref lab), (.int (Int32.ofNat k))]))
    obtain ⟨T, A, st⟩ := A.sLen hx hln (hw _ (List.mem_of_getElem? (i := 6) rfl)) (hw _ (List.mem_of_getElem? (i := 12) rfl)) (hw _ (List.mem_of_getElem? (i := 13) rfl)) (hw _ (List.mem_of_getElem? (i := 15) rfl)) (hw _ (List.mem_of_getElem? (i := 14) rfl)) Q hcs hcz (W := 1) (by decide) (by decide) (by decide) (by decide) (g := (mkF m 10 #[.val (.ref lab), .val (.int (Int32.ofNat k)), .val (.int mask), .val (.long x), .second, .val (.long y), .second] [(.ref lab), (.int (Int32.ofNat k))])) rfl (by rw [hml]; rfl) rfl (by show 2 * 0 + _ ≤ _; exact Nat.le_of_eq rfl) (Jvm.hb hby d_m5_10)
    refine oSt st ?_
    show oGo p e below _ (T.setTop (mkF m 13 #[.val (.ref lab), .val (.int (Int32.ofNat k)), .val (.int mask), .val (.long x), .second, .val (.long y), .second] [(.int (Int32.ofNat cs.length)), (.int (Int32.ofNat k))]))
    by_cases hl : Int32.ofNat k < Int32.ofNat cs.length
    · refine oSt (fun _ => XS.icmpNo A.here hx rfl (Jvm.hb hby d_m5_13) rfl (Jvm.Free.XT.ii_ge_f hl)) ?_
      show oGo p e below _ (T.setTop (mkF m 16 #[.val (.ref lab), .val (.int (Int32.ofNat k)), .val (.int mask), .val (.long x), .second, .val (.long y), .second] []))
      refine oSt (fun _ => XS.aloadN A.here hx rfl (Jvm.hb hby d_m5_16) rfl rfl) ?_
      show oGo p e below _ (T.setTop (mkF m 17 #[.val (.ref lab), .val (.int (Int32.ofNat k)), .val (.int mask), .val (.long x), .second, .val (.long y), .second] [(.ref lab)]))
      refine oSt (fun _ => XS.iloadN A.here hx rfl (Jvm.hb hby d_m5_17) rfl) ?_
      show oGo p e below _ (T.setTop (mkF m 18 #[.val (.ref lab), .val (.int (Int32.ofNat k)), .val (.int mask), .val (.long x), .second, .val (.long y), .second] [(.int (Int32.ofNat k)), (.ref lab)]))
      have hi := own_ltn hk Q.2.1 hl
      obtain ⟨T, A, st⟩ := A.sCh hx hch (hw _ (List.mem_of_getElem? (i := 6) rfl)) (hw _ (List.mem_of_getElem? (i := 32) rfl)) (hw _ (List.mem_of_getElem? (i := 33) rfl)) (hw _ (List.mem_of_getElem? (i := 35) rfl)) (hw _ (List.mem_of_getElem? (i := 34) rfl)) Q hcs hcz hfm rfm hi rfl (W := 0) (by decide) (by decide) (by decide) (by decide) (g := (mkF m 18 #[.val (.ref lab), .val (.int (Int32.ofNat k)), .val (.int mask), .val (.long x), .second, .val (.long y), .second] [(.int (Int32.ofNat k)), (.ref lab)])) rfl (by rw [hml]; rfl) rfl (by show 2 * 0 + _ ≤ _; exact Nat.le_of_eq rfl) (Jvm.hb hby d_m5_18)
      refine oSt st ?_
      show oGo p e below _ (T.setTop (mkF m 21 #[.val (.ref lab), .val (.int (Int32.ofNat k)), .val (.int mask), .val (.long x), .second, .val (.long y), .second] [(.int (cs.getD k 0))]))
      have hb := own_gB Q.1 hi
      generalize cs.getD k 0 = c_ at hb ⊢
      show oGo p e below _ (T.setTop (mkF m 21 #[.val (.ref lab), .val (.int (Int32.ofNat k)), .val (.int mask), .val (.long x), .second, .val (.long y), .second] [(.int c_)]))
      exact A.leave hlk hEL (v := some (.int (nar .char c_))) (fun h => by rw [hret] at h; cases h) (fun _ _ => ⟨rfl, c_, hb, by show some (Value.int (nar .char c_)) = _; rw [oNar hb]⟩) (by decide) (by decide) (fun fs hr => retN A.1 hx (t := .char) hret (by simp) (Jvm.hb hby d_m5_21) hr)
    · refine oSt (fun _ => XS.icmpYes A.here hx rfl (pc0 := 13) (pc' := 22) rfl (Jvm.hb hby d_m5_13) rfl (Jvm.Free.XT.ii_ge_t hl) (by decide) (by decide)) ?_
      show oGo p e below _ (T.setTop (mkF m 22 #[.val (.ref lab), .val (.int (Int32.ofNat k)), .val (.int mask), .val (.long x), .second, .val (.long y), .second] []))
      refine oSt (fun _ => XS.iloadN A.here hx rfl (Jvm.hb hby d_m5_22) rfl) ?_
      show oGo p e below _ (T.setTop (mkF m 23 #[.val (.ref lab), .val (.int (Int32.ofNat k)), .val (.int mask), .val (.long x), .second, .val (.long y), .second] [(.int (Int32.ofNat k))]))
      refine oSt (fun _ => XS.lloadN A.here hx rfl (Jvm.hb hby d_m5_23) rfl) ?_
      show oGo p e below _ (T.setTop (mkF m 24 #[.val (.ref lab), .val (.int (Int32.ofNat k)), .val (.int mask), .val (.long x), .second, .val (.long y), .second] [(.long x), (.int (Int32.ofNat k))]))
      refine oSt (fun _ => XS.lload A.here hx rfl (Jvm.hb hby d_m5_24) rfl) ?_
      show oGo p e below _ (T.setTop (mkF m 26 #[.val (.ref lab), .val (.int (Int32.ofNat k)), .val (.int mask), .val (.long x), .second, .val (.long y), .second] [(.long y), (.long x), (.int (Int32.ofNat k))]))
      obtain ⟨_, vm, T, h, L, A, K, CR, ⟨rfl, c_, hb, rfl⟩, st⟩ := A.callS hx (y := (⟨"com/example/applicator/applicator/DialectLabelledPinLaw", "drawn", "(IJJ)C"⟩ : MethodName)) (hw _ (List.mem_of_getElem? (i := 28) rfl)) (hw _ (List.mem_of_getElem? (i := 29) rfl)) (hw _ (List.mem_of_getElem? (i := 2) rfl)) (hw _ (List.mem_of_getElem? (i := 30) rfl)) (by decide) hEL (argsL := [(.int (Int32.ofNat k)), (.long x), (.long y)]) (rest := []) (own_drawn l Z a0 hw hEL n0 _ A.oldn _ x y) (W := 0) (by decide) (by decide) (by decide) (by decide) all0 all0 all0 (g := (mkF m 26 #[.val (.ref lab), .val (.int (Int32.ofNat k)), .val (.int mask), .val (.long x), .second, .val (.long y), .second] [(.long y), (.long x), (.int (Int32.ofNat k))])) rfl (by rw [hml]; rfl) (lenOf opd1 rfl) rfl (by show 2 * 0 + _ ≤ _; exact Nat.le_of_eq rfl) (Jvm.hb hby d_m5_26)
      refine oSt st ?_
      have X := oExt0 K
      show oGo p e below _ (T.setTop (mkF m 29 #[.val (.ref lab), .val (.int (Int32.ofNat k)), .val (.int mask), .val (.long x), .second, .val (.long y), .second] [(.int c_)]))
      exact A.leave hlk hEL (v := some (.int (nar .char c_))) (fun h => by rw [hret] at h; cases h) (fun _ _ => ⟨rfl, c_, hb, by show some (Value.int (nar .char c_)) = _; rw [oNar hb]⟩) (by decide) (by decide) (fun fs hr => retN A.1 hx (t := .char) hret (by simp) (Jvm.hb hby d_m5_29) hr)
  · refine oSt (fun _ => XS.ifYes A.here hx rfl (pc0 := 5) (pc' := 22) rfl (Jvm.hb hby d_m5_5) rfl (Jvm.Free.XT.i0_ne_t hm) (by decide) (by decide)) ?_
    show oGo p e below _ (T.setTop (mkF m 22 #[.val (.ref lab), .val (.int (Int32.ofNat k)), .val (.int mask), .val (.long x), .second, .val (.long y), .second] []))
    refine oSt (fun _ => XS.iloadN A.here hx rfl (Jvm.hb hby d_m5_22) rfl) ?_
    show oGo p e below _ (T.setTop (mkF m 23 #[.val (.ref lab), .val (.int (Int32.ofNat k)), .val (.int mask), .val (.long x), .second, .val (.long y), .second] [(.int (Int32.ofNat k))]))
    refine oSt (fun _ => XS.lloadN A.here hx rfl (Jvm.hb hby d_m5_23) rfl) ?_
    show oGo p e below _ (T.setTop (mkF m 24 #[.val (.ref lab), .val (.int (Int32.ofNat k)), .val (.int mask), .val (.long x), .second, .val (.long y), .second] [(.long x), (.int (Int32.ofNat k))]))
    refine oSt (fun _ => XS.lload A.here hx rfl (Jvm.hb hby d_m5_24) rfl) ?_
    show oGo p e below _ (T.setTop (mkF m 26 #[.val (.ref lab), .val (.int (Int32.ofNat k)), .val (.int mask), .val (.long x), .second, .val (.long y), .second] [(.long y), (.long x), (.int (Int32.ofNat k))]))
    obtain ⟨_, vm, T, h, L, A, K, CR, ⟨rfl, c_, hb, rfl⟩, st⟩ := A.callS hx (y := (⟨"com/example/applicator/applicator/DialectLabelledPinLaw", "drawn", "(IJJ)C"⟩ : MethodName)) (hw _ (List.mem_of_getElem? (i := 28) rfl)) (hw _ (List.mem_of_getElem? (i := 29) rfl)) (hw _ (List.mem_of_getElem? (i := 2) rfl)) (hw _ (List.mem_of_getElem? (i := 30) rfl)) (by decide) hEL (argsL := [(.int (Int32.ofNat k)), (.long x), (.long y)]) (rest := []) (own_drawn l Z a0 hw hEL n0 _ A.oldn _ x y) (W := 0) (by decide) (by decide) (by decide) (by decide) all0 all0 all0 (g := (mkF m 26 #[.val (.ref lab), .val (.int (Int32.ofNat k)), .val (.int mask), .val (.long x), .second, .val (.long y), .second] [(.long y), (.long x), (.int (Int32.ofNat k))])) rfl (by rw [hml]; rfl) (lenOf opd1 rfl) rfl (by show 2 * 0 + _ ≤ _; exact Nat.le_of_eq rfl) (Jvm.hb hby d_m5_26)
    refine oSt st ?_
    have X := oExt0 K
    show oGo p e below _ (T.setTop (mkF m 29 #[.val (.ref lab), .val (.int (Int32.ofNat k)), .val (.int mask), .val (.long x), .second, .val (.long y), .second] [(.int c_)]))
    exact A.leave hlk hEL (v := some (.int (nar .char c_))) (fun h => by rw [hret] at h; cases h) (fun _ _ => ⟨rfl, c_, hb, by show some (Value.int (nar .char c_)) = _; rw [oNar hb]⟩) (by decide) (by decide) (fun fs hr => retN A.1 hx (t := .char) hret (by simp) (Jvm.hb hby d_m5_29) hr)
theorem d_m6_0 : decode method_6_code 0 = .ok (.iload_n 0, 1) := by decide +kernel
theorem d_m6_1 : decode method_6_code 1 = .ok (.ifCond .ne 14, 3) := by decide +kernel
theorem d_m6_4 : decode method_6_code 4 = .ok (.new 14, 3) := by decide +kernel
theorem d_m6_7 : decode method_6_code 7 = .ok (.dup, 1) := by decide +kernel
theorem d_m6_8 : decode method_6_code 8 = .ok (.iconst 0, 1) := by decide +kernel
theorem d_m6_9 : decode method_6_code 9 = .ok (.newarray .char, 2) := by decide +kernel
theorem d_m6_11 : decode method_6_code 11 = .ok (.invokespecial 55, 3) := by decide +kernel
theorem d_m6_14 : decode method_6_code 14 = .ok (.areturn, 1) := by decide +kernel
theorem d_m6_15 : decode method_6_code 15 = .ok (.iload_n 0, 1) := by decide +kernel
theorem d_m6_16 : decode method_6_code 16 = .ok (.iconst 1, 1) := by decide +kernel
theorem d_m6_17 : decode method_6_code 17 = .ok (.if_icmp .ne 18, 3) := by decide +kernel
theorem d_m6_20 : decode method_6_code 20 = .ok (.new 14, 3) := by decide +kernel
theorem d_m6_23 : decode method_6_code 23 = .ok (.dup, 1) := by decide +kernel
theorem d_m6_24 : decode method_6_code 24 = .ok (.iconst 1, 1) := by decide +kernel
theorem d_m6_25 : decode method_6_code 25 = .ok (.newarray .char, 2) := by decide +kernel
theorem d_m6_27 : decode method_6_code 27 = .ok (.dup, 1) := by decide +kernel
theorem d_m6_28 : decode method_6_code 28 = .ok (.iconst 0, 1) := by decide +kernel
theorem d_m6_29 : decode method_6_code 29 = .ok (.iload_n 1, 1) := by decide +kernel
theorem d_m6_30 : decode method_6_code 30 = .ok (.castore, 1) := by decide +kernel
theorem d_m6_31 : decode method_6_code 31 = .ok (.invokespecial 55, 3) := by decide +kernel
theorem d_m6_34 : decode method_6_code 34 = .ok (.areturn, 1) := by decide +kernel
theorem d_m6_35 : decode method_6_code 35 = .ok (.iload_n 0, 1) := by decide +kernel
theorem d_m6_36 : decode method_6_code 36 = .ok (.iconst 2, 1) := by decide +kernel
theorem d_m6_37 : decode method_6_code 37 = .ok (.if_icmp .ne 22, 3) := by decide +kernel
theorem d_m6_40 : decode method_6_code 40 = .ok (.new 14, 3) := by decide +kernel
theorem d_m6_43 : decode method_6_code 43 = .ok (.dup, 1) := by decide +kernel
theorem d_m6_44 : decode method_6_code 44 = .ok (.iconst 2, 1) := by decide +kernel
theorem d_m6_45 : decode method_6_code 45 = .ok (.newarray .char, 2) := by decide +kernel
theorem d_m6_47 : decode method_6_code 47 = .ok (.dup, 1) := by decide +kernel
theorem d_m6_48 : decode method_6_code 48 = .ok (.iconst 0, 1) := by decide +kernel
theorem d_m6_49 : decode method_6_code 49 = .ok (.iload_n 1, 1) := by decide +kernel
theorem d_m6_50 : decode method_6_code 50 = .ok (.castore, 1) := by decide +kernel
theorem d_m6_51 : decode method_6_code 51 = .ok (.dup, 1) := by decide +kernel
theorem d_m6_52 : decode method_6_code 52 = .ok (.iconst 1, 1) := by decide +kernel
theorem d_m6_53 : decode method_6_code 53 = .ok (.iload_n 2, 1) := by decide +kernel
theorem d_m6_54 : decode method_6_code 54 = .ok (.castore, 1) := by decide +kernel
theorem d_m6_55 : decode method_6_code 55 = .ok (.invokespecial 55, 3) := by decide +kernel
theorem d_m6_58 : decode method_6_code 58 = .ok (.areturn, 1) := by decide +kernel
theorem d_m6_59 : decode method_6_code 59 = .ok (.iload_n 0, 1) := by decide +kernel
theorem d_m6_60 : decode method_6_code 60 = .ok (.iconst 3, 1) := by decide +kernel
theorem d_m6_61 : decode method_6_code 61 = .ok (.if_icmp .ne 26, 3) := by decide +kernel
theorem d_m6_64 : decode method_6_code 64 = .ok (.new 14, 3) := by decide +kernel
theorem d_m6_67 : decode method_6_code 67 = .ok (.dup, 1) := by decide +kernel
theorem d_m6_68 : decode method_6_code 68 = .ok (.iconst 3, 1) := by decide +kernel
theorem d_m6_69 : decode method_6_code 69 = .ok (.newarray .char, 2) := by decide +kernel
theorem d_m6_71 : decode method_6_code 71 = .ok (.dup, 1) := by decide +kernel
theorem d_m6_72 : decode method_6_code 72 = .ok (.iconst 0, 1) := by decide +kernel
theorem d_m6_73 : decode method_6_code 73 = .ok (.iload_n 1, 1) := by decide +kernel
theorem d_m6_74 : decode method_6_code 74 = .ok (.castore, 1) := by decide +kernel
theorem d_m6_75 : decode method_6_code 75 = .ok (.dup, 1) := by decide +kernel
theorem d_m6_76 : decode method_6_code 76 = .ok (.iconst 1, 1) := by decide +kernel
theorem d_m6_77 : decode method_6_code 77 = .ok (.iload_n 2, 1) := by decide +kernel
theorem d_m6_78 : decode method_6_code 78 = .ok (.castore, 1) := by decide +kernel
theorem d_m6_79 : decode method_6_code 79 = .ok (.dup, 1) := by decide +kernel
theorem d_m6_80 : decode method_6_code 80 = .ok (.iconst 2, 1) := by decide +kernel
theorem d_m6_81 : decode method_6_code 81 = .ok (.iload_n 3, 1) := by decide +kernel
theorem d_m6_82 : decode method_6_code 82 = .ok (.castore, 1) := by decide +kernel
theorem d_m6_83 : decode method_6_code 83 = .ok (.invokespecial 55, 3) := by decide +kernel
theorem d_m6_86 : decode method_6_code 86 = .ok (.areturn, 1) := by decide +kernel
theorem d_m6_87 : decode method_6_code 87 = .ok (.iload_n 0, 1) := by decide +kernel
theorem d_m6_88 : decode method_6_code 88 = .ok (.iconst 4, 1) := by decide +kernel
theorem d_m6_89 : decode method_6_code 89 = .ok (.if_icmp .ne 31, 3) := by decide +kernel
theorem d_m6_92 : decode method_6_code 92 = .ok (.new 14, 3) := by decide +kernel
theorem d_m6_95 : decode method_6_code 95 = .ok (.dup, 1) := by decide +kernel
theorem d_m6_96 : decode method_6_code 96 = .ok (.iconst 4, 1) := by decide +kernel
theorem d_m6_97 : decode method_6_code 97 = .ok (.newarray .char, 2) := by decide +kernel
theorem d_m6_99 : decode method_6_code 99 = .ok (.dup, 1) := by decide +kernel
theorem d_m6_100 : decode method_6_code 100 = .ok (.iconst 0, 1) := by decide +kernel
theorem d_m6_101 : decode method_6_code 101 = .ok (.iload_n 1, 1) := by decide +kernel
theorem d_m6_102 : decode method_6_code 102 = .ok (.castore, 1) := by decide +kernel
theorem d_m6_103 : decode method_6_code 103 = .ok (.dup, 1) := by decide +kernel
theorem d_m6_104 : decode method_6_code 104 = .ok (.iconst 1, 1) := by decide +kernel
theorem d_m6_105 : decode method_6_code 105 = .ok (.iload_n 2, 1) := by decide +kernel
theorem d_m6_106 : decode method_6_code 106 = .ok (.castore, 1) := by decide +kernel
theorem d_m6_107 : decode method_6_code 107 = .ok (.dup, 1) := by decide +kernel
theorem d_m6_108 : decode method_6_code 108 = .ok (.iconst 2, 1) := by decide +kernel
theorem d_m6_109 : decode method_6_code 109 = .ok (.iload_n 3, 1) := by decide +kernel
theorem d_m6_110 : decode method_6_code 110 = .ok (.castore, 1) := by decide +kernel
theorem d_m6_111 : decode method_6_code 111 = .ok (.dup, 1) := by decide +kernel
theorem d_m6_112 : decode method_6_code 112 = .ok (.iconst 3, 1) := by decide +kernel
theorem d_m6_113 : decode method_6_code 113 = .ok (.iload 4, 2) := by decide +kernel
theorem d_m6_115 : decode method_6_code 115 = .ok (.castore, 1) := by decide +kernel
theorem d_m6_116 : decode method_6_code 116 = .ok (.invokespecial 55, 3) := by decide +kernel
theorem d_m6_119 : decode method_6_code 119 = .ok (.areturn, 1) := by decide +kernel
theorem d_m6_120 : decode method_6_code 120 = .ok (.iload_n 0, 1) := by decide +kernel
theorem d_m6_121 : decode method_6_code 121 = .ok (.iconst 5, 1) := by decide +kernel
theorem d_m6_122 : decode method_6_code 122 = .ok (.if_icmp .ne 36, 3) := by decide +kernel
theorem d_m6_125 : decode method_6_code 125 = .ok (.new 14, 3) := by decide +kernel
theorem d_m6_128 : decode method_6_code 128 = .ok (.dup, 1) := by decide +kernel
theorem d_m6_129 : decode method_6_code 129 = .ok (.iconst 5, 1) := by decide +kernel
theorem d_m6_130 : decode method_6_code 130 = .ok (.newarray .char, 2) := by decide +kernel
theorem d_m6_132 : decode method_6_code 132 = .ok (.dup, 1) := by decide +kernel
theorem d_m6_133 : decode method_6_code 133 = .ok (.iconst 0, 1) := by decide +kernel
theorem d_m6_134 : decode method_6_code 134 = .ok (.iload_n 1, 1) := by decide +kernel
theorem d_m6_135 : decode method_6_code 135 = .ok (.castore, 1) := by decide +kernel
theorem d_m6_136 : decode method_6_code 136 = .ok (.dup, 1) := by decide +kernel
theorem d_m6_137 : decode method_6_code 137 = .ok (.iconst 1, 1) := by decide +kernel
theorem d_m6_138 : decode method_6_code 138 = .ok (.iload_n 2, 1) := by decide +kernel
theorem d_m6_139 : decode method_6_code 139 = .ok (.castore, 1) := by decide +kernel
theorem d_m6_140 : decode method_6_code 140 = .ok (.dup, 1) := by decide +kernel
theorem d_m6_141 : decode method_6_code 141 = .ok (.iconst 2, 1) := by decide +kernel
theorem d_m6_142 : decode method_6_code 142 = .ok (.iload_n 3, 1) := by decide +kernel
theorem d_m6_143 : decode method_6_code 143 = .ok (.castore, 1) := by decide +kernel
theorem d_m6_144 : decode method_6_code 144 = .ok (.dup, 1) := by decide +kernel
theorem d_m6_145 : decode method_6_code 145 = .ok (.iconst 3, 1) := by decide +kernel
theorem d_m6_146 : decode method_6_code 146 = .ok (.iload 4, 2) := by decide +kernel
theorem d_m6_148 : decode method_6_code 148 = .ok (.castore, 1) := by decide +kernel
theorem d_m6_149 : decode method_6_code 149 = .ok (.dup, 1) := by decide +kernel
theorem d_m6_150 : decode method_6_code 150 = .ok (.iconst 4, 1) := by decide +kernel
theorem d_m6_151 : decode method_6_code 151 = .ok (.iload 5, 2) := by decide +kernel
theorem d_m6_153 : decode method_6_code 153 = .ok (.castore, 1) := by decide +kernel
theorem d_m6_154 : decode method_6_code 154 = .ok (.invokespecial 55, 3) := by decide +kernel
theorem d_m6_157 : decode method_6_code 157 = .ok (.areturn, 1) := by decide +kernel
theorem d_m6_158 : decode method_6_code 158 = .ok (.iload_n 0, 1) := by decide +kernel
theorem d_m6_159 : decode method_6_code 159 = .ok (.bipush 6, 2) := by decide +kernel
theorem d_m6_161 : decode method_6_code 161 = .ok (.if_icmp .ne 42, 3) := by decide +kernel
theorem d_m6_164 : decode method_6_code 164 = .ok (.new 14, 3) := by decide +kernel
theorem d_m6_167 : decode method_6_code 167 = .ok (.dup, 1) := by decide +kernel
theorem d_m6_168 : decode method_6_code 168 = .ok (.bipush 6, 2) := by decide +kernel
theorem d_m6_170 : decode method_6_code 170 = .ok (.newarray .char, 2) := by decide +kernel
theorem d_m6_172 : decode method_6_code 172 = .ok (.dup, 1) := by decide +kernel
theorem d_m6_173 : decode method_6_code 173 = .ok (.iconst 0, 1) := by decide +kernel
theorem d_m6_174 : decode method_6_code 174 = .ok (.iload_n 1, 1) := by decide +kernel
theorem d_m6_175 : decode method_6_code 175 = .ok (.castore, 1) := by decide +kernel
theorem d_m6_176 : decode method_6_code 176 = .ok (.dup, 1) := by decide +kernel
theorem d_m6_177 : decode method_6_code 177 = .ok (.iconst 1, 1) := by decide +kernel
theorem d_m6_178 : decode method_6_code 178 = .ok (.iload_n 2, 1) := by decide +kernel
theorem d_m6_179 : decode method_6_code 179 = .ok (.castore, 1) := by decide +kernel
theorem d_m6_180 : decode method_6_code 180 = .ok (.dup, 1) := by decide +kernel
theorem d_m6_181 : decode method_6_code 181 = .ok (.iconst 2, 1) := by decide +kernel
theorem d_m6_182 : decode method_6_code 182 = .ok (.iload_n 3, 1) := by decide +kernel
theorem d_m6_183 : decode method_6_code 183 = .ok (.castore, 1) := by decide +kernel
theorem d_m6_184 : decode method_6_code 184 = .ok (.dup, 1) := by decide +kernel
theorem d_m6_185 : decode method_6_code 185 = .ok (.iconst 3, 1) := by decide +kernel
theorem d_m6_186 : decode method_6_code 186 = .ok (.iload 4, 2) := by decide +kernel
theorem d_m6_188 : decode method_6_code 188 = .ok (.castore, 1) := by decide +kernel
theorem d_m6_189 : decode method_6_code 189 = .ok (.dup, 1) := by decide +kernel
theorem d_m6_190 : decode method_6_code 190 = .ok (.iconst 4, 1) := by decide +kernel
theorem d_m6_191 : decode method_6_code 191 = .ok (.iload 5, 2) := by decide +kernel
theorem d_m6_193 : decode method_6_code 193 = .ok (.castore, 1) := by decide +kernel
theorem d_m6_194 : decode method_6_code 194 = .ok (.dup, 1) := by decide +kernel
theorem d_m6_195 : decode method_6_code 195 = .ok (.iconst 5, 1) := by decide +kernel
theorem d_m6_196 : decode method_6_code 196 = .ok (.iload 6, 2) := by decide +kernel
theorem d_m6_198 : decode method_6_code 198 = .ok (.castore, 1) := by decide +kernel
theorem d_m6_199 : decode method_6_code 199 = .ok (.invokespecial 55, 3) := by decide +kernel
theorem d_m6_202 : decode method_6_code 202 = .ok (.areturn, 1) := by decide +kernel
theorem d_m6_203 : decode method_6_code 203 = .ok (.iload_n 0, 1) := by decide +kernel
theorem d_m6_204 : decode method_6_code 204 = .ok (.bipush 7, 2) := by decide +kernel
theorem d_m6_206 : decode method_6_code 206 = .ok (.if_icmp .ne 48, 3) := by decide +kernel
theorem d_m6_209 : decode method_6_code 209 = .ok (.new 14, 3) := by decide +kernel
theorem d_m6_212 : decode method_6_code 212 = .ok (.dup, 1) := by decide +kernel
theorem d_m6_213 : decode method_6_code 213 = .ok (.bipush 7, 2) := by decide +kernel
theorem d_m6_215 : decode method_6_code 215 = .ok (.newarray .char, 2) := by decide +kernel
theorem d_m6_217 : decode method_6_code 217 = .ok (.dup, 1) := by decide +kernel
theorem d_m6_218 : decode method_6_code 218 = .ok (.iconst 0, 1) := by decide +kernel
theorem d_m6_219 : decode method_6_code 219 = .ok (.iload_n 1, 1) := by decide +kernel
theorem d_m6_220 : decode method_6_code 220 = .ok (.castore, 1) := by decide +kernel
theorem d_m6_221 : decode method_6_code 221 = .ok (.dup, 1) := by decide +kernel
theorem d_m6_222 : decode method_6_code 222 = .ok (.iconst 1, 1) := by decide +kernel
theorem d_m6_223 : decode method_6_code 223 = .ok (.iload_n 2, 1) := by decide +kernel
theorem d_m6_224 : decode method_6_code 224 = .ok (.castore, 1) := by decide +kernel
theorem d_m6_225 : decode method_6_code 225 = .ok (.dup, 1) := by decide +kernel
theorem d_m6_226 : decode method_6_code 226 = .ok (.iconst 2, 1) := by decide +kernel
theorem d_m6_227 : decode method_6_code 227 = .ok (.iload_n 3, 1) := by decide +kernel
theorem d_m6_228 : decode method_6_code 228 = .ok (.castore, 1) := by decide +kernel
theorem d_m6_229 : decode method_6_code 229 = .ok (.dup, 1) := by decide +kernel
theorem d_m6_230 : decode method_6_code 230 = .ok (.iconst 3, 1) := by decide +kernel
theorem d_m6_231 : decode method_6_code 231 = .ok (.iload 4, 2) := by decide +kernel
theorem d_m6_233 : decode method_6_code 233 = .ok (.castore, 1) := by decide +kernel
theorem d_m6_234 : decode method_6_code 234 = .ok (.dup, 1) := by decide +kernel
theorem d_m6_235 : decode method_6_code 235 = .ok (.iconst 4, 1) := by decide +kernel
theorem d_m6_236 : decode method_6_code 236 = .ok (.iload 5, 2) := by decide +kernel
theorem d_m6_238 : decode method_6_code 238 = .ok (.castore, 1) := by decide +kernel
theorem d_m6_239 : decode method_6_code 239 = .ok (.dup, 1) := by decide +kernel
theorem d_m6_240 : decode method_6_code 240 = .ok (.iconst 5, 1) := by decide +kernel
theorem d_m6_241 : decode method_6_code 241 = .ok (.iload 6, 2) := by decide +kernel
theorem d_m6_243 : decode method_6_code 243 = .ok (.castore, 1) := by decide +kernel
theorem d_m6_244 : decode method_6_code 244 = .ok (.dup, 1) := by decide +kernel
theorem d_m6_245 : decode method_6_code 245 = .ok (.bipush 6, 2) := by decide +kernel
theorem d_m6_247 : decode method_6_code 247 = .ok (.iload 7, 2) := by decide +kernel
theorem d_m6_249 : decode method_6_code 249 = .ok (.castore, 1) := by decide +kernel
theorem d_m6_250 : decode method_6_code 250 = .ok (.invokespecial 55, 3) := by decide +kernel
theorem d_m6_253 : decode method_6_code 253 = .ok (.areturn, 1) := by decide +kernel
theorem d_m6_254 : decode method_6_code 254 = .ok (.iload_n 0, 1) := by decide +kernel
theorem d_m6_255 : decode method_6_code 255 = .ok (.bipush 8, 2) := by decide +kernel
theorem d_m6_257 : decode method_6_code 257 = .ok (.if_icmp .ne 54, 3) := by decide +kernel
theorem d_m6_260 : decode method_6_code 260 = .ok (.new 14, 3) := by decide +kernel
theorem d_m6_263 : decode method_6_code 263 = .ok (.dup, 1) := by decide +kernel
theorem d_m6_264 : decode method_6_code 264 = .ok (.bipush 8, 2) := by decide +kernel
theorem d_m6_266 : decode method_6_code 266 = .ok (.newarray .char, 2) := by decide +kernel
theorem d_m6_268 : decode method_6_code 268 = .ok (.dup, 1) := by decide +kernel
theorem d_m6_269 : decode method_6_code 269 = .ok (.iconst 0, 1) := by decide +kernel
theorem d_m6_270 : decode method_6_code 270 = .ok (.iload_n 1, 1) := by decide +kernel
theorem d_m6_271 : decode method_6_code 271 = .ok (.castore, 1) := by decide +kernel
theorem d_m6_272 : decode method_6_code 272 = .ok (.dup, 1) := by decide +kernel
theorem d_m6_273 : decode method_6_code 273 = .ok (.iconst 1, 1) := by decide +kernel
theorem d_m6_274 : decode method_6_code 274 = .ok (.iload_n 2, 1) := by decide +kernel
theorem d_m6_275 : decode method_6_code 275 = .ok (.castore, 1) := by decide +kernel
theorem d_m6_276 : decode method_6_code 276 = .ok (.dup, 1) := by decide +kernel
theorem d_m6_277 : decode method_6_code 277 = .ok (.iconst 2, 1) := by decide +kernel
theorem d_m6_278 : decode method_6_code 278 = .ok (.iload_n 3, 1) := by decide +kernel
theorem d_m6_279 : decode method_6_code 279 = .ok (.castore, 1) := by decide +kernel
theorem d_m6_280 : decode method_6_code 280 = .ok (.dup, 1) := by decide +kernel
theorem d_m6_281 : decode method_6_code 281 = .ok (.iconst 3, 1) := by decide +kernel
theorem d_m6_282 : decode method_6_code 282 = .ok (.iload 4, 2) := by decide +kernel
theorem d_m6_284 : decode method_6_code 284 = .ok (.castore, 1) := by decide +kernel
theorem d_m6_285 : decode method_6_code 285 = .ok (.dup, 1) := by decide +kernel
theorem d_m6_286 : decode method_6_code 286 = .ok (.iconst 4, 1) := by decide +kernel
theorem d_m6_287 : decode method_6_code 287 = .ok (.iload 5, 2) := by decide +kernel
theorem d_m6_289 : decode method_6_code 289 = .ok (.castore, 1) := by decide +kernel
theorem d_m6_290 : decode method_6_code 290 = .ok (.dup, 1) := by decide +kernel
theorem d_m6_291 : decode method_6_code 291 = .ok (.iconst 5, 1) := by decide +kernel
theorem d_m6_292 : decode method_6_code 292 = .ok (.iload 6, 2) := by decide +kernel
theorem d_m6_294 : decode method_6_code 294 = .ok (.castore, 1) := by decide +kernel
theorem d_m6_295 : decode method_6_code 295 = .ok (.dup, 1) := by decide +kernel
theorem d_m6_296 : decode method_6_code 296 = .ok (.bipush 6, 2) := by decide +kernel
theorem d_m6_298 : decode method_6_code 298 = .ok (.iload 7, 2) := by decide +kernel
theorem d_m6_300 : decode method_6_code 300 = .ok (.castore, 1) := by decide +kernel
theorem d_m6_301 : decode method_6_code 301 = .ok (.dup, 1) := by decide +kernel
theorem d_m6_302 : decode method_6_code 302 = .ok (.bipush 7, 2) := by decide +kernel
theorem d_m6_304 : decode method_6_code 304 = .ok (.iload 8, 2) := by decide +kernel
theorem d_m6_306 : decode method_6_code 306 = .ok (.castore, 1) := by decide +kernel
theorem d_m6_307 : decode method_6_code 307 = .ok (.invokespecial 55, 3) := by decide +kernel
theorem d_m6_310 : decode method_6_code 310 = .ok (.areturn, 1) := by decide +kernel
theorem d_m6_311 : decode method_6_code 311 = .ok (.new 14, 3) := by decide +kernel
theorem d_m6_314 : decode method_6_code 314 = .ok (.dup, 1) := by decide +kernel
theorem d_m6_315 : decode method_6_code 315 = .ok (.bipush 9, 2) := by decide +kernel
theorem d_m6_317 : decode method_6_code 317 = .ok (.newarray .char, 2) := by decide +kernel
theorem d_m6_319 : decode method_6_code 319 = .ok (.dup, 1) := by decide +kernel
theorem d_m6_320 : decode method_6_code 320 = .ok (.iconst 0, 1) := by decide +kernel
theorem d_m6_321 : decode method_6_code 321 = .ok (.iload_n 1, 1) := by decide +kernel
theorem d_m6_322 : decode method_6_code 322 = .ok (.castore, 1) := by decide +kernel
theorem d_m6_323 : decode method_6_code 323 = .ok (.dup, 1) := by decide +kernel
theorem d_m6_324 : decode method_6_code 324 = .ok (.iconst 1, 1) := by decide +kernel
theorem d_m6_325 : decode method_6_code 325 = .ok (.iload_n 2, 1) := by decide +kernel
theorem d_m6_326 : decode method_6_code 326 = .ok (.castore, 1) := by decide +kernel
theorem d_m6_327 : decode method_6_code 327 = .ok (.dup, 1) := by decide +kernel
theorem d_m6_328 : decode method_6_code 328 = .ok (.iconst 2, 1) := by decide +kernel
theorem d_m6_329 : decode method_6_code 329 = .ok (.iload_n 3, 1) := by decide +kernel
theorem d_m6_330 : decode method_6_code 330 = .ok (.castore, 1) := by decide +kernel
theorem d_m6_331 : decode method_6_code 331 = .ok (.dup, 1) := by decide +kernel
theorem d_m6_332 : decode method_6_code 332 = .ok (.iconst 3, 1) := by decide +kernel
theorem d_m6_333 : decode method_6_code 333 = .ok (.iload 4, 2) := by decide +kernel
theorem d_m6_335 : decode method_6_code 335 = .ok (.castore, 1) := by decide +kernel
theorem d_m6_336 : decode method_6_code 336 = .ok (.dup, 1) := by decide +kernel
theorem d_m6_337 : decode method_6_code 337 = .ok (.iconst 4, 1) := by decide +kernel
theorem d_m6_338 : decode method_6_code 338 = .ok (.iload 5, 2) := by decide +kernel
theorem d_m6_340 : decode method_6_code 340 = .ok (.castore, 1) := by decide +kernel
theorem d_m6_341 : decode method_6_code 341 = .ok (.dup, 1) := by decide +kernel
theorem d_m6_342 : decode method_6_code 342 = .ok (.iconst 5, 1) := by decide +kernel
theorem d_m6_343 : decode method_6_code 343 = .ok (.iload 6, 2) := by decide +kernel
theorem d_m6_345 : decode method_6_code 345 = .ok (.castore, 1) := by decide +kernel
theorem d_m6_346 : decode method_6_code 346 = .ok (.dup, 1) := by decide +kernel
theorem d_m6_347 : decode method_6_code 347 = .ok (.bipush 6, 2) := by decide +kernel
theorem d_m6_349 : decode method_6_code 349 = .ok (.iload 7, 2) := by decide +kernel
theorem d_m6_351 : decode method_6_code 351 = .ok (.castore, 1) := by decide +kernel
theorem d_m6_352 : decode method_6_code 352 = .ok (.dup, 1) := by decide +kernel
theorem d_m6_353 : decode method_6_code 353 = .ok (.bipush 7, 2) := by decide +kernel
theorem d_m6_355 : decode method_6_code 355 = .ok (.iload 8, 2) := by decide +kernel
theorem d_m6_357 : decode method_6_code 357 = .ok (.castore, 1) := by decide +kernel
theorem d_m6_358 : decode method_6_code 358 = .ok (.dup, 1) := by decide +kernel
theorem d_m6_359 : decode method_6_code 359 = .ok (.bipush 8, 2) := by decide +kernel
theorem d_m6_361 : decode method_6_code 361 = .ok (.iload 9, 2) := by decide +kernel
theorem d_m6_363 : decode method_6_code 363 = .ok (.castore, 1) := by decide +kernel
theorem d_m6_364 : decode method_6_code 364 = .ok (.invokespecial 55, 3) := by decide +kernel
theorem d_m6_367 : decode method_6_code 367 = .ok (.areturn, 1) := by decide +kernel
theorem opd2 : parseMethodDescriptor "([C)V" = some ⟨[(.array .char)], none⟩ := by decide +kernel
theorem opn_own_make0 : plainFor (⟨"com/example/applicator/applicator/DialectLabelledPinLaw", "make", "(ICCCCCCCCC)Ljava/lang/String;"⟩ : MethodName) = true := plainFor_of_name (by first | (simp [plainName, overriddenIn]; done) | decide +kernel)
set_option maxRecDepth 65536 in
set_option maxHeartbeats 40000000 in
theorem own_make0 (l : Launch) (Z : State) (a0 : Array Value) (hw : ∀ d ∈ tables_1, d.before a0 Z = true) (hEL : EW Z a0 consts_1) (n0 : Nat) (h : Heap) (hO : Old Z n0 h) (n c0 c1 c2 c3 c4 c5 c6 c7 c8 : Int32) (zc : Int32) (hcs : Sta Z Z.heap "java/lang/String" "COMPACT_STRINGS" "Z" (.int zc)) (hcz : ¬ zc = 0) (hb0 : own_B c0) (hb1 : own_B c1) (hb2 : own_B c2) (hb3 : own_B c3) (hb4 : own_B c4) (hb5 : own_B c5) (hb6 : own_B c6) (hb7 : own_B c7) (hb8 : own_B c8) (g0 : n = 0) :
    oMet l Z consts_1 n0 (⟨"com/example/applicator/applicator/DialectLabelledPinLaw", "make", "(ICCCCCCCCC)Ljava/lang/String;"⟩ : MethodName) method_6_code 10 (some (.object "java/lang/String")) [] ({ frames := 4, cells := 4, slots := 22, locals := 66 } : Room) #[(.int n), (.int c0), (.int c1), (.int c2), (.int c3), (.int c4), (.int c5), (.int c6), (.int c7), (.int c8)] h [] (fun v _ h => ∃ x cs, v = some (.ref x) ∧ oStr Z h x cs) := by
  refine oMet.of opn_own_make0 hO ?_
  intro p e s m below meth c T hx hby hml hret hnm hlk hh hsf A
  have hml : c.maxLocals = 10 := hml
  refine oCast (g' := mkF m 0 #[.val (.int n), .val (.int c0), .val (.int c1), .val (.int c2), .val (.int c3), .val (.int c4), .val (.int c5), .val (.int c6), .val (.int c7), .val (.int c8)] []) (by first | (simp [entryFrame, mkF, argsToLocals, Value.category]; done) | rfl) ?_
  have hws : ∀ d ∈ StrChars.Road.words, d.before a0 Z = true := fun d hd => hw d ((by decide +kernel : ∀ d ∈ StrChars.Road.words, d ∈ tables_1) d hd)
  show oGo p e below _ (T.setTop (mkF m 0 #[.val (.int n), .val (.int c0), .val (.int c1), .val (.int c2), .val (.int c3), .val (.int c4), .val (.int c5), .val (.int c6), .val (.int c7), .val (.int c8)] []))
  refine oSt (fun _ => XS.iloadN A.here hx rfl (Jvm.hb hby d_m6_0) rfl) ?_
  show oGo p e below _ (T.setTop (mkF m 1 #[.val (.int n), .val (.int c0), .val (.int c1), .val (.int c2), .val (.int c3), .val (.int c4), .val (.int c5), .val (.int c6), .val (.int c7), .val (.int c8)] [(.int n)]))
  refine oSt (fun _ => XS.ifNo A.here hx rfl (Jvm.hb hby d_m6_1) rfl (Jvm.Free.XT.i0_ne_f g0)) ?_
  show oGo p e below _ (T.setTop (mkF m 4 #[.val (.int n), .val (.int c0), .val (.int c1), .val (.int c2), .val (.int c3), .val (.int c4), .val (.int c5), .val (.int c6), .val (.int c7), .val (.int c8)] []))
  have EB := oExtR h
  obtain ⟨T, h, x, g_x, lt_x, n0_x, s_x, A, E, E_x, S_x, D_x, st⟩ := A.newO hx (hw _ (List.mem_of_getElem? (i := 57) rfl)) (hw _ (List.mem_of_getElem? (i := 6) rfl)) (hw _ (List.mem_of_getElem? (i := 5) rfl)) (g := (mkF m 4 #[.val (.int n), .val (.int c0), .val (.int c1), .val (.int c2), .val (.int c3), .val (.int c4), .val (.int c5), .val (.int c6), .val (.int c7), .val (.int c8)] [])) rfl (Jvm.hb hby d_m6_4) (by decide) (by decide)
  refine oSt st ?_
  show oGo p e below _ (T.setTop (mkF m 7 #[.val (.int n), .val (.int c0), .val (.int c1), .val (.int c2), .val (.int c3), .val (.int c4), .val (.int c5), .val (.int c6), .val (.int c7), .val (.int c8)] [(.ref x)]))
  have hEB_x := Nat.le_trans EB.1 (Nat.le_of_eq g_x.symm)
  have EB := oExtT EB E
  have F_value_x : Fld Z h x "java/lang/String" "value" "[B" .null := D_x (Or.inr (hw _ (List.mem_of_getElem? (i := 8) rfl))) (ty := (.array .byte)) (by decide)
  have F_coder_x : Fld Z h x "java/lang/String" "coder" "B" (.int (0 : Int32)) := D_x (Or.inr (hw _ (List.mem_of_getElem? (i := 9) rfl))) (ty := .byte) (by decide)
  refine oSt (fun _ => XS.dup A.here hx rfl (Jvm.hb hby d_m6_7) rfl rfl) ?_
  show oGo p e below _ (T.setTop (mkF m 8 #[.val (.int n), .val (.int c0), .val (.int c1), .val (.int c2), .val (.int c3), .val (.int c4), .val (.int c5), .val (.int c6), .val (.int c7), .val (.int c8)] [(.ref x), (.ref x)]))
  refine oSt (fun _ => XS.iconst A.here hx rfl (Jvm.hb hby d_m6_8)) ?_
  show oGo p e below _ (T.setTop (mkF m 9 #[.val (.int n), .val (.int c0), .val (.int c1), .val (.int c2), .val (.int c3), .val (.int c4), .val (.int c5), .val (.int c6), .val (.int c7), .val (.int c8)] [(.int (0 : Int32)), (.ref x), (.ref x)]))
  have CH_x := A.ch
  have EC := oExtR h
  obtain ⟨T, h, b, k_b, g_b, lt_b, n0_b, s_b, A, E, V_b, S_b, st⟩ := A.newP hx (hw _ (List.mem_of_getElem? (i := 58) rfl)) (g := (mkF m 9 #[.val (.int n), .val (.int c0), .val (.int c1), .val (.int c2), .val (.int c3), .val (.int c4), .val (.int c5), .val (.int c6), .val (.int c7), .val (.int c8)] [(.int (0 : Int32)), (.ref x), (.ref x)])) rfl (Jvm.hb hby d_m6_9) rfl (by decide) (cap := 0) (by decide) (by decide) (by decide) (by decide)
  refine oSt st ?_
  show oGo p e below _ (T.setTop (mkF m 11 #[.val (.int n), .val (.int c0), .val (.int c1), .val (.int c2), .val (.int c3), .val (.int c4), .val (.int c5), .val (.int c6), .val (.int c7), .val (.int c8)] [(.ref b), (.ref x), (.ref x)]))
  have hEB_b := Nat.le_trans EB.1 (Nat.le_of_eq g_b.symm)
  have EB := oExtT EB E
  have hEC_b := Nat.le_trans EC.1 (Nat.le_of_eq g_b.symm)
  have EC := oExtT EC E
  have E_x := E_x.ext EC
  have F_value_x := F_value_x.ext EC
  have F_coder_x := F_coder_x.ext EC
  have S_x := S_x.ext EC CH_x
  have lt_x : x < h.size := E_x.lt
  obtain ⟨_, vm, T, h, L, A, K, CR, ⟨rfl, Q_x⟩, st⟩ := A.callN hx (y := (⟨"java/lang/String", "<init>", "([C)V"⟩ : MethodName)) rfl (hw _ (List.mem_of_getElem? (i := 59) rfl)) (hw _ (List.mem_of_getElem? (i := 60) rfl)) (hw _ (List.mem_of_getElem? (i := 5) rfl)) (hw _ (List.mem_of_getElem? (i := 61) rfl)) (by decide) hEL (a := x) (argsL := [(.ref b)]) (rest := [(.ref x)]) (own_E1 l Z a0 hw hEL n0 h A.oldn x b .null (.int (0 : Int32)) E_x F_value_x F_coder_x n0_x lt_x k_b V_b) (W := 1) (by decide) (by decide) (by decide) (by decide) (oIn1 n0_x) (oIn1 (Or.inr s_x)) (oIn1 S_x) (g := (mkF m 11 #[.val (.int n), .val (.int c0), .val (.int c1), .val (.int c2), .val (.int c3), .val (.int c4), .val (.int c5), .val (.int c6), .val (.int c7), .val (.int c8)] [(.ref b), (.ref x), (.ref x)])) rfl (by rw [hml]; rfl) (lenOf opd2 rfl) rfl (by show 2 * 0 + _ ≤ _; exact Nat.le_of_eq rfl) (Jvm.hb hby d_m6_11)
  refine oSt st ?_
  show oGo p e below _ (T.setTop (mkF m 14 #[.val (.int n), .val (.int c0), .val (.int c1), .val (.int c2), .val (.int c3), .val (.int c4), .val (.int c5), .val (.int c6), .val (.int c7), .val (.int c8)] [(.ref x)]))
  have EB := oExtK EB K (oIn1 hEB_x)
  exact A.leave hlk hEL (v := some (.ref x)) (fun h => by rw [hret] at h; cases h) (fun _ _ => ⟨x, _, rfl, Q_x⟩) (by decide) (by decide) (fun fs hr => retOut A.1 hx hret rfl (Or.inr (Or.inr (Or.inr (Or.inr ⟨rfl, rfl, rfl⟩)))) (Jvm.hb hby d_m6_14) hr)
theorem opn_own_make1 : plainFor (⟨"com/example/applicator/applicator/DialectLabelledPinLaw", "make", "(ICCCCCCCCC)Ljava/lang/String;"⟩ : MethodName) = true := plainFor_of_name (by first | (simp [plainName, overriddenIn]; done) | decide +kernel)
set_option maxRecDepth 65536 in
set_option maxHeartbeats 40000000 in
theorem own_make1 (l : Launch) (Z : State) (a0 : Array Value) (hw : ∀ d ∈ tables_1, d.before a0 Z = true) (hEL : EW Z a0 consts_1) (n0 : Nat) (h : Heap) (hO : Old Z n0 h) (n c0 c1 c2 c3 c4 c5 c6 c7 c8 : Int32) (zc : Int32) (hcs : Sta Z Z.heap "java/lang/String" "COMPACT_STRINGS" "Z" (.int zc)) (hcz : ¬ zc = 0) (hb0 : own_B c0) (hb1 : own_B c1) (hb2 : own_B c2) (hb3 : own_B c3) (hb4 : own_B c4) (hb5 : own_B c5) (hb6 : own_B c6) (hb7 : own_B c7) (hb8 : own_B c8) (g0 : ¬ n = 0) (g1 : n = 1) :
    oMet l Z consts_1 n0 (⟨"com/example/applicator/applicator/DialectLabelledPinLaw", "make", "(ICCCCCCCCC)Ljava/lang/String;"⟩ : MethodName) method_6_code 10 (some (.object "java/lang/String")) [] ({ frames := 4, cells := 4, slots := 22, locals := 66 } : Room) #[(.int n), (.int c0), (.int c1), (.int c2), (.int c3), (.int c4), (.int c5), (.int c6), (.int c7), (.int c8)] h [] (fun v _ h => ∃ x cs, v = some (.ref x) ∧ oStr Z h x cs) := by
  refine oMet.of opn_own_make1 hO ?_
  intro p e s m below meth c T hx hby hml hret hnm hlk hh hsf A
  have hml : c.maxLocals = 10 := hml
  refine oCast (g' := mkF m 0 #[.val (.int n), .val (.int c0), .val (.int c1), .val (.int c2), .val (.int c3), .val (.int c4), .val (.int c5), .val (.int c6), .val (.int c7), .val (.int c8)] []) (by first | (simp [entryFrame, mkF, argsToLocals, Value.category]; done) | rfl) ?_
  have hws : ∀ d ∈ StrChars.Road.words, d.before a0 Z = true := fun d hd => hw d ((by decide +kernel : ∀ d ∈ StrChars.Road.words, d ∈ tables_1) d hd)
  show oGo p e below _ (T.setTop (mkF m 0 #[.val (.int n), .val (.int c0), .val (.int c1), .val (.int c2), .val (.int c3), .val (.int c4), .val (.int c5), .val (.int c6), .val (.int c7), .val (.int c8)] []))
  refine oSt (fun _ => XS.iloadN A.here hx rfl (Jvm.hb hby d_m6_0) rfl) ?_
  show oGo p e below _ (T.setTop (mkF m 1 #[.val (.int n), .val (.int c0), .val (.int c1), .val (.int c2), .val (.int c3), .val (.int c4), .val (.int c5), .val (.int c6), .val (.int c7), .val (.int c8)] [(.int n)]))
  refine oSt (fun _ => XS.ifYes A.here hx rfl (pc0 := 1) (pc' := 15) rfl (Jvm.hb hby d_m6_1) rfl (Jvm.Free.XT.i0_ne_t g0) (by decide) (by decide)) ?_
  show oGo p e below _ (T.setTop (mkF m 15 #[.val (.int n), .val (.int c0), .val (.int c1), .val (.int c2), .val (.int c3), .val (.int c4), .val (.int c5), .val (.int c6), .val (.int c7), .val (.int c8)] []))
  refine oSt (fun _ => XS.iloadN A.here hx rfl (Jvm.hb hby d_m6_15) rfl) ?_
  show oGo p e below _ (T.setTop (mkF m 16 #[.val (.int n), .val (.int c0), .val (.int c1), .val (.int c2), .val (.int c3), .val (.int c4), .val (.int c5), .val (.int c6), .val (.int c7), .val (.int c8)] [(.int n)]))
  refine oSt (fun _ => XS.iconst A.here hx rfl (Jvm.hb hby d_m6_16)) ?_
  show oGo p e below _ (T.setTop (mkF m 17 #[.val (.int n), .val (.int c0), .val (.int c1), .val (.int c2), .val (.int c3), .val (.int c4), .val (.int c5), .val (.int c6), .val (.int c7), .val (.int c8)] [(.int (1 : Int32)), (.int n)]))
  refine oSt (fun _ => XS.icmpNo A.here hx rfl (Jvm.hb hby d_m6_17) rfl (Jvm.Free.XT.ii_ne_f g1)) ?_
  show oGo p e below _ (T.setTop (mkF m 20 #[.val (.int n), .val (.int c0), .val (.int c1), .val (.int c2), .val (.int c3), .val (.int c4), .val (.int c5), .val (.int c6), .val (.int c7), .val (.int c8)] []))
  have EB := oExtR h
  obtain ⟨T, h, x, g_x, lt_x, n0_x, s_x, A, E, E_x, S_x, D_x, st⟩ := A.newO hx (hw _ (List.mem_of_getElem? (i := 57) rfl)) (hw _ (List.mem_of_getElem? (i := 6) rfl)) (hw _ (List.mem_of_getElem? (i := 5) rfl)) (g := (mkF m 20 #[.val (.int n), .val (.int c0), .val (.int c1), .val (.int c2), .val (.int c3), .val (.int c4), .val (.int c5), .val (.int c6), .val (.int c7), .val (.int c8)] [])) rfl (Jvm.hb hby d_m6_20) (by decide) (by decide)
  refine oSt st ?_
  show oGo p e below _ (T.setTop (mkF m 23 #[.val (.int n), .val (.int c0), .val (.int c1), .val (.int c2), .val (.int c3), .val (.int c4), .val (.int c5), .val (.int c6), .val (.int c7), .val (.int c8)] [(.ref x)]))
  have hEB_x := Nat.le_trans EB.1 (Nat.le_of_eq g_x.symm)
  have EB := oExtT EB E
  have F_value_x : Fld Z h x "java/lang/String" "value" "[B" .null := D_x (Or.inr (hw _ (List.mem_of_getElem? (i := 8) rfl))) (ty := (.array .byte)) (by decide)
  have F_coder_x : Fld Z h x "java/lang/String" "coder" "B" (.int (0 : Int32)) := D_x (Or.inr (hw _ (List.mem_of_getElem? (i := 9) rfl))) (ty := .byte) (by decide)
  refine oSt (fun _ => XS.dup A.here hx rfl (Jvm.hb hby d_m6_23) rfl rfl) ?_
  show oGo p e below _ (T.setTop (mkF m 24 #[.val (.int n), .val (.int c0), .val (.int c1), .val (.int c2), .val (.int c3), .val (.int c4), .val (.int c5), .val (.int c6), .val (.int c7), .val (.int c8)] [(.ref x), (.ref x)]))
  refine oSt (fun _ => XS.iconst A.here hx rfl (Jvm.hb hby d_m6_24)) ?_
  show oGo p e below _ (T.setTop (mkF m 25 #[.val (.int n), .val (.int c0), .val (.int c1), .val (.int c2), .val (.int c3), .val (.int c4), .val (.int c5), .val (.int c6), .val (.int c7), .val (.int c8)] [(.int (1 : Int32)), (.ref x), (.ref x)]))
  have CH_x := A.ch
  have EC := oExtR h
  obtain ⟨T, h, b, k_b, g_b, lt_b, n0_b, s_b, A, E, V_b, S_b, st⟩ := A.newP hx (hw _ (List.mem_of_getElem? (i := 58) rfl)) (g := (mkF m 25 #[.val (.int n), .val (.int c0), .val (.int c1), .val (.int c2), .val (.int c3), .val (.int c4), .val (.int c5), .val (.int c6), .val (.int c7), .val (.int c8)] [(.int (1 : Int32)), (.ref x), (.ref x)])) rfl (Jvm.hb hby d_m6_25) rfl (by decide) (cap := 1) (by decide) (by decide) (by decide) (by decide)
  refine oSt st ?_
  show oGo p e below _ (T.setTop (mkF m 27 #[.val (.int n), .val (.int c0), .val (.int c1), .val (.int c2), .val (.int c3), .val (.int c4), .val (.int c5), .val (.int c6), .val (.int c7), .val (.int c8)] [(.ref b), (.ref x), (.ref x)]))
  have hEB_b := Nat.le_trans EB.1 (Nat.le_of_eq g_b.symm)
  have EB := oExtT EB E
  have hEC_b := Nat.le_trans EC.1 (Nat.le_of_eq g_b.symm)
  have EC := oExtT EC E
  have V_b : Arv Z h b k_b .char (1 : Int32) [(.int (0 : Int32))] (.int (0 : Int32)) := V_b.pad (pad_rep [] (.int (0 : Int32)) 1)
  refine oSt (fun _ => XS.dup A.here hx rfl (Jvm.hb hby d_m6_27) rfl rfl) ?_
  show oGo p e below _ (T.setTop (mkF m 28 #[.val (.int n), .val (.int c0), .val (.int c1), .val (.int c2), .val (.int c3), .val (.int c4), .val (.int c5), .val (.int c6), .val (.int c7), .val (.int c8)] [(.ref b), (.ref b), (.ref x), (.ref x)]))
  refine oSt (fun _ => XS.iconst A.here hx rfl (Jvm.hb hby d_m6_28)) ?_
  show oGo p e below _ (T.setTop (mkF m 29 #[.val (.int n), .val (.int c0), .val (.int c1), .val (.int c2), .val (.int c3), .val (.int c4), .val (.int c5), .val (.int c6), .val (.int c7), .val (.int c8)] [(.int (0 : Int32)), (.ref b), (.ref b), (.ref x), (.ref x)]))
  refine oSt (fun _ => XS.iloadN A.here hx rfl (Jvm.hb hby d_m6_29) rfl) ?_
  show oGo p e below _ (T.setTop (mkF m 30 #[.val (.int n), .val (.int c0), .val (.int c1), .val (.int c2), .val (.int c3), .val (.int c4), .val (.int c5), .val (.int c6), .val (.int c7), .val (.int c8)] [(.int c0), (.int (0 : Int32)), (.ref b), (.ref b), (.ref x), (.ref x)]))
  obtain ⟨T, h, A, W, V_b, st⟩ := A.stC hx V_b 0 rfl ⟨by decide, by decide⟩ (by simp) n0_b (Or.inr s_b) (g := (mkF m 30 #[.val (.int n), .val (.int c0), .val (.int c1), .val (.int c2), .val (.int c3), .val (.int c4), .val (.int c5), .val (.int c6), .val (.int c7), .val (.int c8)] [(.int c0), (.int (0 : Int32)), (.ref b), (.ref b), (.ref x), (.ref x)])) rfl rfl (Jvm.hb hby d_m6_30)
  refine oSt st ?_
  show oGo p e below _ (T.setTop (mkF m 31 #[.val (.int n), .val (.int c0), .val (.int c1), .val (.int c2), .val (.int c3), .val (.int c4), .val (.int c5), .val (.int c6), .val (.int c7), .val (.int c8)] [(.ref b), (.ref x), (.ref x)]))
  have EB := oExtW EB W hEB_b
  have EC := oExtW EC W hEC_b
  rw [oNar hb0] at V_b
  have V_b : Arv Z h b k_b .char (1 : Int32) [(.int c0)] (.int (0 : Int32)) := V_b
  have E_x := E_x.ext EC
  have F_value_x := F_value_x.ext EC
  have F_coder_x := F_coder_x.ext EC
  have S_x := S_x.ext EC CH_x
  obtain ⟨T, h, L, A, K, Q_x, st⟩ := A.sNew hx hws (hw _ (List.mem_of_getElem? (i := 6) rfl)) (hw _ (List.mem_of_getElem? (i := 59) rfl)) (hw _ (List.mem_of_getElem? (i := 60) rfl)) (hw _ (List.mem_of_getElem? (i := 61) rfl)) E_x F_value_x F_coder_x (cs := ([c0] : List Int32)) V_b hcs hcz (n := 1) rfl rfl (by decide) (by decide) (oPS hb0 oP0) n0_x (Or.inr s_x) S_x (W := 1) (by decide) (by decide) (by decide) (by decide) (g := (mkF m 31 #[.val (.int n), .val (.int c0), .val (.int c1), .val (.int c2), .val (.int c3), .val (.int c4), .val (.int c5), .val (.int c6), .val (.int c7), .val (.int c8)] [(.ref b), (.ref x), (.ref x)])) rfl (by rw [hml]; rfl) rfl (by show 2 * 0 + _ ≤ _; exact Nat.le_of_eq rfl) (Jvm.hb hby d_m6_31)
  refine oSt st ?_
  show oGo p e below _ (T.setTop (mkF m 34 #[.val (.int n), .val (.int c0), .val (.int c1), .val (.int c2), .val (.int c3), .val (.int c4), .val (.int c5), .val (.int c6), .val (.int c7), .val (.int c8)] [(.ref x)]))
  have EB := oExtK EB K (oIn1 hEB_x)
  exact A.leave hlk hEL (v := some (.ref x)) (fun h => by rw [hret] at h; cases h) (fun _ _ => ⟨x, _, rfl, Q_x⟩) (by decide) (by decide) (fun fs hr => retOut A.1 hx hret rfl (Or.inr (Or.inr (Or.inr (Or.inr ⟨rfl, rfl, rfl⟩)))) (Jvm.hb hby d_m6_34) hr)
theorem opn_own_make2 : plainFor (⟨"com/example/applicator/applicator/DialectLabelledPinLaw", "make", "(ICCCCCCCCC)Ljava/lang/String;"⟩ : MethodName) = true := plainFor_of_name (by first | (simp [plainName, overriddenIn]; done) | decide +kernel)
set_option maxRecDepth 65536 in
set_option maxHeartbeats 40000000 in
theorem own_make2 (l : Launch) (Z : State) (a0 : Array Value) (hw : ∀ d ∈ tables_1, d.before a0 Z = true) (hEL : EW Z a0 consts_1) (n0 : Nat) (h : Heap) (hO : Old Z n0 h) (n c0 c1 c2 c3 c4 c5 c6 c7 c8 : Int32) (zc : Int32) (hcs : Sta Z Z.heap "java/lang/String" "COMPACT_STRINGS" "Z" (.int zc)) (hcz : ¬ zc = 0) (hb0 : own_B c0) (hb1 : own_B c1) (hb2 : own_B c2) (hb3 : own_B c3) (hb4 : own_B c4) (hb5 : own_B c5) (hb6 : own_B c6) (hb7 : own_B c7) (hb8 : own_B c8) (g0 : ¬ n = 0) (g1 : ¬ n = 1) (g2 : n = 2) :
    oMet l Z consts_1 n0 (⟨"com/example/applicator/applicator/DialectLabelledPinLaw", "make", "(ICCCCCCCCC)Ljava/lang/String;"⟩ : MethodName) method_6_code 10 (some (.object "java/lang/String")) [] ({ frames := 4, cells := 4, slots := 22, locals := 66 } : Room) #[(.int n), (.int c0), (.int c1), (.int c2), (.int c3), (.int c4), (.int c5), (.int c6), (.int c7), (.int c8)] h [] (fun v _ h => ∃ x cs, v = some (.ref x) ∧ oStr Z h x cs) := by
  refine oMet.of opn_own_make2 hO ?_
  intro p e s m below meth c T hx hby hml hret hnm hlk hh hsf A
  have hml : c.maxLocals = 10 := hml
  refine oCast (g' := mkF m 0 #[.val (.int n), .val (.int c0), .val (.int c1), .val (.int c2), .val (.int c3), .val (.int c4), .val (.int c5), .val (.int c6), .val (.int c7), .val (.int c8)] []) (by first | (simp [entryFrame, mkF, argsToLocals, Value.category]; done) | rfl) ?_
  have hws : ∀ d ∈ StrChars.Road.words, d.before a0 Z = true := fun d hd => hw d ((by decide +kernel : ∀ d ∈ StrChars.Road.words, d ∈ tables_1) d hd)
  show oGo p e below _ (T.setTop (mkF m 0 #[.val (.int n), .val (.int c0), .val (.int c1), .val (.int c2), .val (.int c3), .val (.int c4), .val (.int c5), .val (.int c6), .val (.int c7), .val (.int c8)] []))
  refine oSt (fun _ => XS.iloadN A.here hx rfl (Jvm.hb hby d_m6_0) rfl) ?_
  show oGo p e below _ (T.setTop (mkF m 1 #[.val (.int n), .val (.int c0), .val (.int c1), .val (.int c2), .val (.int c3), .val (.int c4), .val (.int c5), .val (.int c6), .val (.int c7), .val (.int c8)] [(.int n)]))
  refine oSt (fun _ => XS.ifYes A.here hx rfl (pc0 := 1) (pc' := 15) rfl (Jvm.hb hby d_m6_1) rfl (Jvm.Free.XT.i0_ne_t g0) (by decide) (by decide)) ?_
  show oGo p e below _ (T.setTop (mkF m 15 #[.val (.int n), .val (.int c0), .val (.int c1), .val (.int c2), .val (.int c3), .val (.int c4), .val (.int c5), .val (.int c6), .val (.int c7), .val (.int c8)] []))
  refine oSt (fun _ => XS.iloadN A.here hx rfl (Jvm.hb hby d_m6_15) rfl) ?_
  show oGo p e below _ (T.setTop (mkF m 16 #[.val (.int n), .val (.int c0), .val (.int c1), .val (.int c2), .val (.int c3), .val (.int c4), .val (.int c5), .val (.int c6), .val (.int c7), .val (.int c8)] [(.int n)]))
  refine oSt (fun _ => XS.iconst A.here hx rfl (Jvm.hb hby d_m6_16)) ?_
  show oGo p e below _ (T.setTop (mkF m 17 #[.val (.int n), .val (.int c0), .val (.int c1), .val (.int c2), .val (.int c3), .val (.int c4), .val (.int c5), .val (.int c6), .val (.int c7), .val (.int c8)] [(.int (1 : Int32)), (.int n)]))
  refine oSt (fun _ => XS.icmpYes A.here hx rfl (pc0 := 17) (pc' := 35) rfl (Jvm.hb hby d_m6_17) rfl (Jvm.Free.XT.ii_ne_t g1) (by decide) (by decide)) ?_
  show oGo p e below _ (T.setTop (mkF m 35 #[.val (.int n), .val (.int c0), .val (.int c1), .val (.int c2), .val (.int c3), .val (.int c4), .val (.int c5), .val (.int c6), .val (.int c7), .val (.int c8)] []))
  refine oSt (fun _ => XS.iloadN A.here hx rfl (Jvm.hb hby d_m6_35) rfl) ?_
  show oGo p e below _ (T.setTop (mkF m 36 #[.val (.int n), .val (.int c0), .val (.int c1), .val (.int c2), .val (.int c3), .val (.int c4), .val (.int c5), .val (.int c6), .val (.int c7), .val (.int c8)] [(.int n)]))
  refine oSt (fun _ => XS.iconst A.here hx rfl (Jvm.hb hby d_m6_36)) ?_
  show oGo p e below _ (T.setTop (mkF m 37 #[.val (.int n), .val (.int c0), .val (.int c1), .val (.int c2), .val (.int c3), .val (.int c4), .val (.int c5), .val (.int c6), .val (.int c7), .val (.int c8)] [(.int (2 : Int32)), (.int n)]))
  refine oSt (fun _ => XS.icmpNo A.here hx rfl (Jvm.hb hby d_m6_37) rfl (Jvm.Free.XT.ii_ne_f g2)) ?_
  show oGo p e below _ (T.setTop (mkF m 40 #[.val (.int n), .val (.int c0), .val (.int c1), .val (.int c2), .val (.int c3), .val (.int c4), .val (.int c5), .val (.int c6), .val (.int c7), .val (.int c8)] []))
  have EB := oExtR h
  obtain ⟨T, h, x, g_x, lt_x, n0_x, s_x, A, E, E_x, S_x, D_x, st⟩ := A.newO hx (hw _ (List.mem_of_getElem? (i := 57) rfl)) (hw _ (List.mem_of_getElem? (i := 6) rfl)) (hw _ (List.mem_of_getElem? (i := 5) rfl)) (g := (mkF m 40 #[.val (.int n), .val (.int c0), .val (.int c1), .val (.int c2), .val (.int c3), .val (.int c4), .val (.int c5), .val (.int c6), .val (.int c7), .val (.int c8)] [])) rfl (Jvm.hb hby d_m6_40) (by decide) (by decide)
  refine oSt st ?_
  show oGo p e below _ (T.setTop (mkF m 43 #[.val (.int n), .val (.int c0), .val (.int c1), .val (.int c2), .val (.int c3), .val (.int c4), .val (.int c5), .val (.int c6), .val (.int c7), .val (.int c8)] [(.ref x)]))
  have hEB_x := Nat.le_trans EB.1 (Nat.le_of_eq g_x.symm)
  have EB := oExtT EB E
  have F_value_x : Fld Z h x "java/lang/String" "value" "[B" .null := D_x (Or.inr (hw _ (List.mem_of_getElem? (i := 8) rfl))) (ty := (.array .byte)) (by decide)
  have F_coder_x : Fld Z h x "java/lang/String" "coder" "B" (.int (0 : Int32)) := D_x (Or.inr (hw _ (List.mem_of_getElem? (i := 9) rfl))) (ty := .byte) (by decide)
  refine oSt (fun _ => XS.dup A.here hx rfl (Jvm.hb hby d_m6_43) rfl rfl) ?_
  show oGo p e below _ (T.setTop (mkF m 44 #[.val (.int n), .val (.int c0), .val (.int c1), .val (.int c2), .val (.int c3), .val (.int c4), .val (.int c5), .val (.int c6), .val (.int c7), .val (.int c8)] [(.ref x), (.ref x)]))
  refine oSt (fun _ => XS.iconst A.here hx rfl (Jvm.hb hby d_m6_44)) ?_
  show oGo p e below _ (T.setTop (mkF m 45 #[.val (.int n), .val (.int c0), .val (.int c1), .val (.int c2), .val (.int c3), .val (.int c4), .val (.int c5), .val (.int c6), .val (.int c7), .val (.int c8)] [(.int (2 : Int32)), (.ref x), (.ref x)]))
  have CH_x := A.ch
  have EC := oExtR h
  obtain ⟨T, h, b, k_b, g_b, lt_b, n0_b, s_b, A, E, V_b, S_b, st⟩ := A.newP hx (hw _ (List.mem_of_getElem? (i := 58) rfl)) (g := (mkF m 45 #[.val (.int n), .val (.int c0), .val (.int c1), .val (.int c2), .val (.int c3), .val (.int c4), .val (.int c5), .val (.int c6), .val (.int c7), .val (.int c8)] [(.int (2 : Int32)), (.ref x), (.ref x)])) rfl (Jvm.hb hby d_m6_45) rfl (by decide) (cap := 2) (by decide) (by decide) (by decide) (by decide)
  refine oSt st ?_
  show oGo p e below _ (T.setTop (mkF m 47 #[.val (.int n), .val (.int c0), .val (.int c1), .val (.int c2), .val (.int c3), .val (.int c4), .val (.int c5), .val (.int c6), .val (.int c7), .val (.int c8)] [(.ref b), (.ref x), (.ref x)]))
  have hEB_b := Nat.le_trans EB.1 (Nat.le_of_eq g_b.symm)
  have EB := oExtT EB E
  have hEC_b := Nat.le_trans EC.1 (Nat.le_of_eq g_b.symm)
  have EC := oExtT EC E
  have V_b : Arv Z h b k_b .char (2 : Int32) [(.int (0 : Int32)), (.int (0 : Int32))] (.int (0 : Int32)) := V_b.pad (pad_rep [] (.int (0 : Int32)) 2)
  refine oSt (fun _ => XS.dup A.here hx rfl (Jvm.hb hby d_m6_47) rfl rfl) ?_
  show oGo p e below _ (T.setTop (mkF m 48 #[.val (.int n), .val (.int c0), .val (.int c1), .val (.int c2), .val (.int c3), .val (.int c4), .val (.int c5), .val (.int c6), .val (.int c7), .val (.int c8)] [(.ref b), (.ref b), (.ref x), (.ref x)]))
  refine oSt (fun _ => XS.iconst A.here hx rfl (Jvm.hb hby d_m6_48)) ?_
  show oGo p e below _ (T.setTop (mkF m 49 #[.val (.int n), .val (.int c0), .val (.int c1), .val (.int c2), .val (.int c3), .val (.int c4), .val (.int c5), .val (.int c6), .val (.int c7), .val (.int c8)] [(.int (0 : Int32)), (.ref b), (.ref b), (.ref x), (.ref x)]))
  refine oSt (fun _ => XS.iloadN A.here hx rfl (Jvm.hb hby d_m6_49) rfl) ?_
  show oGo p e below _ (T.setTop (mkF m 50 #[.val (.int n), .val (.int c0), .val (.int c1), .val (.int c2), .val (.int c3), .val (.int c4), .val (.int c5), .val (.int c6), .val (.int c7), .val (.int c8)] [(.int c0), (.int (0 : Int32)), (.ref b), (.ref b), (.ref x), (.ref x)]))
  obtain ⟨T, h, A, W, V_b, st⟩ := A.stC hx V_b 0 rfl ⟨by decide, by decide⟩ (by simp) n0_b (Or.inr s_b) (g := (mkF m 50 #[.val (.int n), .val (.int c0), .val (.int c1), .val (.int c2), .val (.int c3), .val (.int c4), .val (.int c5), .val (.int c6), .val (.int c7), .val (.int c8)] [(.int c0), (.int (0 : Int32)), (.ref b), (.ref b), (.ref x), (.ref x)])) rfl rfl (Jvm.hb hby d_m6_50)
  refine oSt st ?_
  show oGo p e below _ (T.setTop (mkF m 51 #[.val (.int n), .val (.int c0), .val (.int c1), .val (.int c2), .val (.int c3), .val (.int c4), .val (.int c5), .val (.int c6), .val (.int c7), .val (.int c8)] [(.ref b), (.ref x), (.ref x)]))
  have EB := oExtW EB W hEB_b
  have EC := oExtW EC W hEC_b
  rw [oNar hb0] at V_b
  have V_b : Arv Z h b k_b .char (2 : Int32) [(.int c0), (.int (0 : Int32))] (.int (0 : Int32)) := V_b
  refine oSt (fun _ => XS.dup A.here hx rfl (Jvm.hb hby d_m6_51) rfl rfl) ?_
  show oGo p e below _ (T.setTop (mkF m 52 #[.val (.int n), .val (.int c0), .val (.int c1), .val (.int c2), .val (.int c3), .val (.int c4), .val (.int c5), .val (.int c6), .val (.int c7), .val (.int c8)] [(.ref b), (.ref b), (.ref x), (.ref x)]))
  refine oSt (fun _ => XS.iconst A.here hx rfl (Jvm.hb hby d_m6_52)) ?_
  show oGo p e below _ (T.setTop (mkF m 53 #[.val (.int n), .val (.int c0), .val (.int c1), .val (.int c2), .val (.int c3), .val (.int c4), .val (.int c5), .val (.int c6), .val (.int c7), .val (.int c8)] [(.int (1 : Int32)), (.ref b), (.ref b), (.ref x), (.ref x)]))
  refine oSt (fun _ => XS.iloadN A.here hx rfl (Jvm.hb hby d_m6_53) rfl) ?_
  show oGo p e below _ (T.setTop (mkF m 54 #[.val (.int n), .val (.int c0), .val (.int c1), .val (.int c2), .val (.int c3), .val (.int c4), .val (.int c5), .val (.int c6), .val (.int c7), .val (.int c8)] [(.int c1), (.int (1 : Int32)), (.ref b), (.ref b), (.ref x), (.ref x)]))
  obtain ⟨T, h, A, W, V_b, st⟩ := A.stC hx V_b 1 rfl ⟨by decide, by decide⟩ (by simp) n0_b (Or.inr s_b) (g := (mkF m 54 #[.val (.int n), .val (.int c0), .val (.int c1), .val (.int c2), .val (.int c3), .val (.int c4), .val (.int c5), .val (.int c6), .val (.int c7), .val (.int c8)] [(.int c1), (.int (1 : Int32)), (.ref b), (.ref b), (.ref x), (.ref x)])) rfl rfl (Jvm.hb hby d_m6_54)
  refine oSt st ?_
  show oGo p e below _ (T.setTop (mkF m 55 #[.val (.int n), .val (.int c0), .val (.int c1), .val (.int c2), .val (.int c3), .val (.int c4), .val (.int c5), .val (.int c6), .val (.int c7), .val (.int c8)] [(.ref b), (.ref x), (.ref x)]))
  have EB := oExtW EB W hEB_b
  have EC := oExtW EC W hEC_b
  rw [oNar hb1] at V_b
  have V_b : Arv Z h b k_b .char (2 : Int32) [(.int c0), (.int c1)] (.int (0 : Int32)) := V_b
  have E_x := E_x.ext EC
  have F_value_x := F_value_x.ext EC
  have F_coder_x := F_coder_x.ext EC
  have S_x := S_x.ext EC CH_x
  obtain ⟨T, h, L, A, K, Q_x, st⟩ := A.sNew hx hws (hw _ (List.mem_of_getElem? (i := 6) rfl)) (hw _ (List.mem_of_getElem? (i := 59) rfl)) (hw _ (List.mem_of_getElem? (i := 60) rfl)) (hw _ (List.mem_of_getElem? (i := 61) rfl)) E_x F_value_x F_coder_x (cs := ([c0, c1] : List Int32)) V_b hcs hcz (n := 2) rfl rfl (by decide) (by decide) (oPS hb0 (oPS hb1 oP0)) n0_x (Or.inr s_x) S_x (W := 1) (by decide) (by decide) (by decide) (by decide) (g := (mkF m 55 #[.val (.int n), .val (.int c0), .val (.int c1), .val (.int c2), .val (.int c3), .val (.int c4), .val (.int c5), .val (.int c6), .val (.int c7), .val (.int c8)] [(.ref b), (.ref x), (.ref x)])) rfl (by rw [hml]; rfl) rfl (by show 2 * 0 + _ ≤ _; exact Nat.le_of_eq rfl) (Jvm.hb hby d_m6_55)
  refine oSt st ?_
  show oGo p e below _ (T.setTop (mkF m 58 #[.val (.int n), .val (.int c0), .val (.int c1), .val (.int c2), .val (.int c3), .val (.int c4), .val (.int c5), .val (.int c6), .val (.int c7), .val (.int c8)] [(.ref x)]))
  have EB := oExtK EB K (oIn1 hEB_x)
  exact A.leave hlk hEL (v := some (.ref x)) (fun h => by rw [hret] at h; cases h) (fun _ _ => ⟨x, _, rfl, Q_x⟩) (by decide) (by decide) (fun fs hr => retOut A.1 hx hret rfl (Or.inr (Or.inr (Or.inr (Or.inr ⟨rfl, rfl, rfl⟩)))) (Jvm.hb hby d_m6_58) hr)
theorem opn_own_make3 : plainFor (⟨"com/example/applicator/applicator/DialectLabelledPinLaw", "make", "(ICCCCCCCCC)Ljava/lang/String;"⟩ : MethodName) = true := plainFor_of_name (by first | (simp [plainName, overriddenIn]; done) | decide +kernel)
set_option maxRecDepth 65536 in
set_option maxHeartbeats 40000000 in
theorem own_make3 (l : Launch) (Z : State) (a0 : Array Value) (hw : ∀ d ∈ tables_1, d.before a0 Z = true) (hEL : EW Z a0 consts_1) (n0 : Nat) (h : Heap) (hO : Old Z n0 h) (n c0 c1 c2 c3 c4 c5 c6 c7 c8 : Int32) (zc : Int32) (hcs : Sta Z Z.heap "java/lang/String" "COMPACT_STRINGS" "Z" (.int zc)) (hcz : ¬ zc = 0) (hb0 : own_B c0) (hb1 : own_B c1) (hb2 : own_B c2) (hb3 : own_B c3) (hb4 : own_B c4) (hb5 : own_B c5) (hb6 : own_B c6) (hb7 : own_B c7) (hb8 : own_B c8) (g0 : ¬ n = 0) (g1 : ¬ n = 1) (g2 : ¬ n = 2) (g3 : n = 3) :
    oMet l Z consts_1 n0 (⟨"com/example/applicator/applicator/DialectLabelledPinLaw", "make", "(ICCCCCCCCC)Ljava/lang/String;"⟩ : MethodName) method_6_code 10 (some (.object "java/lang/String")) [] ({ frames := 4, cells := 4, slots := 22, locals := 66 } : Room) #[(.int n), (.int c0), (.int c1), (.int c2), (.int c3), (.int c4), (.int c5), (.int c6), (.int c7), (.int c8)] h [] (fun v _ h => ∃ x cs, v = some (.ref x) ∧ oStr Z h x cs) := by
  refine oMet.of opn_own_make3 hO ?_
  intro p e s m below meth c T hx hby hml hret hnm hlk hh hsf A
  have hml : c.maxLocals = 10 := hml
  refine oCast (g' := mkF m 0 #[.val (.int n), .val (.int c0), .val (.int c1), .val (.int c2), .val (.int c3), .val (.int c4), .val (.int c5), .val (.int c6), .val (.int c7), .val (.int c8)] []) (by first | (simp [entryFrame, mkF, argsToLocals, Value.category]; done) | rfl) ?_
  have hws : ∀ d ∈ StrChars.Road.words, d.before a0 Z = true := fun d hd => hw d ((by decide +kernel : ∀ d ∈ StrChars.Road.words, d ∈ tables_1) d hd)
  show oGo p e below _ (T.setTop (mkF m 0 #[.val (.int n), .val (.int c0), .val (.int c1), .val (.int c2), .val (.int c3), .val (.int c4), .val (.int c5), .val (.int c6), .val (.int c7), .val (.int c8)] []))
  refine oSt (fun _ => XS.iloadN A.here hx rfl (Jvm.hb hby d_m6_0) rfl) ?_
  show oGo p e below _ (T.setTop (mkF m 1 #[.val (.int n), .val (.int c0), .val (.int c1), .val (.int c2), .val (.int c3), .val (.int c4), .val (.int c5), .val (.int c6), .val (.int c7), .val (.int c8)] [(.int n)]))
  refine oSt (fun _ => XS.ifYes A.here hx rfl (pc0 := 1) (pc' := 15) rfl (Jvm.hb hby d_m6_1) rfl (Jvm.Free.XT.i0_ne_t g0) (by decide) (by decide)) ?_
  show oGo p e below _ (T.setTop (mkF m 15 #[.val (.int n), .val (.int c0), .val (.int c1), .val (.int c2), .val (.int c3), .val (.int c4), .val (.int c5), .val (.int c6), .val (.int c7), .val (.int c8)] []))
  refine oSt (fun _ => XS.iloadN A.here hx rfl (Jvm.hb hby d_m6_15) rfl) ?_
  show oGo p e below _ (T.setTop (mkF m 16 #[.val (.int n), .val (.int c0), .val (.int c1), .val (.int c2), .val (.int c3), .val (.int c4), .val (.int c5), .val (.int c6), .val (.int c7), .val (.int c8)] [(.int n)]))
  refine oSt (fun _ => XS.iconst A.here hx rfl (Jvm.hb hby d_m6_16)) ?_
  show oGo p e below _ (T.setTop (mkF m 17 #[.val (.int n), .val (.int c0), .val (.int c1), .val (.int c2), .val (.int c3), .val (.int c4), .val (.int c5), .val (.int c6), .val (.int c7), .val (.int c8)] [(.int (1 : Int32)), (.int n)]))
  refine oSt (fun _ => XS.icmpYes A.here hx rfl (pc0 := 17) (pc' := 35) rfl (Jvm.hb hby d_m6_17) rfl (Jvm.Free.XT.ii_ne_t g1) (by decide) (by decide)) ?_
  show oGo p e below _ (T.setTop (mkF m 35 #[.val (.int n), .val (.int c0), .val (.int c1), .val (.int c2), .val (.int c3), .val (.int c4), .val (.int c5), .val (.int c6), .val (.int c7), .val (.int c8)] []))
  refine oSt (fun _ => XS.iloadN A.here hx rfl (Jvm.hb hby d_m6_35) rfl) ?_
  show oGo p e below _ (T.setTop (mkF m 36 #[.val (.int n), .val (.int c0), .val (.int c1), .val (.int c2), .val (.int c3), .val (.int c4), .val (.int c5), .val (.int c6), .val (.int c7), .val (.int c8)] [(.int n)]))
  refine oSt (fun _ => XS.iconst A.here hx rfl (Jvm.hb hby d_m6_36)) ?_
  show oGo p e below _ (T.setTop (mkF m 37 #[.val (.int n), .val (.int c0), .val (.int c1), .val (.int c2), .val (.int c3), .val (.int c4), .val (.int c5), .val (.int c6), .val (.int c7), .val (.int c8)] [(.int (2 : Int32)), (.int n)]))
  refine oSt (fun _ => XS.icmpYes A.here hx rfl (pc0 := 37) (pc' := 59) rfl (Jvm.hb hby d_m6_37) rfl (Jvm.Free.XT.ii_ne_t g2) (by decide) (by decide)) ?_
  show oGo p e below _ (T.setTop (mkF m 59 #[.val (.int n), .val (.int c0), .val (.int c1), .val (.int c2), .val (.int c3), .val (.int c4), .val (.int c5), .val (.int c6), .val (.int c7), .val (.int c8)] []))
  refine oSt (fun _ => XS.iloadN A.here hx rfl (Jvm.hb hby d_m6_59) rfl) ?_
  show oGo p e below _ (T.setTop (mkF m 60 #[.val (.int n), .val (.int c0), .val (.int c1), .val (.int c2), .val (.int c3), .val (.int c4), .val (.int c5), .val (.int c6), .val (.int c7), .val (.int c8)] [(.int n)]))
  refine oSt (fun _ => XS.iconst A.here hx rfl (Jvm.hb hby d_m6_60)) ?_
  show oGo p e below _ (T.setTop (mkF m 61 #[.val (.int n), .val (.int c0), .val (.int c1), .val (.int c2), .val (.int c3), .val (.int c4), .val (.int c5), .val (.int c6), .val (.int c7), .val (.int c8)] [(.int (3 : Int32)), (.int n)]))
  refine oSt (fun _ => XS.icmpNo A.here hx rfl (Jvm.hb hby d_m6_61) rfl (Jvm.Free.XT.ii_ne_f g3)) ?_
  show oGo p e below _ (T.setTop (mkF m 64 #[.val (.int n), .val (.int c0), .val (.int c1), .val (.int c2), .val (.int c3), .val (.int c4), .val (.int c5), .val (.int c6), .val (.int c7), .val (.int c8)] []))
  have EB := oExtR h
  obtain ⟨T, h, x, g_x, lt_x, n0_x, s_x, A, E, E_x, S_x, D_x, st⟩ := A.newO hx (hw _ (List.mem_of_getElem? (i := 57) rfl)) (hw _ (List.mem_of_getElem? (i := 6) rfl)) (hw _ (List.mem_of_getElem? (i := 5) rfl)) (g := (mkF m 64 #[.val (.int n), .val (.int c0), .val (.int c1), .val (.int c2), .val (.int c3), .val (.int c4), .val (.int c5), .val (.int c6), .val (.int c7), .val (.int c8)] [])) rfl (Jvm.hb hby d_m6_64) (by decide) (by decide)
  refine oSt st ?_
  show oGo p e below _ (T.setTop (mkF m 67 #[.val (.int n), .val (.int c0), .val (.int c1), .val (.int c2), .val (.int c3), .val (.int c4), .val (.int c5), .val (.int c6), .val (.int c7), .val (.int c8)] [(.ref x)]))
  have hEB_x := Nat.le_trans EB.1 (Nat.le_of_eq g_x.symm)
  have EB := oExtT EB E
  have F_value_x : Fld Z h x "java/lang/String" "value" "[B" .null := D_x (Or.inr (hw _ (List.mem_of_getElem? (i := 8) rfl))) (ty := (.array .byte)) (by decide)
  have F_coder_x : Fld Z h x "java/lang/String" "coder" "B" (.int (0 : Int32)) := D_x (Or.inr (hw _ (List.mem_of_getElem? (i := 9) rfl))) (ty := .byte) (by decide)
  refine oSt (fun _ => XS.dup A.here hx rfl (Jvm.hb hby d_m6_67) rfl rfl) ?_
  show oGo p e below _ (T.setTop (mkF m 68 #[.val (.int n), .val (.int c0), .val (.int c1), .val (.int c2), .val (.int c3), .val (.int c4), .val (.int c5), .val (.int c6), .val (.int c7), .val (.int c8)] [(.ref x), (.ref x)]))
  refine oSt (fun _ => XS.iconst A.here hx rfl (Jvm.hb hby d_m6_68)) ?_
  show oGo p e below _ (T.setTop (mkF m 69 #[.val (.int n), .val (.int c0), .val (.int c1), .val (.int c2), .val (.int c3), .val (.int c4), .val (.int c5), .val (.int c6), .val (.int c7), .val (.int c8)] [(.int (3 : Int32)), (.ref x), (.ref x)]))
  have CH_x := A.ch
  have EC := oExtR h
  obtain ⟨T, h, b, k_b, g_b, lt_b, n0_b, s_b, A, E, V_b, S_b, st⟩ := A.newP hx (hw _ (List.mem_of_getElem? (i := 58) rfl)) (g := (mkF m 69 #[.val (.int n), .val (.int c0), .val (.int c1), .val (.int c2), .val (.int c3), .val (.int c4), .val (.int c5), .val (.int c6), .val (.int c7), .val (.int c8)] [(.int (3 : Int32)), (.ref x), (.ref x)])) rfl (Jvm.hb hby d_m6_69) rfl (by decide) (cap := 3) (by decide) (by decide) (by decide) (by decide)
  refine oSt st ?_
  show oGo p e below _ (T.setTop (mkF m 71 #[.val (.int n), .val (.int c0), .val (.int c1), .val (.int c2), .val (.int c3), .val (.int c4), .val (.int c5), .val (.int c6), .val (.int c7), .val (.int c8)] [(.ref b), (.ref x), (.ref x)]))
  have hEB_b := Nat.le_trans EB.1 (Nat.le_of_eq g_b.symm)
  have EB := oExtT EB E
  have hEC_b := Nat.le_trans EC.1 (Nat.le_of_eq g_b.symm)
  have EC := oExtT EC E
  have V_b : Arv Z h b k_b .char (3 : Int32) [(.int (0 : Int32)), (.int (0 : Int32)), (.int (0 : Int32))] (.int (0 : Int32)) := V_b.pad (pad_rep [] (.int (0 : Int32)) 3)
  refine oSt (fun _ => XS.dup A.here hx rfl (Jvm.hb hby d_m6_71) rfl rfl) ?_
  show oGo p e below _ (T.setTop (mkF m 72 #[.val (.int n), .val (.int c0), .val (.int c1), .val (.int c2), .val (.int c3), .val (.int c4), .val (.int c5), .val (.int c6), .val (.int c7), .val (.int c8)] [(.ref b), (.ref b), (.ref x), (.ref x)]))
  refine oSt (fun _ => XS.iconst A.here hx rfl (Jvm.hb hby d_m6_72)) ?_
  show oGo p e below _ (T.setTop (mkF m 73 #[.val (.int n), .val (.int c0), .val (.int c1), .val (.int c2), .val (.int c3), .val (.int c4), .val (.int c5), .val (.int c6), .val (.int c7), .val (.int c8)] [(.int (0 : Int32)), (.ref b), (.ref b), (.ref x), (.ref x)]))
  refine oSt (fun _ => XS.iloadN A.here hx rfl (Jvm.hb hby d_m6_73) rfl) ?_
  show oGo p e below _ (T.setTop (mkF m 74 #[.val (.int n), .val (.int c0), .val (.int c1), .val (.int c2), .val (.int c3), .val (.int c4), .val (.int c5), .val (.int c6), .val (.int c7), .val (.int c8)] [(.int c0), (.int (0 : Int32)), (.ref b), (.ref b), (.ref x), (.ref x)]))
  obtain ⟨T, h, A, W, V_b, st⟩ := A.stC hx V_b 0 rfl ⟨by decide, by decide⟩ (by simp) n0_b (Or.inr s_b) (g := (mkF m 74 #[.val (.int n), .val (.int c0), .val (.int c1), .val (.int c2), .val (.int c3), .val (.int c4), .val (.int c5), .val (.int c6), .val (.int c7), .val (.int c8)] [(.int c0), (.int (0 : Int32)), (.ref b), (.ref b), (.ref x), (.ref x)])) rfl rfl (Jvm.hb hby d_m6_74)
  refine oSt st ?_
  show oGo p e below _ (T.setTop (mkF m 75 #[.val (.int n), .val (.int c0), .val (.int c1), .val (.int c2), .val (.int c3), .val (.int c4), .val (.int c5), .val (.int c6), .val (.int c7), .val (.int c8)] [(.ref b), (.ref x), (.ref x)]))
  have EB := oExtW EB W hEB_b
  have EC := oExtW EC W hEC_b
  rw [oNar hb0] at V_b
  have V_b : Arv Z h b k_b .char (3 : Int32) [(.int c0), (.int (0 : Int32)), (.int (0 : Int32))] (.int (0 : Int32)) := V_b
  refine oSt (fun _ => XS.dup A.here hx rfl (Jvm.hb hby d_m6_75) rfl rfl) ?_
  show oGo p e below _ (T.setTop (mkF m 76 #[.val (.int n), .val (.int c0), .val (.int c1), .val (.int c2), .val (.int c3), .val (.int c4), .val (.int c5), .val (.int c6), .val (.int c7), .val (.int c8)] [(.ref b), (.ref b), (.ref x), (.ref x)]))
  refine oSt (fun _ => XS.iconst A.here hx rfl (Jvm.hb hby d_m6_76)) ?_
  show oGo p e below _ (T.setTop (mkF m 77 #[.val (.int n), .val (.int c0), .val (.int c1), .val (.int c2), .val (.int c3), .val (.int c4), .val (.int c5), .val (.int c6), .val (.int c7), .val (.int c8)] [(.int (1 : Int32)), (.ref b), (.ref b), (.ref x), (.ref x)]))
  refine oSt (fun _ => XS.iloadN A.here hx rfl (Jvm.hb hby d_m6_77) rfl) ?_
  show oGo p e below _ (T.setTop (mkF m 78 #[.val (.int n), .val (.int c0), .val (.int c1), .val (.int c2), .val (.int c3), .val (.int c4), .val (.int c5), .val (.int c6), .val (.int c7), .val (.int c8)] [(.int c1), (.int (1 : Int32)), (.ref b), (.ref b), (.ref x), (.ref x)]))
  obtain ⟨T, h, A, W, V_b, st⟩ := A.stC hx V_b 1 rfl ⟨by decide, by decide⟩ (by simp) n0_b (Or.inr s_b) (g := (mkF m 78 #[.val (.int n), .val (.int c0), .val (.int c1), .val (.int c2), .val (.int c3), .val (.int c4), .val (.int c5), .val (.int c6), .val (.int c7), .val (.int c8)] [(.int c1), (.int (1 : Int32)), (.ref b), (.ref b), (.ref x), (.ref x)])) rfl rfl (Jvm.hb hby d_m6_78)
  refine oSt st ?_
  show oGo p e below _ (T.setTop (mkF m 79 #[.val (.int n), .val (.int c0), .val (.int c1), .val (.int c2), .val (.int c3), .val (.int c4), .val (.int c5), .val (.int c6), .val (.int c7), .val (.int c8)] [(.ref b), (.ref x), (.ref x)]))
  have EB := oExtW EB W hEB_b
  have EC := oExtW EC W hEC_b
  rw [oNar hb1] at V_b
  have V_b : Arv Z h b k_b .char (3 : Int32) [(.int c0), (.int c1), (.int (0 : Int32))] (.int (0 : Int32)) := V_b
  refine oSt (fun _ => XS.dup A.here hx rfl (Jvm.hb hby d_m6_79) rfl rfl) ?_
  show oGo p e below _ (T.setTop (mkF m 80 #[.val (.int n), .val (.int c0), .val (.int c1), .val (.int c2), .val (.int c3), .val (.int c4), .val (.int c5), .val (.int c6), .val (.int c7), .val (.int c8)] [(.ref b), (.ref b), (.ref x), (.ref x)]))
  refine oSt (fun _ => XS.iconst A.here hx rfl (Jvm.hb hby d_m6_80)) ?_
  show oGo p e below _ (T.setTop (mkF m 81 #[.val (.int n), .val (.int c0), .val (.int c1), .val (.int c2), .val (.int c3), .val (.int c4), .val (.int c5), .val (.int c6), .val (.int c7), .val (.int c8)] [(.int (2 : Int32)), (.ref b), (.ref b), (.ref x), (.ref x)]))
  refine oSt (fun _ => XS.iloadN A.here hx rfl (Jvm.hb hby d_m6_81) rfl) ?_
  show oGo p e below _ (T.setTop (mkF m 82 #[.val (.int n), .val (.int c0), .val (.int c1), .val (.int c2), .val (.int c3), .val (.int c4), .val (.int c5), .val (.int c6), .val (.int c7), .val (.int c8)] [(.int c2), (.int (2 : Int32)), (.ref b), (.ref b), (.ref x), (.ref x)]))
  obtain ⟨T, h, A, W, V_b, st⟩ := A.stC hx V_b 2 rfl ⟨by decide, by decide⟩ (by simp) n0_b (Or.inr s_b) (g := (mkF m 82 #[.val (.int n), .val (.int c0), .val (.int c1), .val (.int c2), .val (.int c3), .val (.int c4), .val (.int c5), .val (.int c6), .val (.int c7), .val (.int c8)] [(.int c2), (.int (2 : Int32)), (.ref b), (.ref b), (.ref x), (.ref x)])) rfl rfl (Jvm.hb hby d_m6_82)
  refine oSt st ?_
  show oGo p e below _ (T.setTop (mkF m 83 #[.val (.int n), .val (.int c0), .val (.int c1), .val (.int c2), .val (.int c3), .val (.int c4), .val (.int c5), .val (.int c6), .val (.int c7), .val (.int c8)] [(.ref b), (.ref x), (.ref x)]))
  have EB := oExtW EB W hEB_b
  have EC := oExtW EC W hEC_b
  rw [oNar hb2] at V_b
  have V_b : Arv Z h b k_b .char (3 : Int32) [(.int c0), (.int c1), (.int c2)] (.int (0 : Int32)) := V_b
  have E_x := E_x.ext EC
  have F_value_x := F_value_x.ext EC
  have F_coder_x := F_coder_x.ext EC
  have S_x := S_x.ext EC CH_x
  obtain ⟨T, h, L, A, K, Q_x, st⟩ := A.sNew hx hws (hw _ (List.mem_of_getElem? (i := 6) rfl)) (hw _ (List.mem_of_getElem? (i := 59) rfl)) (hw _ (List.mem_of_getElem? (i := 60) rfl)) (hw _ (List.mem_of_getElem? (i := 61) rfl)) E_x F_value_x F_coder_x (cs := ([c0, c1, c2] : List Int32)) V_b hcs hcz (n := 3) rfl rfl (by decide) (by decide) (oPS hb0 (oPS hb1 (oPS hb2 oP0))) n0_x (Or.inr s_x) S_x (W := 1) (by decide) (by decide) (by decide) (by decide) (g := (mkF m 83 #[.val (.int n), .val (.int c0), .val (.int c1), .val (.int c2), .val (.int c3), .val (.int c4), .val (.int c5), .val (.int c6), .val (.int c7), .val (.int c8)] [(.ref b), (.ref x), (.ref x)])) rfl (by rw [hml]; rfl) rfl (by show 2 * 0 + _ ≤ _; exact Nat.le_of_eq rfl) (Jvm.hb hby d_m6_83)
  refine oSt st ?_
  show oGo p e below _ (T.setTop (mkF m 86 #[.val (.int n), .val (.int c0), .val (.int c1), .val (.int c2), .val (.int c3), .val (.int c4), .val (.int c5), .val (.int c6), .val (.int c7), .val (.int c8)] [(.ref x)]))
  have EB := oExtK EB K (oIn1 hEB_x)
  exact A.leave hlk hEL (v := some (.ref x)) (fun h => by rw [hret] at h; cases h) (fun _ _ => ⟨x, _, rfl, Q_x⟩) (by decide) (by decide) (fun fs hr => retOut A.1 hx hret rfl (Or.inr (Or.inr (Or.inr (Or.inr ⟨rfl, rfl, rfl⟩)))) (Jvm.hb hby d_m6_86) hr)
theorem opn_own_make4 : plainFor (⟨"com/example/applicator/applicator/DialectLabelledPinLaw", "make", "(ICCCCCCCCC)Ljava/lang/String;"⟩ : MethodName) = true := plainFor_of_name (by first | (simp [plainName, overriddenIn]; done) | decide +kernel)
set_option maxRecDepth 65536 in
set_option maxHeartbeats 40000000 in
theorem own_make4 (l : Launch) (Z : State) (a0 : Array Value) (hw : ∀ d ∈ tables_1, d.before a0 Z = true) (hEL : EW Z a0 consts_1) (n0 : Nat) (h : Heap) (hO : Old Z n0 h) (n c0 c1 c2 c3 c4 c5 c6 c7 c8 : Int32) (zc : Int32) (hcs : Sta Z Z.heap "java/lang/String" "COMPACT_STRINGS" "Z" (.int zc)) (hcz : ¬ zc = 0) (hb0 : own_B c0) (hb1 : own_B c1) (hb2 : own_B c2) (hb3 : own_B c3) (hb4 : own_B c4) (hb5 : own_B c5) (hb6 : own_B c6) (hb7 : own_B c7) (hb8 : own_B c8) (g0 : ¬ n = 0) (g1 : ¬ n = 1) (g2 : ¬ n = 2) (g3 : ¬ n = 3) (g4 : n = 4) :
    oMet l Z consts_1 n0 (⟨"com/example/applicator/applicator/DialectLabelledPinLaw", "make", "(ICCCCCCCCC)Ljava/lang/String;"⟩ : MethodName) method_6_code 10 (some (.object "java/lang/String")) [] ({ frames := 4, cells := 4, slots := 22, locals := 66 } : Room) #[(.int n), (.int c0), (.int c1), (.int c2), (.int c3), (.int c4), (.int c5), (.int c6), (.int c7), (.int c8)] h [] (fun v _ h => ∃ x cs, v = some (.ref x) ∧ oStr Z h x cs) := by
  refine oMet.of opn_own_make4 hO ?_
  intro p e s m below meth c T hx hby hml hret hnm hlk hh hsf A
  have hml : c.maxLocals = 10 := hml
  refine oCast (g' := mkF m 0 #[.val (.int n), .val (.int c0), .val (.int c1), .val (.int c2), .val (.int c3), .val (.int c4), .val (.int c5), .val (.int c6), .val (.int c7), .val (.int c8)] []) (by first | (simp [entryFrame, mkF, argsToLocals, Value.category]; done) | rfl) ?_
  have hws : ∀ d ∈ StrChars.Road.words, d.before a0 Z = true := fun d hd => hw d ((by decide +kernel : ∀ d ∈ StrChars.Road.words, d ∈ tables_1) d hd)
  show oGo p e below _ (T.setTop (mkF m 0 #[.val (.int n), .val (.int c0), .val (.int c1), .val (.int c2), .val (.int c3), .val (.int c4), .val (.int c5), .val (.int c6), .val (.int c7), .val (.int c8)] []))
  refine oSt (fun _ => XS.iloadN A.here hx rfl (Jvm.hb hby d_m6_0) rfl) ?_
  show oGo p e below _ (T.setTop (mkF m 1 #[.val (.int n), .val (.int c0), .val (.int c1), .val (.int c2), .val (.int c3), .val (.int c4), .val (.int c5), .val (.int c6), .val (.int c7), .val (.int c8)] [(.int n)]))
  refine oSt (fun _ => XS.ifYes A.here hx rfl (pc0 := 1) (pc' := 15) rfl (Jvm.hb hby d_m6_1) rfl (Jvm.Free.XT.i0_ne_t g0) (by decide) (by decide)) ?_
  show oGo p e below _ (T.setTop (mkF m 15 #[.val (.int n), .val (.int c0), .val (.int c1), .val (.int c2), .val (.int c3), .val (.int c4), .val (.int c5), .val (.int c6), .val (.int c7), .val (.int c8)] []))
  refine oSt (fun _ => XS.iloadN A.here hx rfl (Jvm.hb hby d_m6_15) rfl) ?_
  show oGo p e below _ (T.setTop (mkF m 16 #[.val (.int n), .val (.int c0), .val (.int c1), .val (.int c2), .val (.int c3), .val (.int c4), .val (.int c5), .val (.int c6), .val (.int c7), .val (.int c8)] [(.int n)]))
  refine oSt (fun _ => XS.iconst A.here hx rfl (Jvm.hb hby d_m6_16)) ?_
  show oGo p e below _ (T.setTop (mkF m 17 #[.val (.int n), .val (.int c0), .val (.int c1), .val (.int c2), .val (.int c3), .val (.int c4), .val (.int c5), .val (.int c6), .val (.int c7), .val (.int c8)] [(.int (1 : Int32)), (.int n)]))
  refine oSt (fun _ => XS.icmpYes A.here hx rfl (pc0 := 17) (pc' := 35) rfl (Jvm.hb hby d_m6_17) rfl (Jvm.Free.XT.ii_ne_t g1) (by decide) (by decide)) ?_
  show oGo p e below _ (T.setTop (mkF m 35 #[.val (.int n), .val (.int c0), .val (.int c1), .val (.int c2), .val (.int c3), .val (.int c4), .val (.int c5), .val (.int c6), .val (.int c7), .val (.int c8)] []))
  refine oSt (fun _ => XS.iloadN A.here hx rfl (Jvm.hb hby d_m6_35) rfl) ?_
  show oGo p e below _ (T.setTop (mkF m 36 #[.val (.int n), .val (.int c0), .val (.int c1), .val (.int c2), .val (.int c3), .val (.int c4), .val (.int c5), .val (.int c6), .val (.int c7), .val (.int c8)] [(.int n)]))
  refine oSt (fun _ => XS.iconst A.here hx rfl (Jvm.hb hby d_m6_36)) ?_
  show oGo p e below _ (T.setTop (mkF m 37 #[.val (.int n), .val (.int c0), .val (.int c1), .val (.int c2), .val (.int c3), .val (.int c4), .val (.int c5), .val (.int c6), .val (.int c7), .val (.int c8)] [(.int (2 : Int32)), (.int n)]))
  refine oSt (fun _ => XS.icmpYes A.here hx rfl (pc0 := 37) (pc' := 59) rfl (Jvm.hb hby d_m6_37) rfl (Jvm.Free.XT.ii_ne_t g2) (by decide) (by decide)) ?_
  show oGo p e below _ (T.setTop (mkF m 59 #[.val (.int n), .val (.int c0), .val (.int c1), .val (.int c2), .val (.int c3), .val (.int c4), .val (.int c5), .val (.int c6), .val (.int c7), .val (.int c8)] []))
  refine oSt (fun _ => XS.iloadN A.here hx rfl (Jvm.hb hby d_m6_59) rfl) ?_
  show oGo p e below _ (T.setTop (mkF m 60 #[.val (.int n), .val (.int c0), .val (.int c1), .val (.int c2), .val (.int c3), .val (.int c4), .val (.int c5), .val (.int c6), .val (.int c7), .val (.int c8)] [(.int n)]))
  refine oSt (fun _ => XS.iconst A.here hx rfl (Jvm.hb hby d_m6_60)) ?_
  show oGo p e below _ (T.setTop (mkF m 61 #[.val (.int n), .val (.int c0), .val (.int c1), .val (.int c2), .val (.int c3), .val (.int c4), .val (.int c5), .val (.int c6), .val (.int c7), .val (.int c8)] [(.int (3 : Int32)), (.int n)]))
  refine oSt (fun _ => XS.icmpYes A.here hx rfl (pc0 := 61) (pc' := 87) rfl (Jvm.hb hby d_m6_61) rfl (Jvm.Free.XT.ii_ne_t g3) (by decide) (by decide)) ?_
  show oGo p e below _ (T.setTop (mkF m 87 #[.val (.int n), .val (.int c0), .val (.int c1), .val (.int c2), .val (.int c3), .val (.int c4), .val (.int c5), .val (.int c6), .val (.int c7), .val (.int c8)] []))
  refine oSt (fun _ => XS.iloadN A.here hx rfl (Jvm.hb hby d_m6_87) rfl) ?_
  show oGo p e below _ (T.setTop (mkF m 88 #[.val (.int n), .val (.int c0), .val (.int c1), .val (.int c2), .val (.int c3), .val (.int c4), .val (.int c5), .val (.int c6), .val (.int c7), .val (.int c8)] [(.int n)]))
  refine oSt (fun _ => XS.iconst A.here hx rfl (Jvm.hb hby d_m6_88)) ?_
  show oGo p e below _ (T.setTop (mkF m 89 #[.val (.int n), .val (.int c0), .val (.int c1), .val (.int c2), .val (.int c3), .val (.int c4), .val (.int c5), .val (.int c6), .val (.int c7), .val (.int c8)] [(.int (4 : Int32)), (.int n)]))
  refine oSt (fun _ => XS.icmpNo A.here hx rfl (Jvm.hb hby d_m6_89) rfl (Jvm.Free.XT.ii_ne_f g4)) ?_
  show oGo p e below _ (T.setTop (mkF m 92 #[.val (.int n), .val (.int c0), .val (.int c1), .val (.int c2), .val (.int c3), .val (.int c4), .val (.int c5), .val (.int c6), .val (.int c7), .val (.int c8)] []))
  have EB := oExtR h
  obtain ⟨T, h, x, g_x, lt_x, n0_x, s_x, A, E, E_x, S_x, D_x, st⟩ := A.newO hx (hw _ (List.mem_of_getElem? (i := 57) rfl)) (hw _ (List.mem_of_getElem? (i := 6) rfl)) (hw _ (List.mem_of_getElem? (i := 5) rfl)) (g := (mkF m 92 #[.val (.int n), .val (.int c0), .val (.int c1), .val (.int c2), .val (.int c3), .val (.int c4), .val (.int c5), .val (.int c6), .val (.int c7), .val (.int c8)] [])) rfl (Jvm.hb hby d_m6_92) (by decide) (by decide)
  refine oSt st ?_
  show oGo p e below _ (T.setTop (mkF m 95 #[.val (.int n), .val (.int c0), .val (.int c1), .val (.int c2), .val (.int c3), .val (.int c4), .val (.int c5), .val (.int c6), .val (.int c7), .val (.int c8)] [(.ref x)]))
  have hEB_x := Nat.le_trans EB.1 (Nat.le_of_eq g_x.symm)
  have EB := oExtT EB E
  have F_value_x : Fld Z h x "java/lang/String" "value" "[B" .null := D_x (Or.inr (hw _ (List.mem_of_getElem? (i := 8) rfl))) (ty := (.array .byte)) (by decide)
  have F_coder_x : Fld Z h x "java/lang/String" "coder" "B" (.int (0 : Int32)) := D_x (Or.inr (hw _ (List.mem_of_getElem? (i := 9) rfl))) (ty := .byte) (by decide)
  refine oSt (fun _ => XS.dup A.here hx rfl (Jvm.hb hby d_m6_95) rfl rfl) ?_
  show oGo p e below _ (T.setTop (mkF m 96 #[.val (.int n), .val (.int c0), .val (.int c1), .val (.int c2), .val (.int c3), .val (.int c4), .val (.int c5), .val (.int c6), .val (.int c7), .val (.int c8)] [(.ref x), (.ref x)]))
  refine oSt (fun _ => XS.iconst A.here hx rfl (Jvm.hb hby d_m6_96)) ?_
  show oGo p e below _ (T.setTop (mkF m 97 #[.val (.int n), .val (.int c0), .val (.int c1), .val (.int c2), .val (.int c3), .val (.int c4), .val (.int c5), .val (.int c6), .val (.int c7), .val (.int c8)] [(.int (4 : Int32)), (.ref x), (.ref x)]))
  have CH_x := A.ch
  have EC := oExtR h
  obtain ⟨T, h, b, k_b, g_b, lt_b, n0_b, s_b, A, E, V_b, S_b, st⟩ := A.newP hx (hw _ (List.mem_of_getElem? (i := 58) rfl)) (g := (mkF m 97 #[.val (.int n), .val (.int c0), .val (.int c1), .val (.int c2), .val (.int c3), .val (.int c4), .val (.int c5), .val (.int c6), .val (.int c7), .val (.int c8)] [(.int (4 : Int32)), (.ref x), (.ref x)])) rfl (Jvm.hb hby d_m6_97) rfl (by decide) (cap := 4) (by decide) (by decide) (by decide) (by decide)
  refine oSt st ?_
  show oGo p e below _ (T.setTop (mkF m 99 #[.val (.int n), .val (.int c0), .val (.int c1), .val (.int c2), .val (.int c3), .val (.int c4), .val (.int c5), .val (.int c6), .val (.int c7), .val (.int c8)] [(.ref b), (.ref x), (.ref x)]))
  have hEB_b := Nat.le_trans EB.1 (Nat.le_of_eq g_b.symm)
  have EB := oExtT EB E
  have hEC_b := Nat.le_trans EC.1 (Nat.le_of_eq g_b.symm)
  have EC := oExtT EC E
  have V_b : Arv Z h b k_b .char (4 : Int32) [(.int (0 : Int32)), (.int (0 : Int32)), (.int (0 : Int32)), (.int (0 : Int32))] (.int (0 : Int32)) := V_b.pad (pad_rep [] (.int (0 : Int32)) 4)
  refine oSt (fun _ => XS.dup A.here hx rfl (Jvm.hb hby d_m6_99) rfl rfl) ?_
  show oGo p e below _ (T.setTop (mkF m 100 #[.val (.int n), .val (.int c0), .val (.int c1), .val (.int c2), .val (.int c3), .val (.int c4), .val (.int c5), .val (.int c6), .val (.int c7), .val (.int c8)] [(.ref b), (.ref b), (.ref x), (.ref x)]))
  refine oSt (fun _ => XS.iconst A.here hx rfl (Jvm.hb hby d_m6_100)) ?_
  show oGo p e below _ (T.setTop (mkF m 101 #[.val (.int n), .val (.int c0), .val (.int c1), .val (.int c2), .val (.int c3), .val (.int c4), .val (.int c5), .val (.int c6), .val (.int c7), .val (.int c8)] [(.int (0 : Int32)), (.ref b), (.ref b), (.ref x), (.ref x)]))
  refine oSt (fun _ => XS.iloadN A.here hx rfl (Jvm.hb hby d_m6_101) rfl) ?_
  show oGo p e below _ (T.setTop (mkF m 102 #[.val (.int n), .val (.int c0), .val (.int c1), .val (.int c2), .val (.int c3), .val (.int c4), .val (.int c5), .val (.int c6), .val (.int c7), .val (.int c8)] [(.int c0), (.int (0 : Int32)), (.ref b), (.ref b), (.ref x), (.ref x)]))
  obtain ⟨T, h, A, W, V_b, st⟩ := A.stC hx V_b 0 rfl ⟨by decide, by decide⟩ (by simp) n0_b (Or.inr s_b) (g := (mkF m 102 #[.val (.int n), .val (.int c0), .val (.int c1), .val (.int c2), .val (.int c3), .val (.int c4), .val (.int c5), .val (.int c6), .val (.int c7), .val (.int c8)] [(.int c0), (.int (0 : Int32)), (.ref b), (.ref b), (.ref x), (.ref x)])) rfl rfl (Jvm.hb hby d_m6_102)
  refine oSt st ?_
  show oGo p e below _ (T.setTop (mkF m 103 #[.val (.int n), .val (.int c0), .val (.int c1), .val (.int c2), .val (.int c3), .val (.int c4), .val (.int c5), .val (.int c6), .val (.int c7), .val (.int c8)] [(.ref b), (.ref x), (.ref x)]))
  have EB := oExtW EB W hEB_b
  have EC := oExtW EC W hEC_b
  rw [oNar hb0] at V_b
  have V_b : Arv Z h b k_b .char (4 : Int32) [(.int c0), (.int (0 : Int32)), (.int (0 : Int32)), (.int (0 : Int32))] (.int (0 : Int32)) := V_b
  refine oSt (fun _ => XS.dup A.here hx rfl (Jvm.hb hby d_m6_103) rfl rfl) ?_
  show oGo p e below _ (T.setTop (mkF m 104 #[.val (.int n), .val (.int c0), .val (.int c1), .val (.int c2), .val (.int c3), .val (.int c4), .val (.int c5), .val (.int c6), .val (.int c7), .val (.int c8)] [(.ref b), (.ref b), (.ref x), (.ref x)]))
  refine oSt (fun _ => XS.iconst A.here hx rfl (Jvm.hb hby d_m6_104)) ?_
  show oGo p e below _ (T.setTop (mkF m 105 #[.val (.int n), .val (.int c0), .val (.int c1), .val (.int c2), .val (.int c3), .val (.int c4), .val (.int c5), .val (.int c6), .val (.int c7), .val (.int c8)] [(.int (1 : Int32)), (.ref b), (.ref b), (.ref x), (.ref x)]))
  refine oSt (fun _ => XS.iloadN A.here hx rfl (Jvm.hb hby d_m6_105) rfl) ?_
  show oGo p e below _ (T.setTop (mkF m 106 #[.val (.int n), .val (.int c0), .val (.int c1), .val (.int c2), .val (.int c3), .val (.int c4), .val (.int c5), .val (.int c6), .val (.int c7), .val (.int c8)] [(.int c1), (.int (1 : Int32)), (.ref b), (.ref b), (.ref x), (.ref x)]))
  obtain ⟨T, h, A, W, V_b, st⟩ := A.stC hx V_b 1 rfl ⟨by decide, by decide⟩ (by simp) n0_b (Or.inr s_b) (g := (mkF m 106 #[.val (.int n), .val (.int c0), .val (.int c1), .val (.int c2), .val (.int c3), .val (.int c4), .val (.int c5), .val (.int c6), .val (.int c7), .val (.int c8)] [(.int c1), (.int (1 : Int32)), (.ref b), (.ref b), (.ref x), (.ref x)])) rfl rfl (Jvm.hb hby d_m6_106)
  refine oSt st ?_
  show oGo p e below _ (T.setTop (mkF m 107 #[.val (.int n), .val (.int c0), .val (.int c1), .val (.int c2), .val (.int c3), .val (.int c4), .val (.int c5), .val (.int c6), .val (.int c7), .val (.int c8)] [(.ref b), (.ref x), (.ref x)]))
  have EB := oExtW EB W hEB_b
  have EC := oExtW EC W hEC_b
  rw [oNar hb1] at V_b
  have V_b : Arv Z h b k_b .char (4 : Int32) [(.int c0), (.int c1), (.int (0 : Int32)), (.int (0 : Int32))] (.int (0 : Int32)) := V_b
  refine oSt (fun _ => XS.dup A.here hx rfl (Jvm.hb hby d_m6_107) rfl rfl) ?_
  show oGo p e below _ (T.setTop (mkF m 108 #[.val (.int n), .val (.int c0), .val (.int c1), .val (.int c2), .val (.int c3), .val (.int c4), .val (.int c5), .val (.int c6), .val (.int c7), .val (.int c8)] [(.ref b), (.ref b), (.ref x), (.ref x)]))
  refine oSt (fun _ => XS.iconst A.here hx rfl (Jvm.hb hby d_m6_108)) ?_
  show oGo p e below _ (T.setTop (mkF m 109 #[.val (.int n), .val (.int c0), .val (.int c1), .val (.int c2), .val (.int c3), .val (.int c4), .val (.int c5), .val (.int c6), .val (.int c7), .val (.int c8)] [(.int (2 : Int32)), (.ref b), (.ref b), (.ref x), (.ref x)]))
  refine oSt (fun _ => XS.iloadN A.here hx rfl (Jvm.hb hby d_m6_109) rfl) ?_
  show oGo p e below _ (T.setTop (mkF m 110 #[.val (.int n), .val (.int c0), .val (.int c1), .val (.int c2), .val (.int c3), .val (.int c4), .val (.int c5), .val (.int c6), .val (.int c7), .val (.int c8)] [(.int c2), (.int (2 : Int32)), (.ref b), (.ref b), (.ref x), (.ref x)]))
  obtain ⟨T, h, A, W, V_b, st⟩ := A.stC hx V_b 2 rfl ⟨by decide, by decide⟩ (by simp) n0_b (Or.inr s_b) (g := (mkF m 110 #[.val (.int n), .val (.int c0), .val (.int c1), .val (.int c2), .val (.int c3), .val (.int c4), .val (.int c5), .val (.int c6), .val (.int c7), .val (.int c8)] [(.int c2), (.int (2 : Int32)), (.ref b), (.ref b), (.ref x), (.ref x)])) rfl rfl (Jvm.hb hby d_m6_110)
  refine oSt st ?_
  show oGo p e below _ (T.setTop (mkF m 111 #[.val (.int n), .val (.int c0), .val (.int c1), .val (.int c2), .val (.int c3), .val (.int c4), .val (.int c5), .val (.int c6), .val (.int c7), .val (.int c8)] [(.ref b), (.ref x), (.ref x)]))
  have EB := oExtW EB W hEB_b
  have EC := oExtW EC W hEC_b
  rw [oNar hb2] at V_b
  have V_b : Arv Z h b k_b .char (4 : Int32) [(.int c0), (.int c1), (.int c2), (.int (0 : Int32))] (.int (0 : Int32)) := V_b
  refine oSt (fun _ => XS.dup A.here hx rfl (Jvm.hb hby d_m6_111) rfl rfl) ?_
  show oGo p e below _ (T.setTop (mkF m 112 #[.val (.int n), .val (.int c0), .val (.int c1), .val (.int c2), .val (.int c3), .val (.int c4), .val (.int c5), .val (.int c6), .val (.int c7), .val (.int c8)] [(.ref b), (.ref b), (.ref x), (.ref x)]))
  refine oSt (fun _ => XS.iconst A.here hx rfl (Jvm.hb hby d_m6_112)) ?_
  show oGo p e below _ (T.setTop (mkF m 113 #[.val (.int n), .val (.int c0), .val (.int c1), .val (.int c2), .val (.int c3), .val (.int c4), .val (.int c5), .val (.int c6), .val (.int c7), .val (.int c8)] [(.int (3 : Int32)), (.ref b), (.ref b), (.ref x), (.ref x)]))
  refine oSt (fun _ => XS.iload A.here hx rfl (Jvm.hb hby d_m6_113) rfl) ?_
  show oGo p e below _ (T.setTop (mkF m 115 #[.val (.int n), .val (.int c0), .val (.int c1), .val (.int c2), .val (.int c3), .val (.int c4), .val (.int c5), .val (.int c6), .val (.int c7), .val (.int c8)] [(.int c3), (.int (3 : Int32)), (.ref b), (.ref b), (.ref x), (.ref x)]))
  obtain ⟨T, h, A, W, V_b, st⟩ := A.stC hx V_b 3 rfl ⟨by decide, by decide⟩ (by simp) n0_b (Or.inr s_b) (g := (mkF m 115 #[.val (.int n), .val (.int c0), .val (.int c1), .val (.int c2), .val (.int c3), .val (.int c4), .val (.int c5), .val (.int c6), .val (.int c7), .val (.int c8)] [(.int c3), (.int (3 : Int32)), (.ref b), (.ref b), (.ref x), (.ref x)])) rfl rfl (Jvm.hb hby d_m6_115)
  refine oSt st ?_
  show oGo p e below _ (T.setTop (mkF m 116 #[.val (.int n), .val (.int c0), .val (.int c1), .val (.int c2), .val (.int c3), .val (.int c4), .val (.int c5), .val (.int c6), .val (.int c7), .val (.int c8)] [(.ref b), (.ref x), (.ref x)]))
  have EB := oExtW EB W hEB_b
  have EC := oExtW EC W hEC_b
  rw [oNar hb3] at V_b
  have V_b : Arv Z h b k_b .char (4 : Int32) [(.int c0), (.int c1), (.int c2), (.int c3)] (.int (0 : Int32)) := V_b
  have E_x := E_x.ext EC
  have F_value_x := F_value_x.ext EC
  have F_coder_x := F_coder_x.ext EC
  have S_x := S_x.ext EC CH_x
  obtain ⟨T, h, L, A, K, Q_x, st⟩ := A.sNew hx hws (hw _ (List.mem_of_getElem? (i := 6) rfl)) (hw _ (List.mem_of_getElem? (i := 59) rfl)) (hw _ (List.mem_of_getElem? (i := 60) rfl)) (hw _ (List.mem_of_getElem? (i := 61) rfl)) E_x F_value_x F_coder_x (cs := ([c0, c1, c2, c3] : List Int32)) V_b hcs hcz (n := 4) rfl rfl (by decide) (by decide) (oPS hb0 (oPS hb1 (oPS hb2 (oPS hb3 oP0)))) n0_x (Or.inr s_x) S_x (W := 1) (by decide) (by decide) (by decide) (by decide) (g := (mkF m 116 #[.val (.int n), .val (.int c0), .val (.int c1), .val (.int c2), .val (.int c3), .val (.int c4), .val (.int c5), .val (.int c6), .val (.int c7), .val (.int c8)] [(.ref b), (.ref x), (.ref x)])) rfl (by rw [hml]; rfl) rfl (by show 2 * 0 + _ ≤ _; exact Nat.le_of_eq rfl) (Jvm.hb hby d_m6_116)
  refine oSt st ?_
  show oGo p e below _ (T.setTop (mkF m 119 #[.val (.int n), .val (.int c0), .val (.int c1), .val (.int c2), .val (.int c3), .val (.int c4), .val (.int c5), .val (.int c6), .val (.int c7), .val (.int c8)] [(.ref x)]))
  have EB := oExtK EB K (oIn1 hEB_x)
  exact A.leave hlk hEL (v := some (.ref x)) (fun h => by rw [hret] at h; cases h) (fun _ _ => ⟨x, _, rfl, Q_x⟩) (by decide) (by decide) (fun fs hr => retOut A.1 hx hret rfl (Or.inr (Or.inr (Or.inr (Or.inr ⟨rfl, rfl, rfl⟩)))) (Jvm.hb hby d_m6_119) hr)
theorem opn_own_make5 : plainFor (⟨"com/example/applicator/applicator/DialectLabelledPinLaw", "make", "(ICCCCCCCCC)Ljava/lang/String;"⟩ : MethodName) = true := plainFor_of_name (by first | (simp [plainName, overriddenIn]; done) | decide +kernel)
set_option maxRecDepth 65536 in
set_option maxHeartbeats 40000000 in
theorem own_make5 (l : Launch) (Z : State) (a0 : Array Value) (hw : ∀ d ∈ tables_1, d.before a0 Z = true) (hEL : EW Z a0 consts_1) (n0 : Nat) (h : Heap) (hO : Old Z n0 h) (n c0 c1 c2 c3 c4 c5 c6 c7 c8 : Int32) (zc : Int32) (hcs : Sta Z Z.heap "java/lang/String" "COMPACT_STRINGS" "Z" (.int zc)) (hcz : ¬ zc = 0) (hb0 : own_B c0) (hb1 : own_B c1) (hb2 : own_B c2) (hb3 : own_B c3) (hb4 : own_B c4) (hb5 : own_B c5) (hb6 : own_B c6) (hb7 : own_B c7) (hb8 : own_B c8) (g0 : ¬ n = 0) (g1 : ¬ n = 1) (g2 : ¬ n = 2) (g3 : ¬ n = 3) (g4 : ¬ n = 4) (g5 : n = 5) :
    oMet l Z consts_1 n0 (⟨"com/example/applicator/applicator/DialectLabelledPinLaw", "make", "(ICCCCCCCCC)Ljava/lang/String;"⟩ : MethodName) method_6_code 10 (some (.object "java/lang/String")) [] ({ frames := 4, cells := 4, slots := 22, locals := 66 } : Room) #[(.int n), (.int c0), (.int c1), (.int c2), (.int c3), (.int c4), (.int c5), (.int c6), (.int c7), (.int c8)] h [] (fun v _ h => ∃ x cs, v = some (.ref x) ∧ oStr Z h x cs) := by
  refine oMet.of opn_own_make5 hO ?_
  intro p e s m below meth c T hx hby hml hret hnm hlk hh hsf A
  have hml : c.maxLocals = 10 := hml
  refine oCast (g' := mkF m 0 #[.val (.int n), .val (.int c0), .val (.int c1), .val (.int c2), .val (.int c3), .val (.int c4), .val (.int c5), .val (.int c6), .val (.int c7), .val (.int c8)] []) (by first | (simp [entryFrame, mkF, argsToLocals, Value.category]; done) | rfl) ?_
  have hws : ∀ d ∈ StrChars.Road.words, d.before a0 Z = true := fun d hd => hw d ((by decide +kernel : ∀ d ∈ StrChars.Road.words, d ∈ tables_1) d hd)
  show oGo p e below _ (T.setTop (mkF m 0 #[.val (.int n), .val (.int c0), .val (.int c1), .val (.int c2), .val (.int c3), .val (.int c4), .val (.int c5), .val (.int c6), .val (.int c7), .val (.int c8)] []))
  refine oSt (fun _ => XS.iloadN A.here hx rfl (Jvm.hb hby d_m6_0) rfl) ?_
  show oGo p e below _ (T.setTop (mkF m 1 #[.val (.int n), .val (.int c0), .val (.int c1), .val (.int c2), .val (.int c3), .val (.int c4), .val (.int c5), .val (.int c6), .val (.int c7), .val (.int c8)] [(.int n)]))
  refine oSt (fun _ => XS.ifYes A.here hx rfl (pc0 := 1) (pc' := 15) rfl (Jvm.hb hby d_m6_1) rfl (Jvm.Free.XT.i0_ne_t g0) (by decide) (by decide)) ?_
  show oGo p e below _ (T.setTop (mkF m 15 #[.val (.int n), .val (.int c0), .val (.int c1), .val (.int c2), .val (.int c3), .val (.int c4), .val (.int c5), .val (.int c6), .val (.int c7), .val (.int c8)] []))
  refine oSt (fun _ => XS.iloadN A.here hx rfl (Jvm.hb hby d_m6_15) rfl) ?_
  show oGo p e below _ (T.setTop (mkF m 16 #[.val (.int n), .val (.int c0), .val (.int c1), .val (.int c2), .val (.int c3), .val (.int c4), .val (.int c5), .val (.int c6), .val (.int c7), .val (.int c8)] [(.int n)]))
  refine oSt (fun _ => XS.iconst A.here hx rfl (Jvm.hb hby d_m6_16)) ?_
  show oGo p e below _ (T.setTop (mkF m 17 #[.val (.int n), .val (.int c0), .val (.int c1), .val (.int c2), .val (.int c3), .val (.int c4), .val (.int c5), .val (.int c6), .val (.int c7), .val (.int c8)] [(.int (1 : Int32)), (.int n)]))
  refine oSt (fun _ => XS.icmpYes A.here hx rfl (pc0 := 17) (pc' := 35) rfl (Jvm.hb hby d_m6_17) rfl (Jvm.Free.XT.ii_ne_t g1) (by decide) (by decide)) ?_
  show oGo p e below _ (T.setTop (mkF m 35 #[.val (.int n), .val (.int c0), .val (.int c1), .val (.int c2), .val (.int c3), .val (.int c4), .val (.int c5), .val (.int c6), .val (.int c7), .val (.int c8)] []))
  refine oSt (fun _ => XS.iloadN A.here hx rfl (Jvm.hb hby d_m6_35) rfl) ?_
  show oGo p e below _ (T.setTop (mkF m 36 #[.val (.int n), .val (.int c0), .val (.int c1), .val (.int c2), .val (.int c3), .val (.int c4), .val (.int c5), .val (.int c6), .val (.int c7), .val (.int c8)] [(.int n)]))
  refine oSt (fun _ => XS.iconst A.here hx rfl (Jvm.hb hby d_m6_36)) ?_
  show oGo p e below _ (T.setTop (mkF m 37 #[.val (.int n), .val (.int c0), .val (.int c1), .val (.int c2), .val (.int c3), .val (.int c4), .val (.int c5), .val (.int c6), .val (.int c7), .val (.int c8)] [(.int (2 : Int32)), (.int n)]))
  refine oSt (fun _ => XS.icmpYes A.here hx rfl (pc0 := 37) (pc' := 59) rfl (Jvm.hb hby d_m6_37) rfl (Jvm.Free.XT.ii_ne_t g2) (by decide) (by decide)) ?_
  show oGo p e below _ (T.setTop (mkF m 59 #[.val (.int n), .val (.int c0), .val (.int c1), .val (.int c2), .val (.int c3), .val (.int c4), .val (.int c5), .val (.int c6), .val (.int c7), .val (.int c8)] []))
  refine oSt (fun _ => XS.iloadN A.here hx rfl (Jvm.hb hby d_m6_59) rfl) ?_
  show oGo p e below _ (T.setTop (mkF m 60 #[.val (.int n), .val (.int c0), .val (.int c1), .val (.int c2), .val (.int c3), .val (.int c4), .val (.int c5), .val (.int c6), .val (.int c7), .val (.int c8)] [(.int n)]))
  refine oSt (fun _ => XS.iconst A.here hx rfl (Jvm.hb hby d_m6_60)) ?_
  show oGo p e below _ (T.setTop (mkF m 61 #[.val (.int n), .val (.int c0), .val (.int c1), .val (.int c2), .val (.int c3), .val (.int c4), .val (.int c5), .val (.int c6), .val (.int c7), .val (.int c8)] [(.int (3 : Int32)), (.int n)]))
  refine oSt (fun _ => XS.icmpYes A.here hx rfl (pc0 := 61) (pc' := 87) rfl (Jvm.hb hby d_m6_61) rfl (Jvm.Free.XT.ii_ne_t g3) (by decide) (by decide)) ?_
  show oGo p e below _ (T.setTop (mkF m 87 #[.val (.int n), .val (.int c0), .val (.int c1), .val (.int c2), .val (.int c3), .val (.int c4), .val (.int c5), .val (.int c6), .val (.int c7), .val (.int c8)] []))
  refine oSt (fun _ => XS.iloadN A.here hx rfl (Jvm.hb hby d_m6_87) rfl) ?_
  show oGo p e below _ (T.setTop (mkF m 88 #[.val (.int n), .val (.int c0), .val (.int c1), .val (.int c2), .val (.int c3), .val (.int c4), .val (.int c5), .val (.int c6), .val (.int c7), .val (.int c8)] [(.int n)]))
  refine oSt (fun _ => XS.iconst A.here hx rfl (Jvm.hb hby d_m6_88)) ?_
  show oGo p e below _ (T.setTop (mkF m 89 #[.val (.int n), .val (.int c0), .val (.int c1), .val (.int c2), .val (.int c3), .val (.int c4), .val (.int c5), .val (.int c6), .val (.int c7), .val (.int c8)] [(.int (4 : Int32)), (.int n)]))
  refine oSt (fun _ => XS.icmpYes A.here hx rfl (pc0 := 89) (pc' := 120) rfl (Jvm.hb hby d_m6_89) rfl (Jvm.Free.XT.ii_ne_t g4) (by decide) (by decide)) ?_
  show oGo p e below _ (T.setTop (mkF m 120 #[.val (.int n), .val (.int c0), .val (.int c1), .val (.int c2), .val (.int c3), .val (.int c4), .val (.int c5), .val (.int c6), .val (.int c7), .val (.int c8)] []))
  refine oSt (fun _ => XS.iloadN A.here hx rfl (Jvm.hb hby d_m6_120) rfl) ?_
  show oGo p e below _ (T.setTop (mkF m 121 #[.val (.int n), .val (.int c0), .val (.int c1), .val (.int c2), .val (.int c3), .val (.int c4), .val (.int c5), .val (.int c6), .val (.int c7), .val (.int c8)] [(.int n)]))
  refine oSt (fun _ => XS.iconst A.here hx rfl (Jvm.hb hby d_m6_121)) ?_
  show oGo p e below _ (T.setTop (mkF m 122 #[.val (.int n), .val (.int c0), .val (.int c1), .val (.int c2), .val (.int c3), .val (.int c4), .val (.int c5), .val (.int c6), .val (.int c7), .val (.int c8)] [(.int (5 : Int32)), (.int n)]))
  refine oSt (fun _ => XS.icmpNo A.here hx rfl (Jvm.hb hby d_m6_122) rfl (Jvm.Free.XT.ii_ne_f g5)) ?_
  show oGo p e below _ (T.setTop (mkF m 125 #[.val (.int n), .val (.int c0), .val (.int c1), .val (.int c2), .val (.int c3), .val (.int c4), .val (.int c5), .val (.int c6), .val (.int c7), .val (.int c8)] []))
  have EB := oExtR h
  obtain ⟨T, h, x, g_x, lt_x, n0_x, s_x, A, E, E_x, S_x, D_x, st⟩ := A.newO hx (hw _ (List.mem_of_getElem? (i := 57) rfl)) (hw _ (List.mem_of_getElem? (i := 6) rfl)) (hw _ (List.mem_of_getElem? (i := 5) rfl)) (g := (mkF m 125 #[.val (.int n), .val (.int c0), .val (.int c1), .val (.int c2), .val (.int c3), .val (.int c4), .val (.int c5), .val (.int c6), .val (.int c7), .val (.int c8)] [])) rfl (Jvm.hb hby d_m6_125) (by decide) (by decide)
  refine oSt st ?_
  show oGo p e below _ (T.setTop (mkF m 128 #[.val (.int n), .val (.int c0), .val (.int c1), .val (.int c2), .val (.int c3), .val (.int c4), .val (.int c5), .val (.int c6), .val (.int c7), .val (.int c8)] [(.ref x)]))
  have hEB_x := Nat.le_trans EB.1 (Nat.le_of_eq g_x.symm)
  have EB := oExtT EB E
  have F_value_x : Fld Z h x "java/lang/String" "value" "[B" .null := D_x (Or.inr (hw _ (List.mem_of_getElem? (i := 8) rfl))) (ty := (.array .byte)) (by decide)
  have F_coder_x : Fld Z h x "java/lang/String" "coder" "B" (.int (0 : Int32)) := D_x (Or.inr (hw _ (List.mem_of_getElem? (i := 9) rfl))) (ty := .byte) (by decide)
  refine oSt (fun _ => XS.dup A.here hx rfl (Jvm.hb hby d_m6_128) rfl rfl) ?_
  show oGo p e below _ (T.setTop (mkF m 129 #[.val (.int n), .val (.int c0), .val (.int c1), .val (.int c2), .val (.int c3), .val (.int c4), .val (.int c5), .val (.int c6), .val (.int c7), .val (.int c8)] [(.ref x), (.ref x)]))
  refine oSt (fun _ => XS.iconst A.here hx rfl (Jvm.hb hby d_m6_129)) ?_
  show oGo p e below _ (T.setTop (mkF m 130 #[.val (.int n), .val (.int c0), .val (.int c1), .val (.int c2), .val (.int c3), .val (.int c4), .val (.int c5), .val (.int c6), .val (.int c7), .val (.int c8)] [(.int (5 : Int32)), (.ref x), (.ref x)]))
  have CH_x := A.ch
  have EC := oExtR h
  obtain ⟨T, h, b, k_b, g_b, lt_b, n0_b, s_b, A, E, V_b, S_b, st⟩ := A.newP hx (hw _ (List.mem_of_getElem? (i := 58) rfl)) (g := (mkF m 130 #[.val (.int n), .val (.int c0), .val (.int c1), .val (.int c2), .val (.int c3), .val (.int c4), .val (.int c5), .val (.int c6), .val (.int c7), .val (.int c8)] [(.int (5 : Int32)), (.ref x), (.ref x)])) rfl (Jvm.hb hby d_m6_130) rfl (by decide) (cap := 5) (by decide) (by decide) (by decide) (by decide)
  refine oSt st ?_
  show oGo p e below _ (T.setTop (mkF m 132 #[.val (.int n), .val (.int c0), .val (.int c1), .val (.int c2), .val (.int c3), .val (.int c4), .val (.int c5), .val (.int c6), .val (.int c7), .val (.int c8)] [(.ref b), (.ref x), (.ref x)]))
  have hEB_b := Nat.le_trans EB.1 (Nat.le_of_eq g_b.symm)
  have EB := oExtT EB E
  have hEC_b := Nat.le_trans EC.1 (Nat.le_of_eq g_b.symm)
  have EC := oExtT EC E
  have V_b : Arv Z h b k_b .char (5 : Int32) [(.int (0 : Int32)), (.int (0 : Int32)), (.int (0 : Int32)), (.int (0 : Int32)), (.int (0 : Int32))] (.int (0 : Int32)) := V_b.pad (pad_rep [] (.int (0 : Int32)) 5)
  refine oSt (fun _ => XS.dup A.here hx rfl (Jvm.hb hby d_m6_132) rfl rfl) ?_
  show oGo p e below _ (T.setTop (mkF m 133 #[.val (.int n), .val (.int c0), .val (.int c1), .val (.int c2), .val (.int c3), .val (.int c4), .val (.int c5), .val (.int c6), .val (.int c7), .val (.int c8)] [(.ref b), (.ref b), (.ref x), (.ref x)]))
  refine oSt (fun _ => XS.iconst A.here hx rfl (Jvm.hb hby d_m6_133)) ?_
  show oGo p e below _ (T.setTop (mkF m 134 #[.val (.int n), .val (.int c0), .val (.int c1), .val (.int c2), .val (.int c3), .val (.int c4), .val (.int c5), .val (.int c6), .val (.int c7), .val (.int c8)] [(.int (0 : Int32)), (.ref b), (.ref b), (.ref x), (.ref x)]))
  refine oSt (fun _ => XS.iloadN A.here hx rfl (Jvm.hb hby d_m6_134) rfl) ?_
  show oGo p e below _ (T.setTop (mkF m 135 #[.val (.int n), .val (.int c0), .val (.int c1), .val (.int c2), .val (.int c3), .val (.int c4), .val (.int c5), .val (.int c6), .val (.int c7), .val (.int c8)] [(.int c0), (.int (0 : Int32)), (.ref b), (.ref b), (.ref x), (.ref x)]))
  obtain ⟨T, h, A, W, V_b, st⟩ := A.stC hx V_b 0 rfl ⟨by decide, by decide⟩ (by simp) n0_b (Or.inr s_b) (g := (mkF m 135 #[.val (.int n), .val (.int c0), .val (.int c1), .val (.int c2), .val (.int c3), .val (.int c4), .val (.int c5), .val (.int c6), .val (.int c7), .val (.int c8)] [(.int c0), (.int (0 : Int32)), (.ref b), (.ref b), (.ref x), (.ref x)])) rfl rfl (Jvm.hb hby d_m6_135)
  refine oSt st ?_
  show oGo p e below _ (T.setTop (mkF m 136 #[.val (.int n), .val (.int c0), .val (.int c1), .val (.int c2), .val (.int c3), .val (.int c4), .val (.int c5), .val (.int c6), .val (.int c7), .val (.int c8)] [(.ref b), (.ref x), (.ref x)]))
  have EB := oExtW EB W hEB_b
  have EC := oExtW EC W hEC_b
  rw [oNar hb0] at V_b
  have V_b : Arv Z h b k_b .char (5 : Int32) [(.int c0), (.int (0 : Int32)), (.int (0 : Int32)), (.int (0 : Int32)), (.int (0 : Int32))] (.int (0 : Int32)) := V_b
  refine oSt (fun _ => XS.dup A.here hx rfl (Jvm.hb hby d_m6_136) rfl rfl) ?_
  show oGo p e below _ (T.setTop (mkF m 137 #[.val (.int n), .val (.int c0), .val (.int c1), .val (.int c2), .val (.int c3), .val (.int c4), .val (.int c5), .val (.int c6), .val (.int c7), .val (.int c8)] [(.ref b), (.ref b), (.ref x), (.ref x)]))
  refine oSt (fun _ => XS.iconst A.here hx rfl (Jvm.hb hby d_m6_137)) ?_
  show oGo p e below _ (T.setTop (mkF m 138 #[.val (.int n), .val (.int c0), .val (.int c1), .val (.int c2), .val (.int c3), .val (.int c4), .val (.int c5), .val (.int c6), .val (.int c7), .val (.int c8)] [(.int (1 : Int32)), (.ref b), (.ref b), (.ref x), (.ref x)]))
  refine oSt (fun _ => XS.iloadN A.here hx rfl (Jvm.hb hby d_m6_138) rfl) ?_
  show oGo p e below _ (T.setTop (mkF m 139 #[.val (.int n), .val (.int c0), .val (.int c1), .val (.int c2), .val (.int c3), .val (.int c4), .val (.int c5), .val (.int c6), .val (.int c7), .val (.int c8)] [(.int c1), (.int (1 : Int32)), (.ref b), (.ref b), (.ref x), (.ref x)]))
  obtain ⟨T, h, A, W, V_b, st⟩ := A.stC hx V_b 1 rfl ⟨by decide, by decide⟩ (by simp) n0_b (Or.inr s_b) (g := (mkF m 139 #[.val (.int n), .val (.int c0), .val (.int c1), .val (.int c2), .val (.int c3), .val (.int c4), .val (.int c5), .val (.int c6), .val (.int c7), .val (.int c8)] [(.int c1), (.int (1 : Int32)), (.ref b), (.ref b), (.ref x), (.ref x)])) rfl rfl (Jvm.hb hby d_m6_139)
  refine oSt st ?_
  show oGo p e below _ (T.setTop (mkF m 140 #[.val (.int n), .val (.int c0), .val (.int c1), .val (.int c2), .val (.int c3), .val (.int c4), .val (.int c5), .val (.int c6), .val (.int c7), .val (.int c8)] [(.ref b), (.ref x), (.ref x)]))
  have EB := oExtW EB W hEB_b
  have EC := oExtW EC W hEC_b
  rw [oNar hb1] at V_b
  have V_b : Arv Z h b k_b .char (5 : Int32) [(.int c0), (.int c1), (.int (0 : Int32)), (.int (0 : Int32)), (.int (0 : Int32))] (.int (0 : Int32)) := V_b
  refine oSt (fun _ => XS.dup A.here hx rfl (Jvm.hb hby d_m6_140) rfl rfl) ?_
  show oGo p e below _ (T.setTop (mkF m 141 #[.val (.int n), .val (.int c0), .val (.int c1), .val (.int c2), .val (.int c3), .val (.int c4), .val (.int c5), .val (.int c6), .val (.int c7), .val (.int c8)] [(.ref b), (.ref b), (.ref x), (.ref x)]))
  refine oSt (fun _ => XS.iconst A.here hx rfl (Jvm.hb hby d_m6_141)) ?_
  show oGo p e below _ (T.setTop (mkF m 142 #[.val (.int n), .val (.int c0), .val (.int c1), .val (.int c2), .val (.int c3), .val (.int c4), .val (.int c5), .val (.int c6), .val (.int c7), .val (.int c8)] [(.int (2 : Int32)), (.ref b), (.ref b), (.ref x), (.ref x)]))
  refine oSt (fun _ => XS.iloadN A.here hx rfl (Jvm.hb hby d_m6_142) rfl) ?_
  show oGo p e below _ (T.setTop (mkF m 143 #[.val (.int n), .val (.int c0), .val (.int c1), .val (.int c2), .val (.int c3), .val (.int c4), .val (.int c5), .val (.int c6), .val (.int c7), .val (.int c8)] [(.int c2), (.int (2 : Int32)), (.ref b), (.ref b), (.ref x), (.ref x)]))
  obtain ⟨T, h, A, W, V_b, st⟩ := A.stC hx V_b 2 rfl ⟨by decide, by decide⟩ (by simp) n0_b (Or.inr s_b) (g := (mkF m 143 #[.val (.int n), .val (.int c0), .val (.int c1), .val (.int c2), .val (.int c3), .val (.int c4), .val (.int c5), .val (.int c6), .val (.int c7), .val (.int c8)] [(.int c2), (.int (2 : Int32)), (.ref b), (.ref b), (.ref x), (.ref x)])) rfl rfl (Jvm.hb hby d_m6_143)
  refine oSt st ?_
  show oGo p e below _ (T.setTop (mkF m 144 #[.val (.int n), .val (.int c0), .val (.int c1), .val (.int c2), .val (.int c3), .val (.int c4), .val (.int c5), .val (.int c6), .val (.int c7), .val (.int c8)] [(.ref b), (.ref x), (.ref x)]))
  have EB := oExtW EB W hEB_b
  have EC := oExtW EC W hEC_b
  rw [oNar hb2] at V_b
  have V_b : Arv Z h b k_b .char (5 : Int32) [(.int c0), (.int c1), (.int c2), (.int (0 : Int32)), (.int (0 : Int32))] (.int (0 : Int32)) := V_b
  refine oSt (fun _ => XS.dup A.here hx rfl (Jvm.hb hby d_m6_144) rfl rfl) ?_
  show oGo p e below _ (T.setTop (mkF m 145 #[.val (.int n), .val (.int c0), .val (.int c1), .val (.int c2), .val (.int c3), .val (.int c4), .val (.int c5), .val (.int c6), .val (.int c7), .val (.int c8)] [(.ref b), (.ref b), (.ref x), (.ref x)]))
  refine oSt (fun _ => XS.iconst A.here hx rfl (Jvm.hb hby d_m6_145)) ?_
  show oGo p e below _ (T.setTop (mkF m 146 #[.val (.int n), .val (.int c0), .val (.int c1), .val (.int c2), .val (.int c3), .val (.int c4), .val (.int c5), .val (.int c6), .val (.int c7), .val (.int c8)] [(.int (3 : Int32)), (.ref b), (.ref b), (.ref x), (.ref x)]))
  refine oSt (fun _ => XS.iload A.here hx rfl (Jvm.hb hby d_m6_146) rfl) ?_
  show oGo p e below _ (T.setTop (mkF m 148 #[.val (.int n), .val (.int c0), .val (.int c1), .val (.int c2), .val (.int c3), .val (.int c4), .val (.int c5), .val (.int c6), .val (.int c7), .val (.int c8)] [(.int c3), (.int (3 : Int32)), (.ref b), (.ref b), (.ref x), (.ref x)]))
  obtain ⟨T, h, A, W, V_b, st⟩ := A.stC hx V_b 3 rfl ⟨by decide, by decide⟩ (by simp) n0_b (Or.inr s_b) (g := (mkF m 148 #[.val (.int n), .val (.int c0), .val (.int c1), .val (.int c2), .val (.int c3), .val (.int c4), .val (.int c5), .val (.int c6), .val (.int c7), .val (.int c8)] [(.int c3), (.int (3 : Int32)), (.ref b), (.ref b), (.ref x), (.ref x)])) rfl rfl (Jvm.hb hby d_m6_148)
  refine oSt st ?_
  show oGo p e below _ (T.setTop (mkF m 149 #[.val (.int n), .val (.int c0), .val (.int c1), .val (.int c2), .val (.int c3), .val (.int c4), .val (.int c5), .val (.int c6), .val (.int c7), .val (.int c8)] [(.ref b), (.ref x), (.ref x)]))
  have EB := oExtW EB W hEB_b
  have EC := oExtW EC W hEC_b
  rw [oNar hb3] at V_b
  have V_b : Arv Z h b k_b .char (5 : Int32) [(.int c0), (.int c1), (.int c2), (.int c3), (.int (0 : Int32))] (.int (0 : Int32)) := V_b
  refine oSt (fun _ => XS.dup A.here hx rfl (Jvm.hb hby d_m6_149) rfl rfl) ?_
  show oGo p e below _ (T.setTop (mkF m 150 #[.val (.int n), .val (.int c0), .val (.int c1), .val (.int c2), .val (.int c3), .val (.int c4), .val (.int c5), .val (.int c6), .val (.int c7), .val (.int c8)] [(.ref b), (.ref b), (.ref x), (.ref x)]))
  refine oSt (fun _ => XS.iconst A.here hx rfl (Jvm.hb hby d_m6_150)) ?_
  show oGo p e below _ (T.setTop (mkF m 151 #[.val (.int n), .val (.int c0), .val (.int c1), .val (.int c2), .val (.int c3), .val (.int c4), .val (.int c5), .val (.int c6), .val (.int c7), .val (.int c8)] [(.int (4 : Int32)), (.ref b), (.ref b), (.ref x), (.ref x)]))
  refine oSt (fun _ => XS.iload A.here hx rfl (Jvm.hb hby d_m6_151) rfl) ?_
  show oGo p e below _ (T.setTop (mkF m 153 #[.val (.int n), .val (.int c0), .val (.int c1), .val (.int c2), .val (.int c3), .val (.int c4), .val (.int c5), .val (.int c6), .val (.int c7), .val (.int c8)] [(.int c4), (.int (4 : Int32)), (.ref b), (.ref b), (.ref x), (.ref x)]))
  obtain ⟨T, h, A, W, V_b, st⟩ := A.stC hx V_b 4 rfl ⟨by decide, by decide⟩ (by simp) n0_b (Or.inr s_b) (g := (mkF m 153 #[.val (.int n), .val (.int c0), .val (.int c1), .val (.int c2), .val (.int c3), .val (.int c4), .val (.int c5), .val (.int c6), .val (.int c7), .val (.int c8)] [(.int c4), (.int (4 : Int32)), (.ref b), (.ref b), (.ref x), (.ref x)])) rfl rfl (Jvm.hb hby d_m6_153)
  refine oSt st ?_
  show oGo p e below _ (T.setTop (mkF m 154 #[.val (.int n), .val (.int c0), .val (.int c1), .val (.int c2), .val (.int c3), .val (.int c4), .val (.int c5), .val (.int c6), .val (.int c7), .val (.int c8)] [(.ref b), (.ref x), (.ref x)]))
  have EB := oExtW EB W hEB_b
  have EC := oExtW EC W hEC_b
  rw [oNar hb4] at V_b
  have V_b : Arv Z h b k_b .char (5 : Int32) [(.int c0), (.int c1), (.int c2), (.int c3), (.int c4)] (.int (0 : Int32)) := V_b
  have E_x := E_x.ext EC
  have F_value_x := F_value_x.ext EC
  have F_coder_x := F_coder_x.ext EC
  have S_x := S_x.ext EC CH_x
  obtain ⟨T, h, L, A, K, Q_x, st⟩ := A.sNew hx hws (hw _ (List.mem_of_getElem? (i := 6) rfl)) (hw _ (List.mem_of_getElem? (i := 59) rfl)) (hw _ (List.mem_of_getElem? (i := 60) rfl)) (hw _ (List.mem_of_getElem? (i := 61) rfl)) E_x F_value_x F_coder_x (cs := ([c0, c1, c2, c3, c4] : List Int32)) V_b hcs hcz (n := 5) rfl rfl (by decide) (by decide) (oPS hb0 (oPS hb1 (oPS hb2 (oPS hb3 (oPS hb4 oP0))))) n0_x (Or.inr s_x) S_x (W := 1) (by decide) (by decide) (by decide) (by decide) (g := (mkF m 154 #[.val (.int n), .val (.int c0), .val (.int c1), .val (.int c2), .val (.int c3), .val (.int c4), .val (.int c5), .val (.int c6), .val (.int c7), .val (.int c8)] [(.ref b), (.ref x), (.ref x)])) rfl (by rw [hml]; rfl) rfl (by show 2 * 0 + _ ≤ _; exact Nat.le_of_eq rfl) (Jvm.hb hby d_m6_154)
  refine oSt st ?_
  show oGo p e below _ (T.setTop (mkF m 157 #[.val (.int n), .val (.int c0), .val (.int c1), .val (.int c2), .val (.int c3), .val (.int c4), .val (.int c5), .val (.int c6), .val (.int c7), .val (.int c8)] [(.ref x)]))
  have EB := oExtK EB K (oIn1 hEB_x)
  exact A.leave hlk hEL (v := some (.ref x)) (fun h => by rw [hret] at h; cases h) (fun _ _ => ⟨x, _, rfl, Q_x⟩) (by decide) (by decide) (fun fs hr => retOut A.1 hx hret rfl (Or.inr (Or.inr (Or.inr (Or.inr ⟨rfl, rfl, rfl⟩)))) (Jvm.hb hby d_m6_157) hr)
theorem opn_own_make6 : plainFor (⟨"com/example/applicator/applicator/DialectLabelledPinLaw", "make", "(ICCCCCCCCC)Ljava/lang/String;"⟩ : MethodName) = true := plainFor_of_name (by first | (simp [plainName, overriddenIn]; done) | decide +kernel)
set_option maxRecDepth 65536 in
set_option maxHeartbeats 40000000 in
theorem own_make6 (l : Launch) (Z : State) (a0 : Array Value) (hw : ∀ d ∈ tables_1, d.before a0 Z = true) (hEL : EW Z a0 consts_1) (n0 : Nat) (h : Heap) (hO : Old Z n0 h) (n c0 c1 c2 c3 c4 c5 c6 c7 c8 : Int32) (zc : Int32) (hcs : Sta Z Z.heap "java/lang/String" "COMPACT_STRINGS" "Z" (.int zc)) (hcz : ¬ zc = 0) (hb0 : own_B c0) (hb1 : own_B c1) (hb2 : own_B c2) (hb3 : own_B c3) (hb4 : own_B c4) (hb5 : own_B c5) (hb6 : own_B c6) (hb7 : own_B c7) (hb8 : own_B c8) (g0 : ¬ n = 0) (g1 : ¬ n = 1) (g2 : ¬ n = 2) (g3 : ¬ n = 3) (g4 : ¬ n = 4) (g5 : ¬ n = 5) (g6 : n = 6) :
    oMet l Z consts_1 n0 (⟨"com/example/applicator/applicator/DialectLabelledPinLaw", "make", "(ICCCCCCCCC)Ljava/lang/String;"⟩ : MethodName) method_6_code 10 (some (.object "java/lang/String")) [] ({ frames := 4, cells := 4, slots := 22, locals := 66 } : Room) #[(.int n), (.int c0), (.int c1), (.int c2), (.int c3), (.int c4), (.int c5), (.int c6), (.int c7), (.int c8)] h [] (fun v _ h => ∃ x cs, v = some (.ref x) ∧ oStr Z h x cs) := by
  refine oMet.of opn_own_make6 hO ?_
  intro p e s m below meth c T hx hby hml hret hnm hlk hh hsf A
  have hml : c.maxLocals = 10 := hml
  refine oCast (g' := mkF m 0 #[.val (.int n), .val (.int c0), .val (.int c1), .val (.int c2), .val (.int c3), .val (.int c4), .val (.int c5), .val (.int c6), .val (.int c7), .val (.int c8)] []) (by first | (simp [entryFrame, mkF, argsToLocals, Value.category]; done) | rfl) ?_
  have hws : ∀ d ∈ StrChars.Road.words, d.before a0 Z = true := fun d hd => hw d ((by decide +kernel : ∀ d ∈ StrChars.Road.words, d ∈ tables_1) d hd)
  show oGo p e below _ (T.setTop (mkF m 0 #[.val (.int n), .val (.int c0), .val (.int c1), .val (.int c2), .val (.int c3), .val (.int c4), .val (.int c5), .val (.int c6), .val (.int c7), .val (.int c8)] []))
  refine oSt (fun _ => XS.iloadN A.here hx rfl (Jvm.hb hby d_m6_0) rfl) ?_
  show oGo p e below _ (T.setTop (mkF m 1 #[.val (.int n), .val (.int c0), .val (.int c1), .val (.int c2), .val (.int c3), .val (.int c4), .val (.int c5), .val (.int c6), .val (.int c7), .val (.int c8)] [(.int n)]))
  refine oSt (fun _ => XS.ifYes A.here hx rfl (pc0 := 1) (pc' := 15) rfl (Jvm.hb hby d_m6_1) rfl (Jvm.Free.XT.i0_ne_t g0) (by decide) (by decide)) ?_
  show oGo p e below _ (T.setTop (mkF m 15 #[.val (.int n), .val (.int c0), .val (.int c1), .val (.int c2), .val (.int c3), .val (.int c4), .val (.int c5), .val (.int c6), .val (.int c7), .val (.int c8)] []))
  refine oSt (fun _ => XS.iloadN A.here hx rfl (Jvm.hb hby d_m6_15) rfl) ?_
  show oGo p e below _ (T.setTop (mkF m 16 #[.val (.int n), .val (.int c0), .val (.int c1), .val (.int c2), .val (.int c3), .val (.int c4), .val (.int c5), .val (.int c6), .val (.int c7), .val (.int c8)] [(.int n)]))
  refine oSt (fun _ => XS.iconst A.here hx rfl (Jvm.hb hby d_m6_16)) ?_
  show oGo p e below _ (T.setTop (mkF m 17 #[.val (.int n), .val (.int c0), .val (.int c1), .val (.int c2), .val (.int c3), .val (.int c4), .val (.int c5), .val (.int c6), .val (.int c7), .val (.int c8)] [(.int (1 : Int32)), (.int n)]))
  refine oSt (fun _ => XS.icmpYes A.here hx rfl (pc0 := 17) (pc' := 35) rfl (Jvm.hb hby d_m6_17) rfl (Jvm.Free.XT.ii_ne_t g1) (by decide) (by decide)) ?_
  show oGo p e below _ (T.setTop (mkF m 35 #[.val (.int n), .val (.int c0), .val (.int c1), .val (.int c2), .val (.int c3), .val (.int c4), .val (.int c5), .val (.int c6), .val (.int c7), .val (.int c8)] []))
  refine oSt (fun _ => XS.iloadN A.here hx rfl (Jvm.hb hby d_m6_35) rfl) ?_
  show oGo p e below _ (T.setTop (mkF m 36 #[.val (.int n), .val (.int c0), .val (.int c1), .val (.int c2), .val (.int c3), .val (.int c4), .val (.int c5), .val (.int c6), .val (.int c7), .val (.int c8)] [(.int n)]))
  refine oSt (fun _ => XS.iconst A.here hx rfl (Jvm.hb hby d_m6_36)) ?_
  show oGo p e below _ (T.setTop (mkF m 37 #[.val (.int n), .val (.int c0), .val (.int c1), .val (.int c2), .val (.int c3), .val (.int c4), .val (.int c5), .val (.int c6), .val (.int c7), .val (.int c8)] [(.int (2 : Int32)), (.int n)]))
  refine oSt (fun _ => XS.icmpYes A.here hx rfl (pc0 := 37) (pc' := 59) rfl (Jvm.hb hby d_m6_37) rfl (Jvm.Free.XT.ii_ne_t g2) (by decide) (by decide)) ?_
  show oGo p e below _ (T.setTop (mkF m 59 #[.val (.int n), .val (.int c0), .val (.int c1), .val (.int c2), .val (.int c3), .val (.int c4), .val (.int c5), .val (.int c6), .val (.int c7), .val (.int c8)] []))
  refine oSt (fun _ => XS.iloadN A.here hx rfl (Jvm.hb hby d_m6_59) rfl) ?_
  show oGo p e below _ (T.setTop (mkF m 60 #[.val (.int n), .val (.int c0), .val (.int c1), .val (.int c2), .val (.int c3), .val (.int c4), .val (.int c5), .val (.int c6), .val (.int c7), .val (.int c8)] [(.int n)]))
  refine oSt (fun _ => XS.iconst A.here hx rfl (Jvm.hb hby d_m6_60)) ?_
  show oGo p e below _ (T.setTop (mkF m 61 #[.val (.int n), .val (.int c0), .val (.int c1), .val (.int c2), .val (.int c3), .val (.int c4), .val (.int c5), .val (.int c6), .val (.int c7), .val (.int c8)] [(.int (3 : Int32)), (.int n)]))
  refine oSt (fun _ => XS.icmpYes A.here hx rfl (pc0 := 61) (pc' := 87) rfl (Jvm.hb hby d_m6_61) rfl (Jvm.Free.XT.ii_ne_t g3) (by decide) (by decide)) ?_
  show oGo p e below _ (T.setTop (mkF m 87 #[.val (.int n), .val (.int c0), .val (.int c1), .val (.int c2), .val (.int c3), .val (.int c4), .val (.int c5), .val (.int c6), .val (.int c7), .val (.int c8)] []))
  refine oSt (fun _ => XS.iloadN A.here hx rfl (Jvm.hb hby d_m6_87) rfl) ?_
  show oGo p e below _ (T.setTop (mkF m 88 #[.val (.int n), .val (.int c0), .val (.int c1), .val (.int c2), .val (.int c3), .val (.int c4), .val (.int c5), .val (.int c6), .val (.int c7), .val (.int c8)] [(.int n)]))
  refine oSt (fun _ => XS.iconst A.here hx rfl (Jvm.hb hby d_m6_88)) ?_
  show oGo p e below _ (T.setTop (mkF m 89 #[.val (.int n), .val (.int c0), .val (.int c1), .val (.int c2), .val (.int c3), .val (.int c4), .val (.int c5), .val (.int c6), .val (.int c7), .val (.int c8)] [(.int (4 : Int32)), (.int n)]))
  refine oSt (fun _ => XS.icmpYes A.here hx rfl (pc0 := 89) (pc' := 120) rfl (Jvm.hb hby d_m6_89) rfl (Jvm.Free.XT.ii_ne_t g4) (by decide) (by decide)) ?_
  show oGo p e below _ (T.setTop (mkF m 120 #[.val (.int n), .val (.int c0), .val (.int c1), .val (.int c2), .val (.int c3), .val (.int c4), .val (.int c5), .val (.int c6), .val (.int c7), .val (.int c8)] []))
  refine oSt (fun _ => XS.iloadN A.here hx rfl (Jvm.hb hby d_m6_120) rfl) ?_
  show oGo p e below _ (T.setTop (mkF m 121 #[.val (.int n), .val (.int c0), .val (.int c1), .val (.int c2), .val (.int c3), .val (.int c4), .val (.int c5), .val (.int c6), .val (.int c7), .val (.int c8)] [(.int n)]))
  refine oSt (fun _ => XS.iconst A.here hx rfl (Jvm.hb hby d_m6_121)) ?_
  show oGo p e below _ (T.setTop (mkF m 122 #[.val (.int n), .val (.int c0), .val (.int c1), .val (.int c2), .val (.int c3), .val (.int c4), .val (.int c5), .val (.int c6), .val (.int c7), .val (.int c8)] [(.int (5 : Int32)), (.int n)]))
  refine oSt (fun _ => XS.icmpYes A.here hx rfl (pc0 := 122) (pc' := 158) rfl (Jvm.hb hby d_m6_122) rfl (Jvm.Free.XT.ii_ne_t g5) (by decide) (by decide)) ?_
  show oGo p e below _ (T.setTop (mkF m 158 #[.val (.int n), .val (.int c0), .val (.int c1), .val (.int c2), .val (.int c3), .val (.int c4), .val (.int c5), .val (.int c6), .val (.int c7), .val (.int c8)] []))
  refine oSt (fun _ => XS.iloadN A.here hx rfl (Jvm.hb hby d_m6_158) rfl) ?_
  show oGo p e below _ (T.setTop (mkF m 159 #[.val (.int n), .val (.int c0), .val (.int c1), .val (.int c2), .val (.int c3), .val (.int c4), .val (.int c5), .val (.int c6), .val (.int c7), .val (.int c8)] [(.int n)]))
  refine oSt (fun _ => XS.bipush A.here hx rfl (Jvm.hb hby d_m6_159)) ?_
  show oGo p e below _ (T.setTop (mkF m 161 #[.val (.int n), .val (.int c0), .val (.int c1), .val (.int c2), .val (.int c3), .val (.int c4), .val (.int c5), .val (.int c6), .val (.int c7), .val (.int c8)] [(.int (6 : Int32)), (.int n)]))
  refine oSt (fun _ => XS.icmpNo A.here hx rfl (Jvm.hb hby d_m6_161) rfl (Jvm.Free.XT.ii_ne_f g6)) ?_
  show oGo p e below _ (T.setTop (mkF m 164 #[.val (.int n), .val (.int c0), .val (.int c1), .val (.int c2), .val (.int c3), .val (.int c4), .val (.int c5), .val (.int c6), .val (.int c7), .val (.int c8)] []))
  have EB := oExtR h
  obtain ⟨T, h, x, g_x, lt_x, n0_x, s_x, A, E, E_x, S_x, D_x, st⟩ := A.newO hx (hw _ (List.mem_of_getElem? (i := 57) rfl)) (hw _ (List.mem_of_getElem? (i := 6) rfl)) (hw _ (List.mem_of_getElem? (i := 5) rfl)) (g := (mkF m 164 #[.val (.int n), .val (.int c0), .val (.int c1), .val (.int c2), .val (.int c3), .val (.int c4), .val (.int c5), .val (.int c6), .val (.int c7), .val (.int c8)] [])) rfl (Jvm.hb hby d_m6_164) (by decide) (by decide)
  refine oSt st ?_
  show oGo p e below _ (T.setTop (mkF m 167 #[.val (.int n), .val (.int c0), .val (.int c1), .val (.int c2), .val (.int c3), .val (.int c4), .val (.int c5), .val (.int c6), .val (.int c7), .val (.int c8)] [(.ref x)]))
  have hEB_x := Nat.le_trans EB.1 (Nat.le_of_eq g_x.symm)
  have EB := oExtT EB E
  have F_value_x : Fld Z h x "java/lang/String" "value" "[B" .null := D_x (Or.inr (hw _ (List.mem_of_getElem? (i := 8) rfl))) (ty := (.array .byte)) (by decide)
  have F_coder_x : Fld Z h x "java/lang/String" "coder" "B" (.int (0 : Int32)) := D_x (Or.inr (hw _ (List.mem_of_getElem? (i := 9) rfl))) (ty := .byte) (by decide)
  refine oSt (fun _ => XS.dup A.here hx rfl (Jvm.hb hby d_m6_167) rfl rfl) ?_
  show oGo p e below _ (T.setTop (mkF m 168 #[.val (.int n), .val (.int c0), .val (.int c1), .val (.int c2), .val (.int c3), .val (.int c4), .val (.int c5), .val (.int c6), .val (.int c7), .val (.int c8)] [(.ref x), (.ref x)]))
  refine oSt (fun _ => XS.bipush A.here hx rfl (Jvm.hb hby d_m6_168)) ?_
  show oGo p e below _ (T.setTop (mkF m 170 #[.val (.int n), .val (.int c0), .val (.int c1), .val (.int c2), .val (.int c3), .val (.int c4), .val (.int c5), .val (.int c6), .val (.int c7), .val (.int c8)] [(.int (6 : Int32)), (.ref x), (.ref x)]))
  have CH_x := A.ch
  have EC := oExtR h
  obtain ⟨T, h, b, k_b, g_b, lt_b, n0_b, s_b, A, E, V_b, S_b, st⟩ := A.newP hx (hw _ (List.mem_of_getElem? (i := 58) rfl)) (g := (mkF m 170 #[.val (.int n), .val (.int c0), .val (.int c1), .val (.int c2), .val (.int c3), .val (.int c4), .val (.int c5), .val (.int c6), .val (.int c7), .val (.int c8)] [(.int (6 : Int32)), (.ref x), (.ref x)])) rfl (Jvm.hb hby d_m6_170) rfl (by decide) (cap := 6) (by decide) (by decide) (by decide) (by decide)
  refine oSt st ?_
  show oGo p e below _ (T.setTop (mkF m 172 #[.val (.int n), .val (.int c0), .val (.int c1), .val (.int c2), .val (.int c3), .val (.int c4), .val (.int c5), .val (.int c6), .val (.int c7), .val (.int c8)] [(.ref b), (.ref x), (.ref x)]))
  have hEB_b := Nat.le_trans EB.1 (Nat.le_of_eq g_b.symm)
  have EB := oExtT EB E
  have hEC_b := Nat.le_trans EC.1 (Nat.le_of_eq g_b.symm)
  have EC := oExtT EC E
  have V_b : Arv Z h b k_b .char (6 : Int32) [(.int (0 : Int32)), (.int (0 : Int32)), (.int (0 : Int32)), (.int (0 : Int32)), (.int (0 : Int32)), (.int (0 : Int32))] (.int (0 : Int32)) := V_b.pad (pad_rep [] (.int (0 : Int32)) 6)
  refine oSt (fun _ => XS.dup A.here hx rfl (Jvm.hb hby d_m6_172) rfl rfl) ?_
  show oGo p e below _ (T.setTop (mkF m 173 #[.val (.int n), .val (.int c0), .val (.int c1), .val (.int c2), .val (.int c3), .val (.int c4), .val (.int c5), .val (.int c6), .val (.int c7), .val (.int c8)] [(.ref b), (.ref b), (.ref x), (.ref x)]))
  refine oSt (fun _ => XS.iconst A.here hx rfl (Jvm.hb hby d_m6_173)) ?_
  show oGo p e below _ (T.setTop (mkF m 174 #[.val (.int n), .val (.int c0), .val (.int c1), .val (.int c2), .val (.int c3), .val (.int c4), .val (.int c5), .val (.int c6), .val (.int c7), .val (.int c8)] [(.int (0 : Int32)), (.ref b), (.ref b), (.ref x), (.ref x)]))
  refine oSt (fun _ => XS.iloadN A.here hx rfl (Jvm.hb hby d_m6_174) rfl) ?_
  show oGo p e below _ (T.setTop (mkF m 175 #[.val (.int n), .val (.int c0), .val (.int c1), .val (.int c2), .val (.int c3), .val (.int c4), .val (.int c5), .val (.int c6), .val (.int c7), .val (.int c8)] [(.int c0), (.int (0 : Int32)), (.ref b), (.ref b), (.ref x), (.ref x)]))
  obtain ⟨T, h, A, W, V_b, st⟩ := A.stC hx V_b 0 rfl ⟨by decide, by decide⟩ (by simp) n0_b (Or.inr s_b) (g := (mkF m 175 #[.val (.int n), .val (.int c0), .val (.int c1), .val (.int c2), .val (.int c3), .val (.int c4), .val (.int c5), .val (.int c6), .val (.int c7), .val (.int c8)] [(.int c0), (.int (0 : Int32)), (.ref b), (.ref b), (.ref x), (.ref x)])) rfl rfl (Jvm.hb hby d_m6_175)
  refine oSt st ?_
  show oGo p e below _ (T.setTop (mkF m 176 #[.val (.int n), .val (.int c0), .val (.int c1), .val (.int c2), .val (.int c3), .val (.int c4), .val (.int c5), .val (.int c6), .val (.int c7), .val (.int c8)] [(.ref b), (.ref x), (.ref x)]))
  have EB := oExtW EB W hEB_b
  have EC := oExtW EC W hEC_b
  rw [oNar hb0] at V_b
  have V_b : Arv Z h b k_b .char (6 : Int32) [(.int c0), (.int (0 : Int32)), (.int (0 : Int32)), (.int (0 : Int32)), (.int (0 : Int32)), (.int (0 : Int32))] (.int (0 : Int32)) := V_b
  refine oSt (fun _ => XS.dup A.here hx rfl (Jvm.hb hby d_m6_176) rfl rfl) ?_
  show oGo p e below _ (T.setTop (mkF m 177 #[.val (.int n), .val (.int c0), .val (.int c1), .val (.int c2), .val (.int c3), .val (.int c4), .val (.int c5), .val (.int c6), .val (.int c7), .val (.int c8)] [(.ref b), (.ref b), (.ref x), (.ref x)]))
  refine oSt (fun _ => XS.iconst A.here hx rfl (Jvm.hb hby d_m6_177)) ?_
  show oGo p e below _ (T.setTop (mkF m 178 #[.val (.int n), .val (.int c0), .val (.int c1), .val (.int c2), .val (.int c3), .val (.int c4), .val (.int c5), .val (.int c6), .val (.int c7), .val (.int c8)] [(.int (1 : Int32)), (.ref b), (.ref b), (.ref x), (.ref x)]))
  refine oSt (fun _ => XS.iloadN A.here hx rfl (Jvm.hb hby d_m6_178) rfl) ?_
  show oGo p e below _ (T.setTop (mkF m 179 #[.val (.int n), .val (.int c0), .val (.int c1), .val (.int c2), .val (.int c3), .val (.int c4), .val (.int c5), .val (.int c6), .val (.int c7), .val (.int c8)] [(.int c1), (.int (1 : Int32)), (.ref b), (.ref b), (.ref x), (.ref x)]))
  obtain ⟨T, h, A, W, V_b, st⟩ := A.stC hx V_b 1 rfl ⟨by decide, by decide⟩ (by simp) n0_b (Or.inr s_b) (g := (mkF m 179 #[.val (.int n), .val (.int c0), .val (.int c1), .val (.int c2), .val (.int c3), .val (.int c4), .val (.int c5), .val (.int c6), .val (.int c7), .val (.int c8)] [(.int c1), (.int (1 : Int32)), (.ref b), (.ref b), (.ref x), (.ref x)])) rfl rfl (Jvm.hb hby d_m6_179)
  refine oSt st ?_
  show oGo p e below _ (T.setTop (mkF m 180 #[.val (.int n), .val (.int c0), .val (.int c1), .val (.int c2), .val (.int c3), .val (.int c4), .val (.int c5), .val (.int c6), .val (.int c7), .val (.int c8)] [(.ref b), (.ref x), (.ref x)]))
  have EB := oExtW EB W hEB_b
  have EC := oExtW EC W hEC_b
  rw [oNar hb1] at V_b
  have V_b : Arv Z h b k_b .char (6 : Int32) [(.int c0), (.int c1), (.int (0 : Int32)), (.int (0 : Int32)), (.int (0 : Int32)), (.int (0 : Int32))] (.int (0 : Int32)) := V_b
  refine oSt (fun _ => XS.dup A.here hx rfl (Jvm.hb hby d_m6_180) rfl rfl) ?_
  show oGo p e below _ (T.setTop (mkF m 181 #[.val (.int n), .val (.int c0), .val (.int c1), .val (.int c2), .val (.int c3), .val (.int c4), .val (.int c5), .val (.int c6), .val (.int c7), .val (.int c8)] [(.ref b), (.ref b), (.ref x), (.ref x)]))
  refine oSt (fun _ => XS.iconst A.here hx rfl (Jvm.hb hby d_m6_181)) ?_
  show oGo p e below _ (T.setTop (mkF m 182 #[.val (.int n), .val (.int c0), .val (.int c1), .val (.int c2), .val (.int c3), .val (.int c4), .val (.int c5), .val (.int c6), .val (.int c7), .val (.int c8)] [(.int (2 : Int32)), (.ref b), (.ref b), (.ref x), (.ref x)]))
  refine oSt (fun _ => XS.iloadN A.here hx rfl (Jvm.hb hby d_m6_182) rfl) ?_
  show oGo p e below _ (T.setTop (mkF m 183 #[.val (.int n), .val (.int c0), .val (.int c1), .val (.int c2), .val (.int c3), .val (.int c4), .val (.int c5), .val (.int c6), .val (.int c7), .val (.int c8)] [(.int c2), (.int (2 : Int32)), (.ref b), (.ref b), (.ref x), (.ref x)]))
  obtain ⟨T, h, A, W, V_b, st⟩ := A.stC hx V_b 2 rfl ⟨by decide, by decide⟩ (by simp) n0_b (Or.inr s_b) (g := (mkF m 183 #[.val (.int n), .val (.int c0), .val (.int c1), .val (.int c2), .val (.int c3), .val (.int c4), .val (.int c5), .val (.int c6), .val (.int c7), .val (.int c8)] [(.int c2), (.int (2 : Int32)), (.ref b), (.ref b), (.ref x), (.ref x)])) rfl rfl (Jvm.hb hby d_m6_183)
  refine oSt st ?_
  show oGo p e below _ (T.setTop (mkF m 184 #[.val (.int n), .val (.int c0), .val (.int c1), .val (.int c2), .val (.int c3), .val (.int c4), .val (.int c5), .val (.int c6), .val (.int c7), .val (.int c8)] [(.ref b), (.ref x), (.ref x)]))
  have EB := oExtW EB W hEB_b
  have EC := oExtW EC W hEC_b
  rw [oNar hb2] at V_b
  have V_b : Arv Z h b k_b .char (6 : Int32) [(.int c0), (.int c1), (.int c2), (.int (0 : Int32)), (.int (0 : Int32)), (.int (0 : Int32))] (.int (0 : Int32)) := V_b
  refine oSt (fun _ => XS.dup A.here hx rfl (Jvm.hb hby d_m6_184) rfl rfl) ?_
  show oGo p e below _ (T.setTop (mkF m 185 #[.val (.int n), .val (.int c0), .val (.int c1), .val (.int c2), .val (.int c3), .val (.int c4), .val (.int c5), .val (.int c6), .val (.int c7), .val (.int c8)] [(.ref b), (.ref b), (.ref x), (.ref x)]))
  refine oSt (fun _ => XS.iconst A.here hx rfl (Jvm.hb hby d_m6_185)) ?_
  show oGo p e below _ (T.setTop (mkF m 186 #[.val (.int n), .val (.int c0), .val (.int c1), .val (.int c2), .val (.int c3), .val (.int c4), .val (.int c5), .val (.int c6), .val (.int c7), .val (.int c8)] [(.int (3 : Int32)), (.ref b), (.ref b), (.ref x), (.ref x)]))
  refine oSt (fun _ => XS.iload A.here hx rfl (Jvm.hb hby d_m6_186) rfl) ?_
  show oGo p e below _ (T.setTop (mkF m 188 #[.val (.int n), .val (.int c0), .val (.int c1), .val (.int c2), .val (.int c3), .val (.int c4), .val (.int c5), .val (.int c6), .val (.int c7), .val (.int c8)] [(.int c3), (.int (3 : Int32)), (.ref b), (.ref b), (.ref x), (.ref x)]))
  obtain ⟨T, h, A, W, V_b, st⟩ := A.stC hx V_b 3 rfl ⟨by decide, by decide⟩ (by simp) n0_b (Or.inr s_b) (g := (mkF m 188 #[.val (.int n), .val (.int c0), .val (.int c1), .val (.int c2), .val (.int c3), .val (.int c4), .val (.int c5), .val (.int c6), .val (.int c7), .val (.int c8)] [(.int c3), (.int (3 : Int32)), (.ref b), (.ref b), (.ref x), (.ref x)])) rfl rfl (Jvm.hb hby d_m6_188)
  refine oSt st ?_
  show oGo p e below _ (T.setTop (mkF m 189 #[.val (.int n), .val (.int c0), .val (.int c1), .val (.int c2), .val (.int c3), .val (.int c4), .val (.int c5), .val (.int c6), .val (.int c7), .val (.int c8)] [(.ref b), (.ref x), (.ref x)]))
  have EB := oExtW EB W hEB_b
  have EC := oExtW EC W hEC_b
  rw [oNar hb3] at V_b
  have V_b : Arv Z h b k_b .char (6 : Int32) [(.int c0), (.int c1), (.int c2), (.int c3), (.int (0 : Int32)), (.int (0 : Int32))] (.int (0 : Int32)) := V_b
  refine oSt (fun _ => XS.dup A.here hx rfl (Jvm.hb hby d_m6_189) rfl rfl) ?_
  show oGo p e below _ (T.setTop (mkF m 190 #[.val (.int n), .val (.int c0), .val (.int c1), .val (.int c2), .val (.int c3), .val (.int c4), .val (.int c5), .val (.int c6), .val (.int c7), .val (.int c8)] [(.ref b), (.ref b), (.ref x), (.ref x)]))
  refine oSt (fun _ => XS.iconst A.here hx rfl (Jvm.hb hby d_m6_190)) ?_
  show oGo p e below _ (T.setTop (mkF m 191 #[.val (.int n), .val (.int c0), .val (.int c1), .val (.int c2), .val (.int c3), .val (.int c4), .val (.int c5), .val (.int c6), .val (.int c7), .val (.int c8)] [(.int (4 : Int32)), (.ref b), (.ref b), (.ref x), (.ref x)]))
  refine oSt (fun _ => XS.iload A.here hx rfl (Jvm.hb hby d_m6_191) rfl) ?_
  show oGo p e below _ (T.setTop (mkF m 193 #[.val (.int n), .val (.int c0), .val (.int c1), .val (.int c2), .val (.int c3), .val (.int c4), .val (.int c5), .val (.int c6), .val (.int c7), .val (.int c8)] [(.int c4), (.int (4 : Int32)), (.ref b), (.ref b), (.ref x), (.ref x)]))
  obtain ⟨T, h, A, W, V_b, st⟩ := A.stC hx V_b 4 rfl ⟨by decide, by decide⟩ (by simp) n0_b (Or.inr s_b) (g := (mkF m 193 #[.val (.int n), .val (.int c0), .val (.int c1), .val (.int c2), .val (.int c3), .val (.int c4), .val (.int c5), .val (.int c6), .val (.int c7), .val (.int c8)] [(.int c4), (.int (4 : Int32)), (.ref b), (.ref b), (.ref x), (.ref x)])) rfl rfl (Jvm.hb hby d_m6_193)
  refine oSt st ?_
  show oGo p e below _ (T.setTop (mkF m 194 #[.val (.int n), .val (.int c0), .val (.int c1), .val (.int c2), .val (.int c3), .val (.int c4), .val (.int c5), .val (.int c6), .val (.int c7), .val (.int c8)] [(.ref b), (.ref x), (.ref x)]))
  have EB := oExtW EB W hEB_b
  have EC := oExtW EC W hEC_b
  rw [oNar hb4] at V_b
  have V_b : Arv Z h b k_b .char (6 : Int32) [(.int c0), (.int c1), (.int c2), (.int c3), (.int c4), (.int (0 : Int32))] (.int (0 : Int32)) := V_b
  refine oSt (fun _ => XS.dup A.here hx rfl (Jvm.hb hby d_m6_194) rfl rfl) ?_
  show oGo p e below _ (T.setTop (mkF m 195 #[.val (.int n), .val (.int c0), .val (.int c1), .val (.int c2), .val (.int c3), .val (.int c4), .val (.int c5), .val (.int c6), .val (.int c7), .val (.int c8)] [(.ref b), (.ref b), (.ref x), (.ref x)]))
  refine oSt (fun _ => XS.iconst A.here hx rfl (Jvm.hb hby d_m6_195)) ?_
  show oGo p e below _ (T.setTop (mkF m 196 #[.val (.int n), .val (.int c0), .val (.int c1), .val (.int c2), .val (.int c3), .val (.int c4), .val (.int c5), .val (.int c6), .val (.int c7), .val (.int c8)] [(.int (5 : Int32)), (.ref b), (.ref b), (.ref x), (.ref x)]))
  refine oSt (fun _ => XS.iload A.here hx rfl (Jvm.hb hby d_m6_196) rfl) ?_
  show oGo p e below _ (T.setTop (mkF m 198 #[.val (.int n), .val (.int c0), .val (.int c1), .val (.int c2), .val (.int c3), .val (.int c4), .val (.int c5), .val (.int c6), .val (.int c7), .val (.int c8)] [(.int c5), (.int (5 : Int32)), (.ref b), (.ref b), (.ref x), (.ref x)]))
  obtain ⟨T, h, A, W, V_b, st⟩ := A.stC hx V_b 5 rfl ⟨by decide, by decide⟩ (by simp) n0_b (Or.inr s_b) (g := (mkF m 198 #[.val (.int n), .val (.int c0), .val (.int c1), .val (.int c2), .val (.int c3), .val (.int c4), .val (.int c5), .val (.int c6), .val (.int c7), .val (.int c8)] [(.int c5), (.int (5 : Int32)), (.ref b), (.ref b), (.ref x), (.ref x)])) rfl rfl (Jvm.hb hby d_m6_198)
  refine oSt st ?_
  show oGo p e below _ (T.setTop (mkF m 199 #[.val (.int n), .val (.int c0), .val (.int c1), .val (.int c2), .val (.int c3), .val (.int c4), .val (.int c5), .val (.int c6), .val (.int c7), .val (.int c8)] [(.ref b), (.ref x), (.ref x)]))
  have EB := oExtW EB W hEB_b
  have EC := oExtW EC W hEC_b
  rw [oNar hb5] at V_b
  have V_b : Arv Z h b k_b .char (6 : Int32) [(.int c0), (.int c1), (.int c2), (.int c3), (.int c4), (.int c5)] (.int (0 : Int32)) := V_b
  have E_x := E_x.ext EC
  have F_value_x := F_value_x.ext EC
  have F_coder_x := F_coder_x.ext EC
  have S_x := S_x.ext EC CH_x
  obtain ⟨T, h, L, A, K, Q_x, st⟩ := A.sNew hx hws (hw _ (List.mem_of_getElem? (i := 6) rfl)) (hw _ (List.mem_of_getElem? (i := 59) rfl)) (hw _ (List.mem_of_getElem? (i := 60) rfl)) (hw _ (List.mem_of_getElem? (i := 61) rfl)) E_x F_value_x F_coder_x (cs := ([c0, c1, c2, c3, c4, c5] : List Int32)) V_b hcs hcz (n := 6) rfl rfl (by decide) (by decide) (oPS hb0 (oPS hb1 (oPS hb2 (oPS hb3 (oPS hb4 (oPS hb5 oP0)))))) n0_x (Or.inr s_x) S_x (W := 1) (by decide) (by decide) (by decide) (by decide) (g := (mkF m 199 #[.val (.int n), .val (.int c0), .val (.int c1), .val (.int c2), .val (.int c3), .val (.int c4), .val (.int c5), .val (.int c6), .val (.int c7), .val (.int c8)] [(.ref b), (.ref x), (.ref x)])) rfl (by rw [hml]; rfl) rfl (by show 2 * 0 + _ ≤ _; exact Nat.le_of_eq rfl) (Jvm.hb hby d_m6_199)
  refine oSt st ?_
  show oGo p e below _ (T.setTop (mkF m 202 #[.val (.int n), .val (.int c0), .val (.int c1), .val (.int c2), .val (.int c3), .val (.int c4), .val (.int c5), .val (.int c6), .val (.int c7), .val (.int c8)] [(.ref x)]))
  have EB := oExtK EB K (oIn1 hEB_x)
  exact A.leave hlk hEL (v := some (.ref x)) (fun h => by rw [hret] at h; cases h) (fun _ _ => ⟨x, _, rfl, Q_x⟩) (by decide) (by decide) (fun fs hr => retOut A.1 hx hret rfl (Or.inr (Or.inr (Or.inr (Or.inr ⟨rfl, rfl, rfl⟩)))) (Jvm.hb hby d_m6_202) hr)
theorem opn_own_make7 : plainFor (⟨"com/example/applicator/applicator/DialectLabelledPinLaw", "make", "(ICCCCCCCCC)Ljava/lang/String;"⟩ : MethodName) = true := plainFor_of_name (by first | (simp [plainName, overriddenIn]; done) | decide +kernel)
set_option maxRecDepth 65536 in
set_option maxHeartbeats 40000000 in
theorem own_make7 (l : Launch) (Z : State) (a0 : Array Value) (hw : ∀ d ∈ tables_1, d.before a0 Z = true) (hEL : EW Z a0 consts_1) (n0 : Nat) (h : Heap) (hO : Old Z n0 h) (n c0 c1 c2 c3 c4 c5 c6 c7 c8 : Int32) (zc : Int32) (hcs : Sta Z Z.heap "java/lang/String" "COMPACT_STRINGS" "Z" (.int zc)) (hcz : ¬ zc = 0) (hb0 : own_B c0) (hb1 : own_B c1) (hb2 : own_B c2) (hb3 : own_B c3) (hb4 : own_B c4) (hb5 : own_B c5) (hb6 : own_B c6) (hb7 : own_B c7) (hb8 : own_B c8) (g0 : ¬ n = 0) (g1 : ¬ n = 1) (g2 : ¬ n = 2) (g3 : ¬ n = 3) (g4 : ¬ n = 4) (g5 : ¬ n = 5) (g6 : ¬ n = 6) (g7 : n = 7) :
    oMet l Z consts_1 n0 (⟨"com/example/applicator/applicator/DialectLabelledPinLaw", "make", "(ICCCCCCCCC)Ljava/lang/String;"⟩ : MethodName) method_6_code 10 (some (.object "java/lang/String")) [] ({ frames := 4, cells := 4, slots := 22, locals := 66 } : Room) #[(.int n), (.int c0), (.int c1), (.int c2), (.int c3), (.int c4), (.int c5), (.int c6), (.int c7), (.int c8)] h [] (fun v _ h => ∃ x cs, v = some (.ref x) ∧ oStr Z h x cs) := by
  refine oMet.of opn_own_make7 hO ?_
  intro p e s m below meth c T hx hby hml hret hnm hlk hh hsf A
  have hml : c.maxLocals = 10 := hml
  refine oCast (g' := mkF m 0 #[.val (.int n), .val (.int c0), .val (.int c1), .val (.int c2), .val (.int c3), .val (.int c4), .val (.int c5), .val (.int c6), .val (.int c7), .val (.int c8)] []) (by first | (simp [entryFrame, mkF, argsToLocals, Value.category]; done) | rfl) ?_
  have hws : ∀ d ∈ StrChars.Road.words, d.before a0 Z = true := fun d hd => hw d ((by decide +kernel : ∀ d ∈ StrChars.Road.words, d ∈ tables_1) d hd)
  show oGo p e below _ (T.setTop (mkF m 0 #[.val (.int n), .val (.int c0), .val (.int c1), .val (.int c2), .val (.int c3), .val (.int c4), .val (.int c5), .val (.int c6), .val (.int c7), .val (.int c8)] []))
  refine oSt (fun _ => XS.iloadN A.here hx rfl (Jvm.hb hby d_m6_0) rfl) ?_
  show oGo p e below _ (T.setTop (mkF m 1 #[.val (.int n), .val (.int c0), .val (.int c1), .val (.int c2), .val (.int c3), .val (.int c4), .val (.int c5), .val (.int c6), .val (.int c7), .val (.int c8)] [(.int n)]))
  refine oSt (fun _ => XS.ifYes A.here hx rfl (pc0 := 1) (pc' := 15) rfl (Jvm.hb hby d_m6_1) rfl (Jvm.Free.XT.i0_ne_t g0) (by decide) (by decide)) ?_
  show oGo p e below _ (T.setTop (mkF m 15 #[.val (.int n), .val (.int c0), .val (.int c1), .val (.int c2), .val (.int c3), .val (.int c4), .val (.int c5), .val (.int c6), .val (.int c7), .val (.int c8)] []))
  refine oSt (fun _ => XS.iloadN A.here hx rfl (Jvm.hb hby d_m6_15) rfl) ?_
  show oGo p e below _ (T.setTop (mkF m 16 #[.val (.int n), .val (.int c0), .val (.int c1), .val (.int c2), .val (.int c3), .val (.int c4), .val (.int c5), .val (.int c6), .val (.int c7), .val (.int c8)] [(.int n)]))
  refine oSt (fun _ => XS.iconst A.here hx rfl (Jvm.hb hby d_m6_16)) ?_
  show oGo p e below _ (T.setTop (mkF m 17 #[.val (.int n), .val (.int c0), .val (.int c1), .val (.int c2), .val (.int c3), .val (.int c4), .val (.int c5), .val (.int c6), .val (.int c7), .val (.int c8)] [(.int (1 : Int32)), (.int n)]))
  refine oSt (fun _ => XS.icmpYes A.here hx rfl (pc0 := 17) (pc' := 35) rfl (Jvm.hb hby d_m6_17) rfl (Jvm.Free.XT.ii_ne_t g1) (by decide) (by decide)) ?_
  show oGo p e below _ (T.setTop (mkF m 35 #[.val (.int n), .val (.int c0), .val (.int c1), .val (.int c2), .val (.int c3), .val (.int c4), .val (.int c5), .val (.int c6), .val (.int c7), .val (.int c8)] []))
  refine oSt (fun _ => XS.iloadN A.here hx rfl (Jvm.hb hby d_m6_35) rfl) ?_
  show oGo p e below _ (T.setTop (mkF m 36 #[.val (.int n), .val (.int c0), .val (.int c1), .val (.int c2), .val (.int c3), .val (.int c4), .val (.int c5), .val (.int c6), .val (.int c7), .val (.int c8)] [(.int n)]))
  refine oSt (fun _ => XS.iconst A.here hx rfl (Jvm.hb hby d_m6_36)) ?_
  show oGo p e below _ (T.setTop (mkF m 37 #[.val (.int n), .val (.int c0), .val (.int c1), .val (.int c2), .val (.int c3), .val (.int c4), .val (.int c5), .val (.int c6), .val (.int c7), .val (.int c8)] [(.int (2 : Int32)), (.int n)]))
  refine oSt (fun _ => XS.icmpYes A.here hx rfl (pc0 := 37) (pc' := 59) rfl (Jvm.hb hby d_m6_37) rfl (Jvm.Free.XT.ii_ne_t g2) (by decide) (by decide)) ?_
  show oGo p e below _ (T.setTop (mkF m 59 #[.val (.int n), .val (.int c0), .val (.int c1), .val (.int c2), .val (.int c3), .val (.int c4), .val (.int c5), .val (.int c6), .val (.int c7), .val (.int c8)] []))
  refine oSt (fun _ => XS.iloadN A.here hx rfl (Jvm.hb hby d_m6_59) rfl) ?_
  show oGo p e below _ (T.setTop (mkF m 60 #[.val (.int n), .val (.int c0), .val (.int c1), .val (.int c2), .val (.int c3), .val (.int c4), .val (.int c5), .val (.int c6), .val (.int c7), .val (.int c8)] [(.int n)]))
  refine oSt (fun _ => XS.iconst A.here hx rfl (Jvm.hb hby d_m6_60)) ?_
  show oGo p e below _ (T.setTop (mkF m 61 #[.val (.int n), .val (.int c0), .val (.int c1), .val (.int c2), .val (.int c3), .val (.int c4), .val (.int c5), .val (.int c6), .val (.int c7), .val (.int c8)] [(.int (3 : Int32)), (.int n)]))
  refine oSt (fun _ => XS.icmpYes A.here hx rfl (pc0 := 61) (pc' := 87) rfl (Jvm.hb hby d_m6_61) rfl (Jvm.Free.XT.ii_ne_t g3) (by decide) (by decide)) ?_
  show oGo p e below _ (T.setTop (mkF m 87 #[.val (.int n), .val (.int c0), .val (.int c1), .val (.int c2), .val (.int c3), .val (.int c4), .val (.int c5), .val (.int c6), .val (.int c7), .val (.int c8)] []))
  refine oSt (fun _ => XS.iloadN A.here hx rfl (Jvm.hb hby d_m6_87) rfl) ?_
  show oGo p e below _ (T.setTop (mkF m 88 #[.val (.int n), .val (.int c0), .val (.int c1), .val (.int c2), .val (.int c3), .val (.int c4), .val (.int c5), .val (.int c6), .val (.int c7), .val (.int c8)] [(.int n)]))
  refine oSt (fun _ => XS.iconst A.here hx rfl (Jvm.hb hby d_m6_88)) ?_
  show oGo p e below _ (T.setTop (mkF m 89 #[.val (.int n), .val (.int c0), .val (.int c1), .val (.int c2), .val (.int c3), .val (.int c4), .val (.int c5), .val (.int c6), .val (.int c7), .val (.int c8)] [(.int (4 : Int32)), (.int n)]))
  refine oSt (fun _ => XS.icmpYes A.here hx rfl (pc0 := 89) (pc' := 120) rfl (Jvm.hb hby d_m6_89) rfl (Jvm.Free.XT.ii_ne_t g4) (by decide) (by decide)) ?_
  show oGo p e below _ (T.setTop (mkF m 120 #[.val (.int n), .val (.int c0), .val (.int c1), .val (.int c2), .val (.int c3), .val (.int c4), .val (.int c5), .val (.int c6), .val (.int c7), .val (.int c8)] []))
  refine oSt (fun _ => XS.iloadN A.here hx rfl (Jvm.hb hby d_m6_120) rfl) ?_
  show oGo p e below _ (T.setTop (mkF m 121 #[.val (.int n), .val (.int c0), .val (.int c1), .val (.int c2), .val (.int c3), .val (.int c4), .val (.int c5), .val (.int c6), .val (.int c7), .val (.int c8)] [(.int n)]))
  refine oSt (fun _ => XS.iconst A.here hx rfl (Jvm.hb hby d_m6_121)) ?_
  show oGo p e below _ (T.setTop (mkF m 122 #[.val (.int n), .val (.int c0), .val (.int c1), .val (.int c2), .val (.int c3), .val (.int c4), .val (.int c5), .val (.int c6), .val (.int c7), .val (.int c8)] [(.int (5 : Int32)), (.int n)]))
  refine oSt (fun _ => XS.icmpYes A.here hx rfl (pc0 := 122) (pc' := 158) rfl (Jvm.hb hby d_m6_122) rfl (Jvm.Free.XT.ii_ne_t g5) (by decide) (by decide)) ?_
  show oGo p e below _ (T.setTop (mkF m 158 #[.val (.int n), .val (.int c0), .val (.int c1), .val (.int c2), .val (.int c3), .val (.int c4), .val (.int c5), .val (.int c6), .val (.int c7), .val (.int c8)] []))
  refine oSt (fun _ => XS.iloadN A.here hx rfl (Jvm.hb hby d_m6_158) rfl) ?_
  show oGo p e below _ (T.setTop (mkF m 159 #[.val (.int n), .val (.int c0), .val (.int c1), .val (.int c2), .val (.int c3), .val (.int c4), .val (.int c5), .val (.int c6), .val (.int c7), .val (.int c8)] [(.int n)]))
  refine oSt (fun _ => XS.bipush A.here hx rfl (Jvm.hb hby d_m6_159)) ?_
  show oGo p e below _ (T.setTop (mkF m 161 #[.val (.int n), .val (.int c0), .val (.int c1), .val (.int c2), .val (.int c3), .val (.int c4), .val (.int c5), .val (.int c6), .val (.int c7), .val (.int c8)] [(.int (6 : Int32)), (.int n)]))
  refine oSt (fun _ => XS.icmpYes A.here hx rfl (pc0 := 161) (pc' := 203) rfl (Jvm.hb hby d_m6_161) rfl (Jvm.Free.XT.ii_ne_t g6) (by decide) (by decide)) ?_
  show oGo p e below _ (T.setTop (mkF m 203 #[.val (.int n), .val (.int c0), .val (.int c1), .val (.int c2), .val (.int c3), .val (.int c4), .val (.int c5), .val (.int c6), .val (.int c7), .val (.int c8)] []))
  refine oSt (fun _ => XS.iloadN A.here hx rfl (Jvm.hb hby d_m6_203) rfl) ?_
  show oGo p e below _ (T.setTop (mkF m 204 #[.val (.int n), .val (.int c0), .val (.int c1), .val (.int c2), .val (.int c3), .val (.int c4), .val (.int c5), .val (.int c6), .val (.int c7), .val (.int c8)] [(.int n)]))
  refine oSt (fun _ => XS.bipush A.here hx rfl (Jvm.hb hby d_m6_204)) ?_
  show oGo p e below _ (T.setTop (mkF m 206 #[.val (.int n), .val (.int c0), .val (.int c1), .val (.int c2), .val (.int c3), .val (.int c4), .val (.int c5), .val (.int c6), .val (.int c7), .val (.int c8)] [(.int (7 : Int32)), (.int n)]))
  refine oSt (fun _ => XS.icmpNo A.here hx rfl (Jvm.hb hby d_m6_206) rfl (Jvm.Free.XT.ii_ne_f g7)) ?_
  show oGo p e below _ (T.setTop (mkF m 209 #[.val (.int n), .val (.int c0), .val (.int c1), .val (.int c2), .val (.int c3), .val (.int c4), .val (.int c5), .val (.int c6), .val (.int c7), .val (.int c8)] []))
  have EB := oExtR h
  obtain ⟨T, h, x, g_x, lt_x, n0_x, s_x, A, E, E_x, S_x, D_x, st⟩ := A.newO hx (hw _ (List.mem_of_getElem? (i := 57) rfl)) (hw _ (List.mem_of_getElem? (i := 6) rfl)) (hw _ (List.mem_of_getElem? (i := 5) rfl)) (g := (mkF m 209 #[.val (.int n), .val (.int c0), .val (.int c1), .val (.int c2), .val (.int c3), .val (.int c4), .val (.int c5), .val (.int c6), .val (.int c7), .val (.int c8)] [])) rfl (Jvm.hb hby d_m6_209) (by decide) (by decide)
  refine oSt st ?_
  show oGo p e below _ (T.setTop (mkF m 212 #[.val (.int n), .val (.int c0), .val (.int c1), .val (.int c2), .val (.int c3), .val (.int c4), .val (.int c5), .val (.int c6), .val (.int c7), .val (.int c8)] [(.ref x)]))
  have hEB_x := Nat.le_trans EB.1 (Nat.le_of_eq g_x.symm)
  have EB := oExtT EB E
  have F_value_x : Fld Z h x "java/lang/String" "value" "[B" .null := D_x (Or.inr (hw _ (List.mem_of_getElem? (i := 8) rfl))) (ty := (.array .byte)) (by decide)
  have F_coder_x : Fld Z h x "java/lang/String" "coder" "B" (.int (0 : Int32)) := D_x (Or.inr (hw _ (List.mem_of_getElem? (i := 9) rfl))) (ty := .byte) (by decide)
  refine oSt (fun _ => XS.dup A.here hx rfl (Jvm.hb hby d_m6_212) rfl rfl) ?_
  show oGo p e below _ (T.setTop (mkF m 213 #[.val (.int n), .val (.int c0), .val (.int c1), .val (.int c2), .val (.int c3), .val (.int c4), .val (.int c5), .val (.int c6), .val (.int c7), .val (.int c8)] [(.ref x), (.ref x)]))
  refine oSt (fun _ => XS.bipush A.here hx rfl (Jvm.hb hby d_m6_213)) ?_
  show oGo p e below _ (T.setTop (mkF m 215 #[.val (.int n), .val (.int c0), .val (.int c1), .val (.int c2), .val (.int c3), .val (.int c4), .val (.int c5), .val (.int c6), .val (.int c7), .val (.int c8)] [(.int (7 : Int32)), (.ref x), (.ref x)]))
  have CH_x := A.ch
  have EC := oExtR h
  obtain ⟨T, h, b, k_b, g_b, lt_b, n0_b, s_b, A, E, V_b, S_b, st⟩ := A.newP hx (hw _ (List.mem_of_getElem? (i := 58) rfl)) (g := (mkF m 215 #[.val (.int n), .val (.int c0), .val (.int c1), .val (.int c2), .val (.int c3), .val (.int c4), .val (.int c5), .val (.int c6), .val (.int c7), .val (.int c8)] [(.int (7 : Int32)), (.ref x), (.ref x)])) rfl (Jvm.hb hby d_m6_215) rfl (by decide) (cap := 7) (by decide) (by decide) (by decide) (by decide)
  refine oSt st ?_
  show oGo p e below _ (T.setTop (mkF m 217 #[.val (.int n), .val (.int c0), .val (.int c1), .val (.int c2), .val (.int c3), .val (.int c4), .val (.int c5), .val (.int c6), .val (.int c7), .val (.int c8)] [(.ref b), (.ref x), (.ref x)]))
  have hEB_b := Nat.le_trans EB.1 (Nat.le_of_eq g_b.symm)
  have EB := oExtT EB E
  have hEC_b := Nat.le_trans EC.1 (Nat.le_of_eq g_b.symm)
  have EC := oExtT EC E
  have V_b : Arv Z h b k_b .char (7 : Int32) [(.int (0 : Int32)), (.int (0 : Int32)), (.int (0 : Int32)), (.int (0 : Int32)), (.int (0 : Int32)), (.int (0 : Int32)), (.int (0 : Int32))] (.int (0 : Int32)) := V_b.pad (pad_rep [] (.int (0 : Int32)) 7)
  refine oSt (fun _ => XS.dup A.here hx rfl (Jvm.hb hby d_m6_217) rfl rfl) ?_
  show oGo p e below _ (T.setTop (mkF m 218 #[.val (.int n), .val (.int c0), .val (.int c1), .val (.int c2), .val (.int c3), .val (.int c4), .val (.int c5), .val (.int c6), .val (.int c7), .val (.int c8)] [(.ref b), (.ref b), (.ref x), (.ref x)]))
  refine oSt (fun _ => XS.iconst A.here hx rfl (Jvm.hb hby d_m6_218)) ?_
  show oGo p e below _ (T.setTop (mkF m 219 #[.val (.int n), .val (.int c0), .val (.int c1), .val (.int c2), .val (.int c3), .val (.int c4), .val (.int c5), .val (.int c6), .val (.int c7), .val (.int c8)] [(.int (0 : Int32)), (.ref b), (.ref b), (.ref x), (.ref x)]))
  refine oSt (fun _ => XS.iloadN A.here hx rfl (Jvm.hb hby d_m6_219) rfl) ?_
  show oGo p e below _ (T.setTop (mkF m 220 #[.val (.int n), .val (.int c0), .val (.int c1), .val (.int c2), .val (.int c3), .val (.int c4), .val (.int c5), .val (.int c6), .val (.int c7), .val (.int c8)] [(.int c0), (.int (0 : Int32)), (.ref b), (.ref b), (.ref x), (.ref x)]))
  obtain ⟨T, h, A, W, V_b, st⟩ := A.stC hx V_b 0 rfl ⟨by decide, by decide⟩ (by simp) n0_b (Or.inr s_b) (g := (mkF m 220 #[.val (.int n), .val (.int c0), .val (.int c1), .val (.int c2), .val (.int c3), .val (.int c4), .val (.int c5), .val (.int c6), .val (.int c7), .val (.int c8)] [(.int c0), (.int (0 : Int32)), (.ref b), (.ref b), (.ref x), (.ref x)])) rfl rfl (Jvm.hb hby d_m6_220)
  refine oSt st ?_
  show oGo p e below _ (T.setTop (mkF m 221 #[.val (.int n), .val (.int c0), .val (.int c1), .val (.int c2), .val (.int c3), .val (.int c4), .val (.int c5), .val (.int c6), .val (.int c7), .val (.int c8)] [(.ref b), (.ref x), (.ref x)]))
  have EB := oExtW EB W hEB_b
  have EC := oExtW EC W hEC_b
  rw [oNar hb0] at V_b
  have V_b : Arv Z h b k_b .char (7 : Int32) [(.int c0), (.int (0 : Int32)), (.int (0 : Int32)), (.int (0 : Int32)), (.int (0 : Int32)), (.int (0 : Int32)), (.int (0 : Int32))] (.int (0 : Int32)) := V_b
  refine oSt (fun _ => XS.dup A.here hx rfl (Jvm.hb hby d_m6_221) rfl rfl) ?_
  show oGo p e below _ (T.setTop (mkF m 222 #[.val (.int n), .val (.int c0), .val (.int c1), .val (.int c2), .val (.int c3), .val (.int c4), .val (.int c5), .val (.int c6), .val (.int c7), .val (.int c8)] [(.ref b), (.ref b), (.ref x), (.ref x)]))
  refine oSt (fun _ => XS.iconst A.here hx rfl (Jvm.hb hby d_m6_222)) ?_
  show oGo p e below _ (T.setTop (mkF m 223 #[.val (.int n), .val (.int c0), .val (.int c1), .val (.int c2), .val (.int c3), .val (.int c4), .val (.int c5), .val (.int c6), .val (.int c7), .val (.int c8)] [(.int (1 : Int32)), (.ref b), (.ref b), (.ref x), (.ref x)]))
  refine oSt (fun _ => XS.iloadN A.here hx rfl (Jvm.hb hby d_m6_223) rfl) ?_
  show oGo p e below _ (T.setTop (mkF m 224 #[.val (.int n), .val (.int c0), .val (.int c1), .val (.int c2), .val (.int c3), .val (.int c4), .val (.int c5), .val (.int c6), .val (.int c7), .val (.int c8)] [(.int c1), (.int (1 : Int32)), (.ref b), (.ref b), (.ref x), (.ref x)]))
  obtain ⟨T, h, A, W, V_b, st⟩ := A.stC hx V_b 1 rfl ⟨by decide, by decide⟩ (by simp) n0_b (Or.inr s_b) (g := (mkF m 224 #[.val (.int n), .val (.int c0), .val (.int c1), .val (.int c2), .val (.int c3), .val (.int c4), .val (.int c5), .val (.int c6), .val (.int c7), .val (.int c8)] [(.int c1), (.int (1 : Int32)), (.ref b), (.ref b), (.ref x), (.ref x)])) rfl rfl (Jvm.hb hby d_m6_224)
  refine oSt st ?_
  show oGo p e below _ (T.setTop (mkF m 225 #[.val (.int n), .val (.int c0), .val (.int c1), .val (.int c2), .val (.int c3), .val (.int c4), .val (.int c5), .val (.int c6), .val (.int c7), .val (.int c8)] [(.ref b), (.ref x), (.ref x)]))
  have EB := oExtW EB W hEB_b
  have EC := oExtW EC W hEC_b
  rw [oNar hb1] at V_b
  have V_b : Arv Z h b k_b .char (7 : Int32) [(.int c0), (.int c1), (.int (0 : Int32)), (.int (0 : Int32)), (.int (0 : Int32)), (.int (0 : Int32)), (.int (0 : Int32))] (.int (0 : Int32)) := V_b
  refine oSt (fun _ => XS.dup A.here hx rfl (Jvm.hb hby d_m6_225) rfl rfl) ?_
  show oGo p e below _ (T.setTop (mkF m 226 #[.val (.int n), .val (.int c0), .val (.int c1), .val (.int c2), .val (.int c3), .val (.int c4), .val (.int c5), .val (.int c6), .val (.int c7), .val (.int c8)] [(.ref b), (.ref b), (.ref x), (.ref x)]))
  refine oSt (fun _ => XS.iconst A.here hx rfl (Jvm.hb hby d_m6_226)) ?_
  show oGo p e below _ (T.setTop (mkF m 227 #[.val (.int n), .val (.int c0), .val (.int c1), .val (.int c2), .val (.int c3), .val (.int c4), .val (.int c5), .val (.int c6), .val (.int c7), .val (.int c8)] [(.int (2 : Int32)), (.ref b), (.ref b), (.ref x), (.ref x)]))
  refine oSt (fun _ => XS.iloadN A.here hx rfl (Jvm.hb hby d_m6_227) rfl) ?_
  show oGo p e below _ (T.setTop (mkF m 228 #[.val (.int n), .val (.int c0), .val (.int c1), .val (.int c2), .val (.int c3), .val (.int c4), .val (.int c5), .val (.int c6), .val (.int c7), .val (.int c8)] [(.int c2), (.int (2 : Int32)), (.ref b), (.ref b), (.ref x), (.ref x)]))
  obtain ⟨T, h, A, W, V_b, st⟩ := A.stC hx V_b 2 rfl ⟨by decide, by decide⟩ (by simp) n0_b (Or.inr s_b) (g := (mkF m 228 #[.val (.int n), .val (.int c0), .val (.int c1), .val (.int c2), .val (.int c3), .val (.int c4), .val (.int c5), .val (.int c6), .val (.int c7), .val (.int c8)] [(.int c2), (.int (2 : Int32)), (.ref b), (.ref b), (.ref x), (.ref x)])) rfl rfl (Jvm.hb hby d_m6_228)
  refine oSt st ?_
  show oGo p e below _ (T.setTop (mkF m 229 #[.val (.int n), .val (.int c0), .val (.int c1), .val (.int c2), .val (.int c3), .val (.int c4), .val (.int c5), .val (.int c6), .val (.int c7), .val (.int c8)] [(.ref b), (.ref x), (.ref x)]))
  have EB := oExtW EB W hEB_b
  have EC := oExtW EC W hEC_b
  rw [oNar hb2] at V_b
  have V_b : Arv Z h b k_b .char (7 : Int32) [(.int c0), (.int c1), (.int c2), (.int (0 : Int32)), (.int (0 : Int32)), (.int (0 : Int32)), (.int (0 : Int32))] (.int (0 : Int32)) := V_b
  refine oSt (fun _ => XS.dup A.here hx rfl (Jvm.hb hby d_m6_229) rfl rfl) ?_
  show oGo p e below _ (T.setTop (mkF m 230 #[.val (.int n), .val (.int c0), .val (.int c1), .val (.int c2), .val (.int c3), .val (.int c4), .val (.int c5), .val (.int c6), .val (.int c7), .val (.int c8)] [(.ref b), (.ref b), (.ref x), (.ref x)]))
  refine oSt (fun _ => XS.iconst A.here hx rfl (Jvm.hb hby d_m6_230)) ?_
  show oGo p e below _ (T.setTop (mkF m 231 #[.val (.int n), .val (.int c0), .val (.int c1), .val (.int c2), .val (.int c3), .val (.int c4), .val (.int c5), .val (.int c6), .val (.int c7), .val (.int c8)] [(.int (3 : Int32)), (.ref b), (.ref b), (.ref x), (.ref x)]))
  refine oSt (fun _ => XS.iload A.here hx rfl (Jvm.hb hby d_m6_231) rfl) ?_
  show oGo p e below _ (T.setTop (mkF m 233 #[.val (.int n), .val (.int c0), .val (.int c1), .val (.int c2), .val (.int c3), .val (.int c4), .val (.int c5), .val (.int c6), .val (.int c7), .val (.int c8)] [(.int c3), (.int (3 : Int32)), (.ref b), (.ref b), (.ref x), (.ref x)]))
  obtain ⟨T, h, A, W, V_b, st⟩ := A.stC hx V_b 3 rfl ⟨by decide, by decide⟩ (by simp) n0_b (Or.inr s_b) (g := (mkF m 233 #[.val (.int n), .val (.int c0), .val (.int c1), .val (.int c2), .val (.int c3), .val (.int c4), .val (.int c5), .val (.int c6), .val (.int c7), .val (.int c8)] [(.int c3), (.int (3 : Int32)), (.ref b), (.ref b), (.ref x), (.ref x)])) rfl rfl (Jvm.hb hby d_m6_233)
  refine oSt st ?_
  show oGo p e below _ (T.setTop (mkF m 234 #[.val (.int n), .val (.int c0), .val (.int c1), .val (.int c2), .val (.int c3), .val (.int c4), .val (.int c5), .val (.int c6), .val (.int c7), .val (.int c8)] [(.ref b), (.ref x), (.ref x)]))
  have EB := oExtW EB W hEB_b
  have EC := oExtW EC W hEC_b
  rw [oNar hb3] at V_b
  have V_b : Arv Z h b k_b .char (7 : Int32) [(.int c0), (.int c1), (.int c2), (.int c3), (.int (0 : Int32)), (.int (0 : Int32)), (.int (0 : Int32))] (.int (0 : Int32)) := V_b
  refine oSt (fun _ => XS.dup A.here hx rfl (Jvm.hb hby d_m6_234) rfl rfl) ?_
  show oGo p e below _ (T.setTop (mkF m 235 #[.val (.int n), .val (.int c0), .val (.int c1), .val (.int c2), .val (.int c3), .val (.int c4), .val (.int c5), .val (.int c6), .val (.int c7), .val (.int c8)] [(.ref b), (.ref b), (.ref x), (.ref x)]))
  refine oSt (fun _ => XS.iconst A.here hx rfl (Jvm.hb hby d_m6_235)) ?_
  show oGo p e below _ (T.setTop (mkF m 236 #[.val (.int n), .val (.int c0), .val (.int c1), .val (.int c2), .val (.int c3), .val (.int c4), .val (.int c5), .val (.int c6), .val (.int c7), .val (.int c8)] [(.int (4 : Int32)), (.ref b), (.ref b), (.ref x), (.ref x)]))
  refine oSt (fun _ => XS.iload A.here hx rfl (Jvm.hb hby d_m6_236) rfl) ?_
  show oGo p e below _ (T.setTop (mkF m 238 #[.val (.int n), .val (.int c0), .val (.int c1), .val (.int c2), .val (.int c3), .val (.int c4), .val (.int c5), .val (.int c6), .val (.int c7), .val (.int c8)] [(.int c4), (.int (4 : Int32)), (.ref b), (.ref b), (.ref x), (.ref x)]))
  obtain ⟨T, h, A, W, V_b, st⟩ := A.stC hx V_b 4 rfl ⟨by decide, by decide⟩ (by simp) n0_b (Or.inr s_b) (g := (mkF m 238 #[.val (.int n), .val (.int c0), .val (.int c1), .val (.int c2), .val (.int c3), .val (.int c4), .val (.int c5), .val (.int c6), .val (.int c7), .val (.int c8)] [(.int c4), (.int (4 : Int32)), (.ref b), (.ref b), (.ref x), (.ref x)])) rfl rfl (Jvm.hb hby d_m6_238)
  refine oSt st ?_
  show oGo p e below _ (T.setTop (mkF m 239 #[.val (.int n), .val (.int c0), .val (.int c1), .val (.int c2), .val (.int c3), .val (.int c4), .val (.int c5), .val (.int c6), .val (.int c7), .val (.int c8)] [(.ref b), (.ref x), (.ref x)]))
  have EB := oExtW EB W hEB_b
  have EC := oExtW EC W hEC_b
  rw [oNar hb4] at V_b
  have V_b : Arv Z h b k_b .char (7 : Int32) [(.int c0), (.int c1), (.int c2), (.int c3), (.int c4), (.int (0 : Int32)), (.int (0 : Int32))] (.int (0 : Int32)) := V_b
  refine oSt (fun _ => XS.dup A.here hx rfl (Jvm.hb hby d_m6_239) rfl rfl) ?_
  show oGo p e below _ (T.setTop (mkF m 240 #[.val (.int n), .val (.int c0), .val (.int c1), .val (.int c2), .val (.int c3), .val (.int c4), .val (.int c5), .val (.int c6), .val (.int c7), .val (.int c8)] [(.ref b), (.ref b), (.ref x), (.ref x)]))
  refine oSt (fun _ => XS.iconst A.here hx rfl (Jvm.hb hby d_m6_240)) ?_
  show oGo p e below _ (T.setTop (mkF m 241 #[.val (.int n), .val (.int c0), .val (.int c1), .val (.int c2), .val (.int c3), .val (.int c4), .val (.int c5), .val (.int c6), .val (.int c7), .val (.int c8)] [(.int (5 : Int32)), (.ref b), (.ref b), (.ref x), (.ref x)]))
  refine oSt (fun _ => XS.iload A.here hx rfl (Jvm.hb hby d_m6_241) rfl) ?_
  show oGo p e below _ (T.setTop (mkF m 243 #[.val (.int n), .val (.int c0), .val (.int c1), .val (.int c2), .val (.int c3), .val (.int c4), .val (.int c5), .val (.int c6), .val (.int c7), .val (.int c8)] [(.int c5), (.int (5 : Int32)), (.ref b), (.ref b), (.ref x), (.ref x)]))
  obtain ⟨T, h, A, W, V_b, st⟩ := A.stC hx V_b 5 rfl ⟨by decide, by decide⟩ (by simp) n0_b (Or.inr s_b) (g := (mkF m 243 #[.val (.int n), .val (.int c0), .val (.int c1), .val (.int c2), .val (.int c3), .val (.int c4), .val (.int c5), .val (.int c6), .val (.int c7), .val (.int c8)] [(.int c5), (.int (5 : Int32)), (.ref b), (.ref b), (.ref x), (.ref x)])) rfl rfl (Jvm.hb hby d_m6_243)
  refine oSt st ?_
  show oGo p e below _ (T.setTop (mkF m 244 #[.val (.int n), .val (.int c0), .val (.int c1), .val (.int c2), .val (.int c3), .val (.int c4), .val (.int c5), .val (.int c6), .val (.int c7), .val (.int c8)] [(.ref b), (.ref x), (.ref x)]))
  have EB := oExtW EB W hEB_b
  have EC := oExtW EC W hEC_b
  rw [oNar hb5] at V_b
  have V_b : Arv Z h b k_b .char (7 : Int32) [(.int c0), (.int c1), (.int c2), (.int c3), (.int c4), (.int c5), (.int (0 : Int32))] (.int (0 : Int32)) := V_b
  refine oSt (fun _ => XS.dup A.here hx rfl (Jvm.hb hby d_m6_244) rfl rfl) ?_
  show oGo p e below _ (T.setTop (mkF m 245 #[.val (.int n), .val (.int c0), .val (.int c1), .val (.int c2), .val (.int c3), .val (.int c4), .val (.int c5), .val (.int c6), .val (.int c7), .val (.int c8)] [(.ref b), (.ref b), (.ref x), (.ref x)]))
  refine oSt (fun _ => XS.bipush A.here hx rfl (Jvm.hb hby d_m6_245)) ?_
  show oGo p e below _ (T.setTop (mkF m 247 #[.val (.int n), .val (.int c0), .val (.int c1), .val (.int c2), .val (.int c3), .val (.int c4), .val (.int c5), .val (.int c6), .val (.int c7), .val (.int c8)] [(.int (6 : Int32)), (.ref b), (.ref b), (.ref x), (.ref x)]))
  refine oSt (fun _ => XS.iload A.here hx rfl (Jvm.hb hby d_m6_247) rfl) ?_
  show oGo p e below _ (T.setTop (mkF m 249 #[.val (.int n), .val (.int c0), .val (.int c1), .val (.int c2), .val (.int c3), .val (.int c4), .val (.int c5), .val (.int c6), .val (.int c7), .val (.int c8)] [(.int c6), (.int (6 : Int32)), (.ref b), (.ref b), (.ref x), (.ref x)]))
  obtain ⟨T, h, A, W, V_b, st⟩ := A.stC hx V_b 6 rfl ⟨by decide, by decide⟩ (by simp) n0_b (Or.inr s_b) (g := (mkF m 249 #[.val (.int n), .val (.int c0), .val (.int c1), .val (.int c2), .val (.int c3), .val (.int c4), .val (.int c5), .val (.int c6), .val (.int c7), .val (.int c8)] [(.int c6), (.int (6 : Int32)), (.ref b), (.ref b), (.ref x), (.ref x)])) rfl rfl (Jvm.hb hby d_m6_249)
  refine oSt st ?_
  show oGo p e below _ (T.setTop (mkF m 250 #[.val (.int n), .val (.int c0), .val (.int c1), .val (.int c2), .val (.int c3), .val (.int c4), .val (.int c5), .val (.int c6), .val (.int c7), .val (.int c8)] [(.ref b), (.ref x), (.ref x)]))
  have EB := oExtW EB W hEB_b
  have EC := oExtW EC W hEC_b
  rw [oNar hb6] at V_b
  have V_b : Arv Z h b k_b .char (7 : Int32) [(.int c0), (.int c1), (.int c2), (.int c3), (.int c4), (.int c5), (.int c6)] (.int (0 : Int32)) := V_b
  have E_x := E_x.ext EC
  have F_value_x := F_value_x.ext EC
  have F_coder_x := F_coder_x.ext EC
  have S_x := S_x.ext EC CH_x
  obtain ⟨T, h, L, A, K, Q_x, st⟩ := A.sNew hx hws (hw _ (List.mem_of_getElem? (i := 6) rfl)) (hw _ (List.mem_of_getElem? (i := 59) rfl)) (hw _ (List.mem_of_getElem? (i := 60) rfl)) (hw _ (List.mem_of_getElem? (i := 61) rfl)) E_x F_value_x F_coder_x (cs := ([c0, c1, c2, c3, c4, c5, c6] : List Int32)) V_b hcs hcz (n := 7) rfl rfl (by decide) (by decide) (oPS hb0 (oPS hb1 (oPS hb2 (oPS hb3 (oPS hb4 (oPS hb5 (oPS hb6 oP0))))))) n0_x (Or.inr s_x) S_x (W := 1) (by decide) (by decide) (by decide) (by decide) (g := (mkF m 250 #[.val (.int n), .val (.int c0), .val (.int c1), .val (.int c2), .val (.int c3), .val (.int c4), .val (.int c5), .val (.int c6), .val (.int c7), .val (.int c8)] [(.ref b), (.ref x), (.ref x)])) rfl (by rw [hml]; rfl) rfl (by show 2 * 0 + _ ≤ _; exact Nat.le_of_eq rfl) (Jvm.hb hby d_m6_250)
  refine oSt st ?_
  show oGo p e below _ (T.setTop (mkF m 253 #[.val (.int n), .val (.int c0), .val (.int c1), .val (.int c2), .val (.int c3), .val (.int c4), .val (.int c5), .val (.int c6), .val (.int c7), .val (.int c8)] [(.ref x)]))
  have EB := oExtK EB K (oIn1 hEB_x)
  exact A.leave hlk hEL (v := some (.ref x)) (fun h => by rw [hret] at h; cases h) (fun _ _ => ⟨x, _, rfl, Q_x⟩) (by decide) (by decide) (fun fs hr => retOut A.1 hx hret rfl (Or.inr (Or.inr (Or.inr (Or.inr ⟨rfl, rfl, rfl⟩)))) (Jvm.hb hby d_m6_253) hr)
theorem opn_own_make8 : plainFor (⟨"com/example/applicator/applicator/DialectLabelledPinLaw", "make", "(ICCCCCCCCC)Ljava/lang/String;"⟩ : MethodName) = true := plainFor_of_name (by first | (simp [plainName, overriddenIn]; done) | decide +kernel)
set_option maxRecDepth 65536 in
set_option maxHeartbeats 40000000 in
theorem own_make8 (l : Launch) (Z : State) (a0 : Array Value) (hw : ∀ d ∈ tables_1, d.before a0 Z = true) (hEL : EW Z a0 consts_1) (n0 : Nat) (h : Heap) (hO : Old Z n0 h) (n c0 c1 c2 c3 c4 c5 c6 c7 c8 : Int32) (zc : Int32) (hcs : Sta Z Z.heap "java/lang/String" "COMPACT_STRINGS" "Z" (.int zc)) (hcz : ¬ zc = 0) (hb0 : own_B c0) (hb1 : own_B c1) (hb2 : own_B c2) (hb3 : own_B c3) (hb4 : own_B c4) (hb5 : own_B c5) (hb6 : own_B c6) (hb7 : own_B c7) (hb8 : own_B c8) (g0 : ¬ n = 0) (g1 : ¬ n = 1) (g2 : ¬ n = 2) (g3 : ¬ n = 3) (g4 : ¬ n = 4) (g5 : ¬ n = 5) (g6 : ¬ n = 6) (g7 : ¬ n = 7) (g8 : n = 8) :
    oMet l Z consts_1 n0 (⟨"com/example/applicator/applicator/DialectLabelledPinLaw", "make", "(ICCCCCCCCC)Ljava/lang/String;"⟩ : MethodName) method_6_code 10 (some (.object "java/lang/String")) [] ({ frames := 4, cells := 4, slots := 22, locals := 66 } : Room) #[(.int n), (.int c0), (.int c1), (.int c2), (.int c3), (.int c4), (.int c5), (.int c6), (.int c7), (.int c8)] h [] (fun v _ h => ∃ x cs, v = some (.ref x) ∧ oStr Z h x cs) := by
  refine oMet.of opn_own_make8 hO ?_
  intro p e s m below meth c T hx hby hml hret hnm hlk hh hsf A
  have hml : c.maxLocals = 10 := hml
  refine oCast (g' := mkF m 0 #[.val (.int n), .val (.int c0), .val (.int c1), .val (.int c2), .val (.int c3), .val (.int c4), .val (.int c5), .val (.int c6), .val (.int c7), .val (.int c8)] []) (by first | (simp [entryFrame, mkF, argsToLocals, Value.category]; done) | rfl) ?_
  have hws : ∀ d ∈ StrChars.Road.words, d.before a0 Z = true := fun d hd => hw d ((by decide +kernel : ∀ d ∈ StrChars.Road.words, d ∈ tables_1) d hd)
  show oGo p e below _ (T.setTop (mkF m 0 #[.val (.int n), .val (.int c0), .val (.int c1), .val (.int c2), .val (.int c3), .val (.int c4), .val (.int c5), .val (.int c6), .val (.int c7), .val (.int c8)] []))
  refine oSt (fun _ => XS.iloadN A.here hx rfl (Jvm.hb hby d_m6_0) rfl) ?_
  show oGo p e below _ (T.setTop (mkF m 1 #[.val (.int n), .val (.int c0), .val (.int c1), .val (.int c2), .val (.int c3), .val (.int c4), .val (.int c5), .val (.int c6), .val (.int c7), .val (.int c8)] [(.int n)]))
  refine oSt (fun _ => XS.ifYes A.here hx rfl (pc0 := 1) (pc' := 15) rfl (Jvm.hb hby d_m6_1) rfl (Jvm.Free.XT.i0_ne_t g0) (by decide) (by decide)) ?_
  show oGo p e below _ (T.setTop (mkF m 15 #[.val (.int n), .val (.int c0), .val (.int c1), .val (.int c2), .val (.int c3), .val (.int c4), .val (.int c5), .val (.int c6), .val (.int c7), .val (.int c8)] []))
  refine oSt (fun _ => XS.iloadN A.here hx rfl (Jvm.hb hby d_m6_15) rfl) ?_
  show oGo p e below _ (T.setTop (mkF m 16 #[.val (.int n), .val (.int c0), .val (.int c1), .val (.int c2), .val (.int c3), .val (.int c4), .val (.int c5), .val (.int c6), .val (.int c7), .val (.int c8)] [(.int n)]))
  refine oSt (fun _ => XS.iconst A.here hx rfl (Jvm.hb hby d_m6_16)) ?_
  show oGo p e below _ (T.setTop (mkF m 17 #[.val (.int n), .val (.int c0), .val (.int c1), .val (.int c2), .val (.int c3), .val (.int c4), .val (.int c5), .val (.int c6), .val (.int c7), .val (.int c8)] [(.int (1 : Int32)), (.int n)]))
  refine oSt (fun _ => XS.icmpYes A.here hx rfl (pc0 := 17) (pc' := 35) rfl (Jvm.hb hby d_m6_17) rfl (Jvm.Free.XT.ii_ne_t g1) (by decide) (by decide)) ?_
  show oGo p e below _ (T.setTop (mkF m 35 #[.val (.int n), .val (.int c0), .val (.int c1), .val (.int c2), .val (.int c3), .val (.int c4), .val (.int c5), .val (.int c6), .val (.int c7), .val (.int c8)] []))
  refine oSt (fun _ => XS.iloadN A.here hx rfl (Jvm.hb hby d_m6_35) rfl) ?_
  show oGo p e below _ (T.setTop (mkF m 36 #[.val (.int n), .val (.int c0), .val (.int c1), .val (.int c2), .val (.int c3), .val (.int c4), .val (.int c5), .val (.int c6), .val (.int c7), .val (.int c8)] [(.int n)]))
  refine oSt (fun _ => XS.iconst A.here hx rfl (Jvm.hb hby d_m6_36)) ?_
  show oGo p e below _ (T.setTop (mkF m 37 #[.val (.int n), .val (.int c0), .val (.int c1), .val (.int c2), .val (.int c3), .val (.int c4), .val (.int c5), .val (.int c6), .val (.int c7), .val (.int c8)] [(.int (2 : Int32)), (.int n)]))
  refine oSt (fun _ => XS.icmpYes A.here hx rfl (pc0 := 37) (pc' := 59) rfl (Jvm.hb hby d_m6_37) rfl (Jvm.Free.XT.ii_ne_t g2) (by decide) (by decide)) ?_
  show oGo p e below _ (T.setTop (mkF m 59 #[.val (.int n), .val (.int c0), .val (.int c1), .val (.int c2), .val (.int c3), .val (.int c4), .val (.int c5), .val (.int c6), .val (.int c7), .val (.int c8)] []))
  refine oSt (fun _ => XS.iloadN A.here hx rfl (Jvm.hb hby d_m6_59) rfl) ?_
  show oGo p e below _ (T.setTop (mkF m 60 #[.val (.int n), .val (.int c0), .val (.int c1), .val (.int c2), .val (.int c3), .val (.int c4), .val (.int c5), .val (.int c6), .val (.int c7), .val (.int c8)] [(.int n)]))
  refine oSt (fun _ => XS.iconst A.here hx rfl (Jvm.hb hby d_m6_60)) ?_
  show oGo p e below _ (T.setTop (mkF m 61 #[.val (.int n), .val (.int c0), .val (.int c1), .val (.int c2), .val (.int c3), .val (.int c4), .val (.int c5), .val (.int c6), .val (.int c7), .val (.int c8)] [(.int (3 : Int32)), (.int n)]))
  refine oSt (fun _ => XS.icmpYes A.here hx rfl (pc0 := 61) (pc' := 87) rfl (Jvm.hb hby d_m6_61) rfl (Jvm.Free.XT.ii_ne_t g3) (by decide) (by decide)) ?_
  show oGo p e below _ (T.setTop (mkF m 87 #[.val (.int n), .val (.int c0), .val (.int c1), .val (.int c2), .val (.int c3), .val (.int c4), .val (.int c5), .val (.int c6), .val (.int c7), .val (.int c8)] []))
  refine oSt (fun _ => XS.iloadN A.here hx rfl (Jvm.hb hby d_m6_87) rfl) ?_
  show oGo p e below _ (T.setTop (mkF m 88 #[.val (.int n), .val (.int c0), .val (.int c1), .val (.int c2), .val (.int c3), .val (.int c4), .val (.int c5), .val (.int c6), .val (.int c7), .val (.int c8)] [(.int n)]))
  refine oSt (fun _ => XS.iconst A.here hx rfl (Jvm.hb hby d_m6_88)) ?_
  show oGo p e below _ (T.setTop (mkF m 89 #[.val (.int n), .val (.int c0), .val (.int c1), .val (.int c2), .val (.int c3), .val (.int c4), .val (.int c5), .val (.int c6), .val (.int c7), .val (.int c8)] [(.int (4 : Int32)), (.int n)]))
  refine oSt (fun _ => XS.icmpYes A.here hx rfl (pc0 := 89) (pc' := 120) rfl (Jvm.hb hby d_m6_89) rfl (Jvm.Free.XT.ii_ne_t g4) (by decide) (by decide)) ?_
  show oGo p e below _ (T.setTop (mkF m 120 #[.val (.int n), .val (.int c0), .val (.int c1), .val (.int c2), .val (.int c3), .val (.int c4), .val (.int c5), .val (.int c6), .val (.int c7), .val (.int c8)] []))
  refine oSt (fun _ => XS.iloadN A.here hx rfl (Jvm.hb hby d_m6_120) rfl) ?_
  show oGo p e below _ (T.setTop (mkF m 121 #[.val (.int n), .val (.int c0), .val (.int c1), .val (.int c2), .val (.int c3), .val (.int c4), .val (.int c5), .val (.int c6), .val (.int c7), .val (.int c8)] [(.int n)]))
  refine oSt (fun _ => XS.iconst A.here hx rfl (Jvm.hb hby d_m6_121)) ?_
  show oGo p e below _ (T.setTop (mkF m 122 #[.val (.int n), .val (.int c0), .val (.int c1), .val (.int c2), .val (.int c3), .val (.int c4), .val (.int c5), .val (.int c6), .val (.int c7), .val (.int c8)] [(.int (5 : Int32)), (.int n)]))
  refine oSt (fun _ => XS.icmpYes A.here hx rfl (pc0 := 122) (pc' := 158) rfl (Jvm.hb hby d_m6_122) rfl (Jvm.Free.XT.ii_ne_t g5) (by decide) (by decide)) ?_
  show oGo p e below _ (T.setTop (mkF m 158 #[.val (.int n), .val (.int c0), .val (.int c1), .val (.int c2), .val (.int c3), .val (.int c4), .val (.int c5), .val (.int c6), .val (.int c7), .val (.int c8)] []))
  refine oSt (fun _ => XS.iloadN A.here hx rfl (Jvm.hb hby d_m6_158) rfl) ?_
  show oGo p e below _ (T.setTop (mkF m 159 #[.val (.int n), .val (.int c0), .val (.int c1), .val (.int c2), .val (.int c3), .val (.int c4), .val (.int c5), .val (.int c6), .val (.int c7), .val (.int c8)] [(.int n)]))
  refine oSt (fun _ => XS.bipush A.here hx rfl (Jvm.hb hby d_m6_159)) ?_
  show oGo p e below _ (T.setTop (mkF m 161 #[.val (.int n), .val (.int c0), .val (.int c1), .val (.int c2), .val (.int c3), .val (.int c4), .val (.int c5), .val (.int c6), .val (.int c7), .val (.int c8)] [(.int (6 : Int32)), (.int n)]))
  refine oSt (fun _ => XS.icmpYes A.here hx rfl (pc0 := 161) (pc' := 203) rfl (Jvm.hb hby d_m6_161) rfl (Jvm.Free.XT.ii_ne_t g6) (by decide) (by decide)) ?_
  show oGo p e below _ (T.setTop (mkF m 203 #[.val (.int n), .val (.int c0), .val (.int c1), .val (.int c2), .val (.int c3), .val (.int c4), .val (.int c5), .val (.int c6), .val (.int c7), .val (.int c8)] []))
  refine oSt (fun _ => XS.iloadN A.here hx rfl (Jvm.hb hby d_m6_203) rfl) ?_
  show oGo p e below _ (T.setTop (mkF m 204 #[.val (.int n), .val (.int c0), .val (.int c1), .val (.int c2), .val (.int c3), .val (.int c4), .val (.int c5), .val (.int c6), .val (.int c7), .val (.int c8)] [(.int n)]))
  refine oSt (fun _ => XS.bipush A.here hx rfl (Jvm.hb hby d_m6_204)) ?_
  show oGo p e below _ (T.setTop (mkF m 206 #[.val (.int n), .val (.int c0), .val (.int c1), .val (.int c2), .val (.int c3), .val (.int c4), .val (.int c5), .val (.int c6), .val (.int c7), .val (.int c8)] [(.int (7 : Int32)), (.int n)]))
  refine oSt (fun _ => XS.icmpYes A.here hx rfl (pc0 := 206) (pc' := 254) rfl (Jvm.hb hby d_m6_206) rfl (Jvm.Free.XT.ii_ne_t g7) (by decide) (by decide)) ?_
  show oGo p e below _ (T.setTop (mkF m 254 #[.val (.int n), .val (.int c0), .val (.int c1), .val (.int c2), .val (.int c3), .val (.int c4), .val (.int c5), .val (.int c6), .val (.int c7), .val (.int c8)] []))
  refine oSt (fun _ => XS.iloadN A.here hx rfl (Jvm.hb hby d_m6_254) rfl) ?_
  show oGo p e below _ (T.setTop (mkF m 255 #[.val (.int n), .val (.int c0), .val (.int c1), .val (.int c2), .val (.int c3), .val (.int c4), .val (.int c5), .val (.int c6), .val (.int c7), .val (.int c8)] [(.int n)]))
  refine oSt (fun _ => XS.bipush A.here hx rfl (Jvm.hb hby d_m6_255)) ?_
  show oGo p e below _ (T.setTop (mkF m 257 #[.val (.int n), .val (.int c0), .val (.int c1), .val (.int c2), .val (.int c3), .val (.int c4), .val (.int c5), .val (.int c6), .val (.int c7), .val (.int c8)] [(.int (8 : Int32)), (.int n)]))
  refine oSt (fun _ => XS.icmpNo A.here hx rfl (Jvm.hb hby d_m6_257) rfl (Jvm.Free.XT.ii_ne_f g8)) ?_
  show oGo p e below _ (T.setTop (mkF m 260 #[.val (.int n), .val (.int c0), .val (.int c1), .val (.int c2), .val (.int c3), .val (.int c4), .val (.int c5), .val (.int c6), .val (.int c7), .val (.int c8)] []))
  have EB := oExtR h
  obtain ⟨T, h, x, g_x, lt_x, n0_x, s_x, A, E, E_x, S_x, D_x, st⟩ := A.newO hx (hw _ (List.mem_of_getElem? (i := 57) rfl)) (hw _ (List.mem_of_getElem? (i := 6) rfl)) (hw _ (List.mem_of_getElem? (i := 5) rfl)) (g := (mkF m 260 #[.val (.int n), .val (.int c0), .val (.int c1), .val (.int c2), .val (.int c3), .val (.int c4), .val (.int c5), .val (.int c6), .val (.int c7), .val (.int c8)] [])) rfl (Jvm.hb hby d_m6_260) (by decide) (by decide)
  refine oSt st ?_
  show oGo p e below _ (T.setTop (mkF m 263 #[.val (.int n), .val (.int c0), .val (.int c1), .val (.int c2), .val (.int c3), .val (.int c4), .val (.int c5), .val (.int c6), .val (.int c7), .val (.int c8)] [(.ref x)]))
  have hEB_x := Nat.le_trans EB.1 (Nat.le_of_eq g_x.symm)
  have EB := oExtT EB E
  have F_value_x : Fld Z h x "java/lang/String" "value" "[B" .null := D_x (Or.inr (hw _ (List.mem_of_getElem? (i := 8) rfl))) (ty := (.array .byte)) (by decide)
  have F_coder_x : Fld Z h x "java/lang/String" "coder" "B" (.int (0 : Int32)) := D_x (Or.inr (hw _ (List.mem_of_getElem? (i := 9) rfl))) (ty := .byte) (by decide)
  refine oSt (fun _ => XS.dup A.here hx rfl (Jvm.hb hby d_m6_263) rfl rfl) ?_
  show oGo p e below _ (T.setTop (mkF m 264 #[.val (.int n), .val (.int c0), .val (.int c1), .val (.int c2), .val (.int c3), .val (.int c4), .val (.int c5), .val (.int c6), .val (.int c7), .val (.int c8)] [(.ref x), (.ref x)]))
  refine oSt (fun _ => XS.bipush A.here hx rfl (Jvm.hb hby d_m6_264)) ?_
  show oGo p e below _ (T.setTop (mkF m 266 #[.val (.int n), .val (.int c0), .val (.int c1), .val (.int c2), .val (.int c3), .val (.int c4), .val (.int c5), .val (.int c6), .val (.int c7), .val (.int c8)] [(.int (8 : Int32)), (.ref x), (.ref x)]))
  have CH_x := A.ch
  have EC := oExtR h
  obtain ⟨T, h, b, k_b, g_b, lt_b, n0_b, s_b, A, E, V_b, S_b, st⟩ := A.newP hx (hw _ (List.mem_of_getElem? (i := 58) rfl)) (g := (mkF m 266 #[.val (.int n), .val (.int c0), .val (.int c1), .val (.int c2), .val (.int c3), .val (.int c4), .val (.int c5), .val (.int c6), .val (.int c7), .val (.int c8)] [(.int (8 : Int32)), (.ref x), (.ref x)])) rfl (Jvm.hb hby d_m6_266) rfl (by decide) (cap := 8) (by decide) (by decide) (by decide) (by decide)
  refine oSt st ?_
  show oGo p e below _ (T.setTop (mkF m 268 #[.val (.int n), .val (.int c0), .val (.int c1), .val (.int c2), .val (.int c3), .val (.int c4), .val (.int c5), .val (.int c6), .val (.int c7), .val (.int c8)] [(.ref b), (.ref x), (.ref x)]))
  have hEB_b := Nat.le_trans EB.1 (Nat.le_of_eq g_b.symm)
  have EB := oExtT EB E
  have hEC_b := Nat.le_trans EC.1 (Nat.le_of_eq g_b.symm)
  have EC := oExtT EC E
  have V_b : Arv Z h b k_b .char (8 : Int32) [(.int (0 : Int32)), (.int (0 : Int32)), (.int (0 : Int32)), (.int (0 : Int32)), (.int (0 : Int32)), (.int (0 : Int32)), (.int (0 : Int32)), (.int (0 : Int32))] (.int (0 : Int32)) := V_b.pad (pad_rep [] (.int (0 : Int32)) 8)
  refine oSt (fun _ => XS.dup A.here hx rfl (Jvm.hb hby d_m6_268) rfl rfl) ?_
  show oGo p e below _ (T.setTop (mkF m 269 #[.val (.int n), .val (.int c0), .val (.int c1), .val (.int c2), .val (.int c3), .val (.int c4), .val (.int c5), .val (.int c6), .val (.int c7), .val (.int c8)] [(.ref b), (.ref b), (.ref x), (.ref x)]))
  refine oSt (fun _ => XS.iconst A.here hx rfl (Jvm.hb hby d_m6_269)) ?_
  show oGo p e below _ (T.setTop (mkF m 270 #[.val (.int n), .val (.int c0), .val (.int c1), .val (.int c2), .val (.int c3), .val (.int c4), .val (.int c5), .val (.int c6), .val (.int c7), .val (.int c8)] [(.int (0 : Int32)), (.ref b), (.ref b), (.ref x), (.ref x)]))
  refine oSt (fun _ => XS.iloadN A.here hx rfl (Jvm.hb hby d_m6_270) rfl) ?_
  show oGo p e below _ (T.setTop (mkF m 271 #[.val (.int n), .val (.int c0), .val (.int c1), .val (.int c2), .val (.int c3), .val (.int c4), .val (.int c5), .val (.int c6), .val (.int c7), .val (.int c8)] [(.int c0), (.int (0 : Int32)), (.ref b), (.ref b), (.ref x), (.ref x)]))
  obtain ⟨T, h, A, W, V_b, st⟩ := A.stC hx V_b 0 rfl ⟨by decide, by decide⟩ (by simp) n0_b (Or.inr s_b) (g := (mkF m 271 #[.val (.int n), .val (.int c0), .val (.int c1), .val (.int c2), .val (.int c3), .val (.int c4), .val (.int c5), .val (.int c6), .val (.int c7), .val (.int c8)] [(.int c0), (.int (0 : Int32)), (.ref b), (.ref b), (.ref x), (.ref x)])) rfl rfl (Jvm.hb hby d_m6_271)
  refine oSt st ?_
  show oGo p e below _ (T.setTop (mkF m 272 #[.val (.int n), .val (.int c0), .val (.int c1), .val (.int c2), .val (.int c3), .val (.int c4), .val (.int c5), .val (.int c6), .val (.int c7), .val (.int c8)] [(.ref b), (.ref x), (.ref x)]))
  have EB := oExtW EB W hEB_b
  have EC := oExtW EC W hEC_b
  rw [oNar hb0] at V_b
  have V_b : Arv Z h b k_b .char (8 : Int32) [(.int c0), (.int (0 : Int32)), (.int (0 : Int32)), (.int (0 : Int32)), (.int (0 : Int32)), (.int (0 : Int32)), (.int (0 : Int32)), (.int (0 : Int32))] (.int (0 : Int32)) := V_b
  refine oSt (fun _ => XS.dup A.here hx rfl (Jvm.hb hby d_m6_272) rfl rfl) ?_
  show oGo p e below _ (T.setTop (mkF m 273 #[.val (.int n), .val (.int c0), .val (.int c1), .val (.int c2), .val (.int c3), .val (.int c4), .val (.int c5), .val (.int c6), .val (.int c7), .val (.int c8)] [(.ref b), (.ref b), (.ref x), (.ref x)]))
  refine oSt (fun _ => XS.iconst A.here hx rfl (Jvm.hb hby d_m6_273)) ?_
  show oGo p e below _ (T.setTop (mkF m 274 #[.val (.int n), .val (.int c0), .val (.int c1), .val (.int c2), .val (.int c3), .val (.int c4), .val (.int c5), .val (.int c6), .val (.int c7), .val (.int c8)] [(.int (1 : Int32)), (.ref b), (.ref b), (.ref x), (.ref x)]))
  refine oSt (fun _ => XS.iloadN A.here hx rfl (Jvm.hb hby d_m6_274) rfl) ?_
  show oGo p e below _ (T.setTop (mkF m 275 #[.val (.int n), .val (.int c0), .val (.int c1), .val (.int c2), .val (.int c3), .val (.int c4), .val (.int c5), .val (.int c6), .val (.int c7), .val (.int c8)] [(.int c1), (.int (1 : Int32)), (.ref b), (.ref b), (.ref x), (.ref x)]))
  obtain ⟨T, h, A, W, V_b, st⟩ := A.stC hx V_b 1 rfl ⟨by decide, by decide⟩ (by simp) n0_b (Or.inr s_b) (g := (mkF m 275 #[.val (.int n), .val (.int c0), .val (.int c1), .val (.int c2), .val (.int c3), .val (.int c4), .val (.int c5), .val (.int c6), .val (.int c7), .val (.int c8)] [(.int c1), (.int (1 : Int32)), (.ref b), (.ref b), (.ref x), (.ref x)])) rfl rfl (Jvm.hb hby d_m6_275)
  refine oSt st ?_
  show oGo p e below _ (T.setTop (mkF m 276 #[.val (.int n), .val (.int c0), .val (.int c1), .val (.int c2), .val (.int c3), .val (.int c4), .val (.int c5), .val (.int c6), .val (.int c7), .val (.int c8)] [(.ref b), (.ref x), (.ref x)]))
  have EB := oExtW EB W hEB_b
  have EC := oExtW EC W hEC_b
  rw [oNar hb1] at V_b
  have V_b : Arv Z h b k_b .char (8 : Int32) [(.int c0), (.int c1), (.int (0 : Int32)), (.int (0 : Int32)), (.int (0 : Int32)), (.int (0 : Int32)), (.int (0 : Int32)), (.int (0 : Int32))] (.int (0 : Int32)) := V_b
  refine oSt (fun _ => XS.dup A.here hx rfl (Jvm.hb hby d_m6_276) rfl rfl) ?_
  show oGo p e below _ (T.setTop (mkF m 277 #[.val (.int n), .val (.int c0), .val (.int c1), .val (.int c2), .val (.int c3), .val (.int c4), .val (.int c5), .val (.int c6), .val (.int c7), .val (.int c8)] [(.ref b), (.ref b), (.ref x), (.ref x)]))
  refine oSt (fun _ => XS.iconst A.here hx rfl (Jvm.hb hby d_m6_277)) ?_
  show oGo p e below _ (T.setTop (mkF m 278 #[.val (.int n), .val (.int c0), .val (.int c1), .val (.int c2), .val (.int c3), .val (.int c4), .val (.int c5), .val (.int c6), .val (.int c7), .val (.int c8)] [(.int (2 : Int32)), (.ref b), (.ref b), (.ref x), (.ref x)]))
  refine oSt (fun _ => XS.iloadN A.here hx rfl (Jvm.hb hby d_m6_278) rfl) ?_
  show oGo p e below _ (T.setTop (mkF m 279 #[.val (.int n), .val (.int c0), .val (.int c1), .val (.int c2), .val (.int c3), .val (.int c4), .val (.int c5), .val (.int c6), .val (.int c7), .val (.int c8)] [(.int c2), (.int (2 : Int32)), (.ref b), (.ref b), (.ref x), (.ref x)]))
  obtain ⟨T, h, A, W, V_b, st⟩ := A.stC hx V_b 2 rfl ⟨by decide, by decide⟩ (by simp) n0_b (Or.inr s_b) (g := (mkF m 279 #[.val (.int n), .val (.int c0), .val (.int c1), .val (.int c2), .val (.int c3), .val (.int c4), .val (.int c5), .val (.int c6), .val (.int c7), .val (.int c8)] [(.int c2), (.int (2 : Int32)), (.ref b), (.ref b), (.ref x), (.ref x)])) rfl rfl (Jvm.hb hby d_m6_279)
  refine oSt st ?_
  show oGo p e below _ (T.setTop (mkF m 280 #[.val (.int n), .val (.int c0), .val (.int c1), .val (.int c2), .val (.int c3), .val (.int c4), .val (.int c5), .val (.int c6), .val (.int c7), .val (.int c8)] [(.ref b), (.ref x), (.ref x)]))
  have EB := oExtW EB W hEB_b
  have EC := oExtW EC W hEC_b
  rw [oNar hb2] at V_b
  have V_b : Arv Z h b k_b .char (8 : Int32) [(.int c0), (.int c1), (.int c2), (.int (0 : Int32)), (.int (0 : Int32)), (.int (0 : Int32)), (.int (0 : Int32)), (.int (0 : Int32))] (.int (0 : Int32)) := V_b
  refine oSt (fun _ => XS.dup A.here hx rfl (Jvm.hb hby d_m6_280) rfl rfl) ?_
  show oGo p e below _ (T.setTop (mkF m 281 #[.val (.int n), .val (.int c0), .val (.int c1), .val (.int c2), .val (.int c3), .val (.int c4), .val (.int c5), .val (.int c6), .val (.int c7), .val (.int c8)] [(.ref b), (.ref b), (.ref x), (.ref x)]))
  refine oSt (fun _ => XS.iconst A.here hx rfl (Jvm.hb hby d_m6_281)) ?_
  show oGo p e below _ (T.setTop (mkF m 282 #[.val (.int n), .val (.int c0), .val (.int c1), .val (.int c2), .val (.int c3), .val (.int c4), .val (.int c5), .val (.int c6), .val (.int c7), .val (.int c8)] [(.int (3 : Int32)), (.ref b), (.ref b), (.ref x), (.ref x)]))
  refine oSt (fun _ => XS.iload A.here hx rfl (Jvm.hb hby d_m6_282) rfl) ?_
  show oGo p e below _ (T.setTop (mkF m 284 #[.val (.int n), .val (.int c0), .val (.int c1), .val (.int c2), .val (.int c3), .val (.int c4), .val (.int c5), .val (.int c6), .val (.int c7), .val (.int c8)] [(.int c3), (.int (3 : Int32)), (.ref b), (.ref b), (.ref x), (.ref x)]))
  obtain ⟨T, h, A, W, V_b, st⟩ := A.stC hx V_b 3 rfl ⟨by decide, by decide⟩ (by simp) n0_b (Or.inr s_b) (g := (mkF m 284 #[.val (.int n), .val (.int c0), .val (.int c1), .val (.int c2), .val (.int c3), .val (.int c4), .val (.int c5), .val (.int c6), .val (.int c7), .val (.int c8)] [(.int c3), (.int (3 : Int32)), (.ref b), (.ref b), (.ref x), (.ref x)])) rfl rfl (Jvm.hb hby d_m6_284)
  refine oSt st ?_
  show oGo p e below _ (T.setTop (mkF m 285 #[.val (.int n), .val (.int c0), .val (.int c1), .val (.int c2), .val (.int c3), .val (.int c4), .val (.int c5), .val (.int c6), .val (.int c7), .val (.int c8)] [(.ref b), (.ref x), (.ref x)]))
  have EB := oExtW EB W hEB_b
  have EC := oExtW EC W hEC_b
  rw [oNar hb3] at V_b
  have V_b : Arv Z h b k_b .char (8 : Int32) [(.int c0), (.int c1), (.int c2), (.int c3), (.int (0 : Int32)), (.int (0 : Int32)), (.int (0 : Int32)), (.int (0 : Int32))] (.int (0 : Int32)) := V_b
  refine oSt (fun _ => XS.dup A.here hx rfl (Jvm.hb hby d_m6_285) rfl rfl) ?_
  show oGo p e below _ (T.setTop (mkF m 286 #[.val (.int n), .val (.int c0), .val (.int c1), .val (.int c2), .val (.int c3), .val (.int c4), .val (.int c5), .val (.int c6), .val (.int c7), .val (.int c8)] [(.ref b), (.ref b), (.ref x), (.ref x)]))
  refine oSt (fun _ => XS.iconst A.here hx rfl (Jvm.hb hby d_m6_286)) ?_
  show oGo p e below _ (T.setTop (mkF m 287 #[.val (.int n), .val (.int c0), .val (.int c1), .val (.int c2), .val (.int c3), .val (.int c4), .val (.int c5), .val (.int c6), .val (.int c7), .val (.int c8)] [(.int (4 : Int32)), (.ref b), (.ref b), (.ref x), (.ref x)]))
  refine oSt (fun _ => XS.iload A.here hx rfl (Jvm.hb hby d_m6_287) rfl) ?_
  show oGo p e below _ (T.setTop (mkF m 289 #[.val (.int n), .val (.int c0), .val (.int c1), .val (.int c2), .val (.int c3), .val (.int c4), .val (.int c5), .val (.int c6), .val (.int c7), .val (.int c8)] [(.int c4), (.int (4 : Int32)), (.ref b), (.ref b), (.ref x), (.ref x)]))
  obtain ⟨T, h, A, W, V_b, st⟩ := A.stC hx V_b 4 rfl ⟨by decide, by decide⟩ (by simp) n0_b (Or.inr s_b) (g := (mkF m 289 #[.val (.int n), .val (.int c0), .val (.int c1), .val (.int c2), .val (.int c3), .val (.int c4), .val (.int c5), .val (.int c6), .val (.int c7), .val (.int c8)] [(.int c4), (.int (4 : Int32)), (.ref b), (.ref b), (.ref x), (.ref x)])) rfl rfl (Jvm.hb hby d_m6_289)
  refine oSt st ?_
  show oGo p e below _ (T.setTop (mkF m 290 #[.val (.int n), .val (.int c0), .val (.int c1), .val (.int c2), .val (.int c3), .val (.int c4), .val (.int c5), .val (.int c6), .val (.int c7), .val (.int c8)] [(.ref b), (.ref x), (.ref x)]))
  have EB := oExtW EB W hEB_b
  have EC := oExtW EC W hEC_b
  rw [oNar hb4] at V_b
  have V_b : Arv Z h b k_b .char (8 : Int32) [(.int c0), (.int c1), (.int c2), (.int c3), (.int c4), (.int (0 : Int32)), (.int (0 : Int32)), (.int (0 : Int32))] (.int (0 : Int32)) := V_b
  refine oSt (fun _ => XS.dup A.here hx rfl (Jvm.hb hby d_m6_290) rfl rfl) ?_
  show oGo p e below _ (T.setTop (mkF m 291 #[.val (.int n), .val (.int c0), .val (.int c1), .val (.int c2), .val (.int c3), .val (.int c4), .val (.int c5), .val (.int c6), .val (.int c7), .val (.int c8)] [(.ref b), (.ref b), (.ref x), (.ref x)]))
  refine oSt (fun _ => XS.iconst A.here hx rfl (Jvm.hb hby d_m6_291)) ?_
  show oGo p e below _ (T.setTop (mkF m 292 #[.val (.int n), .val (.int c0), .val (.int c1), .val (.int c2), .val (.int c3), .val (.int c4), .val (.int c5), .val (.int c6), .val (.int c7), .val (.int c8)] [(.int (5 : Int32)), (.ref b), (.ref b), (.ref x), (.ref x)]))
  refine oSt (fun _ => XS.iload A.here hx rfl (Jvm.hb hby d_m6_292) rfl) ?_
  show oGo p e below _ (T.setTop (mkF m 294 #[.val (.int n), .val (.int c0), .val (.int c1), .val (.int c2), .val (.int c3), .val (.int c4), .val (.int c5), .val (.int c6), .val (.int c7), .val (.int c8)] [(.int c5), (.int (5 : Int32)), (.ref b), (.ref b), (.ref x), (.ref x)]))
  obtain ⟨T, h, A, W, V_b, st⟩ := A.stC hx V_b 5 rfl ⟨by decide, by decide⟩ (by simp) n0_b (Or.inr s_b) (g := (mkF m 294 #[.val (.int n), .val (.int c0), .val (.int c1), .val (.int c2), .val (.int c3), .val (.int c4), .val (.int c5), .val (.int c6), .val (.int c7), .val (.int c8)] [(.int c5), (.int (5 : Int32)), (.ref b), (.ref b), (.ref x), (.ref x)])) rfl rfl (Jvm.hb hby d_m6_294)
  refine oSt st ?_
  show oGo p e below _ (T.setTop (mkF m 295 #[.val (.int n), .val (.int c0), .val (.int c1), .val (.int c2), .val (.int c3), .val (.int c4), .val (.int c5), .val (.int c6), .val (.int c7), .val (.int c8)] [(.ref b), (.ref x), (.ref x)]))
  have EB := oExtW EB W hEB_b
  have EC := oExtW EC W hEC_b
  rw [oNar hb5] at V_b
  have V_b : Arv Z h b k_b .char (8 : Int32) [(.int c0), (.int c1), (.int c2), (.int c3), (.int c4), (.int c5), (.int (0 : Int32)), (.int (0 : Int32))] (.int (0 : Int32)) := V_b
  refine oSt (fun _ => XS.dup A.here hx rfl (Jvm.hb hby d_m6_295) rfl rfl) ?_
  show oGo p e below _ (T.setTop (mkF m 296 #[.val (.int n), .val (.int c0), .val (.int c1), .val (.int c2), .val (.int c3), .val (.int c4), .val (.int c5), .val (.int c6), .val (.int c7), .val (.int c8)] [(.ref b), (.ref b), (.ref x), (.ref x)]))
  refine oSt (fun _ => XS.bipush A.here hx rfl (Jvm.hb hby d_m6_296)) ?_
  show oGo p e below _ (T.setTop (mkF m 298 #[.val (.int n), .val (.int c0), .val (.int c1), .val (.int c2), .val (.int c3), .val (.int c4), .val (.int c5), .val (.int c6), .val (.int c7), .val (.int c8)] [(.int (6 : Int32)), (.ref b), (.ref b), (.ref x), (.ref x)]))
  refine oSt (fun _ => XS.iload A.here hx rfl (Jvm.hb hby d_m6_298) rfl) ?_
  show oGo p e below _ (T.setTop (mkF m 300 #[.val (.int n), .val (.int c0), .val (.int c1), .val (.int c2), .val (.int c3), .val (.int c4), .val (.int c5), .val (.int c6), .val (.int c7), .val (.int c8)] [(.int c6), (.int (6 : Int32)), (.ref b), (.ref b), (.ref x), (.ref x)]))
  obtain ⟨T, h, A, W, V_b, st⟩ := A.stC hx V_b 6 rfl ⟨by decide, by decide⟩ (by simp) n0_b (Or.inr s_b) (g := (mkF m 300 #[.val (.int n), .val (.int c0), .val (.int c1), .val (.int c2), .val (.int c3), .val (.int c4), .val (.int c5), .val (.int c6), .val (.int c7), .val (.int c8)] [(.int c6), (.int (6 : Int32)), (.ref b), (.ref b), (.ref x), (.ref x)])) rfl rfl (Jvm.hb hby d_m6_300)
  refine oSt st ?_
  show oGo p e below _ (T.setTop (mkF m 301 #[.val (.int n), .val (.int c0), .val (.int c1), .val (.int c2), .val (.int c3), .val (.int c4), .val (.int c5), .val (.int c6), .val (.int c7), .val (.int c8)] [(.ref b), (.ref x), (.ref x)]))
  have EB := oExtW EB W hEB_b
  have EC := oExtW EC W hEC_b
  rw [oNar hb6] at V_b
  have V_b : Arv Z h b k_b .char (8 : Int32) [(.int c0), (.int c1), (.int c2), (.int c3), (.int c4), (.int c5), (.int c6), (.int (0 : Int32))] (.int (0 : Int32)) := V_b
  refine oSt (fun _ => XS.dup A.here hx rfl (Jvm.hb hby d_m6_301) rfl rfl) ?_
  show oGo p e below _ (T.setTop (mkF m 302 #[.val (.int n), .val (.int c0), .val (.int c1), .val (.int c2), .val (.int c3), .val (.int c4), .val (.int c5), .val (.int c6), .val (.int c7), .val (.int c8)] [(.ref b), (.ref b), (.ref x), (.ref x)]))
  refine oSt (fun _ => XS.bipush A.here hx rfl (Jvm.hb hby d_m6_302)) ?_
  show oGo p e below _ (T.setTop (mkF m 304 #[.val (.int n), .val (.int c0), .val (.int c1), .val (.int c2), .val (.int c3), .val (.int c4), .val (.int c5), .val (.int c6), .val (.int c7), .val (.int c8)] [(.int (7 : Int32)), (.ref b), (.ref b), (.ref x), (.ref x)]))
  refine oSt (fun _ => XS.iload A.here hx rfl (Jvm.hb hby d_m6_304) rfl) ?_
  show oGo p e below _ (T.setTop (mkF m 306 #[.val (.int n), .val (.int c0), .val (.int c1), .val (.int c2), .val (.int c3), .val (.int c4), .val (.int c5), .val (.int c6), .val (.int c7), .val (.int c8)] [(.int c7), (.int (7 : Int32)), (.ref b), (.ref b), (.ref x), (.ref x)]))
  obtain ⟨T, h, A, W, V_b, st⟩ := A.stC hx V_b 7 rfl ⟨by decide, by decide⟩ (by simp) n0_b (Or.inr s_b) (g := (mkF m 306 #[.val (.int n), .val (.int c0), .val (.int c1), .val (.int c2), .val (.int c3), .val (.int c4), .val (.int c5), .val (.int c6), .val (.int c7), .val (.int c8)] [(.int c7), (.int (7 : Int32)), (.ref b), (.ref b), (.ref x), (.ref x)])) rfl rfl (Jvm.hb hby d_m6_306)
  refine oSt st ?_
  show oGo p e below _ (T.setTop (mkF m 307 #[.val (.int n), .val (.int c0), .val (.int c1), .val (.int c2), .val (.int c3), .val (.int c4), .val (.int c5), .val (.int c6), .val (.int c7), .val (.int c8)] [(.ref b), (.ref x), (.ref x)]))
  have EB := oExtW EB W hEB_b
  have EC := oExtW EC W hEC_b
  rw [oNar hb7] at V_b
  have V_b : Arv Z h b k_b .char (8 : Int32) [(.int c0), (.int c1), (.int c2), (.int c3), (.int c4), (.int c5), (.int c6), (.int c7)] (.int (0 : Int32)) := V_b
  have E_x := E_x.ext EC
  have F_value_x := F_value_x.ext EC
  have F_coder_x := F_coder_x.ext EC
  have S_x := S_x.ext EC CH_x
  obtain ⟨T, h, L, A, K, Q_x, st⟩ := A.sNew hx hws (hw _ (List.mem_of_getElem? (i := 6) rfl)) (hw _ (List.mem_of_getElem? (i := 59) rfl)) (hw _ (List.mem_of_getElem? (i := 60) rfl)) (hw _ (List.mem_of_getElem? (i := 61) rfl)) E_x F_value_x F_coder_x (cs := ([c0, c1, c2, c3, c4, c5, c6, c7] : List Int32)) V_b hcs hcz (n := 8) rfl rfl (by decide) (by decide) (oPS hb0 (oPS hb1 (oPS hb2 (oPS hb3 (oPS hb4 (oPS hb5 (oPS hb6 (oPS hb7 oP0)))))))) n0_x (Or.inr s_x) S_x (W := 1) (by decide) (by decide) (by decide) (by decide) (g := (mkF m 307 #[.val (.int n), .val (.int c0), .val (.int c1), .val (.int c2), .val (.int c3), .val (.int c4), .val (.int c5), .val (.int c6), .val (.int c7), .val (.int c8)] [(.ref b), (.ref x), (.ref x)])) rfl (by rw [hml]; rfl) rfl (by show 2 * 0 + _ ≤ _; exact Nat.le_of_eq rfl) (Jvm.hb hby d_m6_307)
  refine oSt st ?_
  show oGo p e below _ (T.setTop (mkF m 310 #[.val (.int n), .val (.int c0), .val (.int c1), .val (.int c2), .val (.int c3), .val (.int c4), .val (.int c5), .val (.int c6), .val (.int c7), .val (.int c8)] [(.ref x)]))
  have EB := oExtK EB K (oIn1 hEB_x)
  exact A.leave hlk hEL (v := some (.ref x)) (fun h => by rw [hret] at h; cases h) (fun _ _ => ⟨x, _, rfl, Q_x⟩) (by decide) (by decide) (fun fs hr => retOut A.1 hx hret rfl (Or.inr (Or.inr (Or.inr (Or.inr ⟨rfl, rfl, rfl⟩)))) (Jvm.hb hby d_m6_310) hr)
theorem opn_own_make9 : plainFor (⟨"com/example/applicator/applicator/DialectLabelledPinLaw", "make", "(ICCCCCCCCC)Ljava/lang/String;"⟩ : MethodName) = true := plainFor_of_name (by first | (simp [plainName, overriddenIn]; done) | decide +kernel)
set_option maxRecDepth 65536 in
set_option maxHeartbeats 40000000 in
theorem own_make9 (l : Launch) (Z : State) (a0 : Array Value) (hw : ∀ d ∈ tables_1, d.before a0 Z = true) (hEL : EW Z a0 consts_1) (n0 : Nat) (h : Heap) (hO : Old Z n0 h) (n c0 c1 c2 c3 c4 c5 c6 c7 c8 : Int32) (zc : Int32) (hcs : Sta Z Z.heap "java/lang/String" "COMPACT_STRINGS" "Z" (.int zc)) (hcz : ¬ zc = 0) (hb0 : own_B c0) (hb1 : own_B c1) (hb2 : own_B c2) (hb3 : own_B c3) (hb4 : own_B c4) (hb5 : own_B c5) (hb6 : own_B c6) (hb7 : own_B c7) (hb8 : own_B c8) (g0 : ¬ n = 0) (g1 : ¬ n = 1) (g2 : ¬ n = 2) (g3 : ¬ n = 3) (g4 : ¬ n = 4) (g5 : ¬ n = 5) (g6 : ¬ n = 6) (g7 : ¬ n = 7) (g8 : ¬ n = 8) :
    oMet l Z consts_1 n0 (⟨"com/example/applicator/applicator/DialectLabelledPinLaw", "make", "(ICCCCCCCCC)Ljava/lang/String;"⟩ : MethodName) method_6_code 10 (some (.object "java/lang/String")) [] ({ frames := 4, cells := 4, slots := 22, locals := 66 } : Room) #[(.int n), (.int c0), (.int c1), (.int c2), (.int c3), (.int c4), (.int c5), (.int c6), (.int c7), (.int c8)] h [] (fun v _ h => ∃ x cs, v = some (.ref x) ∧ oStr Z h x cs) := by
  refine oMet.of opn_own_make9 hO ?_
  intro p e s m below meth c T hx hby hml hret hnm hlk hh hsf A
  have hml : c.maxLocals = 10 := hml
  refine oCast (g' := mkF m 0 #[.val (.int n), .val (.int c0), .val (.int c1), .val (.int c2), .val (.int c3), .val (.int c4), .val (.int c5), .val (.int c6), .val (.int c7), .val (.int c8)] []) (by first | (simp [entryFrame, mkF, argsToLocals, Value.category]; done) | rfl) ?_
  have hws : ∀ d ∈ StrChars.Road.words, d.before a0 Z = true := fun d hd => hw d ((by decide +kernel : ∀ d ∈ StrChars.Road.words, d ∈ tables_1) d hd)
  show oGo p e below _ (T.setTop (mkF m 0 #[.val (.int n), .val (.int c0), .val (.int c1), .val (.int c2), .val (.int c3), .val (.int c4), .val (.int c5), .val (.int c6), .val (.int c7), .val (.int c8)] []))
  refine oSt (fun _ => XS.iloadN A.here hx rfl (Jvm.hb hby d_m6_0) rfl) ?_
  show oGo p e below _ (T.setTop (mkF m 1 #[.val (.int n), .val (.int c0), .val (.int c1), .val (.int c2), .val (.int c3), .val (.int c4), .val (.int c5), .val (.int c6), .val (.int c7), .val (.int c8)] [(.int n)]))
  refine oSt (fun _ => XS.ifYes A.here hx rfl (pc0 := 1) (pc' := 15) rfl (Jvm.hb hby d_m6_1) rfl (Jvm.Free.XT.i0_ne_t g0) (by decide) (by decide)) ?_
  show oGo p e below _ (T.setTop (mkF m 15 #[.val (.int n), .val (.int c0), .val (.int c1), .val (.int c2), .val (.int c3), .val (.int c4), .val (.int c5), .val (.int c6), .val (.int c7), .val (.int c8)] []))
  refine oSt (fun _ => XS.iloadN A.here hx rfl (Jvm.hb hby d_m6_15) rfl) ?_
  show oGo p e below _ (T.setTop (mkF m 16 #[.val (.int n), .val (.int c0), .val (.int c1), .val (.int c2), .val (.int c3), .val (.int c4), .val (.int c5), .val (.int c6), .val (.int c7), .val (.int c8)] [(.int n)]))
  refine oSt (fun _ => XS.iconst A.here hx rfl (Jvm.hb hby d_m6_16)) ?_
  show oGo p e below _ (T.setTop (mkF m 17 #[.val (.int n), .val (.int c0), .val (.int c1), .val (.int c2), .val (.int c3), .val (.int c4), .val (.int c5), .val (.int c6), .val (.int c7), .val (.int c8)] [(.int (1 : Int32)), (.int n)]))
  refine oSt (fun _ => XS.icmpYes A.here hx rfl (pc0 := 17) (pc' := 35) rfl (Jvm.hb hby d_m6_17) rfl (Jvm.Free.XT.ii_ne_t g1) (by decide) (by decide)) ?_
  show oGo p e below _ (T.setTop (mkF m 35 #[.val (.int n), .val (.int c0), .val (.int c1), .val (.int c2), .val (.int c3), .val (.int c4), .val (.int c5), .val (.int c6), .val (.int c7), .val (.int c8)] []))
  refine oSt (fun _ => XS.iloadN A.here hx rfl (Jvm.hb hby d_m6_35) rfl) ?_
  show oGo p e below _ (T.setTop (mkF m 36 #[.val (.int n), .val (.int c0), .val (.int c1), .val (.int c2), .val (.int c3), .val (.int c4), .val (.int c5), .val (.int c6), .val (.int c7), .val (.int c8)] [(.int n)]))
  refine oSt (fun _ => XS.iconst A.here hx rfl (Jvm.hb hby d_m6_36)) ?_
  show oGo p e below _ (T.setTop (mkF m 37 #[.val (.int n), .val (.int c0), .val (.int c1), .val (.int c2), .val (.int c3), .val (.int c4), .val (.int c5), .val (.int c6), .val (.int c7), .val (.int c8)] [(.int (2 : Int32)), (.int n)]))
  refine oSt (fun _ => XS.icmpYes A.here hx rfl (pc0 := 37) (pc' := 59) rfl (Jvm.hb hby d_m6_37) rfl (Jvm.Free.XT.ii_ne_t g2) (by decide) (by decide)) ?_
  show oGo p e below _ (T.setTop (mkF m 59 #[.val (.int n), .val (.int c0), .val (.int c1), .val (.int c2), .val (.int c3), .val (.int c4), .val (.int c5), .val (.int c6), .val (.int c7), .val (.int c8)] []))
  refine oSt (fun _ => XS.iloadN A.here hx rfl (Jvm.hb hby d_m6_59) rfl) ?_
  show oGo p e below _ (T.setTop (mkF m 60 #[.val (.int n), .val (.int c0), .val (.int c1), .val (.int c2), .val (.int c3), .val (.int c4), .val (.int c5), .val (.int c6), .val (.int c7), .val (.int c8)] [(.int n)]))
  refine oSt (fun _ => XS.iconst A.here hx rfl (Jvm.hb hby d_m6_60)) ?_
  show oGo p e below _ (T.setTop (mkF m 61 #[.val (.int n), .val (.int c0), .val (.int c1), .val (.int c2), .val (.int c3), .val (.int c4), .val (.int c5), .val (.int c6), .val (.int c7), .val (.int c8)] [(.int (3 : Int32)), (.int n)]))
  refine oSt (fun _ => XS.icmpYes A.here hx rfl (pc0 := 61) (pc' := 87) rfl (Jvm.hb hby d_m6_61) rfl (Jvm.Free.XT.ii_ne_t g3) (by decide) (by decide)) ?_
  show oGo p e below _ (T.setTop (mkF m 87 #[.val (.int n), .val (.int c0), .val (.int c1), .val (.int c2), .val (.int c3), .val (.int c4), .val (.int c5), .val (.int c6), .val (.int c7), .val (.int c8)] []))
  refine oSt (fun _ => XS.iloadN A.here hx rfl (Jvm.hb hby d_m6_87) rfl) ?_
  show oGo p e below _ (T.setTop (mkF m 88 #[.val (.int n), .val (.int c0), .val (.int c1), .val (.int c2), .val (.int c3), .val (.int c4), .val (.int c5), .val (.int c6), .val (.int c7), .val (.int c8)] [(.int n)]))
  refine oSt (fun _ => XS.iconst A.here hx rfl (Jvm.hb hby d_m6_88)) ?_
  show oGo p e below _ (T.setTop (mkF m 89 #[.val (.int n), .val (.int c0), .val (.int c1), .val (.int c2), .val (.int c3), .val (.int c4), .val (.int c5), .val (.int c6), .val (.int c7), .val (.int c8)] [(.int (4 : Int32)), (.int n)]))
  refine oSt (fun _ => XS.icmpYes A.here hx rfl (pc0 := 89) (pc' := 120) rfl (Jvm.hb hby d_m6_89) rfl (Jvm.Free.XT.ii_ne_t g4) (by decide) (by decide)) ?_
  show oGo p e below _ (T.setTop (mkF m 120 #[.val (.int n), .val (.int c0), .val (.int c1), .val (.int c2), .val (.int c3), .val (.int c4), .val (.int c5), .val (.int c6), .val (.int c7), .val (.int c8)] []))
  refine oSt (fun _ => XS.iloadN A.here hx rfl (Jvm.hb hby d_m6_120) rfl) ?_
  show oGo p e below _ (T.setTop (mkF m 121 #[.val (.int n), .val (.int c0), .val (.int c1), .val (.int c2), .val (.int c3), .val (.int c4), .val (.int c5), .val (.int c6), .val (.int c7), .val (.int c8)] [(.int n)]))
  refine oSt (fun _ => XS.iconst A.here hx rfl (Jvm.hb hby d_m6_121)) ?_
  show oGo p e below _ (T.setTop (mkF m 122 #[.val (.int n), .val (.int c0), .val (.int c1), .val (.int c2), .val (.int c3), .val (.int c4), .val (.int c5), .val (.int c6), .val (.int c7), .val (.int c8)] [(.int (5 : Int32)), (.int n)]))
  refine oSt (fun _ => XS.icmpYes A.here hx rfl (pc0 := 122) (pc' := 158) rfl (Jvm.hb hby d_m6_122) rfl (Jvm.Free.XT.ii_ne_t g5) (by decide) (by decide)) ?_
  show oGo p e below _ (T.setTop (mkF m 158 #[.val (.int n), .val (.int c0), .val (.int c1), .val (.int c2), .val (.int c3), .val (.int c4), .val (.int c5), .val (.int c6), .val (.int c7), .val (.int c8)] []))
  refine oSt (fun _ => XS.iloadN A.here hx rfl (Jvm.hb hby d_m6_158) rfl) ?_
  show oGo p e below _ (T.setTop (mkF m 159 #[.val (.int n), .val (.int c0), .val (.int c1), .val (.int c2), .val (.int c3), .val (.int c4), .val (.int c5), .val (.int c6), .val (.int c7), .val (.int c8)] [(.int n)]))
  refine oSt (fun _ => XS.bipush A.here hx rfl (Jvm.hb hby d_m6_159)) ?_
  show oGo p e below _ (T.setTop (mkF m 161 #[.val (.int n), .val (.int c0), .val (.int c1), .val (.int c2), .val (.int c3), .val (.int c4), .val (.int c5), .val (.int c6), .val (.int c7), .val (.int c8)] [(.int (6 : Int32)), (.int n)]))
  refine oSt (fun _ => XS.icmpYes A.here hx rfl (pc0 := 161) (pc' := 203) rfl (Jvm.hb hby d_m6_161) rfl (Jvm.Free.XT.ii_ne_t g6) (by decide) (by decide)) ?_
  show oGo p e below _ (T.setTop (mkF m 203 #[.val (.int n), .val (.int c0), .val (.int c1), .val (.int c2), .val (.int c3), .val (.int c4), .val (.int c5), .val (.int c6), .val (.int c7), .val (.int c8)] []))
  refine oSt (fun _ => XS.iloadN A.here hx rfl (Jvm.hb hby d_m6_203) rfl) ?_
  show oGo p e below _ (T.setTop (mkF m 204 #[.val (.int n), .val (.int c0), .val (.int c1), .val (.int c2), .val (.int c3), .val (.int c4), .val (.int c5), .val (.int c6), .val (.int c7), .val (.int c8)] [(.int n)]))
  refine oSt (fun _ => XS.bipush A.here hx rfl (Jvm.hb hby d_m6_204)) ?_
  show oGo p e below _ (T.setTop (mkF m 206 #[.val (.int n), .val (.int c0), .val (.int c1), .val (.int c2), .val (.int c3), .val (.int c4), .val (.int c5), .val (.int c6), .val (.int c7), .val (.int c8)] [(.int (7 : Int32)), (.int n)]))
  refine oSt (fun _ => XS.icmpYes A.here hx rfl (pc0 := 206) (pc' := 254) rfl (Jvm.hb hby d_m6_206) rfl (Jvm.Free.XT.ii_ne_t g7) (by decide) (by decide)) ?_
  show oGo p e below _ (T.setTop (mkF m 254 #[.val (.int n), .val (.int c0), .val (.int c1), .val (.int c2), .val (.int c3), .val (.int c4), .val (.int c5), .val (.int c6), .val (.int c7), .val (.int c8)] []))
  refine oSt (fun _ => XS.iloadN A.here hx rfl (Jvm.hb hby d_m6_254) rfl) ?_
  show oGo p e below _ (T.setTop (mkF m 255 #[.val (.int n), .val (.int c0), .val (.int c1), .val (.int c2), .val (.int c3), .val (.int c4), .val (.int c5), .val (.int c6), .val (.int c7), .val (.int c8)] [(.int n)]))
  refine oSt (fun _ => XS.bipush A.here hx rfl (Jvm.hb hby d_m6_255)) ?_
  show oGo p e below _ (T.setTop (mkF m 257 #[.val (.int n), .val (.int c0), .val (.int c1), .val (.int c2), .val (.int c3), .val (.int c4), .val (.int c5), .val (.int c6), .val (.int c7), .val (.int c8)] [(.int (8 : Int32)), (.int n)]))
  refine oSt (fun _ => XS.icmpYes A.here hx rfl (pc0 := 257) (pc' := 311) rfl (Jvm.hb hby d_m6_257) rfl (Jvm.Free.XT.ii_ne_t g8) (by decide) (by decide)) ?_
  show oGo p e below _ (T.setTop (mkF m 311 #[.val (.int n), .val (.int c0), .val (.int c1), .val (.int c2), .val (.int c3), .val (.int c4), .val (.int c5), .val (.int c6), .val (.int c7), .val (.int c8)] []))
  have EB := oExtR h
  obtain ⟨T, h, x, g_x, lt_x, n0_x, s_x, A, E, E_x, S_x, D_x, st⟩ := A.newO hx (hw _ (List.mem_of_getElem? (i := 57) rfl)) (hw _ (List.mem_of_getElem? (i := 6) rfl)) (hw _ (List.mem_of_getElem? (i := 5) rfl)) (g := (mkF m 311 #[.val (.int n), .val (.int c0), .val (.int c1), .val (.int c2), .val (.int c3), .val (.int c4), .val (.int c5), .val (.int c6), .val (.int c7), .val (.int c8)] [])) rfl (Jvm.hb hby d_m6_311) (by decide) (by decide)
  refine oSt st ?_
  show oGo p e below _ (T.setTop (mkF m 314 #[.val (.int n), .val (.int c0), .val (.int c1), .val (.int c2), .val (.int c3), .val (.int c4), .val (.int c5), .val (.int c6), .val (.int c7), .val (.int c8)] [(.ref x)]))
  have hEB_x := Nat.le_trans EB.1 (Nat.le_of_eq g_x.symm)
  have EB := oExtT EB E
  have F_value_x : Fld Z h x "java/lang/String" "value" "[B" .null := D_x (Or.inr (hw _ (List.mem_of_getElem? (i := 8) rfl))) (ty := (.array .byte)) (by decide)
  have F_coder_x : Fld Z h x "java/lang/String" "coder" "B" (.int (0 : Int32)) := D_x (Or.inr (hw _ (List.mem_of_getElem? (i := 9) rfl))) (ty := .byte) (by decide)
  refine oSt (fun _ => XS.dup A.here hx rfl (Jvm.hb hby d_m6_314) rfl rfl) ?_
  show oGo p e below _ (T.setTop (mkF m 315 #[.val (.int n), .val (.int c0), .val (.int c1), .val (.int c2), .val (.int c3), .val (.int c4), .val (.int c5), .val (.int c6), .val (.int c7), .val (.int c8)] [(.ref x), (.ref x)]))
  refine oSt (fun _ => XS.bipush A.here hx rfl (Jvm.hb hby d_m6_315)) ?_
  show oGo p e below _ (T.setTop (mkF m 317 #[.val (.int n), .val (.int c0), .val (.int c1), .val (.int c2), .val (.int c3), .val (.int c4), .val (.int c5), .val (.int c6), .val (.int c7), .val (.int c8)] [(.int (9 : Int32)), (.ref x), (.ref x)]))
  have CH_x := A.ch
  have EC := oExtR h
  obtain ⟨T, h, b, k_b, g_b, lt_b, n0_b, s_b, A, E, V_b, S_b, st⟩ := A.newP hx (hw _ (List.mem_of_getElem? (i := 58) rfl)) (g := (mkF m 317 #[.val (.int n), .val (.int c0), .val (.int c1), .val (.int c2), .val (.int c3), .val (.int c4), .val (.int c5), .val (.int c6), .val (.int c7), .val (.int c8)] [(.int (9 : Int32)), (.ref x), (.ref x)])) rfl (Jvm.hb hby d_m6_317) rfl (by decide) (cap := 9) (by decide) (by decide) (by decide) (by decide)
  refine oSt st ?_
  show oGo p e below _ (T.setTop (mkF m 319 #[.val (.int n), .val (.int c0), .val (.int c1), .val (.int c2), .val (.int c3), .val (.int c4), .val (.int c5), .val (.int c6), .val (.int c7), .val (.int c8)] [(.ref b), (.ref x), (.ref x)]))
  have hEB_b := Nat.le_trans EB.1 (Nat.le_of_eq g_b.symm)
  have EB := oExtT EB E
  have hEC_b := Nat.le_trans EC.1 (Nat.le_of_eq g_b.symm)
  have EC := oExtT EC E
  have V_b : Arv Z h b k_b .char (9 : Int32) [(.int (0 : Int32)), (.int (0 : Int32)), (.int (0 : Int32)), (.int (0 : Int32)), (.int (0 : Int32)), (.int (0 : Int32)), (.int (0 : Int32)), (.int (0 : Int32)), (.int (0 : Int32))] (.int (0 : Int32)) := V_b.pad (pad_rep [] (.int (0 : Int32)) 9)
  refine oSt (fun _ => XS.dup A.here hx rfl (Jvm.hb hby d_m6_319) rfl rfl) ?_
  show oGo p e below _ (T.setTop (mkF m 320 #[.val (.int n), .val (.int c0), .val (.int c1), .val (.int c2), .val (.int c3), .val (.int c4), .val (.int c5), .val (.int c6), .val (.int c7), .val (.int c8)] [(.ref b), (.ref b), (.ref x), (.ref x)]))
  refine oSt (fun _ => XS.iconst A.here hx rfl (Jvm.hb hby d_m6_320)) ?_
  show oGo p e below _ (T.setTop (mkF m 321 #[.val (.int n), .val (.int c0), .val (.int c1), .val (.int c2), .val (.int c3), .val (.int c4), .val (.int c5), .val (.int c6), .val (.int c7), .val (.int c8)] [(.int (0 : Int32)), (.ref b), (.ref b), (.ref x), (.ref x)]))
  refine oSt (fun _ => XS.iloadN A.here hx rfl (Jvm.hb hby d_m6_321) rfl) ?_
  show oGo p e below _ (T.setTop (mkF m 322 #[.val (.int n), .val (.int c0), .val (.int c1), .val (.int c2), .val (.int c3), .val (.int c4), .val (.int c5), .val (.int c6), .val (.int c7), .val (.int c8)] [(.int c0), (.int (0 : Int32)), (.ref b), (.ref b), (.ref x), (.ref x)]))
  obtain ⟨T, h, A, W, V_b, st⟩ := A.stC hx V_b 0 rfl ⟨by decide, by decide⟩ (by simp) n0_b (Or.inr s_b) (g := (mkF m 322 #[.val (.int n), .val (.int c0), .val (.int c1), .val (.int c2), .val (.int c3), .val (.int c4), .val (.int c5), .val (.int c6), .val (.int c7), .val (.int c8)] [(.int c0), (.int (0 : Int32)), (.ref b), (.ref b), (.ref x), (.ref x)])) rfl rfl (Jvm.hb hby d_m6_322)
  refine oSt st ?_
  show oGo p e below _ (T.setTop (mkF m 323 #[.val (.int n), .val (.int c0), .val (.int c1), .val (.int c2), .val (.int c3), .val (.int c4), .val (.int c5), .val (.int c6), .val (.int c7), .val (.int c8)] [(.ref b), (.ref x), (.ref x)]))
  have EB := oExtW EB W hEB_b
  have EC := oExtW EC W hEC_b
  rw [oNar hb0] at V_b
  have V_b : Arv Z h b k_b .char (9 : Int32) [(.int c0), (.int (0 : Int32)), (.int (0 : Int32)), (.int (0 : Int32)), (.int (0 : Int32)), (.int (0 : Int32)), (.int (0 : Int32)), (.int (0 : Int32)), (.int (0 : Int32))] (.int (0 : Int32)) := V_b
  refine oSt (fun _ => XS.dup A.here hx rfl (Jvm.hb hby d_m6_323) rfl rfl) ?_
  show oGo p e below _ (T.setTop (mkF m 324 #[.val (.int n), .val (.int c0), .val (.int c1), .val (.int c2), .val (.int c3), .val (.int c4), .val (.int c5), .val (.int c6), .val (.int c7), .val (.int c8)] [(.ref b), (.ref b), (.ref x), (.ref x)]))
  refine oSt (fun _ => XS.iconst A.here hx rfl (Jvm.hb hby d_m6_324)) ?_
  show oGo p e below _ (T.setTop (mkF m 325 #[.val (.int n), .val (.int c0), .val (.int c1), .val (.int c2), .val (.int c3), .val (.int c4), .val (.int c5), .val (.int c6), .val (.int c7), .val (.int c8)] [(.int (1 : Int32)), (.ref b), (.ref b), (.ref x), (.ref x)]))
  refine oSt (fun _ => XS.iloadN A.here hx rfl (Jvm.hb hby d_m6_325) rfl) ?_
  show oGo p e below _ (T.setTop (mkF m 326 #[.val (.int n), .val (.int c0), .val (.int c1), .val (.int c2), .val (.int c3), .val (.int c4), .val (.int c5), .val (.int c6), .val (.int c7), .val (.int c8)] [(.int c1), (.int (1 : Int32)), (.ref b), (.ref b), (.ref x), (.ref x)]))
  obtain ⟨T, h, A, W, V_b, st⟩ := A.stC hx V_b 1 rfl ⟨by decide, by decide⟩ (by simp) n0_b (Or.inr s_b) (g := (mkF m 326 #[.val (.int n), .val (.int c0), .val (.int c1), .val (.int c2), .val (.int c3), .val (.int c4), .val (.int c5), .val (.int c6), .val (.int c7), .val (.int c8)] [(.int c1), (.int (1 : Int32)), (.ref b), (.ref b), (.ref x), (.ref x)])) rfl rfl (Jvm.hb hby d_m6_326)
  refine oSt st ?_
  show oGo p e below _ (T.setTop (mkF m 327 #[.val (.int n), .val (.int c0), .val (.int c1), .val (.int c2), .val (.int c3), .val (.int c4), .val (.int c5), .val (.int c6), .val (.int c7), .val (.int c8)] [(.ref b), (.ref x), (.ref x)]))
  have EB := oExtW EB W hEB_b
  have EC := oExtW EC W hEC_b
  rw [oNar hb1] at V_b
  have V_b : Arv Z h b k_b .char (9 : Int32) [(.int c0), (.int c1), (.int (0 : Int32)), (.int (0 : Int32)), (.int (0 : Int32)), (.int (0 : Int32)), (.int (0 : Int32)), (.int (0 : Int32)), (.int (0 : Int32))] (.int (0 : Int32)) := V_b
  refine oSt (fun _ => XS.dup A.here hx rfl (Jvm.hb hby d_m6_327) rfl rfl) ?_
  show oGo p e below _ (T.setTop (mkF m 328 #[.val (.int n), .val (.int c0), .val (.int c1), .val (.int c2), .val (.int c3), .val (.int c4), .val (.int c5), .val (.int c6), .val (.int c7), .val (.int c8)] [(.ref b), (.ref b), (.ref x), (.ref x)]))
  refine oSt (fun _ => XS.iconst A.here hx rfl (Jvm.hb hby d_m6_328)) ?_
  show oGo p e below _ (T.setTop (mkF m 329 #[.val (.int n), .val (.int c0), .val (.int c1), .val (.int c2), .val (.int c3), .val (.int c4), .val (.int c5), .val (.int c6), .val (.int c7), .val (.int c8)] [(.int (2 : Int32)), (.ref b), (.ref b), (.ref x), (.ref x)]))
  refine oSt (fun _ => XS.iloadN A.here hx rfl (Jvm.hb hby d_m6_329) rfl) ?_
  show oGo p e below _ (T.setTop (mkF m 330 #[.val (.int n), .val (.int c0), .val (.int c1), .val (.int c2), .val (.int c3), .val (.int c4), .val (.int c5), .val (.int c6), .val (.int c7), .val (.int c8)] [(.int c2), (.int (2 : Int32)), (.ref b), (.ref b), (.ref x), (.ref x)]))
  obtain ⟨T, h, A, W, V_b, st⟩ := A.stC hx V_b 2 rfl ⟨by decide, by decide⟩ (by simp) n0_b (Or.inr s_b) (g := (mkF m 330 #[.val (.int n), .val (.int c0), .val (.int c1), .val (.int c2), .val (.int c3), .val (.int c4), .val (.int c5), .val (.int c6), .val (.int c7), .val (.int c8)] [(.int c2), (.int (2 : Int32)), (.ref b), (.ref b), (.ref x), (.ref x)])) rfl rfl (Jvm.hb hby d_m6_330)
  refine oSt st ?_
  show oGo p e below _ (T.setTop (mkF m 331 #[.val (.int n), .val (.int c0), .val (.int c1), .val (.int c2), .val (.int c3), .val (.int c4), .val (.int c5), .val (.int c6), .val (.int c7), .val (.int c8)] [(.ref b), (.ref x), (.ref x)]))
  have EB := oExtW EB W hEB_b
  have EC := oExtW EC W hEC_b
  rw [oNar hb2] at V_b
  have V_b : Arv Z h b k_b .char (9 : Int32) [(.int c0), (.int c1), (.int c2), (.int (0 : Int32)), (.int (0 : Int32)), (.int (0 : Int32)), (.int (0 : Int32)), (.int (0 : Int32)), (.int (0 : Int32))] (.int (0 : Int32)) := V_b
  refine oSt (fun _ => XS.dup A.here hx rfl (Jvm.hb hby d_m6_331) rfl rfl) ?_
  show oGo p e below _ (T.setTop (mkF m 332 #[.val (.int n), .val (.int c0), .val (.int c1), .val (.int c2), .val (.int c3), .val (.int c4), .val (.int c5), .val (.int c6), .val (.int c7), .val (.int c8)] [(.ref b), (.ref b), (.ref x), (.ref x)]))
  refine oSt (fun _ => XS.iconst A.here hx rfl (Jvm.hb hby d_m6_332)) ?_
  show oGo p e below _ (T.setTop (mkF m 333 #[.val (.int n), .val (.int c0), .val (.int c1), .val (.int c2), .val (.int c3), .val (.int c4), .val (.int c5), .val (.int c6), .val (.int c7), .val (.int c8)] [(.int (3 : Int32)), (.ref b), (.ref b), (.ref x), (.ref x)]))
  refine oSt (fun _ => XS.iload A.here hx rfl (Jvm.hb hby d_m6_333) rfl) ?_
  show oGo p e below _ (T.setTop (mkF m 335 #[.val (.int n), .val (.int c0), .val (.int c1), .val (.int c2), .val (.int c3), .val (.int c4), .val (.int c5), .val (.int c6), .val (.int c7), .val (.int c8)] [(.int c3), (.int (3 : Int32)), (.ref b), (.ref b), (.ref x), (.ref x)]))
  obtain ⟨T, h, A, W, V_b, st⟩ := A.stC hx V_b 3 rfl ⟨by decide, by decide⟩ (by simp) n0_b (Or.inr s_b) (g := (mkF m 335 #[.val (.int n), .val (.int c0), .val (.int c1), .val (.int c2), .val (.int c3), .val (.int c4), .val (.int c5), .val (.int c6), .val (.int c7), .val (.int c8)] [(.int c3), (.int (3 : Int32)), (.ref b), (.ref b), (.ref x), (.ref x)])) rfl rfl (Jvm.hb hby d_m6_335)
  refine oSt st ?_
  show oGo p e below _ (T.setTop (mkF m 336 #[.val (.int n), .val (.int c0), .val (.int c1), .val (.int c2), .val (.int c3), .val (.int c4), .val (.int c5), .val (.int c6), .val (.int c7), .val (.int c8)] [(.ref b), (.ref x), (.ref x)]))
  have EB := oExtW EB W hEB_b
  have EC := oExtW EC W hEC_b
  rw [oNar hb3] at V_b
  have V_b : Arv Z h b k_b .char (9 : Int32) [(.int c0), (.int c1), (.int c2), (.int c3), (.int (0 : Int32)), (.int (0 : Int32)), (.int (0 : Int32)), (.int (0 : Int32)), (.int (0 : Int32))] (.int (0 : Int32)) := V_b
  refine oSt (fun _ => XS.dup A.here hx rfl (Jvm.hb hby d_m6_336) rfl rfl) ?_
  show oGo p e below _ (T.setTop (mkF m 337 #[.val (.int n), .val (.int c0), .val (.int c1), .val (.int c2), .val (.int c3), .val (.int c4), .val (.int c5), .val (.int c6), .val (.int c7), .val (.int c8)] [(.ref b), (.ref b), (.ref x), (.ref x)]))
  refine oSt (fun _ => XS.iconst A.here hx rfl (Jvm.hb hby d_m6_337)) ?_
  show oGo p e below _ (T.setTop (mkF m 338 #[.val (.int n), .val (.int c0), .val (.int c1), .val (.int c2), .val (.int c3), .val (.int c4), .val (.int c5), .val (.int c6), .val (.int c7), .val (.int c8)] [(.int (4 : Int32)), (.ref b), (.ref b), (.ref x), (.ref x)]))
  refine oSt (fun _ => XS.iload A.here hx rfl (Jvm.hb hby d_m6_338) rfl) ?_
  show oGo p e below _ (T.setTop (mkF m 340 #[.val (.int n), .val (.int c0), .val (.int c1), .val (.int c2), .val (.int c3), .val (.int c4), .val (.int c5), .val (.int c6), .val (.int c7), .val (.int c8)] [(.int c4), (.int (4 : Int32)), (.ref b), (.ref b), (.ref x), (.ref x)]))
  obtain ⟨T, h, A, W, V_b, st⟩ := A.stC hx V_b 4 rfl ⟨by decide, by decide⟩ (by simp) n0_b (Or.inr s_b) (g := (mkF m 340 #[.val (.int n), .val (.int c0), .val (.int c1), .val (.int c2), .val (.int c3), .val (.int c4), .val (.int c5), .val (.int c6), .val (.int c7), .val (.int c8)] [(.int c4), (.int (4 : Int32)), (.ref b), (.ref b), (.ref x), (.ref x)])) rfl rfl (Jvm.hb hby d_m6_340)
  refine oSt st ?_
  show oGo p e below _ (T.setTop (mkF m 341 #[.val (.int n), .val (.int c0), .val (.int c1), .val (.int c2), .val (.int c3), .val (.int c4), .val (.int c5), .val (.int c6), .val (.int c7), .val (.int c8)] [(.ref b), (.ref x), (.ref x)]))
  have EB := oExtW EB W hEB_b
  have EC := oExtW EC W hEC_b
  rw [oNar hb4] at V_b
  have V_b : Arv Z h b k_b .char (9 : Int32) [(.int c0), (.int c1), (.int c2), (.int c3), (.int c4), (.int (0 : Int32)), (.int (0 : Int32)), (.int (0 : Int32)), (.int (0 : Int32))] (.int (0 : Int32)) := V_b
  refine oSt (fun _ => XS.dup A.here hx rfl (Jvm.hb hby d_m6_341) rfl rfl) ?_
  show oGo p e below _ (T.setTop (mkF m 342 #[.val (.int n), .val (.int c0), .val (.int c1), .val (.int c2), .val (.int c3), .val (.int c4), .val (.int c5), .val (.int c6), .val (.int c7), .val (.int c8)] [(.ref b), (.ref b), (.ref x), (.ref x)]))
  refine oSt (fun _ => XS.iconst A.here hx rfl (Jvm.hb hby d_m6_342)) ?_
  show oGo p e below _ (T.setTop (mkF m 343 #[.val (.int n), .val (.int c0), .val (.int c1), .val (.int c2), .val (.int c3), .val (.int c4), .val (.int c5), .val (.int c6), .val (.int c7), .val (.int c8)] [(.int (5 : Int32)), (.ref b), (.ref b), (.ref x), (.ref x)]))
  refine oSt (fun _ => XS.iload A.here hx rfl (Jvm.hb hby d_m6_343) rfl) ?_
  show oGo p e below _ (T.setTop (mkF m 345 #[.val (.int n), .val (.int c0), .val (.int c1), .val (.int c2), .val (.int c3), .val (.int c4), .val (.int c5), .val (.int c6), .val (.int c7), .val (.int c8)] [(.int c5), (.int (5 : Int32)), (.ref b), (.ref b), (.ref x), (.ref x)]))
  obtain ⟨T, h, A, W, V_b, st⟩ := A.stC hx V_b 5 rfl ⟨by decide, by decide⟩ (by simp) n0_b (Or.inr s_b) (g := (mkF m 345 #[.val (.int n), .val (.int c0), .val (.int c1), .val (.int c2), .val (.int c3), .val (.int c4), .val (.int c5), .val (.int c6), .val (.int c7), .val (.int c8)] [(.int c5), (.int (5 : Int32)), (.ref b), (.ref b), (.ref x), (.ref x)])) rfl rfl (Jvm.hb hby d_m6_345)
  refine oSt st ?_
  show oGo p e below _ (T.setTop (mkF m 346 #[.val (.int n), .val (.int c0), .val (.int c1), .val (.int c2), .val (.int c3), .val (.int c4), .val (.int c5), .val (.int c6), .val (.int c7), .val (.int c8)] [(.ref b), (.ref x), (.ref x)]))
  have EB := oExtW EB W hEB_b
  have EC := oExtW EC W hEC_b
  rw [oNar hb5] at V_b
  have V_b : Arv Z h b k_b .char (9 : Int32) [(.int c0), (.int c1), (.int c2), (.int c3), (.int c4), (.int c5), (.int (0 : Int32)), (.int (0 : Int32)), (.int (0 : Int32))] (.int (0 : Int32)) := V_b
  refine oSt (fun _ => XS.dup A.here hx rfl (Jvm.hb hby d_m6_346) rfl rfl) ?_
  show oGo p e below _ (T.setTop (mkF m 347 #[.val (.int n), .val (.int c0), .val (.int c1), .val (.int c2), .val (.int c3), .val (.int c4), .val (.int c5), .val (.int c6), .val (.int c7), .val (.int c8)] [(.ref b), (.ref b), (.ref x), (.ref x)]))
  refine oSt (fun _ => XS.bipush A.here hx rfl (Jvm.hb hby d_m6_347)) ?_
  show oGo p e below _ (T.setTop (mkF m 349 #[.val (.int n), .val (.int c0), .val (.int c1), .val (.int c2), .val (.int c3), .val (.int c4), .val (.int c5), .val (.int c6), .val (.int c7), .val (.int c8)] [(.int (6 : Int32)), (.ref b), (.ref b), (.ref x), (.ref x)]))
  refine oSt (fun _ => XS.iload A.here hx rfl (Jvm.hb hby d_m6_349) rfl) ?_
  show oGo p e below _ (T.setTop (mkF m 351 #[.val (.int n), .val (.int c0), .val (.int c1), .val (.int c2), .val (.int c3), .val (.int c4), .val (.int c5), .val (.int c6), .val (.int c7), .val (.int c8)] [(.int c6), (.int (6 : Int32)), (.ref b), (.ref b), (.ref x), (.ref x)]))
  obtain ⟨T, h, A, W, V_b, st⟩ := A.stC hx V_b 6 rfl ⟨by decide, by decide⟩ (by simp) n0_b (Or.inr s_b) (g := (mkF m 351 #[.val (.int n), .val (.int c0), .val (.int c1), .val (.int c2), .val (.int c3), .val (.int c4), .val (.int c5), .val (.int c6), .val (.int c7), .val (.int c8)] [(.int c6), (.int (6 : Int32)), (.ref b), (.ref b), (.ref x), (.ref x)])) rfl rfl (Jvm.hb hby d_m6_351)
  refine oSt st ?_
  show oGo p e below _ (T.setTop (mkF m 352 #[.val (.int n), .val (.int c0), .val (.int c1), .val (.int c2), .val (.int c3), .val (.int c4), .val (.int c5), .val (.int c6), .val (.int c7), .val (.int c8)] [(.ref b), (.ref x), (.ref x)]))
  have EB := oExtW EB W hEB_b
  have EC := oExtW EC W hEC_b
  rw [oNar hb6] at V_b
  have V_b : Arv Z h b k_b .char (9 : Int32) [(.int c0), (.int c1), (.int c2), (.int c3), (.int c4), (.int c5), (.int c6), (.int (0 : Int32)), (.int (0 : Int32))] (.int (0 : Int32)) := V_b
  refine oSt (fun _ => XS.dup A.here hx rfl (Jvm.hb hby d_m6_352) rfl rfl) ?_
  show oGo p e below _ (T.setTop (mkF m 353 #[.val (.int n), .val (.int c0), .val (.int c1), .val (.int c2), .val (.int c3), .val (.int c4), .val (.int c5), .val (.int c6), .val (.int c7), .val (.int c8)] [(.ref b), (.ref b), (.ref x), (.ref x)]))
  refine oSt (fun _ => XS.bipush A.here hx rfl (Jvm.hb hby d_m6_353)) ?_
  show oGo p e below _ (T.setTop (mkF m 355 #[.val (.int n), .val (.int c0), .val (.int c1), .val (.int c2), .val (.int c3), .val (.int c4), .val (.int c5), .val (.int c6), .val (.int c7), .val (.int c8)] [(.int (7 : Int32)), (.ref b), (.ref b), (.ref x), (.ref x)]))
  refine oSt (fun _ => XS.iload A.here hx rfl (Jvm.hb hby d_m6_355) rfl) ?_
  show oGo p e below _ (T.setTop (mkF m 357 #[.val (.int n), .val (.int c0), .val (.int c1), .val (.int c2), .val (.int c3), .val (.int c4), .val (.int c5), .val (.int c6), .val (.int c7), .val (.int c8)] [(.int c7), (.int (7 : Int32)), (.ref b), (.ref b), (.ref x), (.ref x)]))
  obtain ⟨T, h, A, W, V_b, st⟩ := A.stC hx V_b 7 rfl ⟨by decide, by decide⟩ (by simp) n0_b (Or.inr s_b) (g := (mkF m 357 #[.val (.int n), .val (.int c0), .val (.int c1), .val (.int c2), .val (.int c3), .val (.int c4), .val (.int c5), .val (.int c6), .val (.int c7), .val (.int c8)] [(.int c7), (.int (7 : Int32)), (.ref b), (.ref b), (.ref x), (.ref x)])) rfl rfl (Jvm.hb hby d_m6_357)
  refine oSt st ?_
  show oGo p e below _ (T.setTop (mkF m 358 #[.val (.int n), .val (.int c0), .val (.int c1), .val (.int c2), .val (.int c3), .val (.int c4), .val (.int c5), .val (.int c6), .val (.int c7), .val (.int c8)] [(.ref b), (.ref x), (.ref x)]))
  have EB := oExtW EB W hEB_b
  have EC := oExtW EC W hEC_b
  rw [oNar hb7] at V_b
  have V_b : Arv Z h b k_b .char (9 : Int32) [(.int c0), (.int c1), (.int c2), (.int c3), (.int c4), (.int c5), (.int c6), (.int c7), (.int (0 : Int32))] (.int (0 : Int32)) := V_b
  refine oSt (fun _ => XS.dup A.here hx rfl (Jvm.hb hby d_m6_358) rfl rfl) ?_
  show oGo p e below _ (T.setTop (mkF m 359 #[.val (.int n), .val (.int c0), .val (.int c1), .val (.int c2), .val (.int c3), .val (.int c4), .val (.int c5), .val (.int c6), .val (.int c7), .val (.int c8)] [(.ref b), (.ref b), (.ref x), (.ref x)]))
  refine oSt (fun _ => XS.bipush A.here hx rfl (Jvm.hb hby d_m6_359)) ?_
  show oGo p e below _ (T.setTop (mkF m 361 #[.val (.int n), .val (.int c0), .val (.int c1), .val (.int c2), .val (.int c3), .val (.int c4), .val (.int c5), .val (.int c6), .val (.int c7), .val (.int c8)] [(.int (8 : Int32)), (.ref b), (.ref b), (.ref x), (.ref x)]))
  refine oSt (fun _ => XS.iload A.here hx rfl (Jvm.hb hby d_m6_361) rfl) ?_
  show oGo p e below _ (T.setTop (mkF m 363 #[.val (.int n), .val (.int c0), .val (.int c1), .val (.int c2), .val (.int c3), .val (.int c4), .val (.int c5), .val (.int c6), .val (.int c7), .val (.int c8)] [(.int c8), (.int (8 : Int32)), (.ref b), (.ref b), (.ref x), (.ref x)]))
  obtain ⟨T, h, A, W, V_b, st⟩ := A.stC hx V_b 8 rfl ⟨by decide, by decide⟩ (by simp) n0_b (Or.inr s_b) (g := (mkF m 363 #[.val (.int n), .val (.int c0), .val (.int c1), .val (.int c2), .val (.int c3), .val (.int c4), .val (.int c5), .val (.int c6), .val (.int c7), .val (.int c8)] [(.int c8), (.int (8 : Int32)), (.ref b), (.ref b), (.ref x), (.ref x)])) rfl rfl (Jvm.hb hby d_m6_363)
  refine oSt st ?_
  show oGo p e below _ (T.setTop (mkF m 364 #[.val (.int n), .val (.int c0), .val (.int c1), .val (.int c2), .val (.int c3), .val (.int c4), .val (.int c5), .val (.int c6), .val (.int c7), .val (.int c8)] [(.ref b), (.ref x), (.ref x)]))
  have EB := oExtW EB W hEB_b
  have EC := oExtW EC W hEC_b
  rw [oNar hb8] at V_b
  have V_b : Arv Z h b k_b .char (9 : Int32) [(.int c0), (.int c1), (.int c2), (.int c3), (.int c4), (.int c5), (.int c6), (.int c7), (.int c8)] (.int (0 : Int32)) := V_b
  have E_x := E_x.ext EC
  have F_value_x := F_value_x.ext EC
  have F_coder_x := F_coder_x.ext EC
  have S_x := S_x.ext EC CH_x
  obtain ⟨T, h, L, A, K, Q_x, st⟩ := A.sNew hx hws (hw _ (List.mem_of_getElem? (i := 6) rfl)) (hw _ (List.mem_of_getElem? (i := 59) rfl)) (hw _ (List.mem_of_getElem? (i := 60) rfl)) (hw _ (List.mem_of_getElem? (i := 61) rfl)) E_x F_value_x F_coder_x (cs := ([c0, c1, c2, c3, c4, c5, c6, c7, c8] : List Int32)) V_b hcs hcz (n := 9) rfl rfl (by decide) (by decide) (oPS hb0 (oPS hb1 (oPS hb2 (oPS hb3 (oPS hb4 (oPS hb5 (oPS hb6 (oPS hb7 (oPS hb8 oP0))))))))) n0_x (Or.inr s_x) S_x (W := 1) (by decide) (by decide) (by decide) (by decide) (g := (mkF m 364 #[.val (.int n), .val (.int c0), .val (.int c1), .val (.int c2), .val (.int c3), .val (.int c4), .val (.int c5), .val (.int c6), .val (.int c7), .val (.int c8)] [(.ref b), (.ref x), (.ref x)])) rfl (by rw [hml]; rfl) rfl (by show 2 * 0 + _ ≤ _; exact Nat.le_of_eq rfl) (Jvm.hb hby d_m6_364)
  refine oSt st ?_
  show oGo p e below _ (T.setTop (mkF m 367 #[.val (.int n), .val (.int c0), .val (.int c1), .val (.int c2), .val (.int c3), .val (.int c4), .val (.int c5), .val (.int c6), .val (.int c7), .val (.int c8)] [(.ref x)]))
  have EB := oExtK EB K (oIn1 hEB_x)
  exact A.leave hlk hEL (v := some (.ref x)) (fun h => by rw [hret] at h; cases h) (fun _ _ => ⟨x, _, rfl, Q_x⟩) (by decide) (by decide) (fun fs hr => retOut A.1 hx hret rfl (Or.inr (Or.inr (Or.inr (Or.inr ⟨rfl, rfl, rfl⟩)))) (Jvm.hb hby d_m6_367) hr)
theorem own_make (l : Launch) (Z : State) (a0 : Array Value) (hw : ∀ d ∈ tables_1, d.before a0 Z = true) (hEL : EW Z a0 consts_1) (n0 : Nat) (h : Heap) (hO : Old Z n0 h) (n c0 c1 c2 c3 c4 c5 c6 c7 c8 : Int32) (zc : Int32) (hcs : Sta Z Z.heap "java/lang/String" "COMPACT_STRINGS" "Z" (.int zc)) (hcz : ¬ zc = 0) (hb0 : own_B c0) (hb1 : own_B c1) (hb2 : own_B c2) (hb3 : own_B c3) (hb4 : own_B c4) (hb5 : own_B c5) (hb6 : own_B c6) (hb7 : own_B c7) (hb8 : own_B c8) :
    oMet l Z consts_1 n0 (⟨"com/example/applicator/applicator/DialectLabelledPinLaw", "make", "(ICCCCCCCCC)Ljava/lang/String;"⟩ : MethodName) method_6_code 10 (some (.object "java/lang/String")) [] ({ frames := 4, cells := 4, slots := 22, locals := 66 } : Room) #[(.int n), (.int c0), (.int c1), (.int c2), (.int c3), (.int c4), (.int c5), (.int c6), (.int c7), (.int c8)] h [] (fun v _ h => ∃ x cs, v = some (.ref x) ∧ oStr Z h x cs) := by
  by_cases g0 : n = 0
  · exact own_make0 l Z a0 hw hEL n0 h hO n c0 c1 c2 c3 c4 c5 c6 c7 c8 zc hcs hcz hb0 hb1 hb2 hb3 hb4 hb5 hb6 hb7 hb8 g0
  by_cases g1 : n = 1
  · exact own_make1 l Z a0 hw hEL n0 h hO n c0 c1 c2 c3 c4 c5 c6 c7 c8 zc hcs hcz hb0 hb1 hb2 hb3 hb4 hb5 hb6 hb7 hb8 g0 g1
  by_cases g2 : n = 2
  · exact own_make2 l Z a0 hw hEL n0 h hO n c0 c1 c2 c3 c4 c5 c6 c7 c8 zc hcs hcz hb0 hb1 hb2 hb3 hb4 hb5 hb6 hb7 hb8 g0 g1 g2
  by_cases g3 : n = 3
  · exact own_make3 l Z a0 hw hEL n0 h hO n c0 c1 c2 c3 c4 c5 c6 c7 c8 zc hcs hcz hb0 hb1 hb2 hb3 hb4 hb5 hb6 hb7 hb8 g0 g1 g2 g3
  by_cases g4 : n = 4
  · exact own_make4 l Z a0 hw hEL n0 h hO n c0 c1 c2 c3 c4 c5 c6 c7 c8 zc hcs hcz hb0 hb1 hb2 hb3 hb4 hb5 hb6 hb7 hb8 g0 g1 g2 g3 g4
  by_cases g5 : n = 5
  · exact own_make5 l Z a0 hw hEL n0 h hO n c0 c1 c2 c3 c4 c5 c6 c7 c8 zc hcs hcz hb0 hb1 hb2 hb3 hb4 hb5 hb6 hb7 hb8 g0 g1 g2 g3 g4 g5
  by_cases g6 : n = 6
  · exact own_make6 l Z a0 hw hEL n0 h hO n c0 c1 c2 c3 c4 c5 c6 c7 c8 zc hcs hcz hb0 hb1 hb2 hb3 hb4 hb5 hb6 hb7 hb8 g0 g1 g2 g3 g4 g5 g6
  by_cases g7 : n = 7
  · exact own_make7 l Z a0 hw hEL n0 h hO n c0 c1 c2 c3 c4 c5 c6 c7 c8 zc hcs hcz hb0 hb1 hb2 hb3 hb4 hb5 hb6 hb7 hb8 g0 g1 g2 g3 g4 g5 g6 g7
  by_cases g8 : n = 8
  · exact own_make8 l Z a0 hw hEL n0 h hO n c0 c1 c2 c3 c4 c5 c6 c7 c8 zc hcs hcz hb0 hb1 hb2 hb3 hb4 hb5 hb6 hb7 hb8 g0 g1 g2 g3 g4 g5 g6 g7 g8
  exact own_make9 l Z a0 hw hEL n0 h hO n c0 c1 c2 c3 c4 c5 c6 c7 c8 zc hcs hcz hb0 hb1 hb2 hb3 hb4 hb5 hb6 hb7 hb8 g0 g1 g2 g3 g4 g5 g6 g7 g8
theorem d_prog_5_m5_0 : decode prog_5_method_5_code 0 = .ok (.aconst_null, 1) := by decide +kernel
theorem d_prog_5_m5_1 : decode prog_5_method_5_code 1 = .ok (.astore_n 1, 1) := by decide +kernel
theorem d_prog_5_m5_2 : decode prog_5_method_5_code 2 = .ok (.invokestatic 42, 3) := by decide +kernel
theorem d_prog_5_m5_5 : decode prog_5_method_5_code 5 = .ok (.astore_n 2, 1) := by decide +kernel
theorem d_prog_5_m5_6 : decode prog_5_method_5_code 6 = .ok (.aload_n 2, 1) := by decide +kernel
theorem d_prog_5_m5_7 : decode prog_5_method_5_code 7 = .ok (.arraylength, 1) := by decide +kernel
theorem d_prog_5_m5_8 : decode prog_5_method_5_code 8 = .ok (.istore_n 3, 1) := by decide +kernel
theorem d_prog_5_m5_9 : decode prog_5_method_5_code 9 = .ok (.iconst 0, 1) := by decide +kernel
theorem d_prog_5_m5_10 : decode prog_5_method_5_code 10 = .ok (.istore 4, 2) := by decide +kernel
theorem d_prog_5_m5_12 : decode prog_5_method_5_code 12 = .ok (.iload 4, 2) := by decide +kernel
theorem d_prog_5_m5_14 : decode prog_5_method_5_code 14 = .ok (.iload_n 3, 1) := by decide +kernel
theorem d_prog_5_m5_15 : decode prog_5_method_5_code 15 = .ok (.if_icmp .ge 30, 3) := by decide +kernel
theorem d_prog_5_m5_18 : decode prog_5_method_5_code 18 = .ok (.aload_n 2, 1) := by decide +kernel
theorem d_prog_5_m5_19 : decode prog_5_method_5_code 19 = .ok (.iload 4, 2) := by decide +kernel
theorem d_prog_5_m5_21 : decode prog_5_method_5_code 21 = .ok (.aaload, 1) := by decide +kernel
theorem d_prog_5_m5_22 : decode prog_5_method_5_code 22 = .ok (.astore 5, 2) := by decide +kernel
theorem d_prog_5_m5_24 : decode prog_5_method_5_code 24 = .ok (.aload 5, 2) := by decide +kernel
theorem d_prog_5_m5_26 : decode prog_5_method_5_code 26 = .ok (.getfield 39, 3) := by decide +kernel
theorem d_prog_5_m5_29 : decode prog_5_method_5_code 29 = .ok (.aload_n 0, 1) := by decide +kernel
theorem d_prog_5_m5_30 : decode prog_5_method_5_code 30 = .ok (.invokevirtual 63, 3) := by decide +kernel
theorem d_prog_5_m5_33 : decode prog_5_method_5_code 33 = .ok (.ifCond .eq 6, 3) := by decide +kernel
theorem d_prog_5_m5_36 : decode prog_5_method_5_code 36 = .ok (.aload 5, 2) := by decide +kernel
theorem d_prog_5_m5_38 : decode prog_5_method_5_code 38 = .ok (.astore_n 1, 1) := by decide +kernel
theorem d_prog_5_m5_39 : decode prog_5_method_5_code 39 = .ok (.iinc 4 1, 3) := by decide +kernel
theorem d_prog_5_m5_42 : decode prog_5_method_5_code 42 = .ok (.goto (-30), 3) := by decide +kernel
theorem d_prog_5_m5_45 : decode prog_5_method_5_code 45 = .ok (.aload_n 1, 1) := by decide +kernel
theorem d_prog_5_m5_46 : decode prog_5_method_5_code 46 = .ok (.areturn, 1) := by decide +kernel
theorem opd3 : parseMethodDescriptor "()[Lcom/example/applicator/applicator/Dialect;" = some ⟨[], some (.array (.object "com/example/applicator/applicator/Dialect"))⟩ := by decide +kernel
theorem opn_own_labd : plainFor (⟨"com/example/applicator/applicator/Dialect", "labelled", "(Ljava/lang/String;)Lcom/example/applicator/applicator/Dialect;"⟩ : MethodName) = true := plainFor_of_name (by first | (simp [plainName, overriddenIn]; done) | decide +kernel)
set_option maxRecDepth 65536 in
set_option maxHeartbeats 40000000 in
theorem own_labd (l : Launch) (Z : State) (a0 : Array Value) (hw : ∀ d ∈ tables_1, d.before a0 Z = true) (hEL : EW Z a0 consts_1) (n0 : Nat) (h : Heap) (hO : Old Z n0 h) (w : Addr) (cs : List Int32) (zc : Int32) (hcs : Sta Z Z.heap "java/lang/String" "COMPACT_STRINGS" "Z" (.int zc)) (hcz : ¬ zc = 0) (d0 d1 d2 d3 va : Addr) (kv : ClassId) (hva : Sta Z Z.heap "com/example/applicator/applicator/Dialect" "$VALUES" "[Lcom/example/applicator/applicator/Dialect;" (.ref va)) (VV : Arv Z Z.heap va kv (.object "com/example/applicator/applicator/Dialect") (4 : Int32) [.ref d0, .ref d1, .ref d2, .ref d3] .null) (EV : Exa Z Z.heap va "[Lcom/example/applicator/applicator/Dialect;") (FV : ∀ cl : Cell, Z.heap[va]? = some cl → FitC Z cl) (w0 w1 w2 w3 : Addr) (Fw0 : Fld Z Z.heap d0 "com/example/applicator/applicator/Dialect" "label" "Ljava/lang/String;" (.ref w0)) (Fw1 : Fld Z Z.heap d1 "com/example/applicator/applicator/Dialect" "label" "Ljava/lang/String;" (.ref w1)) (Fw2 : Fld Z Z.heap d2 "com/example/applicator/applicator/Dialect" "label" "Ljava/lang/String;" (.ref w2)) (Fw3 : Fld Z Z.heap d3 "com/example/applicator/applicator/Dialect" "label" "Ljava/lang/String;" (.ref w3)) (Qw0 : oStr Z Z.heap w0 ([50, 48, 50, 48, 45, 49, 50] : List Int32)) (Qw1 : oStr Z Z.heap w1 ([100, 114, 97, 102, 116, 45, 48, 55] : List Int32)) (Qw2 : oStr Z Z.heap w2 ([100, 114, 97, 102, 116, 45, 48, 54] : List Int32)) (Qw3 : oStr Z Z.heap w3 ([100, 114, 97, 102, 116, 45, 48, 52] : List Int32)) (Q : oStr Z h w cs) :
    oMet l Z consts_1 n0 (⟨"com/example/applicator/applicator/Dialect", "labelled", "(Ljava/lang/String;)Lcom/example/applicator/applicator/Dialect;"⟩ : MethodName) prog_5_method_5_code 6 (some (.object "com/example/applicator/applicator/Dialect")) [] ({ frames := 2, cells := 1, slots := 4, locals := 28 } : Room) #[(.ref w)] h [] (fun v _ h => ∃ r, v = some r ∧ own_lab cs d0 d1 d2 d3 r) := by
  refine oMet.of opn_own_labd hO ?_
  intro p e s m below meth c T hx hby hml hret hnm hlk hh hsf A
  have hml : c.maxLocals = 6 := hml
  refine oCast (g' := mkF m 0 #[.val (.ref w), .unset, .unset, .unset, .unset, .unset] []) (by first | (simp [entryFrame, mkF, argsToLocals, Value.category]; done) | rfl) ?_
  have heq : ∀ d ∈ StrChars.Road.wordsEq, d.before a0 Z = true := fun d hd => hw d ((by decide +kernel : ∀ d ∈ StrChars.Road.wordsEq, d ∈ tables_1) d hd)
  show oGo p e below _ (T.setTop (mkF m 0 #[.val (.ref w), .unset, .unset, .unset, .unset, .unset] []))
  refine oSt (fun _ => XS.aconstNull A.here hx rfl (Jvm.hb hby d_prog_5_m5_0)) ?_
  show oGo p e below _ (T.setTop (mkF m 1 #[.val (.ref w), .unset, .unset, .unset, .unset, .unset] [.null]))
  refine oSt (fun _ => XS.astoreN A.here hx rfl (Jvm.hb hby d_prog_5_m5_1) rfl rfl (l' := #[.val (.ref w), .val .null, .unset, .unset, .unset, .unset]) rfl) ?_
  show oGo p e below _ (T.setTop (mkF m 2 #[.val (.ref w), .val .null, .unset, .unset, .unset, .unset] []))
  obtain ⟨_, vm, T, h, L, A, K, CR, ⟨c_, rfl, V_c⟩, st⟩ := A.callS hx (y := (⟨"com/example/applicator/applicator/Dialect", "values", "()[Lcom/example/applicator/applicator/Dialect;"⟩ : MethodName)) (hw _ (List.mem_of_getElem? (i := 83) rfl)) (hw _ (List.mem_of_getElem? (i := 84) rfl)) (hw _ (List.mem_of_getElem? (i := 81) rfl)) (hw _ (List.mem_of_getElem? (i := 85) rfl)) (by decide) hEL (argsL := []) (rest := []) (own_vals l Z a0 hw hEL n0 _ A.oldn d0 d1 d2 d3 va kv hva VV EV FV) (W := 0) (by decide) (by decide) (by decide) (by decide) all0 all0 all0 (g := (mkF m 2 #[.val (.ref w), .val .null, .unset, .unset, .unset, .unset] [])) rfl (by rw [hml]; rfl) (lenOf opd3 rfl) rfl (by show 2 * 0 + _ ≤ _; exact Nat.le_of_eq rfl) (Jvm.hb hby d_prog_5_m5_2)
  refine oSt st ?_
  have X := oExt0 K
  have Q := Q.ext X
  show oGo p e below _ (T.setTop (mkF m 5 #[.val (.ref w), .val .null, .unset, .unset, .unset, .unset] [(.ref c_)]))
  refine oSt (fun _ => XS.astoreN A.here hx rfl (Jvm.hb hby d_prog_5_m5_5) rfl rfl (l' := #[.val (.ref w), .val .null, .val (.ref c_), .unset, .unset, .unset]) rfl) ?_
  show oGo p e below _ (T.setTop (mkF m 6 #[.val (.ref w), .val .null, .val (.ref c_), .unset, .unset, .unset] []))
  refine oSt (fun _ => XS.aloadN A.here hx rfl (Jvm.hb hby d_prog_5_m5_6) rfl rfl) ?_
  show oGo p e below _ (T.setTop (mkF m 7 #[.val (.ref w), .val .null, .val (.ref c_), .unset, .unset, .unset] [(.ref c_)]))
  refine oSt (A.len hx V_c (g := (mkF m 7 #[.val (.ref w), .val .null, .val (.ref c_), .unset, .unset, .unset] [(.ref c_)])) rfl rfl (Jvm.hb hby d_prog_5_m5_7)) ?_
  show oGo p e below _ (T.setTop (mkF m 8 #[.val (.ref w), .val .null, .val (.ref c_), .unset, .unset, .unset] [(.int (4 : Int32))]))
  refine oSt (fun _ => XS.istoreN A.here hx rfl (Jvm.hb hby d_prog_5_m5_8) rfl (l' := #[.val (.ref w), .val .null, .val (.ref c_), .val (.int (4 : Int32)), .unset, .unset]) rfl) ?_
  show oGo p e below _ (T.setTop (mkF m 9 #[.val (.ref w), .val .null, .val (.ref c_), .val (.int (4 : Int32)), .unset, .unset] []))
  refine oSt (fun _ => XS.iconst A.here hx rfl (Jvm.hb hby d_prog_5_m5_9)) ?_
  show oGo p e below _ (T.setTop (mkF m 10 #[.val (.ref w), .val .null, .val (.ref c_), .val (.int (4 : Int32)), .unset, .unset] [(.int (0 : Int32))]))
  refine oSt (fun _ => XS.istore A.here hx rfl (Jvm.hb hby d_prog_5_m5_10) rfl (l' := #[.val (.ref w), .val .null, .val (.ref c_), .val (.int (4 : Int32)), .val (.int (0 : Int32)), .unset]) rfl) ?_
  show oGo p e below _ (T.setTop (mkF m 12 #[.val (.ref w), .val .null, .val (.ref c_), .val (.int (4 : Int32)), .val (.int (0 : Int32)), .unset] []))
  refine oSt (fun _ => XS.iload A.here hx rfl (Jvm.hb hby d_prog_5_m5_12) rfl) ?_
  show oGo p e below _ (T.setTop (mkF m 14 #[.val (.ref w), .val .null, .val (.ref c_), .val (.int (4 : Int32)), .val (.int (0 : Int32)), .unset] [(.int (0 : Int32))]))
  refine oSt (fun _ => XS.iloadN A.here hx rfl (Jvm.hb hby d_prog_5_m5_14) rfl) ?_
  show oGo p e below _ (T.setTop (mkF m 15 #[.val (.ref w), .val .null, .val (.ref c_), .val (.int (4 : Int32)), .val (.int (0 : Int32)), .unset] [(.int (4 : Int32)), (.int (0 : Int32))]))
  refine oSt (fun _ => XS.icmpNo A.here hx rfl (Jvm.hb hby d_prog_5_m5_15) rfl (Jvm.Free.XT.ii_ge_f (by decide))) ?_
  show oGo p e below _ (T.setTop (mkF m 18 #[.val (.ref w), .val .null, .val (.ref c_), .val (.int (4 : Int32)), .val (.int (0 : Int32)), .unset] []))
  refine oSt (fun _ => XS.aloadN A.here hx rfl (Jvm.hb hby d_prog_5_m5_18) rfl rfl) ?_
  show oGo p e below _ (T.setTop (mkF m 19 #[.val (.ref w), .val .null, .val (.ref c_), .val (.int (4 : Int32)), .val (.int (0 : Int32)), .unset] [(.ref c_)]))
  refine oSt (fun _ => XS.iload A.here hx rfl (Jvm.hb hby d_prog_5_m5_19) rfl) ?_
  show oGo p e below _ (T.setTop (mkF m 21 #[.val (.ref w), .val .null, .val (.ref c_), .val (.int (4 : Int32)), .val (.int (0 : Int32)), .unset] [(.int (0 : Int32)), (.ref c_)]))
  refine oSt (A.ldR hx V_c rfl ⟨by decide, by decide⟩ (v := (.ref d0)) rfl (g := (mkF m 21 #[.val (.ref w), .val .null, .val (.ref c_), .val (.int (4 : Int32)), .val (.int (0 : Int32)), .unset] [(.int (0 : Int32)), (.ref c_)])) rfl rfl (Jvm.hb hby d_prog_5_m5_21)) ?_
  show oGo p e below _ (T.setTop (mkF m 22 #[.val (.ref w), .val .null, .val (.ref c_), .val (.int (4 : Int32)), .val (.int (0 : Int32)), .unset] [(.ref d0)]))
  refine oSt (fun _ => XS.astore A.here hx rfl (Jvm.hb hby d_prog_5_m5_22) rfl rfl (l' := #[.val (.ref w), .val .null, .val (.ref c_), .val (.int (4 : Int32)), .val (.int (0 : Int32)), .val (.ref d0)]) rfl) ?_
  show oGo p e below _ (T.setTop (mkF m 24 #[.val (.ref w), .val .null, .val (.ref c_), .val (.int (4 : Int32)), .val (.int (0 : Int32)), .val (.ref d0)] []))
  refine oSt (fun _ => XS.aload A.here hx rfl (Jvm.hb hby d_prog_5_m5_24) rfl rfl) ?_
  show oGo p e below _ (T.setTop (mkF m 26 #[.val (.ref w), .val .null, .val (.ref c_), .val (.int (4 : Int32)), .val (.int (0 : Int32)), .val (.ref d0)] [(.ref d0)]))
  obtain ⟨T, A, st⟩ := A.getF hx (host := "") (Or.inl (hw _ (List.mem_of_getElem? (i := 102) rfl))) Via.refl (Fw0.ext A.old) (g := (mkF m 26 #[.val (.ref w), .val .null, .val (.ref c_), .val (.int (4 : Int32)), .val (.int (0 : Int32)), .val (.ref d0)] [(.ref d0)])) rfl rfl (Jvm.hb hby d_prog_5_m5_26)
  refine oSt st ?_
  show oGo p e below _ (T.setTop (mkF m 29 #[.val (.ref w), .val .null, .val (.ref c_), .val (.int (4 : Int32)), .val (.int (0 : Int32)), .val (.ref d0)] [(.ref w0)]))
  refine oSt (fun _ => XS.aloadN A.here hx rfl (Jvm.hb hby d_prog_5_m5_29) rfl rfl) ?_
  show oGo p e below _ (T.setTop (mkF m 30 #[.val (.ref w), .val .null, .val (.ref c_), .val (.int (4 : Int32)), .val (.int (0 : Int32)), .val (.ref d0)] [(.ref w), (.ref w0)]))
  obtain ⟨T, r_eq, A, h_eq, st⟩ := A.sEq hx heq (hw _ (List.mem_of_getElem? (i := 6) rfl)) (hw _ (List.mem_of_getElem? (i := 104) rfl)) (hw _ (List.mem_of_getElem? (i := 105) rfl)) (hw _ (List.mem_of_getElem? (i := 107) rfl)) (hw _ (List.mem_of_getElem? (i := 106) rfl)) (Qw0.ext A.old) Q hcs hcz (W := 0) (by decide) (by decide) (by decide) (by decide) (g := (mkF m 30 #[.val (.ref w), .val .null, .val (.ref c_), .val (.int (4 : Int32)), .val (.int (0 : Int32)), .val (.ref d0)] [(.ref w), (.ref w0)])) rfl (by rw [hml]; rfl) rfl (by show 2 * 0 + _ ≤ _; exact Nat.le_of_eq rfl) (Jvm.hb hby d_prog_5_m5_30)
  refine oSt st ?_
  show oGo p e below _ (T.setTop (mkF m 33 #[.val (.ref w), .val .null, .val (.ref c_), .val (.int (4 : Int32)), .val (.int (0 : Int32)), .val (.ref d0)] [(.int r_eq)]))
  rcases h_eq with ⟨rfl, h0⟩ | ⟨rfl, h0⟩
  · show oGo p e below _ (T.setTop (mkF m 33 #[.val (.ref w), .val .null, .val (.ref c_), .val (.int (4 : Int32)), .val (.int (0 : Int32)), .val (.ref d0)] [(.int (1 : Int32))]))
    refine oSt (fun _ => XS.ifNo A.here hx rfl (Jvm.hb hby d_prog_5_m5_33) rfl (Jvm.Free.XT.i0_eq_f (by decide))) ?_
    show oGo p e below _ (T.setTop (mkF m 36 #[.val (.ref w), .val .null, .val (.ref c_), .val (.int (4 : Int32)), .val (.int (0 : Int32)), .val (.ref d0)] []))
    refine oSt (fun _ => XS.aload A.here hx rfl (Jvm.hb hby d_prog_5_m5_36) rfl rfl) ?_
    show oGo p e below _ (T.setTop (mkF m 38 #[.val (.ref w), .val .null, .val (.ref c_), .val (.int (4 : Int32)), .val (.int (0 : Int32)), .val (.ref d0)] [(.ref d0)]))
    refine oSt (fun _ => XS.astoreN A.here hx rfl (Jvm.hb hby d_prog_5_m5_38) rfl rfl (l' := #[.val (.ref w), .val (.ref d0), .val (.ref c_), .val (.int (4 : Int32)), .val (.int (0 : Int32)), .val (.ref d0)]) rfl) ?_
    show oGo p e below _ (T.setTop (mkF m 39 #[.val (.ref w), .val (.ref d0), .val (.ref c_), .val (.int (4 : Int32)), .val (.int (0 : Int32)), .val (.ref d0)] []))
    refine oSt (fun _ => XS.iinc A.here hx rfl (Jvm.hb hby d_prog_5_m5_39) rfl (l' := #[.val (.ref w), .val (.ref d0), .val (.ref c_), .val (.int (4 : Int32)), .val (.int ((0 : Int32) + (1 : Int32))), .val (.ref d0)]) rfl) ?_
    show oGo p e below _ (T.setTop (mkF m 42 #[.val (.ref w), .val (.ref d0), .val (.ref c_), .val (.int (4 : Int32)), .val (.int ((0 : Int32) + (1 : Int32))), .val (.ref d0)] []))
    refine oSt (fun _ => XS.goto A.here hx rfl (pc0 := 42) (pc' := 12) rfl (Jvm.hb hby d_prog_5_m5_42) (by decide) (by decide)) ?_
    show oGo p e below _ (T.setTop (mkF m 12 #[.val (.ref w), .val (.ref d0), .val (.ref c_), .val (.int (4 : Int32)), .val (.int ((0 : Int32) + (1 : Int32))), .val (.ref d0)] []))
    refine oSt (fun _ => XS.iload A.here hx rfl (Jvm.hb hby d_prog_5_m5_12) rfl) ?_
    show oGo p e below _ (T.setTop (mkF m 14 #[.val (.ref w), .val (.ref d0), .val (.ref c_), .val (.int (4 : Int32)), .val (.int ((0 : Int32) + (1 : Int32))), .val (.ref d0)] [(.int ((0 : Int32) + (1 : Int32)))]))
    refine oSt (fun _ => XS.iloadN A.here hx rfl (Jvm.hb hby d_prog_5_m5_14) rfl) ?_
    show oGo p e below _ (T.setTop (mkF m 15 #[.val (.ref w), .val (.ref d0), .val (.ref c_), .val (.int (4 : Int32)), .val (.int ((0 : Int32) + (1 : Int32))), .val (.ref d0)] [(.int (4 : Int32)), (.int ((0 : Int32) + (1 : Int32)))]))
    refine oSt (fun _ => XS.icmpNo A.here hx rfl (Jvm.hb hby d_prog_5_m5_15) rfl (Jvm.Free.XT.ii_ge_f (by decide))) ?_
    show oGo p e below _ (T.setTop (mkF m 18 #[.val (.ref w), .val (.ref d0), .val (.ref c_), .val (.int (4 : Int32)), .val (.int ((0 : Int32) + (1 : Int32))), .val (.ref d0)] []))
    refine oSt (fun _ => XS.aloadN A.here hx rfl (Jvm.hb hby d_prog_5_m5_18) rfl rfl) ?_
    show oGo p e below _ (T.setTop (mkF m 19 #[.val (.ref w), .val (.ref d0), .val (.ref c_), .val (.int (4 : Int32)), .val (.int ((0 : Int32) + (1 : Int32))), .val (.ref d0)] [(.ref c_)]))
    refine oSt (fun _ => XS.iload A.here hx rfl (Jvm.hb hby d_prog_5_m5_19) rfl) ?_
    show oGo p e below _ (T.setTop (mkF m 21 #[.val (.ref w), .val (.ref d0), .val (.ref c_), .val (.int (4 : Int32)), .val (.int ((0 : Int32) + (1 : Int32))), .val (.ref d0)] [(.int ((0 : Int32) + (1 : Int32))), (.ref c_)]))
    refine oSt (A.ldR hx V_c rfl ⟨by decide, by decide⟩ (v := (.ref d1)) rfl (g := (mkF m 21 #[.val (.ref w), .val (.ref d0), .val (.ref c_), .val (.int (4 : Int32)), .val (.int ((0 : Int32) + (1 : Int32))), .val (.ref d0)] [(.int ((0 : Int32) + (1 : Int32))), (.ref c_)])) rfl rfl (Jvm.hb hby d_prog_5_m5_21)) ?_
    show oGo p e below _ (T.setTop (mkF m 22 #[.val (.ref w), .val (.ref d0), .val (.ref c_), .val (.int (4 : Int32)), .val (.int ((0 : Int32) + (1 : Int32))), .val (.ref d0)] [(.ref d1)]))
    refine oSt (fun _ => XS.astore A.here hx rfl (Jvm.hb hby d_prog_5_m5_22) rfl rfl (l' := #[.val (.ref w), .val (.ref d0), .val (.ref c_), .val (.int (4 : Int32)), .val (.int ((0 : Int32) + (1 : Int32))), .val (.ref d1)]) rfl) ?_
    show oGo p e below _ (T.setTop (mkF m 24 #[.val (.ref w), .val (.ref d0), .val (.ref c_), .val (.int (4 : Int32)), .val (.int ((0 : Int32) + (1 : Int32))), .val (.ref d1)] []))
    refine oSt (fun _ => XS.aload A.here hx rfl (Jvm.hb hby d_prog_5_m5_24) rfl rfl) ?_
    show oGo p e below _ (T.setTop (mkF m 26 #[.val (.ref w), .val (.ref d0), .val (.ref c_), .val (.int (4 : Int32)), .val (.int ((0 : Int32) + (1 : Int32))), .val (.ref d1)] [(.ref d1)]))
    obtain ⟨T, A, st⟩ := A.getF hx (host := "") (Or.inl (hw _ (List.mem_of_getElem? (i := 102) rfl))) Via.refl (Fw1.ext A.old) (g := (mkF m 26 #[.val (.ref w), .val (.ref d0), .val (.ref c_), .val (.int (4 : Int32)), .val (.int ((0 : Int32) + (1 : Int32))), .val (.ref d1)] [(.ref d1)])) rfl rfl (Jvm.hb hby d_prog_5_m5_26)
    refine oSt st ?_
    show oGo p e below _ (T.setTop (mkF m 29 #[.val (.ref w), .val (.ref d0), .val (.ref c_), .val (.int (4 : Int32)), .val (.int ((0 : Int32) + (1 : Int32))), .val (.ref d1)] [(.ref w1)]))
    refine oSt (fun _ => XS.aloadN A.here hx rfl (Jvm.hb hby d_prog_5_m5_29) rfl rfl) ?_
    show oGo p e below _ (T.setTop (mkF m 30 #[.val (.ref w), .val (.ref d0), .val (.ref c_), .val (.int (4 : Int32)), .val (.int ((0 : Int32) + (1 : Int32))), .val (.ref d1)] [(.ref w), (.ref w1)]))
    obtain ⟨T, r_eq, A, h_eq, st⟩ := A.sEq hx heq (hw _ (List.mem_of_getElem? (i := 6) rfl)) (hw _ (List.mem_of_getElem? (i := 104) rfl)) (hw _ (List.mem_of_getElem? (i := 105) rfl)) (hw _ (List.mem_of_getElem? (i := 107) rfl)) (hw _ (List.mem_of_getElem? (i := 106) rfl)) (Qw1.ext A.old) Q hcs hcz (W := 0) (by decide) (by decide) (by decide) (by decide) (g := (mkF m 30 #[.val (.ref w), .val (.ref d0), .val (.ref c_), .val (.int (4 : Int32)), .val (.int ((0 : Int32) + (1 : Int32))), .val (.ref d1)] [(.ref w), (.ref w1)])) rfl (by rw [hml]; rfl) rfl (by show 2 * 0 + _ ≤ _; exact Nat.le_of_eq rfl) (Jvm.hb hby d_prog_5_m5_30)
    refine oSt st ?_
    show oGo p e below _ (T.setTop (mkF m 33 #[.val (.ref w), .val (.ref d0), .val (.ref c_), .val (.int (4 : Int32)), .val (.int ((0 : Int32) + (1 : Int32))), .val (.ref d1)] [(.int r_eq)]))
    rcases h_eq with ⟨rfl, h1⟩ | ⟨rfl, h1⟩
    · exact absurd (h0.trans h1.symm) (by decide)
    · show oGo p e below _ (T.setTop (mkF m 33 #[.val (.ref w), .val (.ref d0), .val (.ref c_), .val (.int (4 : Int32)), .val (.int ((0 : Int32) + (1 : Int32))), .val (.ref d1)] [(.int (0 : Int32))]))
      refine oSt (fun _ => XS.ifYes A.here hx rfl (pc0 := 33) (pc' := 39) rfl (Jvm.hb hby d_prog_5_m5_33) rfl (Jvm.Free.XT.i0_eq_t rfl) (by decide) (by decide)) ?_
      show oGo p e below _ (T.setTop (mkF m 39 #[.val (.ref w), .val (.ref d0), .val (.ref c_), .val (.int (4 : Int32)), .val (.int ((0 : Int32) + (1 : Int32))), .val (.ref d1)] []))
      refine oSt (fun _ => XS.iinc A.here hx rfl (Jvm.hb hby d_prog_5_m5_39) rfl (l' := #[.val (.ref w), .val (.ref d0), .val (.ref c_), .val (.int (4 : Int32)), .val (.int (((0 : Int32) + (1 : Int32)) + (1 : Int32))), .val (.ref d1)]) rfl) ?_
      show oGo p e below _ (T.setTop (mkF m 42 #[.val (.ref w), .val (.ref d0), .val (.ref c_), .val (.int (4 : Int32)), .val (.int (((0 : Int32) + (1 : Int32)) + (1 : Int32))), .val (.ref d1)] []))
      refine oSt (fun _ => XS.goto A.here hx rfl (pc0 := 42) (pc' := 12) rfl (Jvm.hb hby d_prog_5_m5_42) (by decide) (by decide)) ?_
      show oGo p e below _ (T.setTop (mkF m 12 #[.val (.ref w), .val (.ref d0), .val (.ref c_), .val (.int (4 : Int32)), .val (.int (((0 : Int32) + (1 : Int32)) + (1 : Int32))), .val (.ref d1)] []))
      refine oSt (fun _ => XS.iload A.here hx rfl (Jvm.hb hby d_prog_5_m5_12) rfl) ?_
      show oGo p e below _ (T.setTop (mkF m 14 #[.val (.ref w), .val (.ref d0), .val (.ref c_), .val (.int (4 : Int32)), .val (.int (((0 : Int32) + (1 : Int32)) + (1 : Int32))), .val (.ref d1)] [(.int (((0 : Int32) + (1 : Int32)) + (1 : Int32)))]))
      refine oSt (fun _ => XS.iloadN A.here hx rfl (Jvm.hb hby d_prog_5_m5_14) rfl) ?_
      show oGo p e below _ (T.setTop (mkF m 15 #[.val (.ref w), .val (.ref d0), .val (.ref c_), .val (.int (4 : Int32)), .val (.int (((0 : Int32) + (1 : Int32)) + (1 : Int32))), .val (.ref d1)] [(.int (4 : Int32)), (.int (((0 : Int32) + (1 : Int32)) + (1 : Int32)))]))
      refine oSt (fun _ => XS.icmpNo A.here hx rfl (Jvm.hb hby d_prog_5_m5_15) rfl (Jvm.Free.XT.ii_ge_f (by decide))) ?_
      show oGo p e below _ (T.setTop (mkF m 18 #[.val (.ref w), .val (.ref d0), .val (.ref c_), .val (.int (4 : Int32)), .val (.int (((0 : Int32) + (1 : Int32)) + (1 : Int32))), .val (.ref d1)] []))
      refine oSt (fun _ => XS.aloadN A.here hx rfl (Jvm.hb hby d_prog_5_m5_18) rfl rfl) ?_
      show oGo p e below _ (T.setTop (mkF m 19 #[.val (.ref w), .val (.ref d0), .val (.ref c_), .val (.int (4 : Int32)), .val (.int (((0 : Int32) + (1 : Int32)) + (1 : Int32))), .val (.ref d1)] [(.ref c_)]))
      refine oSt (fun _ => XS.iload A.here hx rfl (Jvm.hb hby d_prog_5_m5_19) rfl) ?_
      show oGo p e below _ (T.setTop (mkF m 21 #[.val (.ref w), .val (.ref d0), .val (.ref c_), .val (.int (4 : Int32)), .val (.int (((0 : Int32) + (1 : Int32)) + (1 : Int32))), .val (.ref d1)] [(.int (((0 : Int32) + (1 : Int32)) + (1 : Int32))), (.ref c_)]))
      refine oSt (A.ldR hx V_c rfl ⟨by decide, by decide⟩ (v := (.ref d2)) rfl (g := (mkF m 21 #[.val (.ref w), .val (.ref d0), .val (.ref c_), .val (.int (4 : Int32)), .val (.int (((0 : Int32) + (1 : Int32)) + (1 : Int32))), .val (.ref d1)] [(.int (((0 : Int32) + (1 : Int32)) + (1 : Int32))), (.ref c_)])) rfl rfl (Jvm.hb hby d_prog_5_m5_21)) ?_
      show oGo p e below _ (T.setTop (mkF m 22 #[.val (.ref w), .val (.ref d0), .val (.ref c_), .val (.int (4 : Int32)), .val (.int (((0 : Int32) + (1 : Int32)) + (1 : Int32))), .val (.ref d1)] [(.ref d2)]))
      refine oSt (fun _ => XS.astore A.here hx rfl (Jvm.hb hby d_prog_5_m5_22) rfl rfl (l' := #[.val (.ref w), .val (.ref d0), .val (.ref c_), .val (.int (4 : Int32)), .val (.int (((0 : Int32) + (1 : Int32)) + (1 : Int32))), .val (.ref d2)]) rfl) ?_
      show oGo p e below _ (T.setTop (mkF m 24 #[.val (.ref w), .val (.ref d0), .val (.ref c_), .val (.int (4 : Int32)), .val (.int (((0 : Int32) + (1 : Int32)) + (1 : Int32))), .val (.ref d2)] []))
      refine oSt (fun _ => XS.aload A.here hx rfl (Jvm.hb hby d_prog_5_m5_24) rfl rfl) ?_
      show oGo p e below _ (T.setTop (mkF m 26 #[.val (.ref w), .val (.ref d0), .val (.ref c_), .val (.int (4 : Int32)), .val (.int (((0 : Int32) + (1 : Int32)) + (1 : Int32))), .val (.ref d2)] [(.ref d2)]))
      obtain ⟨T, A, st⟩ := A.getF hx (host := "") (Or.inl (hw _ (List.mem_of_getElem? (i := 102) rfl))) Via.refl (Fw2.ext A.old) (g := (mkF m 26 #[.val (.ref w), .val (.ref d0), .val (.ref c_), .val (.int (4 : Int32)), .val (.int (((0 : Int32) + (1 : Int32)) + (1 : Int32))), .val (.ref d2)] [(.ref d2)])) rfl rfl (Jvm.hb hby d_prog_5_m5_26)
      refine oSt st ?_
      show oGo p e below _ (T.setTop (mkF m 29 #[.val (.ref w), .val (.ref d0), .val (.ref c_), .val (.int (4 : Int32)), .val (.int (((0 : Int32) + (1 : Int32)) + (1 : Int32))), .val (.ref d2)] [(.ref w2)]))
      refine oSt (fun _ => XS.aloadN A.here hx rfl (Jvm.hb hby d_prog_5_m5_29) rfl rfl) ?_
      show oGo p e below _ (T.setTop (mkF m 30 #[.val (.ref w), .val (.ref d0), .val (.ref c_), .val (.int (4 : Int32)), .val (.int (((0 : Int32) + (1 : Int32)) + (1 : Int32))), .val (.ref d2)] [(.ref w), (.ref w2)]))
      obtain ⟨T, r_eq, A, h_eq, st⟩ := A.sEq hx heq (hw _ (List.mem_of_getElem? (i := 6) rfl)) (hw _ (List.mem_of_getElem? (i := 104) rfl)) (hw _ (List.mem_of_getElem? (i := 105) rfl)) (hw _ (List.mem_of_getElem? (i := 107) rfl)) (hw _ (List.mem_of_getElem? (i := 106) rfl)) (Qw2.ext A.old) Q hcs hcz (W := 0) (by decide) (by decide) (by decide) (by decide) (g := (mkF m 30 #[.val (.ref w), .val (.ref d0), .val (.ref c_), .val (.int (4 : Int32)), .val (.int (((0 : Int32) + (1 : Int32)) + (1 : Int32))), .val (.ref d2)] [(.ref w), (.ref w2)])) rfl (by rw [hml]; rfl) rfl (by show 2 * 0 + _ ≤ _; exact Nat.le_of_eq rfl) (Jvm.hb hby d_prog_5_m5_30)
      refine oSt st ?_
      show oGo p e below _ (T.setTop (mkF m 33 #[.val (.ref w), .val (.ref d0), .val (.ref c_), .val (.int (4 : Int32)), .val (.int (((0 : Int32) + (1 : Int32)) + (1 : Int32))), .val (.ref d2)] [(.int r_eq)]))
      rcases h_eq with ⟨rfl, h2⟩ | ⟨rfl, h2⟩
      · exact absurd (h0.trans h2.symm) (by decide)
      · show oGo p e below _ (T.setTop (mkF m 33 #[.val (.ref w), .val (.ref d0), .val (.ref c_), .val (.int (4 : Int32)), .val (.int (((0 : Int32) + (1 : Int32)) + (1 : Int32))), .val (.ref d2)] [(.int (0 : Int32))]))
        refine oSt (fun _ => XS.ifYes A.here hx rfl (pc0 := 33) (pc' := 39) rfl (Jvm.hb hby d_prog_5_m5_33) rfl (Jvm.Free.XT.i0_eq_t rfl) (by decide) (by decide)) ?_
        show oGo p e below _ (T.setTop (mkF m 39 #[.val (.ref w), .val (.ref d0), .val (.ref c_), .val (.int (4 : Int32)), .val (.int (((0 : Int32) + (1 : Int32)) + (1 : Int32))), .val (.ref d2)] []))
        refine oSt (fun _ => XS.iinc A.here hx rfl (Jvm.hb hby d_prog_5_m5_39) rfl (l' := #[.val (.ref w), .val (.ref d0), .val (.ref c_), .val (.int (4 : Int32)), .val (.int ((((0 : Int32) + (1 : Int32)) + (1 : Int32)) + (1 : Int32))), .val (.ref d2)]) rfl) ?_
        show oGo p e below _ (T.setTop (mkF m 42 #[.val (.ref w), .val (.ref d0), .val (.ref c_), .val (.int (4 : Int32)), .val (.int ((((0 : Int32) + (1 : Int32)) + (1 : Int32)) + (1 : Int32))), .val (.ref d2)] []))
        refine oSt (fun _ => XS.goto A.here hx rfl (pc0 := 42) (pc' := 12) rfl (Jvm.hb hby d_prog_5_m5_42) (by decide) (by decide)) ?_
        show oGo p e below _ (T.setTop (mkF m 12 #[.val (.ref w), .val (.ref d0), .val (.ref c_), .val (.int (4 : Int32)), .val (.int ((((0 : Int32) + (1 : Int32)) + (1 : Int32)) + (1 : Int32))), .val (.ref d2)] []))
        refine oSt (fun _ => XS.iload A.here hx rfl (Jvm.hb hby d_prog_5_m5_12) rfl) ?_
        show oGo p e below _ (T.setTop (mkF m 14 #[.val (.ref w), .val (.ref d0), .val (.ref c_), .val (.int (4 : Int32)), .val (.int ((((0 : Int32) + (1 : Int32)) + (1 : Int32)) + (1 : Int32))), .val (.ref d2)] [(.int ((((0 : Int32) + (1 : Int32)) + (1 : Int32)) + (1 : Int32)))]))
        refine oSt (fun _ => XS.iloadN A.here hx rfl (Jvm.hb hby d_prog_5_m5_14) rfl) ?_
        show oGo p e below _ (T.setTop (mkF m 15 #[.val (.ref w), .val (.ref d0), .val (.ref c_), .val (.int (4 : Int32)), .val (.int ((((0 : Int32) + (1 : Int32)) + (1 : Int32)) + (1 : Int32))), .val (.ref d2)] [(.int (4 : Int32)), (.int ((((0 : Int32) + (1 : Int32)) + (1 : Int32)) + (1 : Int32)))]))
        refine oSt (fun _ => XS.icmpNo A.here hx rfl (Jvm.hb hby d_prog_5_m5_15) rfl (Jvm.Free.XT.ii_ge_f (by decide))) ?_
        show oGo p e below _ (T.setTop (mkF m 18 #[.val (.ref w), .val (.ref d0), .val (.ref c_), .val (.int (4 : Int32)), .val (.int ((((0 : Int32) + (1 : Int32)) + (1 : Int32)) + (1 : Int32))), .val (.ref d2)] []))
        refine oSt (fun _ => XS.aloadN A.here hx rfl (Jvm.hb hby d_prog_5_m5_18) rfl rfl) ?_
        show oGo p e below _ (T.setTop (mkF m 19 #[.val (.ref w), .val (.ref d0), .val (.ref c_), .val (.int (4 : Int32)), .val (.int ((((0 : Int32) + (1 : Int32)) + (1 : Int32)) + (1 : Int32))), .val (.ref d2)] [(.ref c_)]))
        refine oSt (fun _ => XS.iload A.here hx rfl (Jvm.hb hby d_prog_5_m5_19) rfl) ?_
        show oGo p e below _ (T.setTop (mkF m 21 #[.val (.ref w), .val (.ref d0), .val (.ref c_), .val (.int (4 : Int32)), .val (.int ((((0 : Int32) + (1 : Int32)) + (1 : Int32)) + (1 : Int32))), .val (.ref d2)] [(.int ((((0 : Int32) + (1 : Int32)) + (1 : Int32)) + (1 : Int32))), (.ref c_)]))
        refine oSt (A.ldR hx V_c rfl ⟨by decide, by decide⟩ (v := (.ref d3)) rfl (g := (mkF m 21 #[.val (.ref w), .val (.ref d0), .val (.ref c_), .val (.int (4 : Int32)), .val (.int ((((0 : Int32) + (1 : Int32)) + (1 : Int32)) + (1 : Int32))), .val (.ref d2)] [(.int ((((0 : Int32) + (1 : Int32)) + (1 : Int32)) + (1 : Int32))), (.ref c_)])) rfl rfl (Jvm.hb hby d_prog_5_m5_21)) ?_
        show oGo p e below _ (T.setTop (mkF m 22 #[.val (.ref w), .val (.ref d0), .val (.ref c_), .val (.int (4 : Int32)), .val (.int ((((0 : Int32) + (1 : Int32)) + (1 : Int32)) + (1 : Int32))), .val (.ref d2)] [(.ref d3)]))
        refine oSt (fun _ => XS.astore A.here hx rfl (Jvm.hb hby d_prog_5_m5_22) rfl rfl (l' := #[.val (.ref w), .val (.ref d0), .val (.ref c_), .val (.int (4 : Int32)), .val (.int ((((0 : Int32) + (1 : Int32)) + (1 : Int32)) + (1 : Int32))), .val (.ref d3)]) rfl) ?_
        show oGo p e below _ (T.setTop (mkF m 24 #[.val (.ref w), .val (.ref d0), .val (.ref c_), .val (.int (4 : Int32)), .val (.int ((((0 : Int32) + (1 : Int32)) + (1 : Int32)) + (1 : Int32))), .val (.ref d3)] []))
        refine oSt (fun _ => XS.aload A.here hx rfl (Jvm.hb hby d_prog_5_m5_24) rfl rfl) ?_
        show oGo p e below _ (T.setTop (mkF m 26 #[.val (.ref w), .val (.ref d0), .val (.ref c_), .val (.int (4 : Int32)), .val (.int ((((0 : Int32) + (1 : Int32)) + (1 : Int32)) + (1 : Int32))), .val (.ref d3)] [(.ref d3)]))
        obtain ⟨T, A, st⟩ := A.getF hx (host := "") (Or.inl (hw _ (List.mem_of_getElem? (i := 102) rfl))) Via.refl (Fw3.ext A.old) (g := (mkF m 26 #[.val (.ref w), .val (.ref d0), .val (.ref c_), .val (.int (4 : Int32)), .val (.int ((((0 : Int32) + (1 : Int32)) + (1 : Int32)) + (1 : Int32))), .val (.ref d3)] [(.ref d3)])) rfl rfl (Jvm.hb hby d_prog_5_m5_26)
        refine oSt st ?_
        show oGo p e below _ (T.setTop (mkF m 29 #[.val (.ref w), .val (.ref d0), .val (.ref c_), .val (.int (4 : Int32)), .val (.int ((((0 : Int32) + (1 : Int32)) + (1 : Int32)) + (1 : Int32))), .val (.ref d3)] [(.ref w3)]))
        refine oSt (fun _ => XS.aloadN A.here hx rfl (Jvm.hb hby d_prog_5_m5_29) rfl rfl) ?_
        show oGo p e below _ (T.setTop (mkF m 30 #[.val (.ref w), .val (.ref d0), .val (.ref c_), .val (.int (4 : Int32)), .val (.int ((((0 : Int32) + (1 : Int32)) + (1 : Int32)) + (1 : Int32))), .val (.ref d3)] [(.ref w), (.ref w3)]))
        obtain ⟨T, r_eq, A, h_eq, st⟩ := A.sEq hx heq (hw _ (List.mem_of_getElem? (i := 6) rfl)) (hw _ (List.mem_of_getElem? (i := 104) rfl)) (hw _ (List.mem_of_getElem? (i := 105) rfl)) (hw _ (List.mem_of_getElem? (i := 107) rfl)) (hw _ (List.mem_of_getElem? (i := 106) rfl)) (Qw3.ext A.old) Q hcs hcz (W := 0) (by decide) (by decide) (by decide) (by decide) (g := (mkF m 30 #[.val (.ref w), .val (.ref d0), .val (.ref c_), .val (.int (4 : Int32)), .val (.int ((((0 : Int32) + (1 : Int32)) + (1 : Int32)) + (1 : Int32))), .val (.ref d3)] [(.ref w), (.ref w3)])) rfl (by rw [hml]; rfl) rfl (by show 2 * 0 + _ ≤ _; exact Nat.le_of_eq rfl) (Jvm.hb hby d_prog_5_m5_30)
        refine oSt st ?_
        show oGo p e below _ (T.setTop (mkF m 33 #[.val (.ref w), .val (.ref d0), .val (.ref c_), .val (.int (4 : Int32)), .val (.int ((((0 : Int32) + (1 : Int32)) + (1 : Int32)) + (1 : Int32))), .val (.ref d3)] [(.int r_eq)]))
        rcases h_eq with ⟨rfl, h3⟩ | ⟨rfl, h3⟩
        · exact absurd (h0.trans h3.symm) (by decide)
        · show oGo p e below _ (T.setTop (mkF m 33 #[.val (.ref w), .val (.ref d0), .val (.ref c_), .val (.int (4 : Int32)), .val (.int ((((0 : Int32) + (1 : Int32)) + (1 : Int32)) + (1 : Int32))), .val (.ref d3)] [(.int (0 : Int32))]))
          refine oSt (fun _ => XS.ifYes A.here hx rfl (pc0 := 33) (pc' := 39) rfl (Jvm.hb hby d_prog_5_m5_33) rfl (Jvm.Free.XT.i0_eq_t rfl) (by decide) (by decide)) ?_
          show oGo p e below _ (T.setTop (mkF m 39 #[.val (.ref w), .val (.ref d0), .val (.ref c_), .val (.int (4 : Int32)), .val (.int ((((0 : Int32) + (1 : Int32)) + (1 : Int32)) + (1 : Int32))), .val (.ref d3)] []))
          refine oSt (fun _ => XS.iinc A.here hx rfl (Jvm.hb hby d_prog_5_m5_39) rfl (l' := #[.val (.ref w), .val (.ref d0), .val (.ref c_), .val (.int (4 : Int32)), .val (.int (((((0 : Int32) + (1 : Int32)) + (1 : Int32)) + (1 : Int32)) + (1 : Int32))), .val (.ref d3)]) rfl) ?_
          show oGo p e below _ (T.setTop (mkF m 42 #[.val (.ref w), .val (.ref d0), .val (.ref c_), .val (.int (4 : Int32)), .val (.int (((((0 : Int32) + (1 : Int32)) + (1 : Int32)) + (1 : Int32)) + (1 : Int32))), .val (.ref d3)] []))
          refine oSt (fun _ => XS.goto A.here hx rfl (pc0 := 42) (pc' := 12) rfl (Jvm.hb hby d_prog_5_m5_42) (by decide) (by decide)) ?_
          show oGo p e below _ (T.setTop (mkF m 12 #[.val (.ref w), .val (.ref d0), .val (.ref c_), .val (.int (4 : Int32)), .val (.int (((((0 : Int32) + (1 : Int32)) + (1 : Int32)) + (1 : Int32)) + (1 : Int32))), .val (.ref d3)] []))
          refine oSt (fun _ => XS.iload A.here hx rfl (Jvm.hb hby d_prog_5_m5_12) rfl) ?_
          show oGo p e below _ (T.setTop (mkF m 14 #[.val (.ref w), .val (.ref d0), .val (.ref c_), .val (.int (4 : Int32)), .val (.int (((((0 : Int32) + (1 : Int32)) + (1 : Int32)) + (1 : Int32)) + (1 : Int32))), .val (.ref d3)] [(.int (((((0 : Int32) + (1 : Int32)) + (1 : Int32)) + (1 : Int32)) + (1 : Int32)))]))
          refine oSt (fun _ => XS.iloadN A.here hx rfl (Jvm.hb hby d_prog_5_m5_14) rfl) ?_
          show oGo p e below _ (T.setTop (mkF m 15 #[.val (.ref w), .val (.ref d0), .val (.ref c_), .val (.int (4 : Int32)), .val (.int (((((0 : Int32) + (1 : Int32)) + (1 : Int32)) + (1 : Int32)) + (1 : Int32))), .val (.ref d3)] [(.int (4 : Int32)), (.int (((((0 : Int32) + (1 : Int32)) + (1 : Int32)) + (1 : Int32)) + (1 : Int32)))]))
          refine oSt (fun _ => XS.icmpYes A.here hx rfl (pc0 := 15) (pc' := 45) rfl (Jvm.hb hby d_prog_5_m5_15) rfl (Jvm.Free.XT.ii_ge_t (by decide)) (by decide) (by decide)) ?_
          show oGo p e below _ (T.setTop (mkF m 45 #[.val (.ref w), .val (.ref d0), .val (.ref c_), .val (.int (4 : Int32)), .val (.int (((((0 : Int32) + (1 : Int32)) + (1 : Int32)) + (1 : Int32)) + (1 : Int32))), .val (.ref d3)] []))
          refine oSt (fun _ => XS.aloadN A.here hx rfl (Jvm.hb hby d_prog_5_m5_45) rfl rfl) ?_
          show oGo p e below _ (T.setTop (mkF m 46 #[.val (.ref w), .val (.ref d0), .val (.ref c_), .val (.int (4 : Int32)), .val (.int (((((0 : Int32) + (1 : Int32)) + (1 : Int32)) + (1 : Int32)) + (1 : Int32))), .val (.ref d3)] [(.ref d0)]))
          exact A.leave hlk hEL (v := some (.ref d0)) (fun h => by rw [hret] at h; cases h) (fun _ _ => ⟨_, rfl, Or.inl ⟨h0.symm, rfl⟩⟩) (by decide) (by decide) (fun fs hr => retOut A.1 hx hret rfl (Or.inr (Or.inr (Or.inr (Or.inr ⟨rfl, rfl, rfl⟩)))) (Jvm.hb hby d_prog_5_m5_46) hr)
  · show oGo p e below _ (T.setTop (mkF m 33 #[.val (.ref w), .val .null, .val (.ref c_), .val (.int (4 : Int32)), .val (.int (0 : Int32)), .val (.ref d0)] [(.int (0 : Int32))]))
    refine oSt (fun _ => XS.ifYes A.here hx rfl (pc0 := 33) (pc' := 39) rfl (Jvm.hb hby d_prog_5_m5_33) rfl (Jvm.Free.XT.i0_eq_t rfl) (by decide) (by decide)) ?_
    show oGo p e below _ (T.setTop (mkF m 39 #[.val (.ref w), .val .null, .val (.ref c_), .val (.int (4 : Int32)), .val (.int (0 : Int32)), .val (.ref d0)] []))
    refine oSt (fun _ => XS.iinc A.here hx rfl (Jvm.hb hby d_prog_5_m5_39) rfl (l' := #[.val (.ref w), .val .null, .val (.ref c_), .val (.int (4 : Int32)), .val (.int ((0 : Int32) + (1 : Int32))), .val (.ref d0)]) rfl) ?_
    show oGo p e below _ (T.setTop (mkF m 42 #[.val (.ref w), .val .null, .val (.ref c_), .val (.int (4 : Int32)), .val (.int ((0 : Int32) + (1 : Int32))), .val (.ref d0)] []))
    refine oSt (fun _ => XS.goto A.here hx rfl (pc0 := 42) (pc' := 12) rfl (Jvm.hb hby d_prog_5_m5_42) (by decide) (by decide)) ?_
    show oGo p e below _ (T.setTop (mkF m 12 #[.val (.ref w), .val .null, .val (.ref c_), .val (.int (4 : Int32)), .val (.int ((0 : Int32) + (1 : Int32))), .val (.ref d0)] []))
    refine oSt (fun _ => XS.iload A.here hx rfl (Jvm.hb hby d_prog_5_m5_12) rfl) ?_
    show oGo p e below _ (T.setTop (mkF m 14 #[.val (.ref w), .val .null, .val (.ref c_), .val (.int (4 : Int32)), .val (.int ((0 : Int32) + (1 : Int32))), .val (.ref d0)] [(.int ((0 : Int32) + (1 : Int32)))]))
    refine oSt (fun _ => XS.iloadN A.here hx rfl (Jvm.hb hby d_prog_5_m5_14) rfl) ?_
    show oGo p e below _ (T.setTop (mkF m 15 #[.val (.ref w), .val .null, .val (.ref c_), .val (.int (4 : Int32)), .val (.int ((0 : Int32) + (1 : Int32))), .val (.ref d0)] [(.int (4 : Int32)), (.int ((0 : Int32) + (1 : Int32)))]))
    refine oSt (fun _ => XS.icmpNo A.here hx rfl (Jvm.hb hby d_prog_5_m5_15) rfl (Jvm.Free.XT.ii_ge_f (by decide))) ?_
    show oGo p e below _ (T.setTop (mkF m 18 #[.val (.ref w), .val .null, .val (.ref c_), .val (.int (4 : Int32)), .val (.int ((0 : Int32) + (1 : Int32))), .val (.ref d0)] []))
    refine oSt (fun _ => XS.aloadN A.here hx rfl (Jvm.hb hby d_prog_5_m5_18) rfl rfl) ?_
    show oGo p e below _ (T.setTop (mkF m 19 #[.val (.ref w), .val .null, .val (.ref c_), .val (.int (4 : Int32)), .val (.int ((0 : Int32) + (1 : Int32))), .val (.ref d0)] [(.ref c_)]))
    refine oSt (fun _ => XS.iload A.here hx rfl (Jvm.hb hby d_prog_5_m5_19) rfl) ?_
    show oGo p e below _ (T.setTop (mkF m 21 #[.val (.ref w), .val .null, .val (.ref c_), .val (.int (4 : Int32)), .val (.int ((0 : Int32) + (1 : Int32))), .val (.ref d0)] [(.int ((0 : Int32) + (1 : Int32))), (.ref c_)]))
    refine oSt (A.ldR hx V_c rfl ⟨by decide, by decide⟩ (v := (.ref d1)) rfl (g := (mkF m 21 #[.val (.ref w), .val .null, .val (.ref c_), .val (.int (4 : Int32)), .val (.int ((0 : Int32) + (1 : Int32))), .val (.ref d0)] [(.int ((0 : Int32) + (1 : Int32))), (.ref c_)])) rfl rfl (Jvm.hb hby d_prog_5_m5_21)) ?_
    show oGo p e below _ (T.setTop (mkF m 22 #[.val (.ref w), .val .null, .val (.ref c_), .val (.int (4 : Int32)), .val (.int ((0 : Int32) + (1 : Int32))), .val (.ref d0)] [(.ref d1)]))
    refine oSt (fun _ => XS.astore A.here hx rfl (Jvm.hb hby d_prog_5_m5_22) rfl rfl (l' := #[.val (.ref w), .val .null, .val (.ref c_), .val (.int (4 : Int32)), .val (.int ((0 : Int32) + (1 : Int32))), .val (.ref d1)]) rfl) ?_
    show oGo p e below _ (T.setTop (mkF m 24 #[.val (.ref w), .val .null, .val (.ref c_), .val (.int (4 : Int32)), .val (.int ((0 : Int32) + (1 : Int32))), .val (.ref d1)] []))
    refine oSt (fun _ => XS.aload A.here hx rfl (Jvm.hb hby d_prog_5_m5_24) rfl rfl) ?_
    show oGo p e below _ (T.setTop (mkF m 26 #[.val (.ref w), .val .null, .val (.ref c_), .val (.int (4 : Int32)), .val (.int ((0 : Int32) + (1 : Int32))), .val (.ref d1)] [(.ref d1)]))
    obtain ⟨T, A, st⟩ := A.getF hx (host := "") (Or.inl (hw _ (List.mem_of_getElem? (i := 102) rfl))) Via.refl (Fw1.ext A.old) (g := (mkF m 26 #[.val (.ref w), .val .null, .val (.ref c_), .val (.int (4 : Int32)), .val (.int ((0 : Int32) + (1 : Int32))), .val (.ref d1)] [(.ref d1)])) rfl rfl (Jvm.hb hby d_prog_5_m5_26)
    refine oSt st ?_
    show oGo p e below _ (T.setTop (mkF m 29 #[.val (.ref w), .val .null, .val (.ref c_), .val (.int (4 : Int32)), .val (.int ((0 : Int32) + (1 : Int32))), .val (.ref d1)] [(.ref w1)]))
    refine oSt (fun _ => XS.aloadN A.here hx rfl (Jvm.hb hby d_prog_5_m5_29) rfl rfl) ?_
    show oGo p e below _ (T.setTop (mkF m 30 #[.val (.ref w), .val .null, .val (.ref c_), .val (.int (4 : Int32)), .val (.int ((0 : Int32) + (1 : Int32))), .val (.ref d1)] [(.ref w), (.ref w1)]))
    obtain ⟨T, r_eq, A, h_eq, st⟩ := A.sEq hx heq (hw _ (List.mem_of_getElem? (i := 6) rfl)) (hw _ (List.mem_of_getElem? (i := 104) rfl)) (hw _ (List.mem_of_getElem? (i := 105) rfl)) (hw _ (List.mem_of_getElem? (i := 107) rfl)) (hw _ (List.mem_of_getElem? (i := 106) rfl)) (Qw1.ext A.old) Q hcs hcz (W := 0) (by decide) (by decide) (by decide) (by decide) (g := (mkF m 30 #[.val (.ref w), .val .null, .val (.ref c_), .val (.int (4 : Int32)), .val (.int ((0 : Int32) + (1 : Int32))), .val (.ref d1)] [(.ref w), (.ref w1)])) rfl (by rw [hml]; rfl) rfl (by show 2 * 0 + _ ≤ _; exact Nat.le_of_eq rfl) (Jvm.hb hby d_prog_5_m5_30)
    refine oSt st ?_
    show oGo p e below _ (T.setTop (mkF m 33 #[.val (.ref w), .val .null, .val (.ref c_), .val (.int (4 : Int32)), .val (.int ((0 : Int32) + (1 : Int32))), .val (.ref d1)] [(.int r_eq)]))
    rcases h_eq with ⟨rfl, h1⟩ | ⟨rfl, h1⟩
    · show oGo p e below _ (T.setTop (mkF m 33 #[.val (.ref w), .val .null, .val (.ref c_), .val (.int (4 : Int32)), .val (.int ((0 : Int32) + (1 : Int32))), .val (.ref d1)] [(.int (1 : Int32))]))
      refine oSt (fun _ => XS.ifNo A.here hx rfl (Jvm.hb hby d_prog_5_m5_33) rfl (Jvm.Free.XT.i0_eq_f (by decide))) ?_
      show oGo p e below _ (T.setTop (mkF m 36 #[.val (.ref w), .val .null, .val (.ref c_), .val (.int (4 : Int32)), .val (.int ((0 : Int32) + (1 : Int32))), .val (.ref d1)] []))
      refine oSt (fun _ => XS.aload A.here hx rfl (Jvm.hb hby d_prog_5_m5_36) rfl rfl) ?_
      show oGo p e below _ (T.setTop (mkF m 38 #[.val (.ref w), .val .null, .val (.ref c_), .val (.int (4 : Int32)), .val (.int ((0 : Int32) + (1 : Int32))), .val (.ref d1)] [(.ref d1)]))
      refine oSt (fun _ => XS.astoreN A.here hx rfl (Jvm.hb hby d_prog_5_m5_38) rfl rfl (l' := #[.val (.ref w), .val (.ref d1), .val (.ref c_), .val (.int (4 : Int32)), .val (.int ((0 : Int32) + (1 : Int32))), .val (.ref d1)]) rfl) ?_
      show oGo p e below _ (T.setTop (mkF m 39 #[.val (.ref w), .val (.ref d1), .val (.ref c_), .val (.int (4 : Int32)), .val (.int ((0 : Int32) + (1 : Int32))), .val (.ref d1)] []))
      refine oSt (fun _ => XS.iinc A.here hx rfl (Jvm.hb hby d_prog_5_m5_39) rfl (l' := #[.val (.ref w), .val (.ref d1), .val (.ref c_), .val (.int (4 : Int32)), .val (.int (((0 : Int32) + (1 : Int32)) + (1 : Int32))), .val (.ref d1)]) rfl) ?_
      show oGo p e below _ (T.setTop (mkF m 42 #[.val (.ref w), .val (.ref d1), .val (.ref c_), .val (.int (4 : Int32)), .val (.int (((0 : Int32) + (1 : Int32)) + (1 : Int32))), .val (.ref d1)] []))
      refine oSt (fun _ => XS.goto A.here hx rfl (pc0 := 42) (pc' := 12) rfl (Jvm.hb hby d_prog_5_m5_42) (by decide) (by decide)) ?_
      show oGo p e below _ (T.setTop (mkF m 12 #[.val (.ref w), .val (.ref d1), .val (.ref c_), .val (.int (4 : Int32)), .val (.int (((0 : Int32) + (1 : Int32)) + (1 : Int32))), .val (.ref d1)] []))
      refine oSt (fun _ => XS.iload A.here hx rfl (Jvm.hb hby d_prog_5_m5_12) rfl) ?_
      show oGo p e below _ (T.setTop (mkF m 14 #[.val (.ref w), .val (.ref d1), .val (.ref c_), .val (.int (4 : Int32)), .val (.int (((0 : Int32) + (1 : Int32)) + (1 : Int32))), .val (.ref d1)] [(.int (((0 : Int32) + (1 : Int32)) + (1 : Int32)))]))
      refine oSt (fun _ => XS.iloadN A.here hx rfl (Jvm.hb hby d_prog_5_m5_14) rfl) ?_
      show oGo p e below _ (T.setTop (mkF m 15 #[.val (.ref w), .val (.ref d1), .val (.ref c_), .val (.int (4 : Int32)), .val (.int (((0 : Int32) + (1 : Int32)) + (1 : Int32))), .val (.ref d1)] [(.int (4 : Int32)), (.int (((0 : Int32) + (1 : Int32)) + (1 : Int32)))]))
      refine oSt (fun _ => XS.icmpNo A.here hx rfl (Jvm.hb hby d_prog_5_m5_15) rfl (Jvm.Free.XT.ii_ge_f (by decide))) ?_
      show oGo p e below _ (T.setTop (mkF m 18 #[.val (.ref w), .val (.ref d1), .val (.ref c_), .val (.int (4 : Int32)), .val (.int (((0 : Int32) + (1 : Int32)) + (1 : Int32))), .val (.ref d1)] []))
      refine oSt (fun _ => XS.aloadN A.here hx rfl (Jvm.hb hby d_prog_5_m5_18) rfl rfl) ?_
      show oGo p e below _ (T.setTop (mkF m 19 #[.val (.ref w), .val (.ref d1), .val (.ref c_), .val (.int (4 : Int32)), .val (.int (((0 : Int32) + (1 : Int32)) + (1 : Int32))), .val (.ref d1)] [(.ref c_)]))
      refine oSt (fun _ => XS.iload A.here hx rfl (Jvm.hb hby d_prog_5_m5_19) rfl) ?_
      show oGo p e below _ (T.setTop (mkF m 21 #[.val (.ref w), .val (.ref d1), .val (.ref c_), .val (.int (4 : Int32)), .val (.int (((0 : Int32) + (1 : Int32)) + (1 : Int32))), .val (.ref d1)] [(.int (((0 : Int32) + (1 : Int32)) + (1 : Int32))), (.ref c_)]))
      refine oSt (A.ldR hx V_c rfl ⟨by decide, by decide⟩ (v := (.ref d2)) rfl (g := (mkF m 21 #[.val (.ref w), .val (.ref d1), .val (.ref c_), .val (.int (4 : Int32)), .val (.int (((0 : Int32) + (1 : Int32)) + (1 : Int32))), .val (.ref d1)] [(.int (((0 : Int32) + (1 : Int32)) + (1 : Int32))), (.ref c_)])) rfl rfl (Jvm.hb hby d_prog_5_m5_21)) ?_
      show oGo p e below _ (T.setTop (mkF m 22 #[.val (.ref w), .val (.ref d1), .val (.ref c_), .val (.int (4 : Int32)), .val (.int (((0 : Int32) + (1 : Int32)) + (1 : Int32))), .val (.ref d1)] [(.ref d2)]))
      refine oSt (fun _ => XS.astore A.here hx rfl (Jvm.hb hby d_prog_5_m5_22) rfl rfl (l' := #[.val (.ref w), .val (.ref d1), .val (.ref c_), .val (.int (4 : Int32)), .val (.int (((0 : Int32) + (1 : Int32)) + (1 : Int32))), .val (.ref d2)]) rfl) ?_
      show oGo p e below _ (T.setTop (mkF m 24 #[.val (.ref w), .val (.ref d1), .val (.ref c_), .val (.int (4 : Int32)), .val (.int (((0 : Int32) + (1 : Int32)) + (1 : Int32))), .val (.ref d2)] []))
      refine oSt (fun _ => XS.aload A.here hx rfl (Jvm.hb hby d_prog_5_m5_24) rfl rfl) ?_
      show oGo p e below _ (T.setTop (mkF m 26 #[.val (.ref w), .val (.ref d1), .val (.ref c_), .val (.int (4 : Int32)), .val (.int (((0 : Int32) + (1 : Int32)) + (1 : Int32))), .val (.ref d2)] [(.ref d2)]))
      obtain ⟨T, A, st⟩ := A.getF hx (host := "") (Or.inl (hw _ (List.mem_of_getElem? (i := 102) rfl))) Via.refl (Fw2.ext A.old) (g := (mkF m 26 #[.val (.ref w), .val (.ref d1), .val (.ref c_), .val (.int (4 : Int32)), .val (.int (((0 : Int32) + (1 : Int32)) + (1 : Int32))), .val (.ref d2)] [(.ref d2)])) rfl rfl (Jvm.hb hby d_prog_5_m5_26)
      refine oSt st ?_
      show oGo p e below _ (T.setTop (mkF m 29 #[.val (.ref w), .val (.ref d1), .val (.ref c_), .val (.int (4 : Int32)), .val (.int (((0 : Int32) + (1 : Int32)) + (1 : Int32))), .val (.ref d2)] [(.ref w2)]))
      refine oSt (fun _ => XS.aloadN A.here hx rfl (Jvm.hb hby d_prog_5_m5_29) rfl rfl) ?_
      show oGo p e below _ (T.setTop (mkF m 30 #[.val (.ref w), .val (.ref d1), .val (.ref c_), .val (.int (4 : Int32)), .val (.int (((0 : Int32) + (1 : Int32)) + (1 : Int32))), .val (.ref d2)] [(.ref w), (.ref w2)]))
      obtain ⟨T, r_eq, A, h_eq, st⟩ := A.sEq hx heq (hw _ (List.mem_of_getElem? (i := 6) rfl)) (hw _ (List.mem_of_getElem? (i := 104) rfl)) (hw _ (List.mem_of_getElem? (i := 105) rfl)) (hw _ (List.mem_of_getElem? (i := 107) rfl)) (hw _ (List.mem_of_getElem? (i := 106) rfl)) (Qw2.ext A.old) Q hcs hcz (W := 0) (by decide) (by decide) (by decide) (by decide) (g := (mkF m 30 #[.val (.ref w), .val (.ref d1), .val (.ref c_), .val (.int (4 : Int32)), .val (.int (((0 : Int32) + (1 : Int32)) + (1 : Int32))), .val (.ref d2)] [(.ref w), (.ref w2)])) rfl (by rw [hml]; rfl) rfl (by show 2 * 0 + _ ≤ _; exact Nat.le_of_eq rfl) (Jvm.hb hby d_prog_5_m5_30)
      refine oSt st ?_
      show oGo p e below _ (T.setTop (mkF m 33 #[.val (.ref w), .val (.ref d1), .val (.ref c_), .val (.int (4 : Int32)), .val (.int (((0 : Int32) + (1 : Int32)) + (1 : Int32))), .val (.ref d2)] [(.int r_eq)]))
      rcases h_eq with ⟨rfl, h2⟩ | ⟨rfl, h2⟩
      · exact absurd (h1.trans h2.symm) (by decide)
      · show oGo p e below _ (T.setTop (mkF m 33 #[.val (.ref w), .val (.ref d1), .val (.ref c_), .val (.int (4 : Int32)), .val (.int (((0 : Int32) + (1 : Int32)) + (1 : Int32))), .val (.ref d2)] [(.int (0 : Int32))]))
        refine oSt (fun _ => XS.ifYes A.here hx rfl (pc0 := 33) (pc' := 39) rfl (Jvm.hb hby d_prog_5_m5_33) rfl (Jvm.Free.XT.i0_eq_t rfl) (by decide) (by decide)) ?_
        show oGo p e below _ (T.setTop (mkF m 39 #[.val (.ref w), .val (.ref d1), .val (.ref c_), .val (.int (4 : Int32)), .val (.int (((0 : Int32) + (1 : Int32)) + (1 : Int32))), .val (.ref d2)] []))
        refine oSt (fun _ => XS.iinc A.here hx rfl (Jvm.hb hby d_prog_5_m5_39) rfl (l' := #[.val (.ref w), .val (.ref d1), .val (.ref c_), .val (.int (4 : Int32)), .val (.int ((((0 : Int32) + (1 : Int32)) + (1 : Int32)) + (1 : Int32))), .val (.ref d2)]) rfl) ?_
        show oGo p e below _ (T.setTop (mkF m 42 #[.val (.ref w), .val (.ref d1), .val (.ref c_), .val (.int (4 : Int32)), .val (.int ((((0 : Int32) + (1 : Int32)) + (1 : Int32)) + (1 : Int32))), .val (.ref d2)] []))
        refine oSt (fun _ => XS.goto A.here hx rfl (pc0 := 42) (pc' := 12) rfl (Jvm.hb hby d_prog_5_m5_42) (by decide) (by decide)) ?_
        show oGo p e below _ (T.setTop (mkF m 12 #[.val (.ref w), .val (.ref d1), .val (.ref c_), .val (.int (4 : Int32)), .val (.int ((((0 : Int32) + (1 : Int32)) + (1 : Int32)) + (1 : Int32))), .val (.ref d2)] []))
        refine oSt (fun _ => XS.iload A.here hx rfl (Jvm.hb hby d_prog_5_m5_12) rfl) ?_
        show oGo p e below _ (T.setTop (mkF m 14 #[.val (.ref w), .val (.ref d1), .val (.ref c_), .val (.int (4 : Int32)), .val (.int ((((0 : Int32) + (1 : Int32)) + (1 : Int32)) + (1 : Int32))), .val (.ref d2)] [(.int ((((0 : Int32) + (1 : Int32)) + (1 : Int32)) + (1 : Int32)))]))
        refine oSt (fun _ => XS.iloadN A.here hx rfl (Jvm.hb hby d_prog_5_m5_14) rfl) ?_
        show oGo p e below _ (T.setTop (mkF m 15 #[.val (.ref w), .val (.ref d1), .val (.ref c_), .val (.int (4 : Int32)), .val (.int ((((0 : Int32) + (1 : Int32)) + (1 : Int32)) + (1 : Int32))), .val (.ref d2)] [(.int (4 : Int32)), (.int ((((0 : Int32) + (1 : Int32)) + (1 : Int32)) + (1 : Int32)))]))
        refine oSt (fun _ => XS.icmpNo A.here hx rfl (Jvm.hb hby d_prog_5_m5_15) rfl (Jvm.Free.XT.ii_ge_f (by decide))) ?_
        show oGo p e below _ (T.setTop (mkF m 18 #[.val (.ref w), .val (.ref d1), .val (.ref c_), .val (.int (4 : Int32)), .val (.int ((((0 : Int32) + (1 : Int32)) + (1 : Int32)) + (1 : Int32))), .val (.ref d2)] []))
        refine oSt (fun _ => XS.aloadN A.here hx rfl (Jvm.hb hby d_prog_5_m5_18) rfl rfl) ?_
        show oGo p e below _ (T.setTop (mkF m 19 #[.val (.ref w), .val (.ref d1), .val (.ref c_), .val (.int (4 : Int32)), .val (.int ((((0 : Int32) + (1 : Int32)) + (1 : Int32)) + (1 : Int32))), .val (.ref d2)] [(.ref c_)]))
        refine oSt (fun _ => XS.iload A.here hx rfl (Jvm.hb hby d_prog_5_m5_19) rfl) ?_
        show oGo p e below _ (T.setTop (mkF m 21 #[.val (.ref w), .val (.ref d1), .val (.ref c_), .val (.int (4 : Int32)), .val (.int ((((0 : Int32) + (1 : Int32)) + (1 : Int32)) + (1 : Int32))), .val (.ref d2)] [(.int ((((0 : Int32) + (1 : Int32)) + (1 : Int32)) + (1 : Int32))), (.ref c_)]))
        refine oSt (A.ldR hx V_c rfl ⟨by decide, by decide⟩ (v := (.ref d3)) rfl (g := (mkF m 21 #[.val (.ref w), .val (.ref d1), .val (.ref c_), .val (.int (4 : Int32)), .val (.int ((((0 : Int32) + (1 : Int32)) + (1 : Int32)) + (1 : Int32))), .val (.ref d2)] [(.int ((((0 : Int32) + (1 : Int32)) + (1 : Int32)) + (1 : Int32))), (.ref c_)])) rfl rfl (Jvm.hb hby d_prog_5_m5_21)) ?_
        show oGo p e below _ (T.setTop (mkF m 22 #[.val (.ref w), .val (.ref d1), .val (.ref c_), .val (.int (4 : Int32)), .val (.int ((((0 : Int32) + (1 : Int32)) + (1 : Int32)) + (1 : Int32))), .val (.ref d2)] [(.ref d3)]))
        refine oSt (fun _ => XS.astore A.here hx rfl (Jvm.hb hby d_prog_5_m5_22) rfl rfl (l' := #[.val (.ref w), .val (.ref d1), .val (.ref c_), .val (.int (4 : Int32)), .val (.int ((((0 : Int32) + (1 : Int32)) + (1 : Int32)) + (1 : Int32))), .val (.ref d3)]) rfl) ?_
        show oGo p e below _ (T.setTop (mkF m 24 #[.val (.ref w), .val (.ref d1), .val (.ref c_), .val (.int (4 : Int32)), .val (.int ((((0 : Int32) + (1 : Int32)) + (1 : Int32)) + (1 : Int32))), .val (.ref d3)] []))
        refine oSt (fun _ => XS.aload A.here hx rfl (Jvm.hb hby d_prog_5_m5_24) rfl rfl) ?_
        show oGo p e below _ (T.setTop (mkF m 26 #[.val (.ref w), .val (.ref d1), .val (.ref c_), .val (.int (4 : Int32)), .val (.int ((((0 : Int32) + (1 : Int32)) + (1 : Int32)) + (1 : Int32))), .val (.ref d3)] [(.ref d3)]))
        obtain ⟨T, A, st⟩ := A.getF hx (host := "") (Or.inl (hw _ (List.mem_of_getElem? (i := 102) rfl))) Via.refl (Fw3.ext A.old) (g := (mkF m 26 #[.val (.ref w), .val (.ref d1), .val (.ref c_), .val (.int (4 : Int32)), .val (.int ((((0 : Int32) + (1 : Int32)) + (1 : Int32)) + (1 : Int32))), .val (.ref d3)] [(.ref d3)])) rfl rfl (Jvm.hb hby d_prog_5_m5_26)
        refine oSt st ?_
        show oGo p e below _ (T.setTop (mkF m 29 #[.val (.ref w), .val (.ref d1), .val (.ref c_), .val (.int (4 : Int32)), .val (.int ((((0 : Int32) + (1 : Int32)) + (1 : Int32)) + (1 : Int32))), .val (.ref d3)] [(.ref w3)]))
        refine oSt (fun _ => XS.aloadN A.here hx rfl (Jvm.hb hby d_prog_5_m5_29) rfl rfl) ?_
        show oGo p e below _ (T.setTop (mkF m 30 #[.val (.ref w), .val (.ref d1), .val (.ref c_), .val (.int (4 : Int32)), .val (.int ((((0 : Int32) + (1 : Int32)) + (1 : Int32)) + (1 : Int32))), .val (.ref d3)] [(.ref w), (.ref w3)]))
        obtain ⟨T, r_eq, A, h_eq, st⟩ := A.sEq hx heq (hw _ (List.mem_of_getElem? (i := 6) rfl)) (hw _ (List.mem_of_getElem? (i := 104) rfl)) (hw _ (List.mem_of_getElem? (i := 105) rfl)) (hw _ (List.mem_of_getElem? (i := 107) rfl)) (hw _ (List.mem_of_getElem? (i := 106) rfl)) (Qw3.ext A.old) Q hcs hcz (W := 0) (by decide) (by decide) (by decide) (by decide) (g := (mkF m 30 #[.val (.ref w), .val (.ref d1), .val (.ref c_), .val (.int (4 : Int32)), .val (.int ((((0 : Int32) + (1 : Int32)) + (1 : Int32)) + (1 : Int32))), .val (.ref d3)] [(.ref w), (.ref w3)])) rfl (by rw [hml]; rfl) rfl (by show 2 * 0 + _ ≤ _; exact Nat.le_of_eq rfl) (Jvm.hb hby d_prog_5_m5_30)
        refine oSt st ?_
        show oGo p e below _ (T.setTop (mkF m 33 #[.val (.ref w), .val (.ref d1), .val (.ref c_), .val (.int (4 : Int32)), .val (.int ((((0 : Int32) + (1 : Int32)) + (1 : Int32)) + (1 : Int32))), .val (.ref d3)] [(.int r_eq)]))
        rcases h_eq with ⟨rfl, h3⟩ | ⟨rfl, h3⟩
        · exact absurd (h1.trans h3.symm) (by decide)
        · show oGo p e below _ (T.setTop (mkF m 33 #[.val (.ref w), .val (.ref d1), .val (.ref c_), .val (.int (4 : Int32)), .val (.int ((((0 : Int32) + (1 : Int32)) + (1 : Int32)) + (1 : Int32))), .val (.ref d3)] [(.int (0 : Int32))]))
          refine oSt (fun _ => XS.ifYes A.here hx rfl (pc0 := 33) (pc' := 39) rfl (Jvm.hb hby d_prog_5_m5_33) rfl (Jvm.Free.XT.i0_eq_t rfl) (by decide) (by decide)) ?_
          show oGo p e below _ (T.setTop (mkF m 39 #[.val (.ref w), .val (.ref d1), .val (.ref c_), .val (.int (4 : Int32)), .val (.int ((((0 : Int32) + (1 : Int32)) + (1 : Int32)) + (1 : Int32))), .val (.ref d3)] []))
          refine oSt (fun _ => XS.iinc A.here hx rfl (Jvm.hb hby d_prog_5_m5_39) rfl (l' := #[.val (.ref w), .val (.ref d1), .val (.ref c_), .val (.int (4 : Int32)), .val (.int (((((0 : Int32) + (1 : Int32)) + (1 : Int32)) + (1 : Int32)) + (1 : Int32))), .val (.ref d3)]) rfl) ?_
          show oGo p e below _ (T.setTop (mkF m 42 #[.val (.ref w), .val (.ref d1), .val (.ref c_), .val (.int (4 : Int32)), .val (.int (((((0 : Int32) + (1 : Int32)) + (1 : Int32)) + (1 : Int32)) + (1 : Int32))), .val (.ref d3)] []))
          refine oSt (fun _ => XS.goto A.here hx rfl (pc0 := 42) (pc' := 12) rfl (Jvm.hb hby d_prog_5_m5_42) (by decide) (by decide)) ?_
          show oGo p e below _ (T.setTop (mkF m 12 #[.val (.ref w), .val (.ref d1), .val (.ref c_), .val (.int (4 : Int32)), .val (.int (((((0 : Int32) + (1 : Int32)) + (1 : Int32)) + (1 : Int32)) + (1 : Int32))), .val (.ref d3)] []))
          refine oSt (fun _ => XS.iload A.here hx rfl (Jvm.hb hby d_prog_5_m5_12) rfl) ?_
          show oGo p e below _ (T.setTop (mkF m 14 #[.val (.ref w), .val (.ref d1), .val (.ref c_), .val (.int (4 : Int32)), .val (.int (((((0 : Int32) + (1 : Int32)) + (1 : Int32)) + (1 : Int32)) + (1 : Int32))), .val (.ref d3)] [(.int (((((0 : Int32) + (1 : Int32)) + (1 : Int32)) + (1 : Int32)) + (1 : Int32)))]))
          refine oSt (fun _ => XS.iloadN A.here hx rfl (Jvm.hb hby d_prog_5_m5_14) rfl) ?_
          show oGo p e below _ (T.setTop (mkF m 15 #[.val (.ref w), .val (.ref d1), .val (.ref c_), .val (.int (4 : Int32)), .val (.int (((((0 : Int32) + (1 : Int32)) + (1 : Int32)) + (1 : Int32)) + (1 : Int32))), .val (.ref d3)] [(.int (4 : Int32)), (.int (((((0 : Int32) + (1 : Int32)) + (1 : Int32)) + (1 : Int32)) + (1 : Int32)))]))
          refine oSt (fun _ => XS.icmpYes A.here hx rfl (pc0 := 15) (pc' := 45) rfl (Jvm.hb hby d_prog_5_m5_15) rfl (Jvm.Free.XT.ii_ge_t (by decide)) (by decide) (by decide)) ?_
          show oGo p e below _ (T.setTop (mkF m 45 #[.val (.ref w), .val (.ref d1), .val (.ref c_), .val (.int (4 : Int32)), .val (.int (((((0 : Int32) + (1 : Int32)) + (1 : Int32)) + (1 : Int32)) + (1 : Int32))), .val (.ref d3)] []))
          refine oSt (fun _ => XS.aloadN A.here hx rfl (Jvm.hb hby d_prog_5_m5_45) rfl rfl) ?_
          show oGo p e below _ (T.setTop (mkF m 46 #[.val (.ref w), .val (.ref d1), .val (.ref c_), .val (.int (4 : Int32)), .val (.int (((((0 : Int32) + (1 : Int32)) + (1 : Int32)) + (1 : Int32)) + (1 : Int32))), .val (.ref d3)] [(.ref d1)]))
          exact A.leave hlk hEL (v := some (.ref d1)) (fun h => by rw [hret] at h; cases h) (fun _ _ => ⟨_, rfl, Or.inr (Or.inl ⟨h1.symm, rfl⟩)⟩) (by decide) (by decide) (fun fs hr => retOut A.1 hx hret rfl (Or.inr (Or.inr (Or.inr (Or.inr ⟨rfl, rfl, rfl⟩)))) (Jvm.hb hby d_prog_5_m5_46) hr)
    · show oGo p e below _ (T.setTop (mkF m 33 #[.val (.ref w), .val .null, .val (.ref c_), .val (.int (4 : Int32)), .val (.int ((0 : Int32) + (1 : Int32))), .val (.ref d1)] [(.int (0 : Int32))]))
      refine oSt (fun _ => XS.ifYes A.here hx rfl (pc0 := 33) (pc' := 39) rfl (Jvm.hb hby d_prog_5_m5_33) rfl (Jvm.Free.XT.i0_eq_t rfl) (by decide) (by decide)) ?_
      show oGo p e below _ (T.setTop (mkF m 39 #[.val (.ref w), .val .null, .val (.ref c_), .val (.int (4 : Int32)), .val (.int ((0 : Int32) + (1 : Int32))), .val (.ref d1)] []))
      refine oSt (fun _ => XS.iinc A.here hx rfl (Jvm.hb hby d_prog_5_m5_39) rfl (l' := #[.val (.ref w), .val .null, .val (.ref c_), .val (.int (4 : Int32)), .val (.int (((0 : Int32) + (1 : Int32)) + (1 : Int32))), .val (.ref d1)]) rfl) ?_
      show oGo p e below _ (T.setTop (mkF m 42 #[.val (.ref w), .val .null, .val (.ref c_), .val (.int (4 : Int32)), .val (.int (((0 : Int32) + (1 : Int32)) + (1 : Int32))), .val (.ref d1)] []))
      refine oSt (fun _ => XS.goto A.here hx rfl (pc0 := 42) (pc' := 12) rfl (Jvm.hb hby d_prog_5_m5_42) (by decide) (by decide)) ?_
      show oGo p e below _ (T.setTop (mkF m 12 #[.val (.ref w), .val .null, .val (.ref c_), .val (.int (4 : Int32)), .val (.int (((0 : Int32) + (1 : Int32)) + (1 : Int32))), .val (.ref d1)] []))
      refine oSt (fun _ => XS.iload A.here hx rfl (Jvm.hb hby d_prog_5_m5_12) rfl) ?_
      show oGo p e below _ (T.setTop (mkF m 14 #[.val (.ref w), .val .null, .val (.ref c_), .val (.int (4 : Int32)), .val (.int (((0 : Int32) + (1 : Int32)) + (1 : Int32))), .val (.ref d1)] [(.int (((0 : Int32) + (1 : Int32)) + (1 : Int32)))]))
      refine oSt (fun _ => XS.iloadN A.here hx rfl (Jvm.hb hby d_prog_5_m5_14) rfl) ?_
      show oGo p e below _ (T.setTop (mkF m 15 #[.val (.ref w), .val .null, .val (.ref c_), .val (.int (4 : Int32)), .val (.int (((0 : Int32) + (1 : Int32)) + (1 : Int32))), .val (.ref d1)] [(.int (4 : Int32)), (.int (((0 : Int32) + (1 : Int32)) + (1 : Int32)))]))
      refine oSt (fun _ => XS.icmpNo A.here hx rfl (Jvm.hb hby d_prog_5_m5_15) rfl (Jvm.Free.XT.ii_ge_f (by decide))) ?_
      show oGo p e below _ (T.setTop (mkF m 18 #[.val (.ref w), .val .null, .val (.ref c_), .val (.int (4 : Int32)), .val (.int (((0 : Int32) + (1 : Int32)) + (1 : Int32))), .val (.ref d1)] []))
      refine oSt (fun _ => XS.aloadN A.here hx rfl (Jvm.hb hby d_prog_5_m5_18) rfl rfl) ?_
      show oGo p e below _ (T.setTop (mkF m 19 #[.val (.ref w), .val .null, .val (.ref c_), .val (.int (4 : Int32)), .val (.int (((0 : Int32) + (1 : Int32)) + (1 : Int32))), .val (.ref d1)] [(.ref c_)]))
      refine oSt (fun _ => XS.iload A.here hx rfl (Jvm.hb hby d_prog_5_m5_19) rfl) ?_
      show oGo p e below _ (T.setTop (mkF m 21 #[.val (.ref w), .val .null, .val (.ref c_), .val (.int (4 : Int32)), .val (.int (((0 : Int32) + (1 : Int32)) + (1 : Int32))), .val (.ref d1)] [(.int (((0 : Int32) + (1 : Int32)) + (1 : Int32))), (.ref c_)]))
      refine oSt (A.ldR hx V_c rfl ⟨by decide, by decide⟩ (v := (.ref d2)) rfl (g := (mkF m 21 #[.val (.ref w), .val .null, .val (.ref c_), .val (.int (4 : Int32)), .val (.int (((0 : Int32) + (1 : Int32)) + (1 : Int32))), .val (.ref d1)] [(.int (((0 : Int32) + (1 : Int32)) + (1 : Int32))), (.ref c_)])) rfl rfl (Jvm.hb hby d_prog_5_m5_21)) ?_
      show oGo p e below _ (T.setTop (mkF m 22 #[.val (.ref w), .val .null, .val (.ref c_), .val (.int (4 : Int32)), .val (.int (((0 : Int32) + (1 : Int32)) + (1 : Int32))), .val (.ref d1)] [(.ref d2)]))
      refine oSt (fun _ => XS.astore A.here hx rfl (Jvm.hb hby d_prog_5_m5_22) rfl rfl (l' := #[.val (.ref w), .val .null, .val (.ref c_), .val (.int (4 : Int32)), .val (.int (((0 : Int32) + (1 : Int32)) + (1 : Int32))), .val (.ref d2)]) rfl) ?_
      show oGo p e below _ (T.setTop (mkF m 24 #[.val (.ref w), .val .null, .val (.ref c_), .val (.int (4 : Int32)), .val (.int (((0 : Int32) + (1 : Int32)) + (1 : Int32))), .val (.ref d2)] []))
      refine oSt (fun _ => XS.aload A.here hx rfl (Jvm.hb hby d_prog_5_m5_24) rfl rfl) ?_
      show oGo p e below _ (T.setTop (mkF m 26 #[.val (.ref w), .val .null, .val (.ref c_), .val (.int (4 : Int32)), .val (.int (((0 : Int32) + (1 : Int32)) + (1 : Int32))), .val (.ref d2)] [(.ref d2)]))
      obtain ⟨T, A, st⟩ := A.getF hx (host := "") (Or.inl (hw _ (List.mem_of_getElem? (i := 102) rfl))) Via.refl (Fw2.ext A.old) (g := (mkF m 26 #[.val (.ref w), .val .null, .val (.ref c_), .val (.int (4 : Int32)), .val (.int (((0 : Int32) + (1 : Int32)) + (1 : Int32))), .val (.ref d2)] [(.ref d2)])) rfl rfl (Jvm.hb hby d_prog_5_m5_26)
      refine oSt st ?_
      show oGo p e below _ (T.setTop (mkF m 29 #[.val (.ref w), .val .null, .val (.ref c_), .val (.int (4 : Int32)), .val (.int (((0 : Int32) + (1 : Int32)) + (1 : Int32))), .val (.ref d2)] [(.ref w2)]))
      refine oSt (fun _ => XS.aloadN A.here hx rfl (Jvm.hb hby d_prog_5_m5_29) rfl rfl) ?_
      show oGo p e below _ (T.setTop (mkF m 30 #[.val (.ref w), .val .null, .val (.ref c_), .val (.int (4 : Int32)), .val (.int (((0 : Int32) + (1 : Int32)) + (1 : Int32))), .val (.ref d2)] [(.ref w), (.ref w2)]))
      obtain ⟨T, r_eq, A, h_eq, st⟩ := A.sEq hx heq (hw _ (List.mem_of_getElem? (i := 6) rfl)) (hw _ (List.mem_of_getElem? (i := 104) rfl)) (hw _ (List.mem_of_getElem? (i := 105) rfl)) (hw _ (List.mem_of_getElem? (i := 107) rfl)) (hw _ (List.mem_of_getElem? (i := 106) rfl)) (Qw2.ext A.old) Q hcs hcz (W := 0) (by decide) (by decide) (by decide) (by decide) (g := (mkF m 30 #[.val (.ref w), .val .null, .val (.ref c_), .val (.int (4 : Int32)), .val (.int (((0 : Int32) + (1 : Int32)) + (1 : Int32))), .val (.ref d2)] [(.ref w), (.ref w2)])) rfl (by rw [hml]; rfl) rfl (by show 2 * 0 + _ ≤ _; exact Nat.le_of_eq rfl) (Jvm.hb hby d_prog_5_m5_30)
      refine oSt st ?_
      show oGo p e below _ (T.setTop (mkF m 33 #[.val (.ref w), .val .null, .val (.ref c_), .val (.int (4 : Int32)), .val (.int (((0 : Int32) + (1 : Int32)) + (1 : Int32))), .val (.ref d2)] [(.int r_eq)]))
      rcases h_eq with ⟨rfl, h2⟩ | ⟨rfl, h2⟩
      · show oGo p e below _ (T.setTop (mkF m 33 #[.val (.ref w), .val .null, .val (.ref c_), .val (.int (4 : Int32)), .val (.int (((0 : Int32) + (1 : Int32)) + (1 : Int32))), .val (.ref d2)] [(.int (1 : Int32))]))
        refine oSt (fun _ => XS.ifNo A.here hx rfl (Jvm.hb hby d_prog_5_m5_33) rfl (Jvm.Free.XT.i0_eq_f (by decide))) ?_
        show oGo p e below _ (T.setTop (mkF m 36 #[.val (.ref w), .val .null, .val (.ref c_), .val (.int (4 : Int32)), .val (.int (((0 : Int32) + (1 : Int32)) + (1 : Int32))), .val (.ref d2)] []))
        refine oSt (fun _ => XS.aload A.here hx rfl (Jvm.hb hby d_prog_5_m5_36) rfl rfl) ?_
        show oGo p e below _ (T.setTop (mkF m 38 #[.val (.ref w), .val .null, .val (.ref c_), .val (.int (4 : Int32)), .val (.int (((0 : Int32) + (1 : Int32)) + (1 : Int32))), .val (.ref d2)] [(.ref d2)]))
        refine oSt (fun _ => XS.astoreN A.here hx rfl (Jvm.hb hby d_prog_5_m5_38) rfl rfl (l' := #[.val (.ref w), .val (.ref d2), .val (.ref c_), .val (.int (4 : Int32)), .val (.int (((0 : Int32) + (1 : Int32)) + (1 : Int32))), .val (.ref d2)]) rfl) ?_
        show oGo p e below _ (T.setTop (mkF m 39 #[.val (.ref w), .val (.ref d2), .val (.ref c_), .val (.int (4 : Int32)), .val (.int (((0 : Int32) + (1 : Int32)) + (1 : Int32))), .val (.ref d2)] []))
        refine oSt (fun _ => XS.iinc A.here hx rfl (Jvm.hb hby d_prog_5_m5_39) rfl (l' := #[.val (.ref w), .val (.ref d2), .val (.ref c_), .val (.int (4 : Int32)), .val (.int ((((0 : Int32) + (1 : Int32)) + (1 : Int32)) + (1 : Int32))), .val (.ref d2)]) rfl) ?_
        show oGo p e below _ (T.setTop (mkF m 42 #[.val (.ref w), .val (.ref d2), .val (.ref c_), .val (.int (4 : Int32)), .val (.int ((((0 : Int32) + (1 : Int32)) + (1 : Int32)) + (1 : Int32))), .val (.ref d2)] []))
        refine oSt (fun _ => XS.goto A.here hx rfl (pc0 := 42) (pc' := 12) rfl (Jvm.hb hby d_prog_5_m5_42) (by decide) (by decide)) ?_
        show oGo p e below _ (T.setTop (mkF m 12 #[.val (.ref w), .val (.ref d2), .val (.ref c_), .val (.int (4 : Int32)), .val (.int ((((0 : Int32) + (1 : Int32)) + (1 : Int32)) + (1 : Int32))), .val (.ref d2)] []))
        refine oSt (fun _ => XS.iload A.here hx rfl (Jvm.hb hby d_prog_5_m5_12) rfl) ?_
        show oGo p e below _ (T.setTop (mkF m 14 #[.val (.ref w), .val (.ref d2), .val (.ref c_), .val (.int (4 : Int32)), .val (.int ((((0 : Int32) + (1 : Int32)) + (1 : Int32)) + (1 : Int32))), .val (.ref d2)] [(.int ((((0 : Int32) + (1 : Int32)) + (1 : Int32)) + (1 : Int32)))]))
        refine oSt (fun _ => XS.iloadN A.here hx rfl (Jvm.hb hby d_prog_5_m5_14) rfl) ?_
        show oGo p e below _ (T.setTop (mkF m 15 #[.val (.ref w), .val (.ref d2), .val (.ref c_), .val (.int (4 : Int32)), .val (.int ((((0 : Int32) + (1 : Int32)) + (1 : Int32)) + (1 : Int32))), .val (.ref d2)] [(.int (4 : Int32)), (.int ((((0 : Int32) + (1 : Int32)) + (1 : Int32)) + (1 : Int32)))]))
        refine oSt (fun _ => XS.icmpNo A.here hx rfl (Jvm.hb hby d_prog_5_m5_15) rfl (Jvm.Free.XT.ii_ge_f (by decide))) ?_
        show oGo p e below _ (T.setTop (mkF m 18 #[.val (.ref w), .val (.ref d2), .val (.ref c_), .val (.int (4 : Int32)), .val (.int ((((0 : Int32) + (1 : Int32)) + (1 : Int32)) + (1 : Int32))), .val (.ref d2)] []))
        refine oSt (fun _ => XS.aloadN A.here hx rfl (Jvm.hb hby d_prog_5_m5_18) rfl rfl) ?_
        show oGo p e below _ (T.setTop (mkF m 19 #[.val (.ref w), .val (.ref d2), .val (.ref c_), .val (.int (4 : Int32)), .val (.int ((((0 : Int32) + (1 : Int32)) + (1 : Int32)) + (1 : Int32))), .val (.ref d2)] [(.ref c_)]))
        refine oSt (fun _ => XS.iload A.here hx rfl (Jvm.hb hby d_prog_5_m5_19) rfl) ?_
        show oGo p e below _ (T.setTop (mkF m 21 #[.val (.ref w), .val (.ref d2), .val (.ref c_), .val (.int (4 : Int32)), .val (.int ((((0 : Int32) + (1 : Int32)) + (1 : Int32)) + (1 : Int32))), .val (.ref d2)] [(.int ((((0 : Int32) + (1 : Int32)) + (1 : Int32)) + (1 : Int32))), (.ref c_)]))
        refine oSt (A.ldR hx V_c rfl ⟨by decide, by decide⟩ (v := (.ref d3)) rfl (g := (mkF m 21 #[.val (.ref w), .val (.ref d2), .val (.ref c_), .val (.int (4 : Int32)), .val (.int ((((0 : Int32) + (1 : Int32)) + (1 : Int32)) + (1 : Int32))), .val (.ref d2)] [(.int ((((0 : Int32) + (1 : Int32)) + (1 : Int32)) + (1 : Int32))), (.ref c_)])) rfl rfl (Jvm.hb hby d_prog_5_m5_21)) ?_
        show oGo p e below _ (T.setTop (mkF m 22 #[.val (.ref w), .val (.ref d2), .val (.ref c_), .val (.int (4 : Int32)), .val (.int ((((0 : Int32) + (1 : Int32)) + (1 : Int32)) + (1 : Int32))), .val (.ref d2)] [(.ref d3)]))
        refine oSt (fun _ => XS.astore A.here hx rfl (Jvm.hb hby d_prog_5_m5_22) rfl rfl (l' := #[.val (.ref w), .val (.ref d2), .val (.ref c_), .val (.int (4 : Int32)), .val (.int ((((0 : Int32) + (1 : Int32)) + (1 : Int32)) + (1 : Int32))), .val (.ref d3)]) rfl) ?_
        show oGo p e below _ (T.setTop (mkF m 24 #[.val (.ref w), .val (.ref d2), .val (.ref c_), .val (.int (4 : Int32)), .val (.int ((((0 : Int32) + (1 : Int32)) + (1 : Int32)) + (1 : Int32))), .val (.ref d3)] []))
        refine oSt (fun _ => XS.aload A.here hx rfl (Jvm.hb hby d_prog_5_m5_24) rfl rfl) ?_
        show oGo p e below _ (T.setTop (mkF m 26 #[.val (.ref w), .val (.ref d2), .val (.ref c_), .val (.int (4 : Int32)), .val (.int ((((0 : Int32) + (1 : Int32)) + (1 : Int32)) + (1 : Int32))), .val (.ref d3)] [(.ref d3)]))
        obtain ⟨T, A, st⟩ := A.getF hx (host := "") (Or.inl (hw _ (List.mem_of_getElem? (i := 102) rfl))) Via.refl (Fw3.ext A.old) (g := (mkF m 26 #[.val (.ref w), .val (.ref d2), .val (.ref c_), .val (.int (4 : Int32)), .val (.int ((((0 : Int32) + (1 : Int32)) + (1 : Int32)) + (1 : Int32))), .val (.ref d3)] [(.ref d3)])) rfl rfl (Jvm.hb hby d_prog_5_m5_26)
        refine oSt st ?_
        show oGo p e below _ (T.setTop (mkF m 29 #[.val (.ref w), .val (.ref d2), .val (.ref c_), .val (.int (4 : Int32)), .val (.int ((((0 : Int32) + (1 : Int32)) + (1 : Int32)) + (1 : Int32))), .val (.ref d3)] [(.ref w3)]))
        refine oSt (fun _ => XS.aloadN A.here hx rfl (Jvm.hb hby d_prog_5_m5_29) rfl rfl) ?_
        show oGo p e below _ (T.setTop (mkF m 30 #[.val (.ref w), .val (.ref d2), .val (.ref c_), .val (.int (4 : Int32)), .val (.int ((((0 : Int32) + (1 : Int32)) + (1 : Int32)) + (1 : Int32))), .val (.ref d3)] [(.ref w), (.ref w3)]))
        obtain ⟨T, r_eq, A, h_eq, st⟩ := A.sEq hx heq (hw _ (List.mem_of_getElem? (i := 6) rfl)) (hw _ (List.mem_of_getElem? (i := 104) rfl)) (hw _ (List.mem_of_getElem? (i := 105) rfl)) (hw _ (List.mem_of_getElem? (i := 107) rfl)) (hw _ (List.mem_of_getElem? (i := 106) rfl)) (Qw3.ext A.old) Q hcs hcz (W := 0) (by decide) (by decide) (by decide) (by decide) (g := (mkF m 30 #[.val (.ref w), .val (.ref d2), .val (.ref c_), .val (.int (4 : Int32)), .val (.int ((((0 : Int32) + (1 : Int32)) + (1 : Int32)) + (1 : Int32))), .val (.ref d3)] [(.ref w), (.ref w3)])) rfl (by rw [hml]; rfl) rfl (by show 2 * 0 + _ ≤ _; exact Nat.le_of_eq rfl) (Jvm.hb hby d_prog_5_m5_30)
        refine oSt st ?_
        show oGo p e below _ (T.setTop (mkF m 33 #[.val (.ref w), .val (.ref d2), .val (.ref c_), .val (.int (4 : Int32)), .val (.int ((((0 : Int32) + (1 : Int32)) + (1 : Int32)) + (1 : Int32))), .val (.ref d3)] [(.int r_eq)]))
        rcases h_eq with ⟨rfl, h3⟩ | ⟨rfl, h3⟩
        · exact absurd (h2.trans h3.symm) (by decide)
        · show oGo p e below _ (T.setTop (mkF m 33 #[.val (.ref w), .val (.ref d2), .val (.ref c_), .val (.int (4 : Int32)), .val (.int ((((0 : Int32) + (1 : Int32)) + (1 : Int32)) + (1 : Int32))), .val (.ref d3)] [(.int (0 : Int32))]))
          refine oSt (fun _ => XS.ifYes A.here hx rfl (pc0 := 33) (pc' := 39) rfl (Jvm.hb hby d_prog_5_m5_33) rfl (Jvm.Free.XT.i0_eq_t rfl) (by decide) (by decide)) ?_
          show oGo p e below _ (T.setTop (mkF m 39 #[.val (.ref w), .val (.ref d2), .val (.ref c_), .val (.int (4 : Int32)), .val (.int ((((0 : Int32) + (1 : Int32)) + (1 : Int32)) + (1 : Int32))), .val (.ref d3)] []))
          refine oSt (fun _ => XS.iinc A.here hx rfl (Jvm.hb hby d_prog_5_m5_39) rfl (l' := #[.val (.ref w), .val (.ref d2), .val (.ref c_), .val (.int (4 : Int32)), .val (.int (((((0 : Int32) + (1 : Int32)) + (1 : Int32)) + (1 : Int32)) + (1 : Int32))), .val (.ref d3)]) rfl) ?_
          show oGo p e below _ (T.setTop (mkF m 42 #[.val (.ref w), .val (.ref d2), .val (.ref c_), .val (.int (4 : Int32)), .val (.int (((((0 : Int32) + (1 : Int32)) + (1 : Int32)) + (1 : Int32)) + (1 : Int32))), .val (.ref d3)] []))
          refine oSt (fun _ => XS.goto A.here hx rfl (pc0 := 42) (pc' := 12) rfl (Jvm.hb hby d_prog_5_m5_42) (by decide) (by decide)) ?_
          show oGo p e below _ (T.setTop (mkF m 12 #[.val (.ref w), .val (.ref d2), .val (.ref c_), .val (.int (4 : Int32)), .val (.int (((((0 : Int32) + (1 : Int32)) + (1 : Int32)) + (1 : Int32)) + (1 : Int32))), .val (.ref d3)] []))
          refine oSt (fun _ => XS.iload A.here hx rfl (Jvm.hb hby d_prog_5_m5_12) rfl) ?_
          show oGo p e below _ (T.setTop (mkF m 14 #[.val (.ref w), .val (.ref d2), .val (.ref c_), .val (.int (4 : Int32)), .val (.int (((((0 : Int32) + (1 : Int32)) + (1 : Int32)) + (1 : Int32)) + (1 : Int32))), .val (.ref d3)] [(.int (((((0 : Int32) + (1 : Int32)) + (1 : Int32)) + (1 : Int32)) + (1 : Int32)))]))
          refine oSt (fun _ => XS.iloadN A.here hx rfl (Jvm.hb hby d_prog_5_m5_14) rfl) ?_
          show oGo p e below _ (T.setTop (mkF m 15 #[.val (.ref w), .val (.ref d2), .val (.ref c_), .val (.int (4 : Int32)), .val (.int (((((0 : Int32) + (1 : Int32)) + (1 : Int32)) + (1 : Int32)) + (1 : Int32))), .val (.ref d3)] [(.int (4 : Int32)), (.int (((((0 : Int32) + (1 : Int32)) + (1 : Int32)) + (1 : Int32)) + (1 : Int32)))]))
          refine oSt (fun _ => XS.icmpYes A.here hx rfl (pc0 := 15) (pc' := 45) rfl (Jvm.hb hby d_prog_5_m5_15) rfl (Jvm.Free.XT.ii_ge_t (by decide)) (by decide) (by decide)) ?_
          show oGo p e below _ (T.setTop (mkF m 45 #[.val (.ref w), .val (.ref d2), .val (.ref c_), .val (.int (4 : Int32)), .val (.int (((((0 : Int32) + (1 : Int32)) + (1 : Int32)) + (1 : Int32)) + (1 : Int32))), .val (.ref d3)] []))
          refine oSt (fun _ => XS.aloadN A.here hx rfl (Jvm.hb hby d_prog_5_m5_45) rfl rfl) ?_
          show oGo p e below _ (T.setTop (mkF m 46 #[.val (.ref w), .val (.ref d2), .val (.ref c_), .val (.int (4 : Int32)), .val (.int (((((0 : Int32) + (1 : Int32)) + (1 : Int32)) + (1 : Int32)) + (1 : Int32))), .val (.ref d3)] [(.ref d2)]))
          exact A.leave hlk hEL (v := some (.ref d2)) (fun h => by rw [hret] at h; cases h) (fun _ _ => ⟨_, rfl, Or.inr (Or.inr (Or.inl ⟨h2.symm, rfl⟩))⟩) (by decide) (by decide) (fun fs hr => retOut A.1 hx hret rfl (Or.inr (Or.inr (Or.inr (Or.inr ⟨rfl, rfl, rfl⟩)))) (Jvm.hb hby d_prog_5_m5_46) hr)
      · show oGo p e below _ (T.setTop (mkF m 33 #[.val (.ref w), .val .null, .val (.ref c_), .val (.int (4 : Int32)), .val (.int (((0 : Int32) + (1 : Int32)) + (1 : Int32))), .val (.ref d2)] [(.int (0 : Int32))]))
        refine oSt (fun _ => XS.ifYes A.here hx rfl (pc0 := 33) (pc' := 39) rfl (Jvm.hb hby d_prog_5_m5_33) rfl (Jvm.Free.XT.i0_eq_t rfl) (by decide) (by decide)) ?_
        show oGo p e below _ (T.setTop (mkF m 39 #[.val (.ref w), .val .null, .val (.ref c_), .val (.int (4 : Int32)), .val (.int (((0 : Int32) + (1 : Int32)) + (1 : Int32))), .val (.ref d2)] []))
        refine oSt (fun _ => XS.iinc A.here hx rfl (Jvm.hb hby d_prog_5_m5_39) rfl (l' := #[.val (.ref w), .val .null, .val (.ref c_), .val (.int (4 : Int32)), .val (.int ((((0 : Int32) + (1 : Int32)) + (1 : Int32)) + (1 : Int32))), .val (.ref d2)]) rfl) ?_
        show oGo p e below _ (T.setTop (mkF m 42 #[.val (.ref w), .val .null, .val (.ref c_), .val (.int (4 : Int32)), .val (.int ((((0 : Int32) + (1 : Int32)) + (1 : Int32)) + (1 : Int32))), .val (.ref d2)] []))
        refine oSt (fun _ => XS.goto A.here hx rfl (pc0 := 42) (pc' := 12) rfl (Jvm.hb hby d_prog_5_m5_42) (by decide) (by decide)) ?_
        show oGo p e below _ (T.setTop (mkF m 12 #[.val (.ref w), .val .null, .val (.ref c_), .val (.int (4 : Int32)), .val (.int ((((0 : Int32) + (1 : Int32)) + (1 : Int32)) + (1 : Int32))), .val (.ref d2)] []))
        refine oSt (fun _ => XS.iload A.here hx rfl (Jvm.hb hby d_prog_5_m5_12) rfl) ?_
        show oGo p e below _ (T.setTop (mkF m 14 #[.val (.ref w), .val .null, .val (.ref c_), .val (.int (4 : Int32)), .val (.int ((((0 : Int32) + (1 : Int32)) + (1 : Int32)) + (1 : Int32))), .val (.ref d2)] [(.int ((((0 : Int32) + (1 : Int32)) + (1 : Int32)) + (1 : Int32)))]))
        refine oSt (fun _ => XS.iloadN A.here hx rfl (Jvm.hb hby d_prog_5_m5_14) rfl) ?_
        show oGo p e below _ (T.setTop (mkF m 15 #[.val (.ref w), .val .null, .val (.ref c_), .val (.int (4 : Int32)), .val (.int ((((0 : Int32) + (1 : Int32)) + (1 : Int32)) + (1 : Int32))), .val (.ref d2)] [(.int (4 : Int32)), (.int ((((0 : Int32) + (1 : Int32)) + (1 : Int32)) + (1 : Int32)))]))
        refine oSt (fun _ => XS.icmpNo A.here hx rfl (Jvm.hb hby d_prog_5_m5_15) rfl (Jvm.Free.XT.ii_ge_f (by decide))) ?_
        show oGo p e below _ (T.setTop (mkF m 18 #[.val (.ref w), .val .null, .val (.ref c_), .val (.int (4 : Int32)), .val (.int ((((0 : Int32) + (1 : Int32)) + (1 : Int32)) + (1 : Int32))), .val (.ref d2)] []))
        refine oSt (fun _ => XS.aloadN A.here hx rfl (Jvm.hb hby d_prog_5_m5_18) rfl rfl) ?_
        show oGo p e below _ (T.setTop (mkF m 19 #[.val (.ref w), .val .null, .val (.ref c_), .val (.int (4 : Int32)), .val (.int ((((0 : Int32) + (1 : Int32)) + (1 : Int32)) + (1 : Int32))), .val (.ref d2)] [(.ref c_)]))
        refine oSt (fun _ => XS.iload A.here hx rfl (Jvm.hb hby d_prog_5_m5_19) rfl) ?_
        show oGo p e below _ (T.setTop (mkF m 21 #[.val (.ref w), .val .null, .val (.ref c_), .val (.int (4 : Int32)), .val (.int ((((0 : Int32) + (1 : Int32)) + (1 : Int32)) + (1 : Int32))), .val (.ref d2)] [(.int ((((0 : Int32) + (1 : Int32)) + (1 : Int32)) + (1 : Int32))), (.ref c_)]))
        refine oSt (A.ldR hx V_c rfl ⟨by decide, by decide⟩ (v := (.ref d3)) rfl (g := (mkF m 21 #[.val (.ref w), .val .null, .val (.ref c_), .val (.int (4 : Int32)), .val (.int ((((0 : Int32) + (1 : Int32)) + (1 : Int32)) + (1 : Int32))), .val (.ref d2)] [(.int ((((0 : Int32) + (1 : Int32)) + (1 : Int32)) + (1 : Int32))), (.ref c_)])) rfl rfl (Jvm.hb hby d_prog_5_m5_21)) ?_
        show oGo p e below _ (T.setTop (mkF m 22 #[.val (.ref w), .val .null, .val (.ref c_), .val (.int (4 : Int32)), .val (.int ((((0 : Int32) + (1 : Int32)) + (1 : Int32)) + (1 : Int32))), .val (.ref d2)] [(.ref d3)]))
        refine oSt (fun _ => XS.astore A.here hx rfl (Jvm.hb hby d_prog_5_m5_22) rfl rfl (l' := #[.val (.ref w), .val .null, .val (.ref c_), .val (.int (4 : Int32)), .val (.int ((((0 : Int32) + (1 : Int32)) + (1 : Int32)) + (1 : Int32))), .val (.ref d3)]) rfl) ?_
        show oGo p e below _ (T.setTop (mkF m 24 #[.val (.ref w), .val .null, .val (.ref c_), .val (.int (4 : Int32)), .val (.int ((((0 : Int32) + (1 : Int32)) + (1 : Int32)) + (1 : Int32))), .val (.ref d3)] []))
        refine oSt (fun _ => XS.aload A.here hx rfl (Jvm.hb hby d_prog_5_m5_24) rfl rfl) ?_
        show oGo p e below _ (T.setTop (mkF m 26 #[.val (.ref w), .val .null, .val (.ref c_), .val (.int (4 : Int32)), .val (.int ((((0 : Int32) + (1 : Int32)) + (1 : Int32)) + (1 : Int32))), .val (.ref d3)] [(.ref d3)]))
        obtain ⟨T, A, st⟩ := A.getF hx (host := "") (Or.inl (hw _ (List.mem_of_getElem? (i := 102) rfl))) Via.refl (Fw3.ext A.old) (g := (mkF m 26 #[.val (.ref w), .val .null, .val (.ref c_), .val (.int (4 : Int32)), .val (.int ((((0 : Int32) + (1 : Int32)) + (1 : Int32)) + (1 : Int32))), .val (.ref d3)] [(.ref d3)])) rfl rfl (Jvm.hb hby d_prog_5_m5_26)
        refine oSt st ?_
        show oGo p e below _ (T.setTop (mkF m 29 #[.val (.ref w), .val .null, .val (.ref c_), .val (.int (4 : Int32)), .val (.int ((((0 : Int32) + (1 : Int32)) + (1 : Int32)) + (1 : Int32))), .val (.ref d3)] [(.ref w3)]))
        refine oSt (fun _ => XS.aloadN A.here hx rfl (Jvm.hb hby d_prog_5_m5_29) rfl rfl) ?_
        show oGo p e below _ (T.setTop (mkF m 30 #[.val (.ref w), .val .null, .val (.ref c_), .val (.int (4 : Int32)), .val (.int ((((0 : Int32) + (1 : Int32)) + (1 : Int32)) + (1 : Int32))), .val (.ref d3)] [(.ref w), (.ref w3)]))
        obtain ⟨T, r_eq, A, h_eq, st⟩ := A.sEq hx heq (hw _ (List.mem_of_getElem? (i := 6) rfl)) (hw _ (List.mem_of_getElem? (i := 104) rfl)) (hw _ (List.mem_of_getElem? (i := 105) rfl)) (hw _ (List.mem_of_getElem? (i := 107) rfl)) (hw _ (List.mem_of_getElem? (i := 106) rfl)) (Qw3.ext A.old) Q hcs hcz (W := 0) (by decide) (by decide) (by decide) (by decide) (g := (mkF m 30 #[.val (.ref w), .val .null, .val (.ref c_), .val (.int (4 : Int32)), .val (.int ((((0 : Int32) + (1 : Int32)) + (1 : Int32)) + (1 : Int32))), .val (.ref d3)] [(.ref w), (.ref w3)])) rfl (by rw [hml]; rfl) rfl (by show 2 * 0 + _ ≤ _; exact Nat.le_of_eq rfl) (Jvm.hb hby d_prog_5_m5_30)
        refine oSt st ?_
        show oGo p e below _ (T.setTop (mkF m 33 #[.val (.ref w), .val .null, .val (.ref c_), .val (.int (4 : Int32)), .val (.int ((((0 : Int32) + (1 : Int32)) + (1 : Int32)) + (1 : Int32))), .val (.ref d3)] [(.int r_eq)]))
        rcases h_eq with ⟨rfl, h3⟩ | ⟨rfl, h3⟩
        · show oGo p e below _ (T.setTop (mkF m 33 #[.val (.ref w), .val .null, .val (.ref c_), .val (.int (4 : Int32)), .val (.int ((((0 : Int32) + (1 : Int32)) + (1 : Int32)) + (1 : Int32))), .val (.ref d3)] [(.int (1 : Int32))]))
          refine oSt (fun _ => XS.ifNo A.here hx rfl (Jvm.hb hby d_prog_5_m5_33) rfl (Jvm.Free.XT.i0_eq_f (by decide))) ?_
          show oGo p e below _ (T.setTop (mkF m 36 #[.val (.ref w), .val .null, .val (.ref c_), .val (.int (4 : Int32)), .val (.int ((((0 : Int32) + (1 : Int32)) + (1 : Int32)) + (1 : Int32))), .val (.ref d3)] []))
          refine oSt (fun _ => XS.aload A.here hx rfl (Jvm.hb hby d_prog_5_m5_36) rfl rfl) ?_
          show oGo p e below _ (T.setTop (mkF m 38 #[.val (.ref w), .val .null, .val (.ref c_), .val (.int (4 : Int32)), .val (.int ((((0 : Int32) + (1 : Int32)) + (1 : Int32)) + (1 : Int32))), .val (.ref d3)] [(.ref d3)]))
          refine oSt (fun _ => XS.astoreN A.here hx rfl (Jvm.hb hby d_prog_5_m5_38) rfl rfl (l' := #[.val (.ref w), .val (.ref d3), .val (.ref c_), .val (.int (4 : Int32)), .val (.int ((((0 : Int32) + (1 : Int32)) + (1 : Int32)) + (1 : Int32))), .val (.ref d3)]) rfl) ?_
          show oGo p e below _ (T.setTop (mkF m 39 #[.val (.ref w), .val (.ref d3), .val (.ref c_), .val (.int (4 : Int32)), .val (.int ((((0 : Int32) + (1 : Int32)) + (1 : Int32)) + (1 : Int32))), .val (.ref d3)] []))
          refine oSt (fun _ => XS.iinc A.here hx rfl (Jvm.hb hby d_prog_5_m5_39) rfl (l' := #[.val (.ref w), .val (.ref d3), .val (.ref c_), .val (.int (4 : Int32)), .val (.int (((((0 : Int32) + (1 : Int32)) + (1 : Int32)) + (1 : Int32)) + (1 : Int32))), .val (.ref d3)]) rfl) ?_
          show oGo p e below _ (T.setTop (mkF m 42 #[.val (.ref w), .val (.ref d3), .val (.ref c_), .val (.int (4 : Int32)), .val (.int (((((0 : Int32) + (1 : Int32)) + (1 : Int32)) + (1 : Int32)) + (1 : Int32))), .val (.ref d3)] []))
          refine oSt (fun _ => XS.goto A.here hx rfl (pc0 := 42) (pc' := 12) rfl (Jvm.hb hby d_prog_5_m5_42) (by decide) (by decide)) ?_
          show oGo p e below _ (T.setTop (mkF m 12 #[.val (.ref w), .val (.ref d3), .val (.ref c_), .val (.int (4 : Int32)), .val (.int (((((0 : Int32) + (1 : Int32)) + (1 : Int32)) + (1 : Int32)) + (1 : Int32))), .val (.ref d3)] []))
          refine oSt (fun _ => XS.iload A.here hx rfl (Jvm.hb hby d_prog_5_m5_12) rfl) ?_
          show oGo p e below _ (T.setTop (mkF m 14 #[.val (.ref w), .val (.ref d3), .val (.ref c_), .val (.int (4 : Int32)), .val (.int (((((0 : Int32) + (1 : Int32)) + (1 : Int32)) + (1 : Int32)) + (1 : Int32))), .val (.ref d3)] [(.int (((((0 : Int32) + (1 : Int32)) + (1 : Int32)) + (1 : Int32)) + (1 : Int32)))]))
          refine oSt (fun _ => XS.iloadN A.here hx rfl (Jvm.hb hby d_prog_5_m5_14) rfl) ?_
          show oGo p e below _ (T.setTop (mkF m 15 #[.val (.ref w), .val (.ref d3), .val (.ref c_), .val (.int (4 : Int32)), .val (.int (((((0 : Int32) + (1 : Int32)) + (1 : Int32)) + (1 : Int32)) + (1 : Int32))), .val (.ref d3)] [(.int (4 : Int32)), (.int (((((0 : Int32) + (1 : Int32)) + (1 : Int32)) + (1 : Int32)) + (1 : Int32)))]))
          refine oSt (fun _ => XS.icmpYes A.here hx rfl (pc0 := 15) (pc' := 45) rfl (Jvm.hb hby d_prog_5_m5_15) rfl (Jvm.Free.XT.ii_ge_t (by decide)) (by decide) (by decide)) ?_
          show oGo p e below _ (T.setTop (mkF m 45 #[.val (.ref w), .val (.ref d3), .val (.ref c_), .val (.int (4 : Int32)), .val (.int (((((0 : Int32) + (1 : Int32)) + (1 : Int32)) + (1 : Int32)) + (1 : Int32))), .val (.ref d3)] []))
          refine oSt (fun _ => XS.aloadN A.here hx rfl (Jvm.hb hby d_prog_5_m5_45) rfl rfl) ?_
          show oGo p e below _ (T.setTop (mkF m 46 #[.val (.ref w), .val (.ref d3), .val (.ref c_), .val (.int (4 : Int32)), .val (.int (((((0 : Int32) + (1 : Int32)) + (1 : Int32)) + (1 : Int32)) + (1 : Int32))), .val (.ref d3)] [(.ref d3)]))
          exact A.leave hlk hEL (v := some (.ref d3)) (fun h => by rw [hret] at h; cases h) (fun _ _ => ⟨_, rfl, Or.inr (Or.inr (Or.inr (Or.inl ⟨h3.symm, rfl⟩)))⟩) (by decide) (by decide) (fun fs hr => retOut A.1 hx hret rfl (Or.inr (Or.inr (Or.inr (Or.inr ⟨rfl, rfl, rfl⟩)))) (Jvm.hb hby d_prog_5_m5_46) hr)
        · show oGo p e below _ (T.setTop (mkF m 33 #[.val (.ref w), .val .null, .val (.ref c_), .val (.int (4 : Int32)), .val (.int ((((0 : Int32) + (1 : Int32)) + (1 : Int32)) + (1 : Int32))), .val (.ref d3)] [(.int (0 : Int32))]))
          refine oSt (fun _ => XS.ifYes A.here hx rfl (pc0 := 33) (pc' := 39) rfl (Jvm.hb hby d_prog_5_m5_33) rfl (Jvm.Free.XT.i0_eq_t rfl) (by decide) (by decide)) ?_
          show oGo p e below _ (T.setTop (mkF m 39 #[.val (.ref w), .val .null, .val (.ref c_), .val (.int (4 : Int32)), .val (.int ((((0 : Int32) + (1 : Int32)) + (1 : Int32)) + (1 : Int32))), .val (.ref d3)] []))
          refine oSt (fun _ => XS.iinc A.here hx rfl (Jvm.hb hby d_prog_5_m5_39) rfl (l' := #[.val (.ref w), .val .null, .val (.ref c_), .val (.int (4 : Int32)), .val (.int (((((0 : Int32) + (1 : Int32)) + (1 : Int32)) + (1 : Int32)) + (1 : Int32))), .val (.ref d3)]) rfl) ?_
          show oGo p e below _ (T.setTop (mkF m 42 #[.val (.ref w), .val .null, .val (.ref c_), .val (.int (4 : Int32)), .val (.int (((((0 : Int32) + (1 : Int32)) + (1 : Int32)) + (1 : Int32)) + (1 : Int32))), .val (.ref d3)] []))
          refine oSt (fun _ => XS.goto A.here hx rfl (pc0 := 42) (pc' := 12) rfl (Jvm.hb hby d_prog_5_m5_42) (by decide) (by decide)) ?_
          show oGo p e below _ (T.setTop (mkF m 12 #[.val (.ref w), .val .null, .val (.ref c_), .val (.int (4 : Int32)), .val (.int (((((0 : Int32) + (1 : Int32)) + (1 : Int32)) + (1 : Int32)) + (1 : Int32))), .val (.ref d3)] []))
          refine oSt (fun _ => XS.iload A.here hx rfl (Jvm.hb hby d_prog_5_m5_12) rfl) ?_
          show oGo p e below _ (T.setTop (mkF m 14 #[.val (.ref w), .val .null, .val (.ref c_), .val (.int (4 : Int32)), .val (.int (((((0 : Int32) + (1 : Int32)) + (1 : Int32)) + (1 : Int32)) + (1 : Int32))), .val (.ref d3)] [(.int (((((0 : Int32) + (1 : Int32)) + (1 : Int32)) + (1 : Int32)) + (1 : Int32)))]))
          refine oSt (fun _ => XS.iloadN A.here hx rfl (Jvm.hb hby d_prog_5_m5_14) rfl) ?_
          show oGo p e below _ (T.setTop (mkF m 15 #[.val (.ref w), .val .null, .val (.ref c_), .val (.int (4 : Int32)), .val (.int (((((0 : Int32) + (1 : Int32)) + (1 : Int32)) + (1 : Int32)) + (1 : Int32))), .val (.ref d3)] [(.int (4 : Int32)), (.int (((((0 : Int32) + (1 : Int32)) + (1 : Int32)) + (1 : Int32)) + (1 : Int32)))]))
          refine oSt (fun _ => XS.icmpYes A.here hx rfl (pc0 := 15) (pc' := 45) rfl (Jvm.hb hby d_prog_5_m5_15) rfl (Jvm.Free.XT.ii_ge_t (by decide)) (by decide) (by decide)) ?_
          show oGo p e below _ (T.setTop (mkF m 45 #[.val (.ref w), .val .null, .val (.ref c_), .val (.int (4 : Int32)), .val (.int (((((0 : Int32) + (1 : Int32)) + (1 : Int32)) + (1 : Int32)) + (1 : Int32))), .val (.ref d3)] []))
          refine oSt (fun _ => XS.aloadN A.here hx rfl (Jvm.hb hby d_prog_5_m5_45) rfl rfl) ?_
          show oGo p e below _ (T.setTop (mkF m 46 #[.val (.ref w), .val .null, .val (.ref c_), .val (.int (4 : Int32)), .val (.int (((((0 : Int32) + (1 : Int32)) + (1 : Int32)) + (1 : Int32)) + (1 : Int32))), .val (.ref d3)] [.null]))
          exact A.leave hlk hEL (v := some .null) (fun h => by rw [hret] at h; cases h) (fun _ _ => ⟨_, rfl, Or.inr (Or.inr (Or.inr (Or.inr ⟨fun q => h0 q.symm, fun q => h1 q.symm, fun q => h2 q.symm, fun q => h3 q.symm, rfl⟩)))⟩) (by decide) (by decide) (fun fs hr => retOut A.1 hx hret rfl (Or.inr (Or.inr (Or.inr (Or.inr ⟨rfl, rfl, rfl⟩)))) (Jvm.hb hby d_prog_5_m5_46) hr)
theorem d_m7_0 : decode method_7_code 0 = .ok (.aload_n 0, 1) := by decide +kernel
theorem d_m7_1 : decode method_7_code 1 = .ok (.ldc 37, 2) := by decide +kernel
theorem d_m7_3 : decode method_7_code 3 = .ok (.invokevirtual 58, 3) := by decide +kernel
theorem d_m7_6 : decode method_7_code 6 = .ok (.ifCond .eq 7, 3) := by decide +kernel
theorem d_m7_9 : decode method_7_code 9 = .ok (.getstatic 62, 3) := by decide +kernel
theorem d_m7_12 : decode method_7_code 12 = .ok (.areturn, 1) := by decide +kernel
theorem d_m7_13 : decode method_7_code 13 = .ok (.aload_n 0, 1) := by decide +kernel
theorem d_m7_14 : decode method_7_code 14 = .ok (.ldc 39, 2) := by decide +kernel
theorem d_m7_16 : decode method_7_code 16 = .ok (.invokevirtual 58, 3) := by decide +kernel
theorem d_m7_19 : decode method_7_code 19 = .ok (.ifCond .eq 7, 3) := by decide +kernel
theorem d_m7_22 : decode method_7_code 22 = .ok (.getstatic 66, 3) := by decide +kernel
theorem d_m7_25 : decode method_7_code 25 = .ok (.areturn, 1) := by decide +kernel
theorem d_m7_26 : decode method_7_code 26 = .ok (.aload_n 0, 1) := by decide +kernel
theorem d_m7_27 : decode method_7_code 27 = .ok (.ldc 41, 2) := by decide +kernel
theorem d_m7_29 : decode method_7_code 29 = .ok (.invokevirtual 58, 3) := by decide +kernel
theorem d_m7_32 : decode method_7_code 32 = .ok (.ifCond .eq 7, 3) := by decide +kernel
theorem d_m7_35 : decode method_7_code 35 = .ok (.getstatic 69, 3) := by decide +kernel
theorem d_m7_38 : decode method_7_code 38 = .ok (.areturn, 1) := by decide +kernel
theorem d_m7_39 : decode method_7_code 39 = .ok (.aload_n 0, 1) := by decide +kernel
theorem d_m7_40 : decode method_7_code 40 = .ok (.ldc 43, 2) := by decide +kernel
theorem d_m7_42 : decode method_7_code 42 = .ok (.invokevirtual 58, 3) := by decide +kernel
theorem d_m7_45 : decode method_7_code 45 = .ok (.ifCond .eq 7, 3) := by decide +kernel
theorem d_m7_48 : decode method_7_code 48 = .ok (.getstatic 72, 3) := by decide +kernel
theorem d_m7_51 : decode method_7_code 51 = .ok (.areturn, 1) := by decide +kernel
theorem d_m7_52 : decode method_7_code 52 = .ok (.aconst_null, 1) := by decide +kernel
theorem d_m7_53 : decode method_7_code 53 = .ok (.areturn, 1) := by decide +kernel
theorem opn_own_exp : plainFor (⟨"com/example/applicator/applicator/DialectLabelledPinLaw", "expected", "(Ljava/lang/String;)Lcom/example/applicator/applicator/Dialect;"⟩ : MethodName) = true := plainFor_of_name (by first | (simp [plainName, overriddenIn]; done) | decide +kernel)
set_option maxRecDepth 65536 in
set_option maxHeartbeats 40000000 in
theorem own_exp (l : Launch) (Z : State) (a0 : Array Value) (hw : ∀ d ∈ tables_1, d.before a0 Z = true) (hEL : EW Z a0 consts_1) (n0 : Nat) (h : Heap) (hO : Old Z n0 h) (w : Addr) (cs : List Int32) (d0 d1 d2 d3 : Addr) (zc : Int32) (hcs : Sta Z Z.heap "java/lang/String" "COMPACT_STRINGS" "Z" (.int zc)) (hcz : ¬ zc = 0) (hd0 : Sta Z Z.heap "com/example/applicator/applicator/Dialect" "DRAFT_2020_12" "Lcom/example/applicator/applicator/Dialect;" (.ref d0)) (hd1 : Sta Z Z.heap "com/example/applicator/applicator/Dialect" "DRAFT_07" "Lcom/example/applicator/applicator/Dialect;" (.ref d1)) (hd2 : Sta Z Z.heap "com/example/applicator/applicator/Dialect" "DRAFT_06" "Lcom/example/applicator/applicator/Dialect;" (.ref d2)) (hd3 : Sta Z Z.heap "com/example/applicator/applicator/Dialect" "DRAFT_04" "Lcom/example/applicator/applicator/Dialect;" (.ref d3)) (Ed0 : Exa Z Z.heap d0 "com/example/applicator/applicator/Dialect") (Ed1 : Exa Z Z.heap d1 "com/example/applicator/applicator/Dialect") (Ed2 : Exa Z Z.heap d2 "com/example/applicator/applicator/Dialect") (Ed3 : Exa Z Z.heap d3 "com/example/applicator/applicator/Dialect") (Q : oStr Z h w cs) :
    oMet l Z consts_1 n0 (⟨"com/example/applicator/applicator/DialectLabelledPinLaw", "expected", "(Ljava/lang/String;)Lcom/example/applicator/applicator/Dialect;"⟩ : MethodName) method_7_code 1 (some (.object "com/example/applicator/applicator/Dialect")) [] ({ frames := 2, cells := 8, slots := 144, locals := 28 } : Room) #[(.ref w)] h [] (fun v _ h => ∃ r, v = some r ∧ own_lab cs d0 d1 d2 d3 r) := by
  refine oMet.of opn_own_exp hO ?_
  intro p e s m below meth c T hx hby hml hret hnm hlk hh hsf A
  have hml : c.maxLocals = 1 := hml
  refine oCast (g' := mkF m 0 #[.val (.ref w)] []) (by first | (simp [entryFrame, mkF, argsToLocals, Value.category]; done) | rfl) ?_
  have heq : ∀ d ∈ StrChars.Road.wordsEq, d.before a0 Z = true := fun d hd => hw d ((by decide +kernel : ∀ d ∈ StrChars.Road.wordsEq, d ∈ tables_1) d hd)
  have hlit : ∀ d ∈ Bundle.stringAtoms, d.before a0 Z = true := fun d hd => hw d ((by decide +kernel : ∀ d ∈ Bundle.stringAtoms, d ∈ tables_1) d hd)
  show oGo p e below _ (T.setTop (mkF m 0 #[.val (.ref w)] []))
  refine oSt (fun _ => XS.aloadN A.here hx rfl (Jvm.hb hby d_m7_0) rfl rfl) ?_
  show oGo p e below _ (T.setTop (mkF m 1 #[.val (.ref w)] [(.ref w)]))
  obtain ⟨x0, T, h, bb, kb, A, X, CR, E_x0, C_x0, V_x0, K_x0, ne_x0, Li, st⟩ := A.ldcS hx (hw _ (List.mem_of_getElem? (i := 4) rfl)) hlit hEL (List.mem_of_getElem? (i := 0) rfl) (vs := (([50, 48, 50, 48, 45, 49, 50] : List Int32).map fun c => c.toInt8.toInt32).map Value.int) (z := Int32.ofNat ([50, 48, 50, 48, 45, 49, 50] : List Int32).length) ⟨by decide +kernel, by decide +kernel⟩ (by decide +kernel) (by decide +kernel) (g := (mkF m 1 #[.val (.ref w)] [(.ref w)])) rfl (Jvm.hb hby d_m7_1) (n := 28) (by decide +kernel) (by decide) (by decide) (by decide)
  refine oSt st ?_
  show oGo p e below _ (T.setTop (mkF m 3 #[.val (.ref w)] [(.ref x0), (.ref w)]))
  have Q_x0 : oStr Z h x0 ([50, 48, 50, 48, 45, 49, 50] : List Int32) := ⟨(oPS (by decide) (oPS (by decide) (oPS (by decide) (oPS (by decide) (oPS (by decide) (oPS (by decide) (oPS (by decide) oP0))))))), by decide, bb, kb, E_x0, V_x0, C_x0, K_x0⟩
  have Q := Q.ext X
  obtain ⟨T, r_eq, A, h_eq, st⟩ := A.sEq hx heq (hw _ (List.mem_of_getElem? (i := 6) rfl)) (hw _ (List.mem_of_getElem? (i := 116) rfl)) (hw _ (List.mem_of_getElem? (i := 105) rfl)) (hw _ (List.mem_of_getElem? (i := 107) rfl)) (hw _ (List.mem_of_getElem? (i := 106) rfl)) Q Q_x0 hcs hcz (W := 0) (by decide) (by decide) (by decide) (by decide) (g := (mkF m 3 #[.val (.ref w)] [(.ref x0), (.ref w)])) rfl (by rw [hml]; rfl) rfl (by show 2 * 0 + _ ≤ _; exact Nat.le_of_eq rfl) (Jvm.hb hby d_m7_3)
  refine oSt st ?_
  show oGo p e below _ (T.setTop (mkF m 6 #[.val (.ref w)] [(.int r_eq)]))
  rcases h_eq with ⟨rfl, h0⟩ | ⟨rfl, h0⟩
  · show oGo p e below _ (T.setTop (mkF m 6 #[.val (.ref w)] [(.int (1 : Int32))]))
    refine oSt (fun _ => XS.ifNo A.here hx rfl (Jvm.hb hby d_m7_6) rfl (Jvm.Free.XT.i0_eq_f (by decide))) ?_
    show oGo p e below _ (T.setTop (mkF m 9 #[.val (.ref w)] []))
    obtain ⟨T, A, st⟩ := A.getS hx (host := "") (Or.inl (hw _ (List.mem_of_getElem? (i := 122) rfl))) Via.refl hd0 (g := (mkF m 9 #[.val (.ref w)] [])) rfl (Jvm.hb hby d_m7_9)
    refine oSt st ?_
    show oGo p e below _ (T.setTop (mkF m 12 #[.val (.ref w)] [(.ref d0)]))
    exact A.leave hlk hEL (v := some (.ref d0)) (fun h => by rw [hret] at h; cases h) (fun _ _ => ⟨_, rfl, Or.inl ⟨h0, rfl⟩⟩) (by decide) (by decide) (fun fs hr => retOut A.1 hx hret rfl (Or.inr (Or.inr (Or.inr (Or.inr ⟨rfl, rfl, rfl⟩)))) (Jvm.hb hby d_m7_12) hr)
  · show oGo p e below _ (T.setTop (mkF m 6 #[.val (.ref w)] [(.int (0 : Int32))]))
    refine oSt (fun _ => XS.ifYes A.here hx rfl (pc0 := 6) (pc' := 13) rfl (Jvm.hb hby d_m7_6) rfl (Jvm.Free.XT.i0_eq_t rfl) (by decide) (by decide)) ?_
    show oGo p e below _ (T.setTop (mkF m 13 #[.val (.ref w)] []))
    refine oSt (fun _ => XS.aloadN A.here hx rfl (Jvm.hb hby d_m7_13) rfl rfl) ?_
    show oGo p e below _ (T.setTop (mkF m 14 #[.val (.ref w)] [(.ref w)]))
    obtain ⟨x1, T, h, bb, kb, A, X, CR, E_x1, C_x1, V_x1, K_x1, ne_x1, Li, st⟩ := A.ldcS hx (hw _ (List.mem_of_getElem? (i := 117) rfl)) hlit hEL (List.mem_of_getElem? (i := 1) rfl) (vs := (([100, 114, 97, 102, 116, 45, 48, 55] : List Int32).map fun c => c.toInt8.toInt32).map Value.int) (z := Int32.ofNat ([100, 114, 97, 102, 116, 45, 48, 55] : List Int32).length) ⟨by decide +kernel, by decide +kernel⟩ (by decide +kernel) (by decide +kernel) (g := (mkF m 14 #[.val (.ref w)] [(.ref w)])) rfl (Jvm.hb hby d_m7_14) (n := 32) (by decide +kernel) (by decide) (by decide) (by decide)
    refine oSt st ?_
    show oGo p e below _ (T.setTop (mkF m 16 #[.val (.ref w)] [(.ref x1), (.ref w)]))
    have Q_x1 : oStr Z h x1 ([100, 114, 97, 102, 116, 45, 48, 55] : List Int32) := ⟨(oPS (by decide) (oPS (by decide) (oPS (by decide) (oPS (by decide) (oPS (by decide) (oPS (by decide) (oPS (by decide) (oPS (by decide) oP0)))))))), by decide, bb, kb, E_x1, V_x1, C_x1, K_x1⟩
    have Q := Q.ext X
    obtain ⟨T, r_eq, A, h_eq, st⟩ := A.sEq hx heq (hw _ (List.mem_of_getElem? (i := 6) rfl)) (hw _ (List.mem_of_getElem? (i := 116) rfl)) (hw _ (List.mem_of_getElem? (i := 105) rfl)) (hw _ (List.mem_of_getElem? (i := 107) rfl)) (hw _ (List.mem_of_getElem? (i := 106) rfl)) Q Q_x1 hcs hcz (W := 0) (by decide) (by decide) (by decide) (by decide) (g := (mkF m 16 #[.val (.ref w)] [(.ref x1), (.ref w)])) rfl (by rw [hml]; rfl) rfl (by show 2 * 0 + _ ≤ _; exact Nat.le_of_eq rfl) (Jvm.hb hby d_m7_16)
    refine oSt st ?_
    show oGo p e below _ (T.setTop (mkF m 19 #[.val (.ref w)] [(.int r_eq)]))
    rcases h_eq with ⟨rfl, h1⟩ | ⟨rfl, h1⟩
    · show oGo p e below _ (T.setTop (mkF m 19 #[.val (.ref w)] [(.int (1 : Int32))]))
      refine oSt (fun _ => XS.ifNo A.here hx rfl (Jvm.hb hby d_m7_19) rfl (Jvm.Free.XT.i0_eq_f (by decide))) ?_
      show oGo p e below _ (T.setTop (mkF m 22 #[.val (.ref w)] []))
      obtain ⟨T, A, st⟩ := A.getS hx (host := "") (Or.inl (hw _ (List.mem_of_getElem? (i := 124) rfl))) Via.refl hd1 (g := (mkF m 22 #[.val (.ref w)] [])) rfl (Jvm.hb hby d_m7_22)
      refine oSt st ?_
      show oGo p e below _ (T.setTop (mkF m 25 #[.val (.ref w)] [(.ref d1)]))
      exact A.leave hlk hEL (v := some (.ref d1)) (fun h => by rw [hret] at h; cases h) (fun _ _ => ⟨_, rfl, Or.inr (Or.inl ⟨h1, rfl⟩)⟩) (by decide) (by decide) (fun fs hr => retOut A.1 hx hret rfl (Or.inr (Or.inr (Or.inr (Or.inr ⟨rfl, rfl, rfl⟩)))) (Jvm.hb hby d_m7_25) hr)
    · show oGo p e below _ (T.setTop (mkF m 19 #[.val (.ref w)] [(.int (0 : Int32))]))
      refine oSt (fun _ => XS.ifYes A.here hx rfl (pc0 := 19) (pc' := 26) rfl (Jvm.hb hby d_m7_19) rfl (Jvm.Free.XT.i0_eq_t rfl) (by decide) (by decide)) ?_
      show oGo p e below _ (T.setTop (mkF m 26 #[.val (.ref w)] []))
      refine oSt (fun _ => XS.aloadN A.here hx rfl (Jvm.hb hby d_m7_26) rfl rfl) ?_
      show oGo p e below _ (T.setTop (mkF m 27 #[.val (.ref w)] [(.ref w)]))
      obtain ⟨x2, T, h, bb, kb, A, X, CR, E_x2, C_x2, V_x2, K_x2, ne_x2, Li, st⟩ := A.ldcS hx (hw _ (List.mem_of_getElem? (i := 118) rfl)) hlit hEL (List.mem_of_getElem? (i := 2) rfl) (vs := (([100, 114, 97, 102, 116, 45, 48, 54] : List Int32).map fun c => c.toInt8.toInt32).map Value.int) (z := Int32.ofNat ([100, 114, 97, 102, 116, 45, 48, 54] : List Int32).length) ⟨by decide +kernel, by decide +kernel⟩ (by decide +kernel) (by decide +kernel) (g := (mkF m 27 #[.val (.ref w)] [(.ref w)])) rfl (Jvm.hb hby d_m7_27) (n := 32) (by decide +kernel) (by decide) (by decide) (by decide)
      refine oSt st ?_
      show oGo p e below _ (T.setTop (mkF m 29 #[.val (.ref w)] [(.ref x2), (.ref w)]))
      have Q_x2 : oStr Z h x2 ([100, 114, 97, 102, 116, 45, 48, 54] : List Int32) := ⟨(oPS (by decide) (oPS (by decide) (oPS (by decide) (oPS (by decide) (oPS (by decide) (oPS (by decide) (oPS (by decide) (oPS (by decide) oP0)))))))), by decide, bb, kb, E_x2, V_x2, C_x2, K_x2⟩
      have Q := Q.ext X
      obtain ⟨T, r_eq, A, h_eq, st⟩ := A.sEq hx heq (hw _ (List.mem_of_getElem? (i := 6) rfl)) (hw _ (List.mem_of_getElem? (i := 116) rfl)) (hw _ (List.mem_of_getElem? (i := 105) rfl)) (hw _ (List.mem_of_getElem? (i := 107) rfl)) (hw _ (List.mem_of_getElem? (i := 106) rfl)) Q Q_x2 hcs hcz (W := 0) (by decide) (by decide) (by decide) (by decide) (g := (mkF m 29 #[.val (.ref w)] [(.ref x2), (.ref w)])) rfl (by rw [hml]; rfl) rfl (by show 2 * 0 + _ ≤ _; exact Nat.le_of_eq rfl) (Jvm.hb hby d_m7_29)
      refine oSt st ?_
      show oGo p e below _ (T.setTop (mkF m 32 #[.val (.ref w)] [(.int r_eq)]))
      rcases h_eq with ⟨rfl, h2⟩ | ⟨rfl, h2⟩
      · show oGo p e below _ (T.setTop (mkF m 32 #[.val (.ref w)] [(.int (1 : Int32))]))
        refine oSt (fun _ => XS.ifNo A.here hx rfl (Jvm.hb hby d_m7_32) rfl (Jvm.Free.XT.i0_eq_f (by decide))) ?_
        show oGo p e below _ (T.setTop (mkF m 35 #[.val (.ref w)] []))
        obtain ⟨T, A, st⟩ := A.getS hx (host := "") (Or.inl (hw _ (List.mem_of_getElem? (i := 123) rfl))) Via.refl hd2 (g := (mkF m 35 #[.val (.ref w)] [])) rfl (Jvm.hb hby d_m7_35)
        refine oSt st ?_
        show oGo p e below _ (T.setTop (mkF m 38 #[.val (.ref w)] [(.ref d2)]))
        exact A.leave hlk hEL (v := some (.ref d2)) (fun h => by rw [hret] at h; cases h) (fun _ _ => ⟨_, rfl, Or.inr (Or.inr (Or.inl ⟨h2, rfl⟩))⟩) (by decide) (by decide) (fun fs hr => retOut A.1 hx hret rfl (Or.inr (Or.inr (Or.inr (Or.inr ⟨rfl, rfl, rfl⟩)))) (Jvm.hb hby d_m7_38) hr)
      · show oGo p e below _ (T.setTop (mkF m 32 #[.val (.ref w)] [(.int (0 : Int32))]))
        refine oSt (fun _ => XS.ifYes A.here hx rfl (pc0 := 32) (pc' := 39) rfl (Jvm.hb hby d_m7_32) rfl (Jvm.Free.XT.i0_eq_t rfl) (by decide) (by decide)) ?_
        show oGo p e below _ (T.setTop (mkF m 39 #[.val (.ref w)] []))
        refine oSt (fun _ => XS.aloadN A.here hx rfl (Jvm.hb hby d_m7_39) rfl rfl) ?_
        show oGo p e below _ (T.setTop (mkF m 40 #[.val (.ref w)] [(.ref w)]))
        obtain ⟨x3, T, h, bb, kb, A, X, CR, E_x3, C_x3, V_x3, K_x3, ne_x3, Li, st⟩ := A.ldcS hx (hw _ (List.mem_of_getElem? (i := 119) rfl)) hlit hEL (List.mem_of_getElem? (i := 3) rfl) (vs := (([100, 114, 97, 102, 116, 45, 48, 52] : List Int32).map fun c => c.toInt8.toInt32).map Value.int) (z := Int32.ofNat ([100, 114, 97, 102, 116, 45, 48, 52] : List Int32).length) ⟨by decide +kernel, by decide +kernel⟩ (by decide +kernel) (by decide +kernel) (g := (mkF m 40 #[.val (.ref w)] [(.ref w)])) rfl (Jvm.hb hby d_m7_40) (n := 32) (by decide +kernel) (by decide) (by decide) (by decide)
        refine oSt st ?_
        show oGo p e below _ (T.setTop (mkF m 42 #[.val (.ref w)] [(.ref x3), (.ref w)]))
        have Q_x3 : oStr Z h x3 ([100, 114, 97, 102, 116, 45, 48, 52] : List Int32) := ⟨(oPS (by decide) (oPS (by decide) (oPS (by decide) (oPS (by decide) (oPS (by decide) (oPS (by decide) (oPS (by decide) (oPS (by decide) oP0)))))))), by decide, bb, kb, E_x3, V_x3, C_x3, K_x3⟩
        have Q := Q.ext X
        obtain ⟨T, r_eq, A, h_eq, st⟩ := A.sEq hx heq (hw _ (List.mem_of_getElem? (i := 6) rfl)) (hw _ (List.mem_of_getElem? (i := 116) rfl)) (hw _ (List.mem_of_getElem? (i := 105) rfl)) (hw _ (List.mem_of_getElem? (i := 107) rfl)) (hw _ (List.mem_of_getElem? (i := 106) rfl)) Q Q_x3 hcs hcz (W := 0) (by decide) (by decide) (by decide) (by decide) (g := (mkF m 42 #[.val (.ref w)] [(.ref x3), (.ref w)])) rfl (by rw [hml]; rfl) rfl (by show 2 * 0 + _ ≤ _; exact Nat.le_of_eq rfl) (Jvm.hb hby d_m7_42)
        refine oSt st ?_
        show oGo p e below _ (T.setTop (mkF m 45 #[.val (.ref w)] [(.int r_eq)]))
        rcases h_eq with ⟨rfl, h3⟩ | ⟨rfl, h3⟩
        · show oGo p e below _ (T.setTop (mkF m 45 #[.val (.ref w)] [(.int (1 : Int32))]))
          refine oSt (fun _ => XS.ifNo A.here hx rfl (Jvm.hb hby d_m7_45) rfl (Jvm.Free.XT.i0_eq_f (by decide))) ?_
          show oGo p e below _ (T.setTop (mkF m 48 #[.val (.ref w)] []))
          obtain ⟨T, A, st⟩ := A.getS hx (host := "") (Or.inl (hw _ (List.mem_of_getElem? (i := 125) rfl))) Via.refl hd3 (g := (mkF m 48 #[.val (.ref w)] [])) rfl (Jvm.hb hby d_m7_48)
          refine oSt st ?_
          show oGo p e below _ (T.setTop (mkF m 51 #[.val (.ref w)] [(.ref d3)]))
          exact A.leave hlk hEL (v := some (.ref d3)) (fun h => by rw [hret] at h; cases h) (fun _ _ => ⟨_, rfl, Or.inr (Or.inr (Or.inr (Or.inl ⟨h3, rfl⟩)))⟩) (by decide) (by decide) (fun fs hr => retOut A.1 hx hret rfl (Or.inr (Or.inr (Or.inr (Or.inr ⟨rfl, rfl, rfl⟩)))) (Jvm.hb hby d_m7_51) hr)
        · show oGo p e below _ (T.setTop (mkF m 45 #[.val (.ref w)] [(.int (0 : Int32))]))
          refine oSt (fun _ => XS.ifYes A.here hx rfl (pc0 := 45) (pc' := 52) rfl (Jvm.hb hby d_m7_45) rfl (Jvm.Free.XT.i0_eq_t rfl) (by decide) (by decide)) ?_
          show oGo p e below _ (T.setTop (mkF m 52 #[.val (.ref w)] []))
          refine oSt (fun _ => XS.aconstNull A.here hx rfl (Jvm.hb hby d_m7_52)) ?_
          show oGo p e below _ (T.setTop (mkF m 53 #[.val (.ref w)] [.null]))
          exact A.leave hlk hEL (v := some .null) (fun h => by rw [hret] at h; cases h) (fun _ _ => ⟨_, rfl, Or.inr (Or.inr (Or.inr (Or.inr ⟨h0, h1, h2, h3, rfl⟩)))⟩) (by decide) (by decide) (fun fs hr => retOut A.1 hx hret rfl (Or.inr (Or.inr (Or.inr (Or.inr ⟨rfl, rfl, rfl⟩)))) (Jvm.hb hby d_m7_53) hr)
theorem opd4 : parseMethodDescriptor "(I)Ljava/lang/String;" = some ⟨[.int], some (.object "java/lang/String")⟩ := by decide +kernel
theorem opd5 : parseMethodDescriptor "(Ljava/lang/String;IIJJ)C" = some ⟨[(.object "java/lang/String"), .int, .int, .long, .long], some .char⟩ := by decide +kernel
theorem opd6 : parseMethodDescriptor "(ICCCCCCCCC)Ljava/lang/String;" = some ⟨[.int, .char, .char, .char, .char, .char, .char, .char, .char, .char], some (.object "java/lang/String")⟩ := by decide +kernel
theorem opd7 : parseMethodDescriptor "(Ljava/lang/String;)Lcom/example/applicator/applicator/Dialect;" = some ⟨[(.object "java/lang/String")], some (.object "com/example/applicator/applicator/Dialect")⟩ := by decide +kernel
theorem opn_own_law : plainFor x = true := plainFor_of_name (by first | (simp [plainName, overriddenIn, x]; done) | decide +kernel)
set_option maxRecDepth 65536 in
set_option maxHeartbeats 40000000 in
theorem own_law (l : Launch) (Z : State) (a0 : Array Value) (hw : ∀ d ∈ tables_1, d.before a0 Z = true) (hEL : EW Z a0 consts_1) (n0 : Nat) (h : Heap) (hO : Old Z n0 h) (i0 i1 : Int32) (i2 i3 : Int64) (i4 : Int32) (zc : Int32) (hcs : Sta Z Z.heap "java/lang/String" "COMPACT_STRINGS" "Z" (.int zc)) (hcz : ¬ zc = 0) (fm : Value) (hfm : Sta Z Z.heap "jdk/internal/util/Preconditions" "SIOOBE_FORMATTER" "Ljava/util/function/BiFunction;" fm) (rfm : fm.isRef = true) (d0 d1 d2 d3 va : Addr) (kv : ClassId) (hva : Sta Z Z.heap "com/example/applicator/applicator/Dialect" "$VALUES" "[Lcom/example/applicator/applicator/Dialect;" (.ref va)) (VV : Arv Z Z.heap va kv (.object "com/example/applicator/applicator/Dialect") (4 : Int32) [.ref d0, .ref d1, .ref d2, .ref d3] .null) (EV : Exa Z Z.heap va "[Lcom/example/applicator/applicator/Dialect;") (FV : ∀ cl : Cell, Z.heap[va]? = some cl → FitC Z cl) (hd0 : Sta Z Z.heap "com/example/applicator/applicator/Dialect" "DRAFT_2020_12" "Lcom/example/applicator/applicator/Dialect;" (.ref d0)) (hd1 : Sta Z Z.heap "com/example/applicator/applicator/Dialect" "DRAFT_07" "Lcom/example/applicator/applicator/Dialect;" (.ref d1)) (hd2 : Sta Z Z.heap "com/example/applicator/applicator/Dialect" "DRAFT_06" "Lcom/example/applicator/applicator/Dialect;" (.ref d2)) (hd3 : Sta Z Z.heap "com/example/applicator/applicator/Dialect" "DRAFT_04" "Lcom/example/applicator/applicator/Dialect;" (.ref d3)) (Ed0 : Exa Z Z.heap d0 "com/example/applicator/applicator/Dialect") (Ed1 : Exa Z Z.heap d1 "com/example/applicator/applicator/Dialect") (Ed2 : Exa Z Z.heap d2 "com/example/applicator/applicator/Dialect") (Ed3 : Exa Z Z.heap d3 "com/example/applicator/applicator/Dialect") (w0 w1 w2 w3 : Addr) (Fw0 : Fld Z Z.heap d0 "com/example/applicator/applicator/Dialect" "label" "Ljava/lang/String;" (.ref w0)) (Fw1 : Fld Z Z.heap d1 "com/example/applicator/applicator/Dialect" "label" "Ljava/lang/String;" (.ref w1)) (Fw2 : Fld Z Z.heap d2 "com/example/applicator/applicator/Dialect" "label" "Ljava/lang/String;" (.ref w2)) (Fw3 : Fld Z Z.heap d3 "com/example/applicator/applicator/Dialect" "label" "Ljava/lang/String;" (.ref w3)) (Qw0 : oStr Z Z.heap w0 ([50, 48, 50, 48, 45, 49, 50] : List Int32)) (Qw1 : oStr Z Z.heap w1 ([100, 114, 97, 102, 116, 45, 48, 55] : List Int32)) (Qw2 : oStr Z Z.heap w2 ([100, 114, 97, 102, 116, 45, 48, 54] : List Int32)) (Qw3 : oStr Z Z.heap w3 ([100, 114, 97, 102, 116, 45, 48, 52] : List Int32)) :
    oMet l Z consts_1 n0 x code maxLocals ret tables_1 room_1 #[(.int i0), (.int i1), (.long i2), (.long i3), (.int i4)] h [] (fun v _ h => v = some (.int 1)) := by
  refine oMet.of opn_own_law hO ?_
  intro p e s m below meth c T hx hby hml hret hnm hlk hh hsf A
  have hml : c.maxLocals = 21 := hml
  refine oCast (g' := mkF m 0 #[.val (.int i0), .val (.int i1), .val (.long i2), .second, .val (.long i3), .second, .val (.int i4), .unset, .unset, .unset, .unset, .unset, .unset, .unset, .unset, .unset, .unset, .unset, .unset, .unset, .unset] []) (by first | (simp [entryFrame, mkF, argsToLocals, Value.category, maxLocals]; done) | rfl) ?_
  have hln : ∀ d ∈ StrChars.Road.wordsLen, d.before a0 Z = true := fun d hd => hw d ((by decide +kernel : ∀ d ∈ StrChars.Road.wordsLen, d ∈ tables_1) d hd)
  show oGo p e below _ (T.setTop (mkF m 0 #[.val (.int i0), .val (.int i1), .val (.long i2), .second, .val (.long i3), .second, .val (.int i4), .unset, .unset, .unset, .unset, .unset, .unset, .unset, .unset, .unset, .unset, .unset, .unset, .unset, .unset] []))
  refine oSt (fun _ => XS.iloadN A.here hx rfl (Jvm.hb hby at_0) rfl) ?_
  show oGo p e below _ (T.setTop (mkF m 1 #[.val (.int i0), .val (.int i1), .val (.long i2), .second, .val (.long i3), .second, .val (.int i4), .unset, .unset, .unset, .unset, .unset, .unset, .unset, .unset, .unset, .unset, .unset, .unset, .unset, .unset] [(.int i0)]))
  refine oSt (fun _ => XS.iconst A.here hx rfl (Jvm.hb hby at_1)) ?_
  show oGo p e below _ (T.setTop (mkF m 2 #[.val (.int i0), .val (.int i1), .val (.long i2), .second, .val (.long i3), .second, .val (.int i4), .unset, .unset, .unset, .unset, .unset, .unset, .unset, .unset, .unset, .unset, .unset, .unset, .unset, .unset] [(.int (3 : Int32)), (.int i0)]))
  refine oSt (fun _ => XS.iand A.here hx rfl (Jvm.hb hby at_2) rfl) ?_
  show oGo p e below _ (T.setTop (mkF m 3 #[.val (.int i0), .val (.int i1), .val (.long i2), .second, .val (.long i3), .second, .val (.int i4), .unset, .unset, .unset, .unset, .unset, .unset, .unset, .unset, .unset, .unset, .unset, .unset, .unset, .unset] [(.int (i0 &&& (3 : Int32)))]))
  obtain ⟨_, vm, T, h, L, A, K, CR, ⟨lab, cs, rfl, Q⟩, st⟩ := A.callS hx (y := (⟨"com/example/applicator/applicator/DialectLabelledPinLaw", "label", "(I)Ljava/lang/String;"⟩ : MethodName)) (hw _ (List.mem_of_getElem? (i := 0) rfl)) (hw _ (List.mem_of_getElem? (i := 1) rfl)) (hw _ (List.mem_of_getElem? (i := 2) rfl)) (hw _ (List.mem_of_getElem? (i := 3) rfl)) (by decide) hEL (argsL := [(.int (i0 &&& (3 : Int32)))]) (rest := []) (own_label l Z a0 hw hEL n0 _ A.oldn _) (W := 0) (by decide) (by decide) (by decide) (by decide) all0 all0 all0 (g := (mkF m 3 #[.val (.int i0), .val (.int i1), .val (.long i2), .second, .val (.long i3), .second, .val (.int i4), .unset, .unset, .unset, .unset, .unset, .unset, .unset, .unset, .unset, .unset, .unset, .unset, .unset, .unset] [(.int (i0 &&& (3 : Int32)))])) rfl (by rw [hml]; rfl) (lenOf opd4 rfl) rfl (by show 2 * 0 + _ ≤ _; exact Nat.le_of_eq rfl) (Jvm.hb hby at_3)
  refine oSt st ?_
  have X := oExt0 K
  show oGo p e below _ (T.setTop (mkF m 6 #[.val (.int i0), .val (.int i1), .val (.long i2), .second, .val (.long i3), .second, .val (.int i4), .unset, .unset, .unset, .unset, .unset, .unset, .unset, .unset, .unset, .unset, .unset, .unset, .unset, .unset] [(.ref lab)]))
  refine oSt (fun _ => XS.astore A.here hx rfl (Jvm.hb hby at_6) rfl rfl (l' := #[.val (.int i0), .val (.int i1), .val (.long i2), .second, .val (.long i3), .second, .val (.int i4), .val (.ref lab), .unset, .unset, .unset, .unset, .unset, .unset, .unset, .unset, .unset, .unset, .unset, .unset, .unset]) rfl) ?_
  show oGo p e below _ (T.setTop (mkF m 8 #[.val (.int i0), .val (.int i1), .val (.long i2), .second, .val (.long i3), .second, .val (.int i4), .val (.ref lab), .unset, .unset, .unset, .unset, .unset, .unset, .unset, .unset, .unset, .unset, .unset, .unset, .unset] []))
  refine oSt (fun _ => XS.iloadN A.here hx rfl (Jvm.hb hby at_8) rfl) ?_
  show oGo p e below _ (T.setTop (mkF m 9 #[.val (.int i0), .val (.int i1), .val (.long i2), .second, .val (.long i3), .second, .val (.int i4), .val (.ref lab), .unset, .unset, .unset, .unset, .unset, .unset, .unset, .unset, .unset, .unset, .unset, .unset, .unset] [(.int i0)]))
  refine oSt (fun _ => XS.iconst A.here hx rfl (Jvm.hb hby at_9)) ?_
  show oGo p e below _ (T.setTop (mkF m 10 #[.val (.int i0), .val (.int i1), .val (.long i2), .second, .val (.long i3), .second, .val (.int i4), .val (.ref lab), .unset, .unset, .unset, .unset, .unset, .unset, .unset, .unset, .unset, .unset, .unset, .unset, .unset] [(.int (2 : Int32)), (.int i0)]))
  refine oSt (fun _ => XS.iushr A.here hx rfl (Jvm.hb hby at_10) rfl) ?_
  show oGo p e below _ (T.setTop (mkF m 11 #[.val (.int i0), .val (.int i1), .val (.long i2), .second, .val (.long i3), .second, .val (.int i4), .val (.ref lab), .unset, .unset, .unset, .unset, .unset, .unset, .unset, .unset, .unset, .unset, .unset, .unset, .unset] [(.int ((i0.toUInt32 >>> ((2 : Int32) &&& 31).toUInt32).toInt32))]))
  refine oSt (fun _ => XS.iconst A.here hx rfl (Jvm.hb hby at_11)) ?_
  show oGo p e below _ (T.setTop (mkF m 12 #[.val (.int i0), .val (.int i1), .val (.long i2), .second, .val (.long i3), .second, .val (.int i4), .val (.ref lab), .unset, .unset, .unset, .unset, .unset, .unset, .unset, .unset, .unset, .unset, .unset, .unset, .unset] [(.int (3 : Int32)), (.int ((i0.toUInt32 >>> ((2 : Int32) &&& 31).toUInt32).toInt32))]))
  refine oSt (fun _ => XS.iand A.here hx rfl (Jvm.hb hby at_12) rfl) ?_
  show oGo p e below _ (T.setTop (mkF m 13 #[.val (.int i0), .val (.int i1), .val (.long i2), .second, .val (.long i3), .second, .val (.int i4), .val (.ref lab), .unset, .unset, .unset, .unset, .unset, .unset, .unset, .unset, .unset, .unset, .unset, .unset, .unset] [(.int (((i0.toUInt32 >>> ((2 : Int32) &&& 31).toUInt32).toInt32) &&& (3 : Int32)))]))
  refine oSt (fun _ => XS.istore A.here hx rfl (Jvm.hb hby at_13) rfl (l' := #[.val (.int i0), .val (.int i1), .val (.long i2), .second, .val (.long i3), .second, .val (.int i4), .val (.ref lab), .val (.int (((i0.toUInt32 >>> ((2 : Int32) &&& 31).toUInt32).toInt32) &&& (3 : Int32))), .unset, .unset, .unset, .unset, .unset, .unset, .unset, .unset, .unset, .unset, .unset, .unset]) rfl) ?_
  show oGo p e below _ (T.setTop (mkF m 15 #[.val (.int i0), .val (.int i1), .val (.long i2), .second, .val (.long i3), .second, .val (.int i4), .val (.ref lab), .val (.int (((i0.toUInt32 >>> ((2 : Int32) &&& 31).toUInt32).toInt32) &&& (3 : Int32))), .unset, .unset, .unset, .unset, .unset, .unset, .unset, .unset, .unset, .unset, .unset, .unset] []))
  refine oSt (fun _ => XS.iload A.here hx rfl (Jvm.hb hby at_15) rfl) ?_
  show oGo p e below _ (T.setTop (mkF m 17 #[.val (.int i0), .val (.int i1), .val (.long i2), .second, .val (.long i3), .second, .val (.int i4), .val (.ref lab), .val (.int (((i0.toUInt32 >>> ((2 : Int32) &&& 31).toUInt32).toInt32) &&& (3 : Int32))), .unset, .unset, .unset, .unset, .unset, .unset, .unset, .unset, .unset, .unset, .unset, .unset] [(.int (((i0.toUInt32 >>> ((2 : Int32) &&& 31).toUInt32).toInt32) &&& (3 : Int32)))]))
  generalize e_mode : (((i0.toUInt32 >>> ((2 : Int32) &&& 31).toUInt32).toInt32) &&& (3 : Int32)) = mode
  show oGo p e below _ (T.setTop (mkF m 17 #[.val (.int i0), .val (.int i1), .val (.long i2), .second, .val (.long i3), .second, .val (.int i4), .val (.ref lab), .val (.int mode), .unset, .unset, .unset, .unset, .unset, .unset, .unset, .unset, .unset, .unset, .unset, .unset] [(.int mode)]))
  have J76 : ∀ (vm : Vm) (T : State) (h : Heap) (locs : List Loc) (n : Int32), oA l Z consts_1 n0 p e room_1 s m #[(.int i0), (.int i1), (.long i2), (.long i3), (.int i4)] below meth c "com/example/applicator/applicator/DialectLabelledPinLaw" [] vm T h locs 2 36 → oStr Z h lab cs → oGo p e below (oEnd Z consts_1 n0 room_1 s [] (fun v _ h => v = some (.int 1))) (T.setTop (mkF m 76 #[.val (.int i0), .val (.int i1), .val (.long i2), .second, .val (.long i3), .second, .val (.int i4), .val (.ref lab), .val (.int mode), .val (.int n), .unset, .unset, .unset, .unset, .unset, .unset, .unset, .unset, .unset, .unset, .unset] [])) := by
    intro vm T h locs n A Q
    show oGo p e below _ (T.setTop (mkF m 76 #[.val (.int i0), .val (.int i1), .val (.long i2), .second, .val (.long i3), .second, .val (.int i4), .val (.ref lab), .val (.int mode), .val (.int n), .unset, .unset, .unset, .unset, .unset, .unset, .unset, .unset, .unset, .unset, .unset] []))
    refine oSt (fun _ => XS.aload A.here hx rfl (Jvm.hb hby at_76) rfl rfl) ?_
    show oGo p e below _ (T.setTop (mkF m 78 #[.val (.int i0), .val (.int i1), .val (.long i2), .second, .val (.long i3), .second, .val (.int i4), .val (.ref lab), .val (.int mode), .val (.int n), .unset, .unset, .unset, .unset, .unset, .unset, .unset, .unset, .unset, .unset, .unset] [(.ref lab)]))
    refine oSt (fun _ => XS.iconst A.here hx rfl (Jvm.hb hby at_78)) ?_
    show oGo p e below _ (T.setTop (mkF m 79 #[.val (.int i0), .val (.int i1), .val (.long i2), .second, .val (.long i3), .second, .val (.int i4), .val (.ref lab), .val (.int mode), .val (.int n), .unset, .unset, .unset, .unset, .unset, .unset, .unset, .unset, .unset, .unset, .unset] [(.int (0 : Int32)), (.ref lab)]))
    refine oSt (fun _ => XS.iloadN A.here hx rfl (Jvm.hb hby at_79) rfl) ?_
    show oGo p e below _ (T.setTop (mkF m 80 #[.val (.int i0), .val (.int i1), .val (.long i2), .second, .val (.long i3), .second, .val (.int i4), .val (.ref lab), .val (.int mode), .val (.int n), .unset, .unset, .unset, .unset, .unset, .unset, .unset, .unset, .unset, .unset, .unset] [(.int i1), (.int (0 : Int32)), (.ref lab)]))
    refine oSt (fun _ => XS.lloadN A.here hx rfl (Jvm.hb hby at_80) rfl) ?_
    show oGo p e below _ (T.setTop (mkF m 81 #[.val (.int i0), .val (.int i1), .val (.long i2), .second, .val (.long i3), .second, .val (.int i4), .val (.ref lab), .val (.int mode), .val (.int n), .unset, .unset, .unset, .unset, .unset, .unset, .unset, .unset, .unset, .unset, .unset] [(.long i2), (.int i1), (.int (0 : Int32)), (.ref lab)]))
    refine oSt (fun _ => XS.lload A.here hx rfl (Jvm.hb hby at_81) rfl) ?_
    show oGo p e below _ (T.setTop (mkF m 83 #[.val (.int i0), .val (.int i1), .val (.long i2), .second, .val (.long i3), .second, .val (.int i4), .val (.ref lab), .val (.int mode), .val (.int n), .unset, .unset, .unset, .unset, .unset, .unset, .unset, .unset, .unset, .unset, .unset] [(.long i3), (.long i2), (.int i1), (.int (0 : Int32)), (.ref lab)]))
    obtain ⟨_, vm, T, h, L, A, K, CR, ⟨rfl, c0, hb0, rfl⟩, st⟩ := A.callS hx (y := (⟨"com/example/applicator/applicator/DialectLabelledPinLaw", "pick", "(Ljava/lang/String;IIJJ)C"⟩ : MethodName)) (hw _ (List.mem_of_getElem? (i := 25) rfl)) (hw _ (List.mem_of_getElem? (i := 26) rfl)) (hw _ (List.mem_of_getElem? (i := 2) rfl)) (hw _ (List.mem_of_getElem? (i := 27) rfl)) (by decide) hEL (argsL := [(.ref lab), (.int (0 : Int32)), (.int i1), (.long i2), (.long i3)]) (rest := []) (own_pick l Z a0 hw hEL n0 _ A.oldn lab 0 i1 i2 i3 cs zc hcs hcz fm hfm rfm (by decide) Q) (W := 0) (by decide) (by decide) (by decide) (by decide) all0 all0 all0 (g := (mkF m 83 #[.val (.int i0), .val (.int i1), .val (.long i2), .second, .val (.long i3), .second, .val (.int i4), .val (.ref lab), .val (.int mode), .val (.int n), .unset, .unset, .unset, .unset, .unset, .unset, .unset, .unset, .unset, .unset, .unset] [(.long i3), (.long i2), (.int i1), (.int (0 : Int32)), (.ref lab)])) rfl (by rw [hml]; rfl) (lenOf opd5 rfl) rfl (by show 2 * 0 + _ ≤ _; exact Nat.le_of_eq rfl) (Jvm.hb hby at_83)
    refine oSt st ?_
    have X := oExt0 K
    show oGo p e below _ (T.setTop (mkF m 86 #[.val (.int i0), .val (.int i1), .val (.long i2), .second, .val (.long i3), .second, .val (.int i4), .val (.ref lab), .val (.int mode), .val (.int n), .unset, .unset, .unset, .unset, .unset, .unset, .unset, .unset, .unset, .unset, .unset] [(.int c0)]))
    refine oSt (fun _ => XS.istore A.here hx rfl (Jvm.hb hby at_86) rfl (l' := #[.val (.int i0), .val (.int i1), .val (.long i2), .second, .val (.long i3), .second, .val (.int i4), .val (.ref lab), .val (.int mode), .val (.int n), .val (.int c0), .unset, .unset, .unset, .unset, .unset, .unset, .unset, .unset, .unset, .unset]) rfl) ?_
    show oGo p e below _ (T.setTop (mkF m 88 #[.val (.int i0), .val (.int i1), .val (.long i2), .second, .val (.long i3), .second, .val (.int i4), .val (.ref lab), .val (.int mode), .val (.int n), .val (.int c0), .unset, .unset, .unset, .unset, .unset, .unset, .unset, .unset, .unset, .unset] []))
    refine oSt (fun _ => XS.aload A.here hx rfl (Jvm.hb hby at_88) rfl rfl) ?_
    show oGo p e below _ (T.setTop (mkF m 90 #[.val (.int i0), .val (.int i1), .val (.long i2), .second, .val (.long i3), .second, .val (.int i4), .val (.ref lab), .val (.int mode), .val (.int n), .val (.int c0), .unset, .unset, .unset, .unset, .unset, .unset, .unset, .unset, .unset, .unset] [(.ref lab)]))
    refine oSt (fun _ => XS.iconst A.here hx rfl (Jvm.hb hby at_90)) ?_
    show oGo p e below _ (T.setTop (mkF m 91 #[.val (.int i0), .val (.int i1), .val (.long i2), .second, .val (.long i3), .second, .val (.int i4), .val (.ref lab), .val (.int mode), .val (.int n), .val (.int c0), .unset, .unset, .unset, .unset, .unset, .unset, .unset, .unset, .unset, .unset] [(.int (1 : Int32)), (.ref lab)]))
    refine oSt (fun _ => XS.iloadN A.here hx rfl (Jvm.hb hby at_91) rfl) ?_
    show oGo p e below _ (T.setTop (mkF m 92 #[.val (.int i0), .val (.int i1), .val (.long i2), .second, .val (.long i3), .second, .val (.int i4), .val (.ref lab), .val (.int mode), .val (.int n), .val (.int c0), .unset, .unset, .unset, .unset, .unset, .unset, .unset, .unset, .unset, .unset] [(.int i1), (.int (1 : Int32)), (.ref lab)]))
    refine oSt (fun _ => XS.lloadN A.here hx rfl (Jvm.hb hby at_92) rfl) ?_
    show oGo p e below _ (T.setTop (mkF m 93 #[.val (.int i0), .val (.int i1), .val (.long i2), .second, .val (.long i3), .second, .val (.int i4), .val (.ref lab), .val (.int mode), .val (.int n), .val (.int c0), .unset, .unset, .unset, .unset, .unset, .unset, .unset, .unset, .unset, .unset] [(.long i2), (.int i1), (.int (1 : Int32)), (.ref lab)]))
    refine oSt (fun _ => XS.lload A.here hx rfl (Jvm.hb hby at_93) rfl) ?_
    show oGo p e below _ (T.setTop (mkF m 95 #[.val (.int i0), .val (.int i1), .val (.long i2), .second, .val (.long i3), .second, .val (.int i4), .val (.ref lab), .val (.int mode), .val (.int n), .val (.int c0), .unset, .unset, .unset, .unset, .unset, .unset, .unset, .unset, .unset, .unset] [(.long i3), (.long i2), (.int i1), (.int (1 : Int32)), (.ref lab)]))
    obtain ⟨_, vm, T, h, L, A, K, CR, ⟨rfl, c1, hb1, rfl⟩, st⟩ := A.callS hx (y := (⟨"com/example/applicator/applicator/DialectLabelledPinLaw", "pick", "(Ljava/lang/String;IIJJ)C"⟩ : MethodName)) (hw _ (List.mem_of_getElem? (i := 25) rfl)) (hw _ (List.mem_of_getElem? (i := 26) rfl)) (hw _ (List.mem_of_getElem? (i := 2) rfl)) (hw _ (List.mem_of_getElem? (i := 27) rfl)) (by decide) hEL (argsL := [(.ref lab), (.int (1 : Int32)), (.int i1), (.long i2), (.long i3)]) (rest := []) (own_pick l Z a0 hw hEL n0 _ A.oldn lab 1 i1 i2 i3 cs zc hcs hcz fm hfm rfm (by decide) Q) (W := 0) (by decide) (by decide) (by decide) (by decide) all0 all0 all0 (g := (mkF m 95 #[.val (.int i0), .val (.int i1), .val (.long i2), .second, .val (.long i3), .second, .val (.int i4), .val (.ref lab), .val (.int mode), .val (.int n), .val (.int c0), .unset, .unset, .unset, .unset, .unset, .unset, .unset, .unset, .unset, .unset] [(.long i3), (.long i2), (.int i1), (.int (1 : Int32)), (.ref lab)])) rfl (by rw [hml]; rfl) (lenOf opd5 rfl) rfl (by show 2 * 0 + _ ≤ _; exact Nat.le_of_eq rfl) (Jvm.hb hby at_95)
    refine oSt st ?_
    have X := oExt0 K
    show oGo p e below _ (T.setTop (mkF m 98 #[.val (.int i0), .val (.int i1), .val (.long i2), .second, .val (.long i3), .second, .val (.int i4), .val (.ref lab), .val (.int mode), .val (.int n), .val (.int c0), .unset, .unset, .unset, .unset, .unset, .unset, .unset, .unset, .unset, .unset] [(.int c1)]))
    refine oSt (fun _ => XS.istore A.here hx rfl (Jvm.hb hby at_98) rfl (l' := #[.val (.int i0), .val (.int i1), .val (.long i2), .second, .val (.long i3), .second, .val (.int i4), .val (.ref lab), .val (.int mode), .val (.int n), .val (.int c0), .val (.int c1), .unset, .unset, .unset, .unset, .unset, .unset, .unset, .unset, .unset]) rfl) ?_
    show oGo p e below _ (T.setTop (mkF m 100 #[.val (.int i0), .val (.int i1), .val (.long i2), .second, .val (.long i3), .second, .val (.int i4), .val (.ref lab), .val (.int mode), .val (.int n), .val (.int c0), .val (.int c1), .unset, .unset, .unset, .unset, .unset, .unset, .unset, .unset, .unset] []))
    refine oSt (fun _ => XS.aload A.here hx rfl (Jvm.hb hby at_100) rfl rfl) ?_
    show oGo p e below _ (T.setTop (mkF m 102 #[.val (.int i0), .val (.int i1), .val (.long i2), .second, .val (.long i3), .second, .val (.int i4), .val (.ref lab), .val (.int mode), .val (.int n), .val (.int c0), .val (.int c1), .unset, .unset, .unset, .unset, .unset, .unset, .unset, .unset, .unset] [(.ref lab)]))
    refine oSt (fun _ => XS.iconst A.here hx rfl (Jvm.hb hby at_102)) ?_
    show oGo p e below _ (T.setTop (mkF m 103 #[.val (.int i0), .val (.int i1), .val (.long i2), .second, .val (.long i3), .second, .val (.int i4), .val (.ref lab), .val (.int mode), .val (.int n), .val (.int c0), .val (.int c1), .unset, .unset, .unset, .unset, .unset, .unset, .unset, .unset, .unset] [(.int (2 : Int32)), (.ref lab)]))
    refine oSt (fun _ => XS.iloadN A.here hx rfl (Jvm.hb hby at_103) rfl) ?_
    show oGo p e below _ (T.setTop (mkF m 104 #[.val (.int i0), .val (.int i1), .val (.long i2), .second, .val (.long i3), .second, .val (.int i4), .val (.ref lab), .val (.int mode), .val (.int n), .val (.int c0), .val (.int c1), .unset, .unset, .unset, .unset, .unset, .unset, .unset, .unset, .unset] [(.int i1), (.int (2 : Int32)), (.ref lab)]))
    refine oSt (fun _ => XS.lloadN A.here hx rfl (Jvm.hb hby at_104) rfl) ?_
    show oGo p e below _ (T.setTop (mkF m 105 #[.val (.int i0), .val (.int i1), .val (.long i2), .second, .val (.long i3), .second, .val (.int i4), .val (.ref lab), .val (.int mode), .val (.int n), .val (.int c0), .val (.int c1), .unset, .unset, .unset, .unset, .unset, .unset, .unset, .unset, .unset] [(.long i2), (.int i1), (.int (2 : Int32)), (.ref lab)]))
    refine oSt (fun _ => XS.lload A.here hx rfl (Jvm.hb hby at_105) rfl) ?_
    show oGo p e below _ (T.setTop (mkF m 107 #[.val (.int i0), .val (.int i1), .val (.long i2), .second, .val (.long i3), .second, .val (.int i4), .val (.ref lab), .val (.int mode), .val (.int n), .val (.int c0), .val (.int c1), .unset, .unset, .unset, .unset, .unset, .unset, .unset, .unset, .unset] [(.long i3), (.long i2), (.int i1), (.int (2 : Int32)), (.ref lab)]))
    obtain ⟨_, vm, T, h, L, A, K, CR, ⟨rfl, c2, hb2, rfl⟩, st⟩ := A.callS hx (y := (⟨"com/example/applicator/applicator/DialectLabelledPinLaw", "pick", "(Ljava/lang/String;IIJJ)C"⟩ : MethodName)) (hw _ (List.mem_of_getElem? (i := 25) rfl)) (hw _ (List.mem_of_getElem? (i := 26) rfl)) (hw _ (List.mem_of_getElem? (i := 2) rfl)) (hw _ (List.mem_of_getElem? (i := 27) rfl)) (by decide) hEL (argsL := [(.ref lab), (.int (2 : Int32)), (.int i1), (.long i2), (.long i3)]) (rest := []) (own_pick l Z a0 hw hEL n0 _ A.oldn lab 2 i1 i2 i3 cs zc hcs hcz fm hfm rfm (by decide) Q) (W := 0) (by decide) (by decide) (by decide) (by decide) all0 all0 all0 (g := (mkF m 107 #[.val (.int i0), .val (.int i1), .val (.long i2), .second, .val (.long i3), .second, .val (.int i4), .val (.ref lab), .val (.int mode), .val (.int n), .val (.int c0), .val (.int c1), .unset, .unset, .unset, .unset, .unset, .unset, .unset, .unset, .unset] [(.long i3), (.long i2), (.int i1), (.int (2 : Int32)), (.ref lab)])) rfl (by rw [hml]; rfl) (lenOf opd5 rfl) rfl (by show 2 * 0 + _ ≤ _; exact Nat.le_of_eq rfl) (Jvm.hb hby at_107)
    refine oSt st ?_
    have X := oExt0 K
    show oGo p e below _ (T.setTop (mkF m 110 #[.val (.int i0), .val (.int i1), .val (.long i2), .second, .val (.long i3), .second, .val (.int i4), .val (.ref lab), .val (.int mode), .val (.int n), .val (.int c0), .val (.int c1), .unset, .unset, .unset, .unset, .unset, .unset, .unset, .unset, .unset] [(.int c2)]))
    refine oSt (fun _ => XS.istore A.here hx rfl (Jvm.hb hby at_110) rfl (l' := #[.val (.int i0), .val (.int i1), .val (.long i2), .second, .val (.long i3), .second, .val (.int i4), .val (.ref lab), .val (.int mode), .val (.int n), .val (.int c0), .val (.int c1), .val (.int c2), .unset, .unset, .unset, .unset, .unset, .unset, .unset, .unset]) rfl) ?_
    show oGo p e below _ (T.setTop (mkF m 112 #[.val (.int i0), .val (.int i1), .val (.long i2), .second, .val (.long i3), .second, .val (.int i4), .val (.ref lab), .val (.int mode), .val (.int n), .val (.int c0), .val (.int c1), .val (.int c2), .unset, .unset, .unset, .unset, .unset, .unset, .unset, .unset] []))
    refine oSt (fun _ => XS.aload A.here hx rfl (Jvm.hb hby at_112) rfl rfl) ?_
    show oGo p e below _ (T.setTop (mkF m 114 #[.val (.int i0), .val (.int i1), .val (.long i2), .second, .val (.long i3), .second, .val (.int i4), .val (.ref lab), .val (.int mode), .val (.int n), .val (.int c0), .val (.int c1), .val (.int c2), .unset, .unset, .unset, .unset, .unset, .unset, .unset, .unset] [(.ref lab)]))
    refine oSt (fun _ => XS.iconst A.here hx rfl (Jvm.hb hby at_114)) ?_
    show oGo p e below _ (T.setTop (mkF m 115 #[.val (.int i0), .val (.int i1), .val (.long i2), .second, .val (.long i3), .second, .val (.int i4), .val (.ref lab), .val (.int mode), .val (.int n), .val (.int c0), .val (.int c1), .val (.int c2), .unset, .unset, .unset, .unset, .unset, .unset, .unset, .unset] [(.int (3 : Int32)), (.ref lab)]))
    refine oSt (fun _ => XS.iloadN A.here hx rfl (Jvm.hb hby at_115) rfl) ?_
    show oGo p e below _ (T.setTop (mkF m 116 #[.val (.int i0), .val (.int i1), .val (.long i2), .second, .val (.long i3), .second, .val (.int i4), .val (.ref lab), .val (.int mode), .val (.int n), .val (.int c0), .val (.int c1), .val (.int c2), .unset, .unset, .unset, .unset, .unset, .unset, .unset, .unset] [(.int i1), (.int (3 : Int32)), (.ref lab)]))
    refine oSt (fun _ => XS.lloadN A.here hx rfl (Jvm.hb hby at_116) rfl) ?_
    show oGo p e below _ (T.setTop (mkF m 117 #[.val (.int i0), .val (.int i1), .val (.long i2), .second, .val (.long i3), .second, .val (.int i4), .val (.ref lab), .val (.int mode), .val (.int n), .val (.int c0), .val (.int c1), .val (.int c2), .unset, .unset, .unset, .unset, .unset, .unset, .unset, .unset] [(.long i2), (.int i1), (.int (3 : Int32)), (.ref lab)]))
    refine oSt (fun _ => XS.lload A.here hx rfl (Jvm.hb hby at_117) rfl) ?_
    show oGo p e below _ (T.setTop (mkF m 119 #[.val (.int i0), .val (.int i1), .val (.long i2), .second, .val (.long i3), .second, .val (.int i4), .val (.ref lab), .val (.int mode), .val (.int n), .val (.int c0), .val (.int c1), .val (.int c2), .unset, .unset, .unset, .unset, .unset, .unset, .unset, .unset] [(.long i3), (.long i2), (.int i1), (.int (3 : Int32)), (.ref lab)]))
    obtain ⟨_, vm, T, h, L, A, K, CR, ⟨rfl, c3, hb3, rfl⟩, st⟩ := A.callS hx (y := (⟨"com/example/applicator/applicator/DialectLabelledPinLaw", "pick", "(Ljava/lang/String;IIJJ)C"⟩ : MethodName)) (hw _ (List.mem_of_getElem? (i := 25) rfl)) (hw _ (List.mem_of_getElem? (i := 26) rfl)) (hw _ (List.mem_of_getElem? (i := 2) rfl)) (hw _ (List.mem_of_getElem? (i := 27) rfl)) (by decide) hEL (argsL := [(.ref lab), (.int (3 : Int32)), (.int i1), (.long i2), (.long i3)]) (rest := []) (own_pick l Z a0 hw hEL n0 _ A.oldn lab 3 i1 i2 i3 cs zc hcs hcz fm hfm rfm (by decide) Q) (W := 0) (by decide) (by decide) (by decide) (by decide) all0 all0 all0 (g := (mkF m 119 #[.val (.int i0), .val (.int i1), .val (.long i2), .second, .val (.long i3), .second, .val (.int i4), .val (.ref lab), .val (.int mode), .val (.int n), .val (.int c0), .val (.int c1), .val (.int c2), .unset, .unset, .unset, .unset, .unset, .unset, .unset, .unset] [(.long i3), (.long i2), (.int i1), (.int (3 : Int32)), (.ref lab)])) rfl (by rw [hml]; rfl) (lenOf opd5 rfl) rfl (by show 2 * 0 + _ ≤ _; exact Nat.le_of_eq rfl) (Jvm.hb hby at_119)
    refine oSt st ?_
    have X := oExt0 K
    show oGo p e below _ (T.setTop (mkF m 122 #[.val (.int i0), .val (.int i1), .val (.long i2), .second, .val (.long i3), .second, .val (.int i4), .val (.ref lab), .val (.int mode), .val (.int n), .val (.int c0), .val (.int c1), .val (.int c2), .unset, .unset, .unset, .unset, .unset, .unset, .unset, .unset] [(.int c3)]))
    refine oSt (fun _ => XS.istore A.here hx rfl (Jvm.hb hby at_122) rfl (l' := #[.val (.int i0), .val (.int i1), .val (.long i2), .second, .val (.long i3), .second, .val (.int i4), .val (.ref lab), .val (.int mode), .val (.int n), .val (.int c0), .val (.int c1), .val (.int c2), .val (.int c3), .unset, .unset, .unset, .unset, .unset, .unset, .unset]) rfl) ?_
    show oGo p e below _ (T.setTop (mkF m 124 #[.val (.int i0), .val (.int i1), .val (.long i2), .second, .val (.long i3), .second, .val (.int i4), .val (.ref lab), .val (.int mode), .val (.int n), .val (.int c0), .val (.int c1), .val (.int c2), .val (.int c3), .unset, .unset, .unset, .unset, .unset, .unset, .unset] []))
    refine oSt (fun _ => XS.aload A.here hx rfl (Jvm.hb hby at_124) rfl rfl) ?_
    show oGo p e below _ (T.setTop (mkF m 126 #[.val (.int i0), .val (.int i1), .val (.long i2), .second, .val (.long i3), .second, .val (.int i4), .val (.ref lab), .val (.int mode), .val (.int n), .val (.int c0), .val (.int c1), .val (.int c2), .val (.int c3), .unset, .unset, .unset, .unset, .unset, .unset, .unset] [(.ref lab)]))
    refine oSt (fun _ => XS.iconst A.here hx rfl (Jvm.hb hby at_126)) ?_
    show oGo p e below _ (T.setTop (mkF m 127 #[.val (.int i0), .val (.int i1), .val (.long i2), .second, .val (.long i3), .second, .val (.int i4), .val (.ref lab), .val (.int mode), .val (.int n), .val (.int c0), .val (.int c1), .val (.int c2), .val (.int c3), .unset, .unset, .unset, .unset, .unset, .unset, .unset] [(.int (4 : Int32)), (.ref lab)]))
    refine oSt (fun _ => XS.iloadN A.here hx rfl (Jvm.hb hby at_127) rfl) ?_
    show oGo p e below _ (T.setTop (mkF m 128 #[.val (.int i0), .val (.int i1), .val (.long i2), .second, .val (.long i3), .second, .val (.int i4), .val (.ref lab), .val (.int mode), .val (.int n), .val (.int c0), .val (.int c1), .val (.int c2), .val (.int c3), .unset, .unset, .unset, .unset, .unset, .unset, .unset] [(.int i1), (.int (4 : Int32)), (.ref lab)]))
    refine oSt (fun _ => XS.lloadN A.here hx rfl (Jvm.hb hby at_128) rfl) ?_
    show oGo p e below _ (T.setTop (mkF m 129 #[.val (.int i0), .val (.int i1), .val (.long i2), .second, .val (.long i3), .second, .val (.int i4), .val (.ref lab), .val (.int mode), .val (.int n), .val (.int c0), .val (.int c1), .val (.int c2), .val (.int c3), .unset, .unset, .unset, .unset, .unset, .unset, .unset] [(.long i2), (.int i1), (.int (4 : Int32)), (.ref lab)]))
    refine oSt (fun _ => XS.lload A.here hx rfl (Jvm.hb hby at_129) rfl) ?_
    show oGo p e below _ (T.setTop (mkF m 131 #[.val (.int i0), .val (.int i1), .val (.long i2), .second, .val (.long i3), .second, .val (.int i4), .val (.ref lab), .val (.int mode), .val (.int n), .val (.int c0), .val (.int c1), .val (.int c2), .val (.int c3), .unset, .unset, .unset, .unset, .unset, .unset, .unset] [(.long i3), (.long i2), (.int i1), (.int (4 : Int32)), (.ref lab)]))
    obtain ⟨_, vm, T, h, L, A, K, CR, ⟨rfl, c4, hb4, rfl⟩, st⟩ := A.callS hx (y := (⟨"com/example/applicator/applicator/DialectLabelledPinLaw", "pick", "(Ljava/lang/String;IIJJ)C"⟩ : MethodName)) (hw _ (List.mem_of_getElem? (i := 25) rfl)) (hw _ (List.mem_of_getElem? (i := 26) rfl)) (hw _ (List.mem_of_getElem? (i := 2) rfl)) (hw _ (List.mem_of_getElem? (i := 27) rfl)) (by decide) hEL (argsL := [(.ref lab), (.int (4 : Int32)), (.int i1), (.long i2), (.long i3)]) (rest := []) (own_pick l Z a0 hw hEL n0 _ A.oldn lab 4 i1 i2 i3 cs zc hcs hcz fm hfm rfm (by decide) Q) (W := 0) (by decide) (by decide) (by decide) (by decide) all0 all0 all0 (g := (mkF m 131 #[.val (.int i0), .val (.int i1), .val (.long i2), .second, .val (.long i3), .second, .val (.int i4), .val (.ref lab), .val (.int mode), .val (.int n), .val (.int c0), .val (.int c1), .val (.int c2), .val (.int c3), .unset, .unset, .unset, .unset, .unset, .unset, .unset] [(.long i3), (.long i2), (.int i1), (.int (4 : Int32)), (.ref lab)])) rfl (by rw [hml]; rfl) (lenOf opd5 rfl) rfl (by show 2 * 0 + _ ≤ _; exact Nat.le_of_eq rfl) (Jvm.hb hby at_131)
    refine oSt st ?_
    have X := oExt0 K
    show oGo p e below _ (T.setTop (mkF m 134 #[.val (.int i0), .val (.int i1), .val (.long i2), .second, .val (.long i3), .second, .val (.int i4), .val (.ref lab), .val (.int mode), .val (.int n), .val (.int c0), .val (.int c1), .val (.int c2), .val (.int c3), .unset, .unset, .unset, .unset, .unset, .unset, .unset] [(.int c4)]))
    refine oSt (fun _ => XS.istore A.here hx rfl (Jvm.hb hby at_134) rfl (l' := #[.val (.int i0), .val (.int i1), .val (.long i2), .second, .val (.long i3), .second, .val (.int i4), .val (.ref lab), .val (.int mode), .val (.int n), .val (.int c0), .val (.int c1), .val (.int c2), .val (.int c3), .val (.int c4), .unset, .unset, .unset, .unset, .unset, .unset]) rfl) ?_
    show oGo p e below _ (T.setTop (mkF m 136 #[.val (.int i0), .val (.int i1), .val (.long i2), .second, .val (.long i3), .second, .val (.int i4), .val (.ref lab), .val (.int mode), .val (.int n), .val (.int c0), .val (.int c1), .val (.int c2), .val (.int c3), .val (.int c4), .unset, .unset, .unset, .unset, .unset, .unset] []))
    refine oSt (fun _ => XS.aload A.here hx rfl (Jvm.hb hby at_136) rfl rfl) ?_
    show oGo p e below _ (T.setTop (mkF m 138 #[.val (.int i0), .val (.int i1), .val (.long i2), .second, .val (.long i3), .second, .val (.int i4), .val (.ref lab), .val (.int mode), .val (.int n), .val (.int c0), .val (.int c1), .val (.int c2), .val (.int c3), .val (.int c4), .unset, .unset, .unset, .unset, .unset, .unset] [(.ref lab)]))
    refine oSt (fun _ => XS.iconst A.here hx rfl (Jvm.hb hby at_138)) ?_
    show oGo p e below _ (T.setTop (mkF m 139 #[.val (.int i0), .val (.int i1), .val (.long i2), .second, .val (.long i3), .second, .val (.int i4), .val (.ref lab), .val (.int mode), .val (.int n), .val (.int c0), .val (.int c1), .val (.int c2), .val (.int c3), .val (.int c4), .unset, .unset, .unset, .unset, .unset, .unset] [(.int (5 : Int32)), (.ref lab)]))
    refine oSt (fun _ => XS.iloadN A.here hx rfl (Jvm.hb hby at_139) rfl) ?_
    show oGo p e below _ (T.setTop (mkF m 140 #[.val (.int i0), .val (.int i1), .val (.long i2), .second, .val (.long i3), .second, .val (.int i4), .val (.ref lab), .val (.int mode), .val (.int n), .val (.int c0), .val (.int c1), .val (.int c2), .val (.int c3), .val (.int c4), .unset, .unset, .unset, .unset, .unset, .unset] [(.int i1), (.int (5 : Int32)), (.ref lab)]))
    refine oSt (fun _ => XS.lloadN A.here hx rfl (Jvm.hb hby at_140) rfl) ?_
    show oGo p e below _ (T.setTop (mkF m 141 #[.val (.int i0), .val (.int i1), .val (.long i2), .second, .val (.long i3), .second, .val (.int i4), .val (.ref lab), .val (.int mode), .val (.int n), .val (.int c0), .val (.int c1), .val (.int c2), .val (.int c3), .val (.int c4), .unset, .unset, .unset, .unset, .unset, .unset] [(.long i2), (.int i1), (.int (5 : Int32)), (.ref lab)]))
    refine oSt (fun _ => XS.lload A.here hx rfl (Jvm.hb hby at_141) rfl) ?_
    show oGo p e below _ (T.setTop (mkF m 143 #[.val (.int i0), .val (.int i1), .val (.long i2), .second, .val (.long i3), .second, .val (.int i4), .val (.ref lab), .val (.int mode), .val (.int n), .val (.int c0), .val (.int c1), .val (.int c2), .val (.int c3), .val (.int c4), .unset, .unset, .unset, .unset, .unset, .unset] [(.long i3), (.long i2), (.int i1), (.int (5 : Int32)), (.ref lab)]))
    obtain ⟨_, vm, T, h, L, A, K, CR, ⟨rfl, c5, hb5, rfl⟩, st⟩ := A.callS hx (y := (⟨"com/example/applicator/applicator/DialectLabelledPinLaw", "pick", "(Ljava/lang/String;IIJJ)C"⟩ : MethodName)) (hw _ (List.mem_of_getElem? (i := 25) rfl)) (hw _ (List.mem_of_getElem? (i := 26) rfl)) (hw _ (List.mem_of_getElem? (i := 2) rfl)) (hw _ (List.mem_of_getElem? (i := 27) rfl)) (by decide) hEL (argsL := [(.ref lab), (.int (5 : Int32)), (.int i1), (.long i2), (.long i3)]) (rest := []) (own_pick l Z a0 hw hEL n0 _ A.oldn lab 5 i1 i2 i3 cs zc hcs hcz fm hfm rfm (by decide) Q) (W := 0) (by decide) (by decide) (by decide) (by decide) all0 all0 all0 (g := (mkF m 143 #[.val (.int i0), .val (.int i1), .val (.long i2), .second, .val (.long i3), .second, .val (.int i4), .val (.ref lab), .val (.int mode), .val (.int n), .val (.int c0), .val (.int c1), .val (.int c2), .val (.int c3), .val (.int c4), .unset, .unset, .unset, .unset, .unset, .unset] [(.long i3), (.long i2), (.int i1), (.int (5 : Int32)), (.ref lab)])) rfl (by rw [hml]; rfl) (lenOf opd5 rfl) rfl (by show 2 * 0 + _ ≤ _; exact Nat.le_of_eq rfl) (Jvm.hb hby at_143)
    refine oSt st ?_
    have X := oExt0 K
    show oGo p e below _ (T.setTop (mkF m 146 #[.val (.int i0), .val (.int i1), .val (.long i2), .second, .val (.long i3), .second, .val (.int i4), .val (.ref lab), .val (.int mode), .val (.int n), .val (.int c0), .val (.int c1), .val (.int c2), .val (.int c3), .val (.int c4), .unset, .unset, .unset, .unset, .unset, .unset] [(.int c5)]))
    refine oSt (fun _ => XS.istore A.here hx rfl (Jvm.hb hby at_146) rfl (l' := #[.val (.int i0), .val (.int i1), .val (.long i2), .second, .val (.long i3), .second, .val (.int i4), .val (.ref lab), .val (.int mode), .val (.int n), .val (.int c0), .val (.int c1), .val (.int c2), .val (.int c3), .val (.int c4), .val (.int c5), .unset, .unset, .unset, .unset, .unset]) rfl) ?_
    show oGo p e below _ (T.setTop (mkF m 148 #[.val (.int i0), .val (.int i1), .val (.long i2), .second, .val (.long i3), .second, .val (.int i4), .val (.ref lab), .val (.int mode), .val (.int n), .val (.int c0), .val (.int c1), .val (.int c2), .val (.int c3), .val (.int c4), .val (.int c5), .unset, .unset, .unset, .unset, .unset] []))
    refine oSt (fun _ => XS.aload A.here hx rfl (Jvm.hb hby at_148) rfl rfl) ?_
    show oGo p e below _ (T.setTop (mkF m 150 #[.val (.int i0), .val (.int i1), .val (.long i2), .second, .val (.long i3), .second, .val (.int i4), .val (.ref lab), .val (.int mode), .val (.int n), .val (.int c0), .val (.int c1), .val (.int c2), .val (.int c3), .val (.int c4), .val (.int c5), .unset, .unset, .unset, .unset, .unset] [(.ref lab)]))
    refine oSt (fun _ => XS.bipush A.here hx rfl (Jvm.hb hby at_150)) ?_
    show oGo p e below _ (T.setTop (mkF m 152 #[.val (.int i0), .val (.int i1), .val (.long i2), .second, .val (.long i3), .second, .val (.int i4), .val (.ref lab), .val (.int mode), .val (.int n), .val (.int c0), .val (.int c1), .val (.int c2), .val (.int c3), .val (.int c4), .val (.int c5), .unset, .unset, .unset, .unset, .unset] [(.int (6 : Int32)), (.ref lab)]))
    refine oSt (fun _ => XS.iloadN A.here hx rfl (Jvm.hb hby at_152) rfl) ?_
    show oGo p e below _ (T.setTop (mkF m 153 #[.val (.int i0), .val (.int i1), .val (.long i2), .second, .val (.long i3), .second, .val (.int i4), .val (.ref lab), .val (.int mode), .val (.int n), .val (.int c0), .val (.int c1), .val (.int c2), .val (.int c3), .val (.int c4), .val (.int c5), .unset, .unset, .unset, .unset, .unset] [(.int i1), (.int (6 : Int32)), (.ref lab)]))
    refine oSt (fun _ => XS.lloadN A.here hx rfl (Jvm.hb hby at_153) rfl) ?_
    show oGo p e below _ (T.setTop (mkF m 154 #[.val (.int i0), .val (.int i1), .val (.long i2), .second, .val (.long i3), .second, .val (.int i4), .val (.ref lab), .val (.int mode), .val (.int n), .val (.int c0), .val (.int c1), .val (.int c2), .val (.int c3), .val (.int c4), .val (.int c5), .unset, .unset, .unset, .unset, .unset] [(.long i2), (.int i1), (.int (6 : Int32)), (.ref lab)]))
    refine oSt (fun _ => XS.lload A.here hx rfl (Jvm.hb hby at_154) rfl) ?_
    show oGo p e below _ (T.setTop (mkF m 156 #[.val (.int i0), .val (.int i1), .val (.long i2), .second, .val (.long i3), .second, .val (.int i4), .val (.ref lab), .val (.int mode), .val (.int n), .val (.int c0), .val (.int c1), .val (.int c2), .val (.int c3), .val (.int c4), .val (.int c5), .unset, .unset, .unset, .unset, .unset] [(.long i3), (.long i2), (.int i1), (.int (6 : Int32)), (.ref lab)]))
    obtain ⟨_, vm, T, h, L, A, K, CR, ⟨rfl, c6, hb6, rfl⟩, st⟩ := A.callS hx (y := (⟨"com/example/applicator/applicator/DialectLabelledPinLaw", "pick", "(Ljava/lang/String;IIJJ)C"⟩ : MethodName)) (hw _ (List.mem_of_getElem? (i := 25) rfl)) (hw _ (List.mem_of_getElem? (i := 26) rfl)) (hw _ (List.mem_of_getElem? (i := 2) rfl)) (hw _ (List.mem_of_getElem? (i := 27) rfl)) (by decide) hEL (argsL := [(.ref lab), (.int (6 : Int32)), (.int i1), (.long i2), (.long i3)]) (rest := []) (own_pick l Z a0 hw hEL n0 _ A.oldn lab 6 i1 i2 i3 cs zc hcs hcz fm hfm rfm (by decide) Q) (W := 0) (by decide) (by decide) (by decide) (by decide) all0 all0 all0 (g := (mkF m 156 #[.val (.int i0), .val (.int i1), .val (.long i2), .second, .val (.long i3), .second, .val (.int i4), .val (.ref lab), .val (.int mode), .val (.int n), .val (.int c0), .val (.int c1), .val (.int c2), .val (.int c3), .val (.int c4), .val (.int c5), .unset, .unset, .unset, .unset, .unset] [(.long i3), (.long i2), (.int i1), (.int (6 : Int32)), (.ref lab)])) rfl (by rw [hml]; rfl) (lenOf opd5 rfl) rfl (by show 2 * 0 + _ ≤ _; exact Nat.le_of_eq rfl) (Jvm.hb hby at_156)
    refine oSt st ?_
    have X := oExt0 K
    show oGo p e below _ (T.setTop (mkF m 159 #[.val (.int i0), .val (.int i1), .val (.long i2), .second, .val (.long i3), .second, .val (.int i4), .val (.ref lab), .val (.int mode), .val (.int n), .val (.int c0), .val (.int c1), .val (.int c2), .val (.int c3), .val (.int c4), .val (.int c5), .unset, .unset, .unset, .unset, .unset] [(.int c6)]))
    refine oSt (fun _ => XS.istore A.here hx rfl (Jvm.hb hby at_159) rfl (l' := #[.val (.int i0), .val (.int i1), .val (.long i2), .second, .val (.long i3), .second, .val (.int i4), .val (.ref lab), .val (.int mode), .val (.int n), .val (.int c0), .val (.int c1), .val (.int c2), .val (.int c3), .val (.int c4), .val (.int c5), .val (.int c6), .unset, .unset, .unset, .unset]) rfl) ?_
    show oGo p e below _ (T.setTop (mkF m 161 #[.val (.int i0), .val (.int i1), .val (.long i2), .second, .val (.long i3), .second, .val (.int i4), .val (.ref lab), .val (.int mode), .val (.int n), .val (.int c0), .val (.int c1), .val (.int c2), .val (.int c3), .val (.int c4), .val (.int c5), .val (.int c6), .unset, .unset, .unset, .unset] []))
    refine oSt (fun _ => XS.aload A.here hx rfl (Jvm.hb hby at_161) rfl rfl) ?_
    show oGo p e below _ (T.setTop (mkF m 163 #[.val (.int i0), .val (.int i1), .val (.long i2), .second, .val (.long i3), .second, .val (.int i4), .val (.ref lab), .val (.int mode), .val (.int n), .val (.int c0), .val (.int c1), .val (.int c2), .val (.int c3), .val (.int c4), .val (.int c5), .val (.int c6), .unset, .unset, .unset, .unset] [(.ref lab)]))
    refine oSt (fun _ => XS.bipush A.here hx rfl (Jvm.hb hby at_163)) ?_
    show oGo p e below _ (T.setTop (mkF m 165 #[.val (.int i0), .val (.int i1), .val (.long i2), .second, .val (.long i3), .second, .val (.int i4), .val (.ref lab), .val (.int mode), .val (.int n), .val (.int c0), .val (.int c1), .val (.int c2), .val (.int c3), .val (.int c4), .val (.int c5), .val (.int c6), .unset, .unset, .unset, .unset] [(.int (7 : Int32)), (.ref lab)]))
    refine oSt (fun _ => XS.iloadN A.here hx rfl (Jvm.hb hby at_165) rfl) ?_
    show oGo p e below _ (T.setTop (mkF m 166 #[.val (.int i0), .val (.int i1), .val (.long i2), .second, .val (.long i3), .second, .val (.int i4), .val (.ref lab), .val (.int mode), .val (.int n), .val (.int c0), .val (.int c1), .val (.int c2), .val (.int c3), .val (.int c4), .val (.int c5), .val (.int c6), .unset, .unset, .unset, .unset] [(.int i1), (.int (7 : Int32)), (.ref lab)]))
    refine oSt (fun _ => XS.lloadN A.here hx rfl (Jvm.hb hby at_166) rfl) ?_
    show oGo p e below _ (T.setTop (mkF m 167 #[.val (.int i0), .val (.int i1), .val (.long i2), .second, .val (.long i3), .second, .val (.int i4), .val (.ref lab), .val (.int mode), .val (.int n), .val (.int c0), .val (.int c1), .val (.int c2), .val (.int c3), .val (.int c4), .val (.int c5), .val (.int c6), .unset, .unset, .unset, .unset] [(.long i2), (.int i1), (.int (7 : Int32)), (.ref lab)]))
    refine oSt (fun _ => XS.lload A.here hx rfl (Jvm.hb hby at_167) rfl) ?_
    show oGo p e below _ (T.setTop (mkF m 169 #[.val (.int i0), .val (.int i1), .val (.long i2), .second, .val (.long i3), .second, .val (.int i4), .val (.ref lab), .val (.int mode), .val (.int n), .val (.int c0), .val (.int c1), .val (.int c2), .val (.int c3), .val (.int c4), .val (.int c5), .val (.int c6), .unset, .unset, .unset, .unset] [(.long i3), (.long i2), (.int i1), (.int (7 : Int32)), (.ref lab)]))
    obtain ⟨_, vm, T, h, L, A, K, CR, ⟨rfl, c7, hb7, rfl⟩, st⟩ := A.callS hx (y := (⟨"com/example/applicator/applicator/DialectLabelledPinLaw", "pick", "(Ljava/lang/String;IIJJ)C"⟩ : MethodName)) (hw _ (List.mem_of_getElem? (i := 25) rfl)) (hw _ (List.mem_of_getElem? (i := 26) rfl)) (hw _ (List.mem_of_getElem? (i := 2) rfl)) (hw _ (List.mem_of_getElem? (i := 27) rfl)) (by decide) hEL (argsL := [(.ref lab), (.int (7 : Int32)), (.int i1), (.long i2), (.long i3)]) (rest := []) (own_pick l Z a0 hw hEL n0 _ A.oldn lab 7 i1 i2 i3 cs zc hcs hcz fm hfm rfm (by decide) Q) (W := 0) (by decide) (by decide) (by decide) (by decide) all0 all0 all0 (g := (mkF m 169 #[.val (.int i0), .val (.int i1), .val (.long i2), .second, .val (.long i3), .second, .val (.int i4), .val (.ref lab), .val (.int mode), .val (.int n), .val (.int c0), .val (.int c1), .val (.int c2), .val (.int c3), .val (.int c4), .val (.int c5), .val (.int c6), .unset, .unset, .unset, .unset] [(.long i3), (.long i2), (.int i1), (.int (7 : Int32)), (.ref lab)])) rfl (by rw [hml]; rfl) (lenOf opd5 rfl) rfl (by show 2 * 0 + _ ≤ _; exact Nat.le_of_eq rfl) (Jvm.hb hby at_169)
    refine oSt st ?_
    have X := oExt0 K
    show oGo p e below _ (T.setTop (mkF m 172 #[.val (.int i0), .val (.int i1), .val (.long i2), .second, .val (.long i3), .second, .val (.int i4), .val (.ref lab), .val (.int mode), .val (.int n), .val (.int c0), .val (.int c1), .val (.int c2), .val (.int c3), .val (.int c4), .val (.int c5), .val (.int c6), .unset, .unset, .unset, .unset] [(.int c7)]))
    refine oSt (fun _ => XS.istore A.here hx rfl (Jvm.hb hby at_172) rfl (l' := #[.val (.int i0), .val (.int i1), .val (.long i2), .second, .val (.long i3), .second, .val (.int i4), .val (.ref lab), .val (.int mode), .val (.int n), .val (.int c0), .val (.int c1), .val (.int c2), .val (.int c3), .val (.int c4), .val (.int c5), .val (.int c6), .val (.int c7), .unset, .unset, .unset]) rfl) ?_
    show oGo p e below _ (T.setTop (mkF m 174 #[.val (.int i0), .val (.int i1), .val (.long i2), .second, .val (.long i3), .second, .val (.int i4), .val (.ref lab), .val (.int mode), .val (.int n), .val (.int c0), .val (.int c1), .val (.int c2), .val (.int c3), .val (.int c4), .val (.int c5), .val (.int c6), .val (.int c7), .unset, .unset, .unset] []))
    refine oSt (fun _ => XS.aload A.here hx rfl (Jvm.hb hby at_174) rfl rfl) ?_
    show oGo p e below _ (T.setTop (mkF m 176 #[.val (.int i0), .val (.int i1), .val (.long i2), .second, .val (.long i3), .second, .val (.int i4), .val (.ref lab), .val (.int mode), .val (.int n), .val (.int c0), .val (.int c1), .val (.int c2), .val (.int c3), .val (.int c4), .val (.int c5), .val (.int c6), .val (.int c7), .unset, .unset, .unset] [(.ref lab)]))
    refine oSt (fun _ => XS.bipush A.here hx rfl (Jvm.hb hby at_176)) ?_
    show oGo p e below _ (T.setTop (mkF m 178 #[.val (.int i0), .val (.int i1), .val (.long i2), .second, .val (.long i3), .second, .val (.int i4), .val (.ref lab), .val (.int mode), .val (.int n), .val (.int c0), .val (.int c1), .val (.int c2), .val (.int c3), .val (.int c4), .val (.int c5), .val (.int c6), .val (.int c7), .unset, .unset, .unset] [(.int (8 : Int32)), (.ref lab)]))
    refine oSt (fun _ => XS.iloadN A.here hx rfl (Jvm.hb hby at_178) rfl) ?_
    show oGo p e below _ (T.setTop (mkF m 179 #[.val (.int i0), .val (.int i1), .val (.long i2), .second, .val (.long i3), .second, .val (.int i4), .val (.ref lab), .val (.int mode), .val (.int n), .val (.int c0), .val (.int c1), .val (.int c2), .val (.int c3), .val (.int c4), .val (.int c5), .val (.int c6), .val (.int c7), .unset, .unset, .unset] [(.int i1), (.int (8 : Int32)), (.ref lab)]))
    refine oSt (fun _ => XS.lloadN A.here hx rfl (Jvm.hb hby at_179) rfl) ?_
    show oGo p e below _ (T.setTop (mkF m 180 #[.val (.int i0), .val (.int i1), .val (.long i2), .second, .val (.long i3), .second, .val (.int i4), .val (.ref lab), .val (.int mode), .val (.int n), .val (.int c0), .val (.int c1), .val (.int c2), .val (.int c3), .val (.int c4), .val (.int c5), .val (.int c6), .val (.int c7), .unset, .unset, .unset] [(.long i2), (.int i1), (.int (8 : Int32)), (.ref lab)]))
    refine oSt (fun _ => XS.lload A.here hx rfl (Jvm.hb hby at_180) rfl) ?_
    show oGo p e below _ (T.setTop (mkF m 182 #[.val (.int i0), .val (.int i1), .val (.long i2), .second, .val (.long i3), .second, .val (.int i4), .val (.ref lab), .val (.int mode), .val (.int n), .val (.int c0), .val (.int c1), .val (.int c2), .val (.int c3), .val (.int c4), .val (.int c5), .val (.int c6), .val (.int c7), .unset, .unset, .unset] [(.long i3), (.long i2), (.int i1), (.int (8 : Int32)), (.ref lab)]))
    obtain ⟨_, vm, T, h, L, A, K, CR, ⟨rfl, c8, hb8, rfl⟩, st⟩ := A.callS hx (y := (⟨"com/example/applicator/applicator/DialectLabelledPinLaw", "pick", "(Ljava/lang/String;IIJJ)C"⟩ : MethodName)) (hw _ (List.mem_of_getElem? (i := 25) rfl)) (hw _ (List.mem_of_getElem? (i := 26) rfl)) (hw _ (List.mem_of_getElem? (i := 2) rfl)) (hw _ (List.mem_of_getElem? (i := 27) rfl)) (by decide) hEL (argsL := [(.ref lab), (.int (8 : Int32)), (.int i1), (.long i2), (.long i3)]) (rest := []) (own_pick l Z a0 hw hEL n0 _ A.oldn lab 8 i1 i2 i3 cs zc hcs hcz fm hfm rfm (by decide) Q) (W := 0) (by decide) (by decide) (by decide) (by decide) all0 all0 all0 (g := (mkF m 182 #[.val (.int i0), .val (.int i1), .val (.long i2), .second, .val (.long i3), .second, .val (.int i4), .val (.ref lab), .val (.int mode), .val (.int n), .val (.int c0), .val (.int c1), .val (.int c2), .val (.int c3), .val (.int c4), .val (.int c5), .val (.int c6), .val (.int c7), .unset, .unset, .unset] [(.long i3), (.long i2), (.int i1), (.int (8 : Int32)), (.ref lab)])) rfl (by rw [hml]; rfl) (lenOf opd5 rfl) rfl (by show 2 * 0 + _ ≤ _; exact Nat.le_of_eq rfl) (Jvm.hb hby at_182)
    refine oSt st ?_
    have X := oExt0 K
    show oGo p e below _ (T.setTop (mkF m 185 #[.val (.int i0), .val (.int i1), .val (.long i2), .second, .val (.long i3), .second, .val (.int i4), .val (.ref lab), .val (.int mode), .val (.int n), .val (.int c0), .val (.int c1), .val (.int c2), .val (.int c3), .val (.int c4), .val (.int c5), .val (.int c6), .val (.int c7), .unset, .unset, .unset] [(.int c8)]))
    refine oSt (fun _ => XS.istore A.here hx rfl (Jvm.hb hby at_185) rfl (l' := #[.val (.int i0), .val (.int i1), .val (.long i2), .second, .val (.long i3), .second, .val (.int i4), .val (.ref lab), .val (.int mode), .val (.int n), .val (.int c0), .val (.int c1), .val (.int c2), .val (.int c3), .val (.int c4), .val (.int c5), .val (.int c6), .val (.int c7), .val (.int c8), .unset, .unset]) rfl) ?_
    show oGo p e below _ (T.setTop (mkF m 187 #[.val (.int i0), .val (.int i1), .val (.long i2), .second, .val (.long i3), .second, .val (.int i4), .val (.ref lab), .val (.int mode), .val (.int n), .val (.int c0), .val (.int c1), .val (.int c2), .val (.int c3), .val (.int c4), .val (.int c5), .val (.int c6), .val (.int c7), .val (.int c8), .unset, .unset] []))
    refine oSt (fun _ => XS.iload A.here hx rfl (Jvm.hb hby at_187) rfl) ?_
    show oGo p e below _ (T.setTop (mkF m 189 #[.val (.int i0), .val (.int i1), .val (.long i2), .second, .val (.long i3), .second, .val (.int i4), .val (.ref lab), .val (.int mode), .val (.int n), .val (.int c0), .val (.int c1), .val (.int c2), .val (.int c3), .val (.int c4), .val (.int c5), .val (.int c6), .val (.int c7), .val (.int c8), .unset, .unset] [(.int n)]))
    refine oSt (fun _ => XS.iload A.here hx rfl (Jvm.hb hby at_189) rfl) ?_
    show oGo p e below _ (T.setTop (mkF m 191 #[.val (.int i0), .val (.int i1), .val (.long i2), .second, .val (.long i3), .second, .val (.int i4), .val (.ref lab), .val (.int mode), .val (.int n), .val (.int c0), .val (.int c1), .val (.int c2), .val (.int c3), .val (.int c4), .val (.int c5), .val (.int c6), .val (.int c7), .val (.int c8), .unset, .unset] [(.int c0), (.int n)]))
    refine oSt (fun _ => XS.iload A.here hx rfl (Jvm.hb hby at_191) rfl) ?_
    show oGo p e below _ (T.setTop (mkF m 193 #[.val (.int i0), .val (.int i1), .val (.long i2), .second, .val (.long i3), .second, .val (.int i4), .val (.ref lab), .val (.int mode), .val (.int n), .val (.int c0), .val (.int c1), .val (.int c2), .val (.int c3), .val (.int c4), .val (.int c5), .val (.int c6), .val (.int c7), .val (.int c8), .unset, .unset] [(.int c1), (.int c0), (.int n)]))
    refine oSt (fun _ => XS.iload A.here hx rfl (Jvm.hb hby at_193) rfl) ?_
    show oGo p e below _ (T.setTop (mkF m 195 #[.val (.int i0), .val (.int i1), .val (.long i2), .second, .val (.long i3), .second, .val (.int i4), .val (.ref lab), .val (.int mode), .val (.int n), .val (.int c0), .val (.int c1), .val (.int c2), .val (.int c3), .val (.int c4), .val (.int c5), .val (.int c6), .val (.int c7), .val (.int c8), .unset, .unset] [(.int c2), (.int c1), (.int c0), (.int n)]))
    refine oSt (fun _ => XS.iload A.here hx rfl (Jvm.hb hby at_195) rfl) ?_
    show oGo p e below _ (T.setTop (mkF m 197 #[.val (.int i0), .val (.int i1), .val (.long i2), .second, .val (.long i3), .second, .val (.int i4), .val (.ref lab), .val (.int mode), .val (.int n), .val (.int c0), .val (.int c1), .val (.int c2), .val (.int c3), .val (.int c4), .val (.int c5), .val (.int c6), .val (.int c7), .val (.int c8), .unset, .unset] [(.int c3), (.int c2), (.int c1), (.int c0), (.int n)]))
    refine oSt (fun _ => XS.iload A.here hx rfl (Jvm.hb hby at_197) rfl) ?_
    show oGo p e below _ (T.setTop (mkF m 199 #[.val (.int i0), .val (.int i1), .val (.long i2), .second, .val (.long i3), .second, .val (.int i4), .val (.ref lab), .val (.int mode), .val (.int n), .val (.int c0), .val (.int c1), .val (.int c2), .val (.int c3), .val (.int c4), .val (.int c5), .val (.int c6), .val (.int c7), .val (.int c8), .unset, .unset] [(.int c4), (.int c3), (.int c2), (.int c1), (.int c0), (.int n)]))
    refine oSt (fun _ => XS.iload A.here hx rfl (Jvm.hb hby at_199) rfl) ?_
    show oGo p e below _ (T.setTop (mkF m 201 #[.val (.int i0), .val (.int i1), .val (.long i2), .second, .val (.long i3), .second, .val (.int i4), .val (.ref lab), .val (.int mode), .val (.int n), .val (.int c0), .val (.int c1), .val (.int c2), .val (.int c3), .val (.int c4), .val (.int c5), .val (.int c6), .val (.int c7), .val (.int c8), .unset, .unset] [(.int c5), (.int c4), (.int c3), (.int c2), (.int c1), (.int c0), (.int n)]))
    refine oSt (fun _ => XS.iload A.here hx rfl (Jvm.hb hby at_201) rfl) ?_
    show oGo p e below _ (T.setTop (mkF m 203 #[.val (.int i0), .val (.int i1), .val (.long i2), .second, .val (.long i3), .second, .val (.int i4), .val (.ref lab), .val (.int mode), .val (.int n), .val (.int c0), .val (.int c1), .val (.int c2), .val (.int c3), .val (.int c4), .val (.int c5), .val (.int c6), .val (.int c7), .val (.int c8), .unset, .unset] [(.int c6), (.int c5), (.int c4), (.int c3), (.int c2), (.int c1), (.int c0), (.int n)]))
    refine oSt (fun _ => XS.iload A.here hx rfl (Jvm.hb hby at_203) rfl) ?_
    show oGo p e below _ (T.setTop (mkF m 205 #[.val (.int i0), .val (.int i1), .val (.long i2), .second, .val (.long i3), .second, .val (.int i4), .val (.ref lab), .val (.int mode), .val (.int n), .val (.int c0), .val (.int c1), .val (.int c2), .val (.int c3), .val (.int c4), .val (.int c5), .val (.int c6), .val (.int c7), .val (.int c8), .unset, .unset] [(.int c7), (.int c6), (.int c5), (.int c4), (.int c3), (.int c2), (.int c1), (.int c0), (.int n)]))
    refine oSt (fun _ => XS.iload A.here hx rfl (Jvm.hb hby at_205) rfl) ?_
    show oGo p e below _ (T.setTop (mkF m 207 #[.val (.int i0), .val (.int i1), .val (.long i2), .second, .val (.long i3), .second, .val (.int i4), .val (.ref lab), .val (.int mode), .val (.int n), .val (.int c0), .val (.int c1), .val (.int c2), .val (.int c3), .val (.int c4), .val (.int c5), .val (.int c6), .val (.int c7), .val (.int c8), .unset, .unset] [(.int c8), (.int c7), (.int c6), (.int c5), (.int c4), (.int c3), (.int c2), (.int c1), (.int c0), (.int n)]))
    obtain ⟨_, vm, T, h, L, A, K, CR, ⟨x, cx, rfl, Q_x⟩, st⟩ := A.callS hx (y := (⟨"com/example/applicator/applicator/DialectLabelledPinLaw", "make", "(ICCCCCCCCC)Ljava/lang/String;"⟩ : MethodName)) (hw _ (List.mem_of_getElem? (i := 54) rfl)) (hw _ (List.mem_of_getElem? (i := 55) rfl)) (hw _ (List.mem_of_getElem? (i := 2) rfl)) (hw _ (List.mem_of_getElem? (i := 56) rfl)) (by decide) hEL (argsL := [(.int n), (.int c0), (.int c1), (.int c2), (.int c3), (.int c4), (.int c5), (.int c6), (.int c7), (.int c8)]) (rest := []) (own_make l Z a0 hw hEL n0 _ A.oldn n c0 c1 c2 c3 c4 c5 c6 c7 c8 zc hcs hcz hb0 hb1 hb2 hb3 hb4 hb5 hb6 hb7 hb8) (W := 0) (by decide) (by decide) (by decide) (by decide) all0 all0 all0 (g := (mkF m 207 #[.val (.int i0), .val (.int i1), .val (.long i2), .second, .val (.long i3), .second, .val (.int i4), .val (.ref lab), .val (.int mode), .val (.int n), .val (.int c0), .val (.int c1), .val (.int c2), .val (.int c3), .val (.int c4), .val (.int c5), .val (.int c6), .val (.int c7), .val (.int c8), .unset, .unset] [(.int c8), (.int c7), (.int c6), (.int c5), (.int c4), (.int c3), (.int c2), (.int c1), (.int c0), (.int n)])) rfl (by rw [hml]; rfl) (lenOf opd6 rfl) rfl (by show 2 * 0 + _ ≤ _; exact Nat.le_of_eq rfl) (Jvm.hb hby at_207)
    refine oSt st ?_
    have X := oExt0 K
    show oGo p e below _ (T.setTop (mkF m 210 #[.val (.int i0), .val (.int i1), .val (.long i2), .second, .val (.long i3), .second, .val (.int i4), .val (.ref lab), .val (.int mode), .val (.int n), .val (.int c0), .val (.int c1), .val (.int c2), .val (.int c3), .val (.int c4), .val (.int c5), .val (.int c6), .val (.int c7), .val (.int c8), .unset, .unset] [(.ref x)]))
    refine oSt (fun _ => XS.astore A.here hx rfl (Jvm.hb hby at_210) rfl rfl (l' := #[.val (.int i0), .val (.int i1), .val (.long i2), .second, .val (.long i3), .second, .val (.int i4), .val (.ref lab), .val (.int mode), .val (.int n), .val (.int c0), .val (.int c1), .val (.int c2), .val (.int c3), .val (.int c4), .val (.int c5), .val (.int c6), .val (.int c7), .val (.int c8), .val (.ref x), .unset]) rfl) ?_
    show oGo p e below _ (T.setTop (mkF m 212 #[.val (.int i0), .val (.int i1), .val (.long i2), .second, .val (.long i3), .second, .val (.int i4), .val (.ref lab), .val (.int mode), .val (.int n), .val (.int c0), .val (.int c1), .val (.int c2), .val (.int c3), .val (.int c4), .val (.int c5), .val (.int c6), .val (.int c7), .val (.int c8), .val (.ref x), .unset] []))
    refine oSt (fun _ => XS.aload A.here hx rfl (Jvm.hb hby at_212) rfl rfl) ?_
    show oGo p e below _ (T.setTop (mkF m 214 #[.val (.int i0), .val (.int i1), .val (.long i2), .second, .val (.long i3), .second, .val (.int i4), .val (.ref lab), .val (.int mode), .val (.int n), .val (.int c0), .val (.int c1), .val (.int c2), .val (.int c3), .val (.int c4), .val (.int c5), .val (.int c6), .val (.int c7), .val (.int c8), .val (.ref x), .unset] [(.ref x)]))
    obtain ⟨_, vm, T, h, L, A, K, CR, ⟨r1, rfl, g1⟩, st⟩ := A.callS hx (y := (⟨"com/example/applicator/applicator/Dialect", "labelled", "(Ljava/lang/String;)Lcom/example/applicator/applicator/Dialect;"⟩ : MethodName)) (hw _ (List.mem_of_getElem? (i := 79) rfl)) (hw _ (List.mem_of_getElem? (i := 80) rfl)) (hw _ (List.mem_of_getElem? (i := 81) rfl)) (hw _ (List.mem_of_getElem? (i := 82) rfl)) (by decide) hEL (argsL := [(.ref x)]) (rest := []) (own_labd l Z a0 hw hEL n0 _ A.oldn x cx zc hcs hcz d0 d1 d2 d3 va kv hva VV EV FV w0 w1 w2 w3 Fw0 Fw1 Fw2 Fw3 Qw0 Qw1 Qw2 Qw3 Q_x) (W := 0) (by decide) (by decide) (by decide) (by decide) all0 all0 all0 (g := (mkF m 214 #[.val (.int i0), .val (.int i1), .val (.long i2), .second, .val (.long i3), .second, .val (.int i4), .val (.ref lab), .val (.int mode), .val (.int n), .val (.int c0), .val (.int c1), .val (.int c2), .val (.int c3), .val (.int c4), .val (.int c5), .val (.int c6), .val (.int c7), .val (.int c8), .val (.ref x), .unset] [(.ref x)])) rfl (by rw [hml]; rfl) (lenOf opd7 rfl) rfl (by show 2 * 0 + _ ≤ _; exact Nat.le_of_eq rfl) (Jvm.hb hby at_214)
    refine oSt st ?_
    have X := oExt0 K
    have Q_x := Q_x.ext X
    show oGo p e below _ (T.setTop (mkF m 217 #[.val (.int i0), .val (.int i1), .val (.long i2), .second, .val (.long i3), .second, .val (.int i4), .val (.ref lab), .val (.int mode), .val (.int n), .val (.int c0), .val (.int c1), .val (.int c2), .val (.int c3), .val (.int c4), .val (.int c5), .val (.int c6), .val (.int c7), .val (.int c8), .val (.ref x), .unset] [r1]))
    rcases g1 with ⟨q1, rfl⟩ | ⟨q1, rfl⟩ | ⟨q1, rfl⟩ | ⟨q1, rfl⟩ | ⟨q1, q2, q3, q4, rfl⟩
    · show oGo p e below _ (T.setTop (mkF m 217 #[.val (.int i0), .val (.int i1), .val (.long i2), .second, .val (.long i3), .second, .val (.int i4), .val (.ref lab), .val (.int mode), .val (.int n), .val (.int c0), .val (.int c1), .val (.int c2), .val (.int c3), .val (.int c4), .val (.int c5), .val (.int c6), .val (.int c7), .val (.int c8), .val (.ref x), .unset] [(.ref d0)]))
      refine oSt (fun _ => XS.astore A.here hx rfl (Jvm.hb hby at_217) rfl rfl (l' := #[.val (.int i0), .val (.int i1), .val (.long i2), .second, .val (.long i3), .second, .val (.int i4), .val (.ref lab), .val (.int mode), .val (.int n), .val (.int c0), .val (.int c1), .val (.int c2), .val (.int c3), .val (.int c4), .val (.int c5), .val (.int c6), .val (.int c7), .val (.int c8), .val (.ref x), .val (.ref d0)]) rfl) ?_
      show oGo p e below _ (T.setTop (mkF m 219 #[.val (.int i0), .val (.int i1), .val (.long i2), .second, .val (.long i3), .second, .val (.int i4), .val (.ref lab), .val (.int mode), .val (.int n), .val (.int c0), .val (.int c1), .val (.int c2), .val (.int c3), .val (.int c4), .val (.int c5), .val (.int c6), .val (.int c7), .val (.int c8), .val (.ref x), .val (.ref d0)] []))
      refine oSt (fun _ => XS.aload A.here hx rfl (Jvm.hb hby at_219) rfl rfl) ?_
      show oGo p e below _ (T.setTop (mkF m 221 #[.val (.int i0), .val (.int i1), .val (.long i2), .second, .val (.long i3), .second, .val (.int i4), .val (.ref lab), .val (.int mode), .val (.int n), .val (.int c0), .val (.int c1), .val (.int c2), .val (.int c3), .val (.int c4), .val (.int c5), .val (.int c6), .val (.int c7), .val (.int c8), .val (.ref x), .val (.ref d0)] [(.ref d0)]))
      refine oSt (fun _ => XS.aload A.here hx rfl (Jvm.hb hby at_221) rfl rfl) ?_
      show oGo p e below _ (T.setTop (mkF m 223 #[.val (.int i0), .val (.int i1), .val (.long i2), .second, .val (.long i3), .second, .val (.int i4), .val (.ref lab), .val (.int mode), .val (.int n), .val (.int c0), .val (.int c1), .val (.int c2), .val (.int c3), .val (.int c4), .val (.int c5), .val (.int c6), .val (.int c7), .val (.int c8), .val (.ref x), .val (.ref d0)] [(.ref x), (.ref d0)]))
      obtain ⟨_, vm, T, h, L, A, K, CR, ⟨r2, rfl, g2⟩, st⟩ := A.callS hx (y := (⟨"com/example/applicator/applicator/DialectLabelledPinLaw", "expected", "(Ljava/lang/String;)Lcom/example/applicator/applicator/Dialect;"⟩ : MethodName)) (hw _ (List.mem_of_getElem? (i := 113) rfl)) (hw _ (List.mem_of_getElem? (i := 114) rfl)) (hw _ (List.mem_of_getElem? (i := 2) rfl)) (hw _ (List.mem_of_getElem? (i := 115) rfl)) (by decide) hEL (argsL := [(.ref x)]) (rest := [(.ref d0)]) (own_exp l Z a0 hw hEL n0 _ A.oldn x cx d0 d1 d2 d3 zc hcs hcz hd0 hd1 hd2 hd3 Ed0 Ed1 Ed2 Ed3 Q_x) (W := 1) (by decide) (by decide) (by decide) (by decide) all0 all0 all0 (g := (mkF m 223 #[.val (.int i0), .val (.int i1), .val (.long i2), .second, .val (.long i3), .second, .val (.int i4), .val (.ref lab), .val (.int mode), .val (.int n), .val (.int c0), .val (.int c1), .val (.int c2), .val (.int c3), .val (.int c4), .val (.int c5), .val (.int c6), .val (.int c7), .val (.int c8), .val (.ref x), .val (.ref d0)] [(.ref x), (.ref d0)])) rfl (by rw [hml]; rfl) (lenOf opd7 rfl) rfl (by show 2 * 0 + _ ≤ _; exact Nat.le_of_eq rfl) (Jvm.hb hby at_223)
      refine oSt st ?_
      have X := oExt0 K
      have Q_x := Q_x.ext X
      show oGo p e below _ (T.setTop (mkF m 226 #[.val (.int i0), .val (.int i1), .val (.long i2), .second, .val (.long i3), .second, .val (.int i4), .val (.ref lab), .val (.int mode), .val (.int n), .val (.int c0), .val (.int c1), .val (.int c2), .val (.int c3), .val (.int c4), .val (.int c5), .val (.int c6), .val (.int c7), .val (.int c8), .val (.ref x), .val (.ref d0)] [r2, (.ref d0)]))
      obtain rfl := own_lab1 (Or.inl ⟨q1, rfl⟩) g2
      show oGo p e below _ (T.setTop (mkF m 226 #[.val (.int i0), .val (.int i1), .val (.long i2), .second, .val (.long i3), .second, .val (.int i4), .val (.ref lab), .val (.int mode), .val (.int n), .val (.int c0), .val (.int c1), .val (.int c2), .val (.int c3), .val (.int c4), .val (.int c5), .val (.int c6), .val (.int c7), .val (.int c8), .val (.ref x), .val (.ref d0)] [(.ref d0), (.ref d0)]))
      refine oSt (fun _ => Jvm.Free.XT.acmpNo A.here hx rfl (x := (.ref d0)) (y := (.ref d0)) (Jvm.hb hby at_226) rfl rfl rfl (Jvm.Free.XT.aa_ne_f rfl)) ?_
      show oGo p e below _ (T.setTop (mkF m 229 #[.val (.int i0), .val (.int i1), .val (.long i2), .second, .val (.long i3), .second, .val (.int i4), .val (.ref lab), .val (.int mode), .val (.int n), .val (.int c0), .val (.int c1), .val (.int c2), .val (.int c3), .val (.int c4), .val (.int c5), .val (.int c6), .val (.int c7), .val (.int c8), .val (.ref x), .val (.ref d0)] []))
      refine oSt (fun _ => XS.iconst A.here hx rfl (Jvm.hb hby at_229)) ?_
      show oGo p e below _ (T.setTop (mkF m 230 #[.val (.int i0), .val (.int i1), .val (.long i2), .second, .val (.long i3), .second, .val (.int i4), .val (.ref lab), .val (.int mode), .val (.int n), .val (.int c0), .val (.int c1), .val (.int c2), .val (.int c3), .val (.int c4), .val (.int c5), .val (.int c6), .val (.int c7), .val (.int c8), .val (.ref x), .val (.ref d0)] [(.int (1 : Int32))]))
      refine oSt (fun _ => XS.goto A.here hx rfl (pc0 := 230) (pc' := 234) rfl (Jvm.hb hby at_230) (by decide) (by decide)) ?_
      show oGo p e below _ (T.setTop (mkF m 234 #[.val (.int i0), .val (.int i1), .val (.long i2), .second, .val (.long i3), .second, .val (.int i4), .val (.ref lab), .val (.int mode), .val (.int n), .val (.int c0), .val (.int c1), .val (.int c2), .val (.int c3), .val (.int c4), .val (.int c5), .val (.int c6), .val (.int c7), .val (.int c8), .val (.ref x), .val (.ref d0)] [(.int (1 : Int32))]))
      exact A.leave hlk hEL (v := some (.int (1 : Int32))) (fun h => by rw [hret] at h; cases h) (fun _ _ => rfl) (by decide) (by decide) (fun fs hr => retN A.1 hx (t := .boolean) hret (by simp) (Jvm.hb hby at_234) hr)
    · show oGo p e below _ (T.setTop (mkF m 217 #[.val (.int i0), .val (.int i1), .val (.long i2), .second, .val (.long i3), .second, .val (.int i4), .val (.ref lab), .val (.int mode), .val (.int n), .val (.int c0), .val (.int c1), .val (.int c2), .val (.int c3), .val (.int c4), .val (.int c5), .val (.int c6), .val (.int c7), .val (.int c8), .val (.ref x), .unset] [(.ref d1)]))
      refine oSt (fun _ => XS.astore A.here hx rfl (Jvm.hb hby at_217) rfl rfl (l' := #[.val (.int i0), .val (.int i1), .val (.long i2), .second, .val (.long i3), .second, .val (.int i4), .val (.ref lab), .val (.int mode), .val (.int n), .val (.int c0), .val (.int c1), .val (.int c2), .val (.int c3), .val (.int c4), .val (.int c5), .val (.int c6), .val (.int c7), .val (.int c8), .val (.ref x), .val (.ref d1)]) rfl) ?_
      show oGo p e below _ (T.setTop (mkF m 219 #[.val (.int i0), .val (.int i1), .val (.long i2), .second, .val (.long i3), .second, .val (.int i4), .val (.ref lab), .val (.int mode), .val (.int n), .val (.int c0), .val (.int c1), .val (.int c2), .val (.int c3), .val (.int c4), .val (.int c5), .val (.int c6), .val (.int c7), .val (.int c8), .val (.ref x), .val (.ref d1)] []))
      refine oSt (fun _ => XS.aload A.here hx rfl (Jvm.hb hby at_219) rfl rfl) ?_
      show oGo p e below _ (T.setTop (mkF m 221 #[.val (.int i0), .val (.int i1), .val (.long i2), .second, .val (.long i3), .second, .val (.int i4), .val (.ref lab), .val (.int mode), .val (.int n), .val (.int c0), .val (.int c1), .val (.int c2), .val (.int c3), .val (.int c4), .val (.int c5), .val (.int c6), .val (.int c7), .val (.int c8), .val (.ref x), .val (.ref d1)] [(.ref d1)]))
      refine oSt (fun _ => XS.aload A.here hx rfl (Jvm.hb hby at_221) rfl rfl) ?_
      show oGo p e below _ (T.setTop (mkF m 223 #[.val (.int i0), .val (.int i1), .val (.long i2), .second, .val (.long i3), .second, .val (.int i4), .val (.ref lab), .val (.int mode), .val (.int n), .val (.int c0), .val (.int c1), .val (.int c2), .val (.int c3), .val (.int c4), .val (.int c5), .val (.int c6), .val (.int c7), .val (.int c8), .val (.ref x), .val (.ref d1)] [(.ref x), (.ref d1)]))
      obtain ⟨_, vm, T, h, L, A, K, CR, ⟨r2, rfl, g2⟩, st⟩ := A.callS hx (y := (⟨"com/example/applicator/applicator/DialectLabelledPinLaw", "expected", "(Ljava/lang/String;)Lcom/example/applicator/applicator/Dialect;"⟩ : MethodName)) (hw _ (List.mem_of_getElem? (i := 113) rfl)) (hw _ (List.mem_of_getElem? (i := 114) rfl)) (hw _ (List.mem_of_getElem? (i := 2) rfl)) (hw _ (List.mem_of_getElem? (i := 115) rfl)) (by decide) hEL (argsL := [(.ref x)]) (rest := [(.ref d1)]) (own_exp l Z a0 hw hEL n0 _ A.oldn x cx d0 d1 d2 d3 zc hcs hcz hd0 hd1 hd2 hd3 Ed0 Ed1 Ed2 Ed3 Q_x) (W := 1) (by decide) (by decide) (by decide) (by decide) all0 all0 all0 (g := (mkF m 223 #[.val (.int i0), .val (.int i1), .val (.long i2), .second, .val (.long i3), .second, .val (.int i4), .val (.ref lab), .val (.int mode), .val (.int n), .val (.int c0), .val (.int c1), .val (.int c2), .val (.int c3), .val (.int c4), .val (.int c5), .val (.int c6), .val (.int c7), .val (.int c8), .val (.ref x), .val (.ref d1)] [(.ref x), (.ref d1)])) rfl (by rw [hml]; rfl) (lenOf opd7 rfl) rfl (by show 2 * 0 + _ ≤ _; exact Nat.le_of_eq rfl) (Jvm.hb hby at_223)
      refine oSt st ?_
      have X := oExt0 K
      have Q_x := Q_x.ext X
      show oGo p e below _ (T.setTop (mkF m 226 #[.val (.int i0), .val (.int i1), .val (.long i2), .second, .val (.long i3), .second, .val (.int i4), .val (.ref lab), .val (.int mode), .val (.int n), .val (.int c0), .val (.int c1), .val (.int c2), .val (.int c3), .val (.int c4), .val (.int c5), .val (.int c6), .val (.int c7), .val (.int c8), .val (.ref x), .val (.ref d1)] [r2, (.ref d1)]))
      obtain rfl := own_lab1 (Or.inr (Or.inl ⟨q1, rfl⟩)) g2
      show oGo p e below _ (T.setTop (mkF m 226 #[.val (.int i0), .val (.int i1), .val (.long i2), .second, .val (.long i3), .second, .val (.int i4), .val (.ref lab), .val (.int mode), .val (.int n), .val (.int c0), .val (.int c1), .val (.int c2), .val (.int c3), .val (.int c4), .val (.int c5), .val (.int c6), .val (.int c7), .val (.int c8), .val (.ref x), .val (.ref d1)] [(.ref d1), (.ref d1)]))
      refine oSt (fun _ => Jvm.Free.XT.acmpNo A.here hx rfl (x := (.ref d1)) (y := (.ref d1)) (Jvm.hb hby at_226) rfl rfl rfl (Jvm.Free.XT.aa_ne_f rfl)) ?_
      show oGo p e below _ (T.setTop (mkF m 229 #[.val (.int i0), .val (.int i1), .val (.long i2), .second, .val (.long i3), .second, .val (.int i4), .val (.ref lab), .val (.int mode), .val (.int n), .val (.int c0), .val (.int c1), .val (.int c2), .val (.int c3), .val (.int c4), .val (.int c5), .val (.int c6), .val (.int c7), .val (.int c8), .val (.ref x), .val (.ref d1)] []))
      refine oSt (fun _ => XS.iconst A.here hx rfl (Jvm.hb hby at_229)) ?_
      show oGo p e below _ (T.setTop (mkF m 230 #[.val (.int i0), .val (.int i1), .val (.long i2), .second, .val (.long i3), .second, .val (.int i4), .val (.ref lab), .val (.int mode), .val (.int n), .val (.int c0), .val (.int c1), .val (.int c2), .val (.int c3), .val (.int c4), .val (.int c5), .val (.int c6), .val (.int c7), .val (.int c8), .val (.ref x), .val (.ref d1)] [(.int (1 : Int32))]))
      refine oSt (fun _ => XS.goto A.here hx rfl (pc0 := 230) (pc' := 234) rfl (Jvm.hb hby at_230) (by decide) (by decide)) ?_
      show oGo p e below _ (T.setTop (mkF m 234 #[.val (.int i0), .val (.int i1), .val (.long i2), .second, .val (.long i3), .second, .val (.int i4), .val (.ref lab), .val (.int mode), .val (.int n), .val (.int c0), .val (.int c1), .val (.int c2), .val (.int c3), .val (.int c4), .val (.int c5), .val (.int c6), .val (.int c7), .val (.int c8), .val (.ref x), .val (.ref d1)] [(.int (1 : Int32))]))
      exact A.leave hlk hEL (v := some (.int (1 : Int32))) (fun h => by rw [hret] at h; cases h) (fun _ _ => rfl) (by decide) (by decide) (fun fs hr => retN A.1 hx (t := .boolean) hret (by simp) (Jvm.hb hby at_234) hr)
    · show oGo p e below _ (T.setTop (mkF m 217 #[.val (.int i0), .val (.int i1), .val (.long i2), .second, .val (.long i3), .second, .val (.int i4), .val (.ref lab), .val (.int mode), .val (.int n), .val (.int c0), .val (.int c1), .val (.int c2), .val (.int c3), .val (.int c4), .val (.int c5), .val (.int c6), .val (.int c7), .val (.int c8), .val (.ref x), .unset] [(.ref d2)]))
      refine oSt (fun _ => XS.astore A.here hx rfl (Jvm.hb hby at_217) rfl rfl (l' := #[.val (.int i0), .val (.int i1), .val (.long i2), .second, .val (.long i3), .second, .val (.int i4), .val (.ref lab), .val (.int mode), .val (.int n), .val (.int c0), .val (.int c1), .val (.int c2), .val (.int c3), .val (.int c4), .val (.int c5), .val (.int c6), .val (.int c7), .val (.int c8), .val (.ref x), .val (.ref d2)]) rfl) ?_
      show oGo p e below _ (T.setTop (mkF m 219 #[.val (.int i0), .val (.int i1), .val (.long i2), .second, .val (.long i3), .second, .val (.int i4), .val (.ref lab), .val (.int mode), .val (.int n), .val (.int c0), .val (.int c1), .val (.int c2), .val (.int c3), .val (.int c4), .val (.int c5), .val (.int c6), .val (.int c7), .val (.int c8), .val (.ref x), .val (.ref d2)] []))
      refine oSt (fun _ => XS.aload A.here hx rfl (Jvm.hb hby at_219) rfl rfl) ?_
      show oGo p e below _ (T.setTop (mkF m 221 #[.val (.int i0), .val (.int i1), .val (.long i2), .second, .val (.long i3), .second, .val (.int i4), .val (.ref lab), .val (.int mode), .val (.int n), .val (.int c0), .val (.int c1), .val (.int c2), .val (.int c3), .val (.int c4), .val (.int c5), .val (.int c6), .val (.int c7), .val (.int c8), .val (.ref x), .val (.ref d2)] [(.ref d2)]))
      refine oSt (fun _ => XS.aload A.here hx rfl (Jvm.hb hby at_221) rfl rfl) ?_
      show oGo p e below _ (T.setTop (mkF m 223 #[.val (.int i0), .val (.int i1), .val (.long i2), .second, .val (.long i3), .second, .val (.int i4), .val (.ref lab), .val (.int mode), .val (.int n), .val (.int c0), .val (.int c1), .val (.int c2), .val (.int c3), .val (.int c4), .val (.int c5), .val (.int c6), .val (.int c7), .val (.int c8), .val (.ref x), .val (.ref d2)] [(.ref x), (.ref d2)]))
      obtain ⟨_, vm, T, h, L, A, K, CR, ⟨r2, rfl, g2⟩, st⟩ := A.callS hx (y := (⟨"com/example/applicator/applicator/DialectLabelledPinLaw", "expected", "(Ljava/lang/String;)Lcom/example/applicator/applicator/Dialect;"⟩ : MethodName)) (hw _ (List.mem_of_getElem? (i := 113) rfl)) (hw _ (List.mem_of_getElem? (i := 114) rfl)) (hw _ (List.mem_of_getElem? (i := 2) rfl)) (hw _ (List.mem_of_getElem? (i := 115) rfl)) (by decide) hEL (argsL := [(.ref x)]) (rest := [(.ref d2)]) (own_exp l Z a0 hw hEL n0 _ A.oldn x cx d0 d1 d2 d3 zc hcs hcz hd0 hd1 hd2 hd3 Ed0 Ed1 Ed2 Ed3 Q_x) (W := 1) (by decide) (by decide) (by decide) (by decide) all0 all0 all0 (g := (mkF m 223 #[.val (.int i0), .val (.int i1), .val (.long i2), .second, .val (.long i3), .second, .val (.int i4), .val (.ref lab), .val (.int mode), .val (.int n), .val (.int c0), .val (.int c1), .val (.int c2), .val (.int c3), .val (.int c4), .val (.int c5), .val (.int c6), .val (.int c7), .val (.int c8), .val (.ref x), .val (.ref d2)] [(.ref x), (.ref d2)])) rfl (by rw [hml]; rfl) (lenOf opd7 rfl) rfl (by show 2 * 0 + _ ≤ _; exact Nat.le_of_eq rfl) (Jvm.hb hby at_223)
      refine oSt st ?_
      have X := oExt0 K
      have Q_x := Q_x.ext X
      show oGo p e below _ (T.setTop (mkF m 226 #[.val (.int i0), .val (.int i1), .val (.long i2), .second, .val (.long i3), .second, .val (.int i4), .val (.ref lab), .val (.int mode), .val (.int n), .val (.int c0), .val (.int c1), .val (.int c2), .val (.int c3), .val (.int c4), .val (.int c5), .val (.int c6), .val (.int c7), .val (.int c8), .val (.ref x), .val (.ref d2)] [r2, (.ref d2)]))
      obtain rfl := own_lab1 (Or.inr (Or.inr (Or.inl ⟨q1, rfl⟩))) g2
      show oGo p e below _ (T.setTop (mkF m 226 #[.val (.int i0), .val (.int i1), .val (.long i2), .second, .val (.long i3), .second, .val (.int i4), .val (.ref lab), .val (.int mode), .val (.int n), .val (.int c0), .val (.int c1), .val (.int c2), .val (.int c3), .val (.int c4), .val (.int c5), .val (.int c6), .val (.int c7), .val (.int c8), .val (.ref x), .val (.ref d2)] [(.ref d2), (.ref d2)]))
      refine oSt (fun _ => Jvm.Free.XT.acmpNo A.here hx rfl (x := (.ref d2)) (y := (.ref d2)) (Jvm.hb hby at_226) rfl rfl rfl (Jvm.Free.XT.aa_ne_f rfl)) ?_
      show oGo p e below _ (T.setTop (mkF m 229 #[.val (.int i0), .val (.int i1), .val (.long i2), .second, .val (.long i3), .second, .val (.int i4), .val (.ref lab), .val (.int mode), .val (.int n), .val (.int c0), .val (.int c1), .val (.int c2), .val (.int c3), .val (.int c4), .val (.int c5), .val (.int c6), .val (.int c7), .val (.int c8), .val (.ref x), .val (.ref d2)] []))
      refine oSt (fun _ => XS.iconst A.here hx rfl (Jvm.hb hby at_229)) ?_
      show oGo p e below _ (T.setTop (mkF m 230 #[.val (.int i0), .val (.int i1), .val (.long i2), .second, .val (.long i3), .second, .val (.int i4), .val (.ref lab), .val (.int mode), .val (.int n), .val (.int c0), .val (.int c1), .val (.int c2), .val (.int c3), .val (.int c4), .val (.int c5), .val (.int c6), .val (.int c7), .val (.int c8), .val (.ref x), .val (.ref d2)] [(.int (1 : Int32))]))
      refine oSt (fun _ => XS.goto A.here hx rfl (pc0 := 230) (pc' := 234) rfl (Jvm.hb hby at_230) (by decide) (by decide)) ?_
      show oGo p e below _ (T.setTop (mkF m 234 #[.val (.int i0), .val (.int i1), .val (.long i2), .second, .val (.long i3), .second, .val (.int i4), .val (.ref lab), .val (.int mode), .val (.int n), .val (.int c0), .val (.int c1), .val (.int c2), .val (.int c3), .val (.int c4), .val (.int c5), .val (.int c6), .val (.int c7), .val (.int c8), .val (.ref x), .val (.ref d2)] [(.int (1 : Int32))]))
      exact A.leave hlk hEL (v := some (.int (1 : Int32))) (fun h => by rw [hret] at h; cases h) (fun _ _ => rfl) (by decide) (by decide) (fun fs hr => retN A.1 hx (t := .boolean) hret (by simp) (Jvm.hb hby at_234) hr)
    · show oGo p e below _ (T.setTop (mkF m 217 #[.val (.int i0), .val (.int i1), .val (.long i2), .second, .val (.long i3), .second, .val (.int i4), .val (.ref lab), .val (.int mode), .val (.int n), .val (.int c0), .val (.int c1), .val (.int c2), .val (.int c3), .val (.int c4), .val (.int c5), .val (.int c6), .val (.int c7), .val (.int c8), .val (.ref x), .unset] [(.ref d3)]))
      refine oSt (fun _ => XS.astore A.here hx rfl (Jvm.hb hby at_217) rfl rfl (l' := #[.val (.int i0), .val (.int i1), .val (.long i2), .second, .val (.long i3), .second, .val (.int i4), .val (.ref lab), .val (.int mode), .val (.int n), .val (.int c0), .val (.int c1), .val (.int c2), .val (.int c3), .val (.int c4), .val (.int c5), .val (.int c6), .val (.int c7), .val (.int c8), .val (.ref x), .val (.ref d3)]) rfl) ?_
      show oGo p e below _ (T.setTop (mkF m 219 #[.val (.int i0), .val (.int i1), .val (.long i2), .second, .val (.long i3), .second, .val (.int i4), .val (.ref lab), .val (.int mode), .val (.int n), .val (.int c0), .val (.int c1), .val (.int c2), .val (.int c3), .val (.int c4), .val (.int c5), .val (.int c6), .val (.int c7), .val (.int c8), .val (.ref x), .val (.ref d3)] []))
      refine oSt (fun _ => XS.aload A.here hx rfl (Jvm.hb hby at_219) rfl rfl) ?_
      show oGo p e below _ (T.setTop (mkF m 221 #[.val (.int i0), .val (.int i1), .val (.long i2), .second, .val (.long i3), .second, .val (.int i4), .val (.ref lab), .val (.int mode), .val (.int n), .val (.int c0), .val (.int c1), .val (.int c2), .val (.int c3), .val (.int c4), .val (.int c5), .val (.int c6), .val (.int c7), .val (.int c8), .val (.ref x), .val (.ref d3)] [(.ref d3)]))
      refine oSt (fun _ => XS.aload A.here hx rfl (Jvm.hb hby at_221) rfl rfl) ?_
      show oGo p e below _ (T.setTop (mkF m 223 #[.val (.int i0), .val (.int i1), .val (.long i2), .second, .val (.long i3), .second, .val (.int i4), .val (.ref lab), .val (.int mode), .val (.int n), .val (.int c0), .val (.int c1), .val (.int c2), .val (.int c3), .val (.int c4), .val (.int c5), .val (.int c6), .val (.int c7), .val (.int c8), .val (.ref x), .val (.ref d3)] [(.ref x), (.ref d3)]))
      obtain ⟨_, vm, T, h, L, A, K, CR, ⟨r2, rfl, g2⟩, st⟩ := A.callS hx (y := (⟨"com/example/applicator/applicator/DialectLabelledPinLaw", "expected", "(Ljava/lang/String;)Lcom/example/applicator/applicator/Dialect;"⟩ : MethodName)) (hw _ (List.mem_of_getElem? (i := 113) rfl)) (hw _ (List.mem_of_getElem? (i := 114) rfl)) (hw _ (List.mem_of_getElem? (i := 2) rfl)) (hw _ (List.mem_of_getElem? (i := 115) rfl)) (by decide) hEL (argsL := [(.ref x)]) (rest := [(.ref d3)]) (own_exp l Z a0 hw hEL n0 _ A.oldn x cx d0 d1 d2 d3 zc hcs hcz hd0 hd1 hd2 hd3 Ed0 Ed1 Ed2 Ed3 Q_x) (W := 1) (by decide) (by decide) (by decide) (by decide) all0 all0 all0 (g := (mkF m 223 #[.val (.int i0), .val (.int i1), .val (.long i2), .second, .val (.long i3), .second, .val (.int i4), .val (.ref lab), .val (.int mode), .val (.int n), .val (.int c0), .val (.int c1), .val (.int c2), .val (.int c3), .val (.int c4), .val (.int c5), .val (.int c6), .val (.int c7), .val (.int c8), .val (.ref x), .val (.ref d3)] [(.ref x), (.ref d3)])) rfl (by rw [hml]; rfl) (lenOf opd7 rfl) rfl (by show 2 * 0 + _ ≤ _; exact Nat.le_of_eq rfl) (Jvm.hb hby at_223)
      refine oSt st ?_
      have X := oExt0 K
      have Q_x := Q_x.ext X
      show oGo p e below _ (T.setTop (mkF m 226 #[.val (.int i0), .val (.int i1), .val (.long i2), .second, .val (.long i3), .second, .val (.int i4), .val (.ref lab), .val (.int mode), .val (.int n), .val (.int c0), .val (.int c1), .val (.int c2), .val (.int c3), .val (.int c4), .val (.int c5), .val (.int c6), .val (.int c7), .val (.int c8), .val (.ref x), .val (.ref d3)] [r2, (.ref d3)]))
      obtain rfl := own_lab1 (Or.inr (Or.inr (Or.inr (Or.inl ⟨q1, rfl⟩)))) g2
      show oGo p e below _ (T.setTop (mkF m 226 #[.val (.int i0), .val (.int i1), .val (.long i2), .second, .val (.long i3), .second, .val (.int i4), .val (.ref lab), .val (.int mode), .val (.int n), .val (.int c0), .val (.int c1), .val (.int c2), .val (.int c3), .val (.int c4), .val (.int c5), .val (.int c6), .val (.int c7), .val (.int c8), .val (.ref x), .val (.ref d3)] [(.ref d3), (.ref d3)]))
      refine oSt (fun _ => Jvm.Free.XT.acmpNo A.here hx rfl (x := (.ref d3)) (y := (.ref d3)) (Jvm.hb hby at_226) rfl rfl rfl (Jvm.Free.XT.aa_ne_f rfl)) ?_
      show oGo p e below _ (T.setTop (mkF m 229 #[.val (.int i0), .val (.int i1), .val (.long i2), .second, .val (.long i3), .second, .val (.int i4), .val (.ref lab), .val (.int mode), .val (.int n), .val (.int c0), .val (.int c1), .val (.int c2), .val (.int c3), .val (.int c4), .val (.int c5), .val (.int c6), .val (.int c7), .val (.int c8), .val (.ref x), .val (.ref d3)] []))
      refine oSt (fun _ => XS.iconst A.here hx rfl (Jvm.hb hby at_229)) ?_
      show oGo p e below _ (T.setTop (mkF m 230 #[.val (.int i0), .val (.int i1), .val (.long i2), .second, .val (.long i3), .second, .val (.int i4), .val (.ref lab), .val (.int mode), .val (.int n), .val (.int c0), .val (.int c1), .val (.int c2), .val (.int c3), .val (.int c4), .val (.int c5), .val (.int c6), .val (.int c7), .val (.int c8), .val (.ref x), .val (.ref d3)] [(.int (1 : Int32))]))
      refine oSt (fun _ => XS.goto A.here hx rfl (pc0 := 230) (pc' := 234) rfl (Jvm.hb hby at_230) (by decide) (by decide)) ?_
      show oGo p e below _ (T.setTop (mkF m 234 #[.val (.int i0), .val (.int i1), .val (.long i2), .second, .val (.long i3), .second, .val (.int i4), .val (.ref lab), .val (.int mode), .val (.int n), .val (.int c0), .val (.int c1), .val (.int c2), .val (.int c3), .val (.int c4), .val (.int c5), .val (.int c6), .val (.int c7), .val (.int c8), .val (.ref x), .val (.ref d3)] [(.int (1 : Int32))]))
      exact A.leave hlk hEL (v := some (.int (1 : Int32))) (fun h => by rw [hret] at h; cases h) (fun _ _ => rfl) (by decide) (by decide) (fun fs hr => retN A.1 hx (t := .boolean) hret (by simp) (Jvm.hb hby at_234) hr)
    · show oGo p e below _ (T.setTop (mkF m 217 #[.val (.int i0), .val (.int i1), .val (.long i2), .second, .val (.long i3), .second, .val (.int i4), .val (.ref lab), .val (.int mode), .val (.int n), .val (.int c0), .val (.int c1), .val (.int c2), .val (.int c3), .val (.int c4), .val (.int c5), .val (.int c6), .val (.int c7), .val (.int c8), .val (.ref x), .unset] [.null]))
      refine oSt (fun _ => XS.astore A.here hx rfl (Jvm.hb hby at_217) rfl rfl (l' := #[.val (.int i0), .val (.int i1), .val (.long i2), .second, .val (.long i3), .second, .val (.int i4), .val (.ref lab), .val (.int mode), .val (.int n), .val (.int c0), .val (.int c1), .val (.int c2), .val (.int c3), .val (.int c4), .val (.int c5), .val (.int c6), .val (.int c7), .val (.int c8), .val (.ref x), .val .null]) rfl) ?_
      show oGo p e below _ (T.setTop (mkF m 219 #[.val (.int i0), .val (.int i1), .val (.long i2), .second, .val (.long i3), .second, .val (.int i4), .val (.ref lab), .val (.int mode), .val (.int n), .val (.int c0), .val (.int c1), .val (.int c2), .val (.int c3), .val (.int c4), .val (.int c5), .val (.int c6), .val (.int c7), .val (.int c8), .val (.ref x), .val .null] []))
      refine oSt (fun _ => XS.aload A.here hx rfl (Jvm.hb hby at_219) rfl rfl) ?_
      show oGo p e below _ (T.setTop (mkF m 221 #[.val (.int i0), .val (.int i1), .val (.long i2), .second, .val (.long i3), .second, .val (.int i4), .val (.ref lab), .val (.int mode), .val (.int n), .val (.int c0), .val (.int c1), .val (.int c2), .val (.int c3), .val (.int c4), .val (.int c5), .val (.int c6), .val (.int c7), .val (.int c8), .val (.ref x), .val .null] [.null]))
      refine oSt (fun _ => XS.aload A.here hx rfl (Jvm.hb hby at_221) rfl rfl) ?_
      show oGo p e below _ (T.setTop (mkF m 223 #[.val (.int i0), .val (.int i1), .val (.long i2), .second, .val (.long i3), .second, .val (.int i4), .val (.ref lab), .val (.int mode), .val (.int n), .val (.int c0), .val (.int c1), .val (.int c2), .val (.int c3), .val (.int c4), .val (.int c5), .val (.int c6), .val (.int c7), .val (.int c8), .val (.ref x), .val .null] [(.ref x), .null]))
      obtain ⟨_, vm, T, h, L, A, K, CR, ⟨r2, rfl, g2⟩, st⟩ := A.callS hx (y := (⟨"com/example/applicator/applicator/DialectLabelledPinLaw", "expected", "(Ljava/lang/String;)Lcom/example/applicator/applicator/Dialect;"⟩ : MethodName)) (hw _ (List.mem_of_getElem? (i := 113) rfl)) (hw _ (List.mem_of_getElem? (i := 114) rfl)) (hw _ (List.mem_of_getElem? (i := 2) rfl)) (hw _ (List.mem_of_getElem? (i := 115) rfl)) (by decide) hEL (argsL := [(.ref x)]) (rest := [.null]) (own_exp l Z a0 hw hEL n0 _ A.oldn x cx d0 d1 d2 d3 zc hcs hcz hd0 hd1 hd2 hd3 Ed0 Ed1 Ed2 Ed3 Q_x) (W := 1) (by decide) (by decide) (by decide) (by decide) all0 all0 all0 (g := (mkF m 223 #[.val (.int i0), .val (.int i1), .val (.long i2), .second, .val (.long i3), .second, .val (.int i4), .val (.ref lab), .val (.int mode), .val (.int n), .val (.int c0), .val (.int c1), .val (.int c2), .val (.int c3), .val (.int c4), .val (.int c5), .val (.int c6), .val (.int c7), .val (.int c8), .val (.ref x), .val .null] [(.ref x), .null])) rfl (by rw [hml]; rfl) (lenOf opd7 rfl) rfl (by show 2 * 0 + _ ≤ _; exact Nat.le_of_eq rfl) (Jvm.hb hby at_223)
      refine oSt st ?_
      have X := oExt0 K
      have Q_x := Q_x.ext X
      show oGo p e below _ (T.setTop (mkF m 226 #[.val (.int i0), .val (.int i1), .val (.long i2), .second, .val (.long i3), .second, .val (.int i4), .val (.ref lab), .val (.int mode), .val (.int n), .val (.int c0), .val (.int c1), .val (.int c2), .val (.int c3), .val (.int c4), .val (.int c5), .val (.int c6), .val (.int c7), .val (.int c8), .val (.ref x), .val .null] [r2, .null]))
      obtain rfl := own_lab1 (Or.inr (Or.inr (Or.inr (Or.inr ⟨q1, q2, q3, q4, rfl⟩)))) g2
      show oGo p e below _ (T.setTop (mkF m 226 #[.val (.int i0), .val (.int i1), .val (.long i2), .second, .val (.long i3), .second, .val (.int i4), .val (.ref lab), .val (.int mode), .val (.int n), .val (.int c0), .val (.int c1), .val (.int c2), .val (.int c3), .val (.int c4), .val (.int c5), .val (.int c6), .val (.int c7), .val (.int c8), .val (.ref x), .val .null] [.null, .null]))
      refine oSt (fun _ => Jvm.Free.XT.acmpNo A.here hx rfl (x := .null) (y := .null) (Jvm.hb hby at_226) rfl rfl rfl (Jvm.Free.XT.aa_ne_f rfl)) ?_
      show oGo p e below _ (T.setTop (mkF m 229 #[.val (.int i0), .val (.int i1), .val (.long i2), .second, .val (.long i3), .second, .val (.int i4), .val (.ref lab), .val (.int mode), .val (.int n), .val (.int c0), .val (.int c1), .val (.int c2), .val (.int c3), .val (.int c4), .val (.int c5), .val (.int c6), .val (.int c7), .val (.int c8), .val (.ref x), .val .null] []))
      refine oSt (fun _ => XS.iconst A.here hx rfl (Jvm.hb hby at_229)) ?_
      show oGo p e below _ (T.setTop (mkF m 230 #[.val (.int i0), .val (.int i1), .val (.long i2), .second, .val (.long i3), .second, .val (.int i4), .val (.ref lab), .val (.int mode), .val (.int n), .val (.int c0), .val (.int c1), .val (.int c2), .val (.int c3), .val (.int c4), .val (.int c5), .val (.int c6), .val (.int c7), .val (.int c8), .val (.ref x), .val .null] [(.int (1 : Int32))]))
      refine oSt (fun _ => XS.goto A.here hx rfl (pc0 := 230) (pc' := 234) rfl (Jvm.hb hby at_230) (by decide) (by decide)) ?_
      show oGo p e below _ (T.setTop (mkF m 234 #[.val (.int i0), .val (.int i1), .val (.long i2), .second, .val (.long i3), .second, .val (.int i4), .val (.ref lab), .val (.int mode), .val (.int n), .val (.int c0), .val (.int c1), .val (.int c2), .val (.int c3), .val (.int c4), .val (.int c5), .val (.int c6), .val (.int c7), .val (.int c8), .val (.ref x), .val .null] [(.int (1 : Int32))]))
      exact A.leave hlk hEL (v := some (.int (1 : Int32))) (fun h => by rw [hret] at h; cases h) (fun _ _ => rfl) (by decide) (by decide) (fun fs hr => retN A.1 hx (t := .boolean) hret (by simp) (Jvm.hb hby at_234) hr)
  by_cases m0 : mode = 0
  · refine oSt (fun _ => XS.ifNo A.here hx rfl (Jvm.hb hby at_17) rfl (Jvm.Free.XT.i0_ne_f m0)) ?_
    show oGo p e below _ (T.setTop (mkF m 20 #[.val (.int i0), .val (.int i1), .val (.long i2), .second, .val (.long i3), .second, .val (.int i4), .val (.ref lab), .val (.int mode), .unset, .unset, .unset, .unset, .unset, .unset, .unset, .unset, .unset, .unset, .unset, .unset] []))
    refine oSt (fun _ => XS.aload A.here hx rfl (Jvm.hb hby at_20) rfl rfl) ?_
    show oGo p e below _ (T.setTop (mkF m 22 #[.val (.int i0), .val (.int i1), .val (.long i2), .second, .val (.long i3), .second, .val (.int i4), .val (.ref lab), .val (.int mode), .unset, .unset, .unset, .unset, .unset, .unset, .unset, .unset, .unset, .unset, .unset, .unset] [(.ref lab)]))
    obtain ⟨T, A, st⟩ := A.sLen hx hln (hw _ (List.mem_of_getElem? (i := 6) rfl)) (hw _ (List.mem_of_getElem? (i := 12) rfl)) (hw _ (List.mem_of_getElem? (i := 13) rfl)) (hw _ (List.mem_of_getElem? (i := 15) rfl)) (hw _ (List.mem_of_getElem? (i := 14) rfl)) Q hcs hcz (W := 0) (by decide) (by decide) (by decide) (by decide) (g := (mkF m 22 #[.val (.int i0), .val (.int i1), .val (.long i2), .second, .val (.long i3), .second, .val (.int i4), .val (.ref lab), .val (.int mode), .unset, .unset, .unset, .unset, .unset, .unset, .unset, .unset, .unset, .unset, .unset, .unset] [(.ref lab)])) rfl (by rw [hml]; rfl) rfl (by show 2 * 0 + _ ≤ _; exact Nat.le_of_eq rfl) (Jvm.hb hby at_22)
    refine oSt st ?_
    show oGo p e below _ (T.setTop (mkF m 25 #[.val (.int i0), .val (.int i1), .val (.long i2), .second, .val (.long i3), .second, .val (.int i4), .val (.ref lab), .val (.int mode), .unset, .unset, .unset, .unset, .unset, .unset, .unset, .unset, .unset, .unset, .unset, .unset] [(.int (Int32.ofNat cs.length))]))
    refine oSt (fun _ => XS.istore A.here hx rfl (Jvm.hb hby at_25) rfl (l' := #[.val (.int i0), .val (.int i1), .val (.long i2), .second, .val (.long i3), .second, .val (.int i4), .val (.ref lab), .val (.int mode), .val (.int (Int32.ofNat cs.length)), .unset, .unset, .unset, .unset, .unset, .unset, .unset, .unset, .unset, .unset, .unset]) rfl) ?_
    show oGo p e below _ (T.setTop (mkF m 27 #[.val (.int i0), .val (.int i1), .val (.long i2), .second, .val (.long i3), .second, .val (.int i4), .val (.ref lab), .val (.int mode), .val (.int (Int32.ofNat cs.length)), .unset, .unset, .unset, .unset, .unset, .unset, .unset, .unset, .unset, .unset, .unset] []))
    refine oSt (fun _ => XS.goto A.here hx rfl (pc0 := 27) (pc' := 76) rfl (Jvm.hb hby at_27) (by decide) (by decide)) ?_
    show oGo p e below _ (T.setTop (mkF m 76 #[.val (.int i0), .val (.int i1), .val (.long i2), .second, .val (.long i3), .second, .val (.int i4), .val (.ref lab), .val (.int mode), .val (.int (Int32.ofNat cs.length)), .unset, .unset, .unset, .unset, .unset, .unset, .unset, .unset, .unset, .unset, .unset] []))
    exact J76 _ _ _ _ _ A Q
  · refine oSt (fun _ => XS.ifYes A.here hx rfl (pc0 := 17) (pc' := 30) rfl (Jvm.hb hby at_17) rfl (Jvm.Free.XT.i0_ne_t m0) (by decide) (by decide)) ?_
    show oGo p e below _ (T.setTop (mkF m 30 #[.val (.int i0), .val (.int i1), .val (.long i2), .second, .val (.long i3), .second, .val (.int i4), .val (.ref lab), .val (.int mode), .unset, .unset, .unset, .unset, .unset, .unset, .unset, .unset, .unset, .unset, .unset, .unset] []))
    refine oSt (fun _ => XS.iload A.here hx rfl (Jvm.hb hby at_30) rfl) ?_
    show oGo p e below _ (T.setTop (mkF m 32 #[.val (.int i0), .val (.int i1), .val (.long i2), .second, .val (.long i3), .second, .val (.int i4), .val (.ref lab), .val (.int mode), .unset, .unset, .unset, .unset, .unset, .unset, .unset, .unset, .unset, .unset, .unset, .unset] [(.int mode)]))
    refine oSt (fun _ => XS.iconst A.here hx rfl (Jvm.hb hby at_32)) ?_
    show oGo p e below _ (T.setTop (mkF m 33 #[.val (.int i0), .val (.int i1), .val (.long i2), .second, .val (.long i3), .second, .val (.int i4), .val (.ref lab), .val (.int mode), .unset, .unset, .unset, .unset, .unset, .unset, .unset, .unset, .unset, .unset, .unset, .unset] [(.int (1 : Int32)), (.int mode)]))
    by_cases m1 : mode = 1
    · refine oSt (fun _ => XS.icmpNo A.here hx rfl (Jvm.hb hby at_33) rfl (Jvm.Free.XT.ii_ne_f m1)) ?_
      show oGo p e below _ (T.setTop (mkF m 36 #[.val (.int i0), .val (.int i1), .val (.long i2), .second, .val (.long i3), .second, .val (.int i4), .val (.ref lab), .val (.int mode), .unset, .unset, .unset, .unset, .unset, .unset, .unset, .unset, .unset, .unset, .unset, .unset] []))
      refine oSt (fun _ => XS.aload A.here hx rfl (Jvm.hb hby at_36) rfl rfl) ?_
      show oGo p e below _ (T.setTop (mkF m 38 #[.val (.int i0), .val (.int i1), .val (.long i2), .second, .val (.long i3), .second, .val (.int i4), .val (.ref lab), .val (.int mode), .unset, .unset, .unset, .unset, .unset, .unset, .unset, .unset, .unset, .unset, .unset, .unset] [(.ref lab)]))
      obtain ⟨T, A, st⟩ := A.sLen hx hln (hw _ (List.mem_of_getElem? (i := 6) rfl)) (hw _ (List.mem_of_getElem? (i := 12) rfl)) (hw _ (List.mem_of_getElem? (i := 13) rfl)) (hw _ (List.mem_of_getElem? (i := 15) rfl)) (hw _ (List.mem_of_getElem? (i := 14) rfl)) Q hcs hcz (W := 0) (by decide) (by decide) (by decide) (by decide) (g := (mkF m 38 #[.val (.int i0), .val (.int i1), .val (.long i2), .second, .val (.long i3), .second, .val (.int i4), .val (.ref lab), .val (.int mode), .unset, .unset, .unset, .unset, .unset, .unset, .unset, .unset, .unset, .unset, .unset, .unset] [(.ref lab)])) rfl (by rw [hml]; rfl) rfl (by show 2 * 0 + _ ≤ _; exact Nat.le_of_eq rfl) (Jvm.hb hby at_38)
      refine oSt st ?_
      show oGo p e below _ (T.setTop (mkF m 41 #[.val (.int i0), .val (.int i1), .val (.long i2), .second, .val (.long i3), .second, .val (.int i4), .val (.ref lab), .val (.int mode), .unset, .unset, .unset, .unset, .unset, .unset, .unset, .unset, .unset, .unset, .unset, .unset] [(.int (Int32.ofNat cs.length))]))
      refine oSt (fun _ => XS.iconst A.here hx rfl (Jvm.hb hby at_41)) ?_
      show oGo p e below _ (T.setTop (mkF m 42 #[.val (.int i0), .val (.int i1), .val (.long i2), .second, .val (.long i3), .second, .val (.int i4), .val (.ref lab), .val (.int mode), .unset, .unset, .unset, .unset, .unset, .unset, .unset, .unset, .unset, .unset, .unset, .unset] [(.int (1 : Int32)), (.int (Int32.ofNat cs.length))]))
      refine oSt (fun _ => XS.isub A.here hx rfl (Jvm.hb hby at_42) rfl) ?_
      show oGo p e below _ (T.setTop (mkF m 43 #[.val (.int i0), .val (.int i1), .val (.long i2), .second, .val (.long i3), .second, .val (.int i4), .val (.ref lab), .val (.int mode), .unset, .unset, .unset, .unset, .unset, .unset, .unset, .unset, .unset, .unset, .unset, .unset] [(.int ((Int32.ofNat cs.length) - (1 : Int32)))]))
      refine oSt (fun _ => XS.istore A.here hx rfl (Jvm.hb hby at_43) rfl (l' := #[.val (.int i0), .val (.int i1), .val (.long i2), .second, .val (.long i3), .second, .val (.int i4), .val (.ref lab), .val (.int mode), .val (.int ((Int32.ofNat cs.length) - (1 : Int32))), .unset, .unset, .unset, .unset, .unset, .unset, .unset, .unset, .unset, .unset, .unset]) rfl) ?_
      show oGo p e below _ (T.setTop (mkF m 45 #[.val (.int i0), .val (.int i1), .val (.long i2), .second, .val (.long i3), .second, .val (.int i4), .val (.ref lab), .val (.int mode), .val (.int ((Int32.ofNat cs.length) - (1 : Int32))), .unset, .unset, .unset, .unset, .unset, .unset, .unset, .unset, .unset, .unset, .unset] []))
      refine oSt (fun _ => XS.goto A.here hx rfl (pc0 := 45) (pc' := 76) rfl (Jvm.hb hby at_45) (by decide) (by decide)) ?_
      show oGo p e below _ (T.setTop (mkF m 76 #[.val (.int i0), .val (.int i1), .val (.long i2), .second, .val (.long i3), .second, .val (.int i4), .val (.ref lab), .val (.int mode), .val (.int ((Int32.ofNat cs.length) - (1 : Int32))), .unset, .unset, .unset, .unset, .unset, .unset, .unset, .unset, .unset, .unset, .unset] []))
      exact J76 _ _ _ _ _ A Q
    · refine oSt (fun _ => XS.icmpYes A.here hx rfl (pc0 := 33) (pc' := 48) rfl (Jvm.hb hby at_33) rfl (Jvm.Free.XT.ii_ne_t m1) (by decide) (by decide)) ?_
      show oGo p e below _ (T.setTop (mkF m 48 #[.val (.int i0), .val (.int i1), .val (.long i2), .second, .val (.long i3), .second, .val (.int i4), .val (.ref lab), .val (.int mode), .unset, .unset, .unset, .unset, .unset, .unset, .unset, .unset, .unset, .unset, .unset, .unset] []))
      refine oSt (fun _ => XS.iload A.here hx rfl (Jvm.hb hby at_48) rfl) ?_
      show oGo p e below _ (T.setTop (mkF m 50 #[.val (.int i0), .val (.int i1), .val (.long i2), .second, .val (.long i3), .second, .val (.int i4), .val (.ref lab), .val (.int mode), .unset, .unset, .unset, .unset, .unset, .unset, .unset, .unset, .unset, .unset, .unset, .unset] [(.int mode)]))
      refine oSt (fun _ => XS.iconst A.here hx rfl (Jvm.hb hby at_50)) ?_
      show oGo p e below _ (T.setTop (mkF m 51 #[.val (.int i0), .val (.int i1), .val (.long i2), .second, .val (.long i3), .second, .val (.int i4), .val (.ref lab), .val (.int mode), .unset, .unset, .unset, .unset, .unset, .unset, .unset, .unset, .unset, .unset, .unset, .unset] [(.int (2 : Int32)), (.int mode)]))
      by_cases m2 : mode = 2
      · refine oSt (fun _ => XS.icmpNo A.here hx rfl (Jvm.hb hby at_51) rfl (Jvm.Free.XT.ii_ne_f m2)) ?_
        show oGo p e below _ (T.setTop (mkF m 54 #[.val (.int i0), .val (.int i1), .val (.long i2), .second, .val (.long i3), .second, .val (.int i4), .val (.ref lab), .val (.int mode), .unset, .unset, .unset, .unset, .unset, .unset, .unset, .unset, .unset, .unset, .unset, .unset] []))
        refine oSt (fun _ => XS.aload A.here hx rfl (Jvm.hb hby at_54) rfl rfl) ?_
        show oGo p e below _ (T.setTop (mkF m 56 #[.val (.int i0), .val (.int i1), .val (.long i2), .second, .val (.long i3), .second, .val (.int i4), .val (.ref lab), .val (.int mode), .unset, .unset, .unset, .unset, .unset, .unset, .unset, .unset, .unset, .unset, .unset, .unset] [(.ref lab)]))
        obtain ⟨T, A, st⟩ := A.sLen hx hln (hw _ (List.mem_of_getElem? (i := 6) rfl)) (hw _ (List.mem_of_getElem? (i := 12) rfl)) (hw _ (List.mem_of_getElem? (i := 13) rfl)) (hw _ (List.mem_of_getElem? (i := 15) rfl)) (hw _ (List.mem_of_getElem? (i := 14) rfl)) Q hcs hcz (W := 0) (by decide) (by decide) (by decide) (by decide) (g := (mkF m 56 #[.val (.int i0), .val (.int i1), .val (.long i2), .second, .val (.long i3), .second, .val (.int i4), .val (.ref lab), .val (.int mode), .unset, .unset, .unset, .unset, .unset, .unset, .unset, .unset, .unset, .unset, .unset, .unset] [(.ref lab)])) rfl (by rw [hml]; rfl) rfl (by show 2 * 0 + _ ≤ _; exact Nat.le_of_eq rfl) (Jvm.hb hby at_56)
        refine oSt st ?_
        show oGo p e below _ (T.setTop (mkF m 59 #[.val (.int i0), .val (.int i1), .val (.long i2), .second, .val (.long i3), .second, .val (.int i4), .val (.ref lab), .val (.int mode), .unset, .unset, .unset, .unset, .unset, .unset, .unset, .unset, .unset, .unset, .unset, .unset] [(.int (Int32.ofNat cs.length))]))
        refine oSt (fun _ => XS.iconst A.here hx rfl (Jvm.hb hby at_59)) ?_
        show oGo p e below _ (T.setTop (mkF m 60 #[.val (.int i0), .val (.int i1), .val (.long i2), .second, .val (.long i3), .second, .val (.int i4), .val (.ref lab), .val (.int mode), .unset, .unset, .unset, .unset, .unset, .unset, .unset, .unset, .unset, .unset, .unset, .unset] [(.int (1 : Int32)), (.int (Int32.ofNat cs.length))]))
        refine oSt (fun _ => XS.iadd A.here hx rfl (Jvm.hb hby at_60) rfl) ?_
        show oGo p e below _ (T.setTop (mkF m 61 #[.val (.int i0), .val (.int i1), .val (.long i2), .second, .val (.long i3), .second, .val (.int i4), .val (.ref lab), .val (.int mode), .unset, .unset, .unset, .unset, .unset, .unset, .unset, .unset, .unset, .unset, .unset, .unset] [(.int ((Int32.ofNat cs.length) + (1 : Int32)))]))
        refine oSt (fun _ => XS.istore A.here hx rfl (Jvm.hb hby at_61) rfl (l' := #[.val (.int i0), .val (.int i1), .val (.long i2), .second, .val (.long i3), .second, .val (.int i4), .val (.ref lab), .val (.int mode), .val (.int ((Int32.ofNat cs.length) + (1 : Int32))), .unset, .unset, .unset, .unset, .unset, .unset, .unset, .unset, .unset, .unset, .unset]) rfl) ?_
        show oGo p e below _ (T.setTop (mkF m 63 #[.val (.int i0), .val (.int i1), .val (.long i2), .second, .val (.long i3), .second, .val (.int i4), .val (.ref lab), .val (.int mode), .val (.int ((Int32.ofNat cs.length) + (1 : Int32))), .unset, .unset, .unset, .unset, .unset, .unset, .unset, .unset, .unset, .unset, .unset] []))
        refine oSt (fun _ => XS.goto A.here hx rfl (pc0 := 63) (pc' := 76) rfl (Jvm.hb hby at_63) (by decide) (by decide)) ?_
        show oGo p e below _ (T.setTop (mkF m 76 #[.val (.int i0), .val (.int i1), .val (.long i2), .second, .val (.long i3), .second, .val (.int i4), .val (.ref lab), .val (.int mode), .val (.int ((Int32.ofNat cs.length) + (1 : Int32))), .unset, .unset, .unset, .unset, .unset, .unset, .unset, .unset, .unset, .unset, .unset] []))
        exact J76 _ _ _ _ _ A Q
      · refine oSt (fun _ => XS.icmpYes A.here hx rfl (pc0 := 51) (pc' := 66) rfl (Jvm.hb hby at_51) rfl (Jvm.Free.XT.ii_ne_t m2) (by decide) (by decide)) ?_
        show oGo p e below _ (T.setTop (mkF m 66 #[.val (.int i0), .val (.int i1), .val (.long i2), .second, .val (.long i3), .second, .val (.int i4), .val (.ref lab), .val (.int mode), .unset, .unset, .unset, .unset, .unset, .unset, .unset, .unset, .unset, .unset, .unset, .unset] []))
        refine oSt (fun _ => XS.iload A.here hx rfl (Jvm.hb hby at_66) rfl) ?_
        show oGo p e below _ (T.setTop (mkF m 68 #[.val (.int i0), .val (.int i1), .val (.long i2), .second, .val (.long i3), .second, .val (.int i4), .val (.ref lab), .val (.int mode), .unset, .unset, .unset, .unset, .unset, .unset, .unset, .unset, .unset, .unset, .unset, .unset] [(.int i4)]))
        refine oSt (A.ldcI hx (hw _ (List.mem_of_getElem? (i := 120) rfl)) (g := (mkF m 68 #[.val (.int i0), .val (.int i1), .val (.long i2), .second, .val (.long i3), .second, .val (.int i4), .val (.ref lab), .val (.int mode), .unset, .unset, .unset, .unset, .unset, .unset, .unset, .unset, .unset, .unset, .unset, .unset] [(.int i4)])) rfl (Jvm.hb hby at_68)) ?_
        show oGo p e below _ (T.setTop (mkF m 70 #[.val (.int i0), .val (.int i1), .val (.long i2), .second, .val (.long i3), .second, .val (.int i4), .val (.ref lab), .val (.int mode), .unset, .unset, .unset, .unset, .unset, .unset, .unset, .unset, .unset, .unset, .unset, .unset] [(.int (2147483647 : Int32)), (.int i4)]))
        refine oSt (fun _ => XS.iand A.here hx rfl (Jvm.hb hby at_70) rfl) ?_
        show oGo p e below _ (T.setTop (mkF m 71 #[.val (.int i0), .val (.int i1), .val (.long i2), .second, .val (.long i3), .second, .val (.int i4), .val (.ref lab), .val (.int mode), .unset, .unset, .unset, .unset, .unset, .unset, .unset, .unset, .unset, .unset, .unset, .unset] [(.int (i4 &&& (2147483647 : Int32)))]))
        refine oSt (fun _ => XS.bipush A.here hx rfl (Jvm.hb hby at_71)) ?_
        show oGo p e below _ (T.setTop (mkF m 73 #[.val (.int i0), .val (.int i1), .val (.long i2), .second, .val (.long i3), .second, .val (.int i4), .val (.ref lab), .val (.int mode), .unset, .unset, .unset, .unset, .unset, .unset, .unset, .unset, .unset, .unset, .unset, .unset] [(.int (10 : Int32)), (.int (i4 &&& (2147483647 : Int32)))]))
        refine oSt (fun _ => iremM A.1 hx rfl (Jvm.hb hby at_73) rfl (by decide)) ?_
        show oGo p e below _ (T.setTop (mkF m 74 #[.val (.int i0), .val (.int i1), .val (.long i2), .second, .val (.long i3), .second, .val (.int i4), .val (.ref lab), .val (.int mode), .unset, .unset, .unset, .unset, .unset, .unset, .unset, .unset, .unset, .unset, .unset, .unset] [(.int ((i4 &&& (2147483647 : Int32)) % (10 : Int32)))]))
        refine oSt (fun _ => XS.istore A.here hx rfl (Jvm.hb hby at_74) rfl (l' := #[.val (.int i0), .val (.int i1), .val (.long i2), .second, .val (.long i3), .second, .val (.int i4), .val (.ref lab), .val (.int mode), .val (.int ((i4 &&& (2147483647 : Int32)) % (10 : Int32))), .unset, .unset, .unset, .unset, .unset, .unset, .unset, .unset, .unset, .unset, .unset]) rfl) ?_
        show oGo p e below _ (T.setTop (mkF m 76 #[.val (.int i0), .val (.int i1), .val (.long i2), .second, .val (.long i3), .second, .val (.int i4), .val (.ref lab), .val (.int mode), .val (.int ((i4 &&& (2147483647 : Int32)) % (10 : Int32))), .unset, .unset, .unset, .unset, .unset, .unset, .unset, .unset, .unset, .unset, .unset] []))
        exact J76 _ _ _ _ _ A Q
theorem own_ne0 {args : Array Value} {s : State} {z : Int32} {t : Jvm.Term} (e : t.eval args s none [] s = some (.int z)) (h : (Jvm.Cond.not (Jvm.Cond.eq t (Jvm.Term.int (0 : Int32)))).before args s = true) : ¬ z = 0 := by
  intro q
  subst q
  have h := not_v (Cond.before_iff.mp h)
  simp [Cond.value, Term.eval, e] at h
set_option maxRecDepth 65536 in
set_option maxHeartbeats 40000000 in
theorem comes_1 {Post : Tables → Env → Array Value → State → Outcome → State → Prop} (hpost : ∀ tb e args s v u, (limb_1_1.after args s (.returned v) u = true ∧ limb_1_2.after args s (.returned v) u = true ∧ True) → ReturnedEndW s (.returned v) u (Jvm.fieldLocs frame_1_writes args s ++ Jvm.arrayLocs frame_1_arrays args s ++ Jvm.staticLocs frame_1_statics s) 32 5312 → Post tb e args s (.returned v) u) :
    ArmFor flags0 classFile x code maxLocals ret World_1 tables_1 room_1 Calls_1 rest_1 Pre_1 Post := by
  intro l hfl _ _ p e ha hc hk s m args below hf hA hF happ hP
  obtain ⟨hcalls, hrest, hpre⟩ := hP
  obtain ⟨-, -, -, hnamed, -, -, -, hat⟩ := (Spec.applies_iff hf).mp happ
  obtain ⟨hg, hn⟩ := and_e (Cond.before_iff.mp (show (Jvm.Cond.and given_1 narrow_1).before args s = true from hpre))
  obtain ⟨hcount, hg⟩ := and_e hg
  obtain ⟨hg0, hg⟩ := and_e hg
  obtain ⟨hg1, hg⟩ := and_e hg
  obtain ⟨hg2, hg⟩ := and_e hg
  obtain ⟨hg3, hg⟩ := and_e hg
  have hg4 := hg
  obtain ⟨w0, w1, w2, w3, w4, rfl⟩ : ∃ w0 w1 w2 w3 w4 : Value, args = #[w0, w1, w2, w3, w4] := by
    have hs : args.size = 5 := by simpa [Cond.value, given_1] using hcount
    obtain ⟨L⟩ := args
    match L, hs with
    | [w0, w1, w2, w3, w4], _ => exact ⟨w0, w1, w2, w3, w4, rfl⟩
  have hw := fun d (hd : d ∈ tables_1) => atoms_spec (ws := Jvm.Cond.code x code maxLocals ret :: tables_1) hat d (List.mem_cons_of_mem _ hd)
  have hfit : Fit s := fun {y c} hc i hi => by
    obtain ⟨ha, rfl⟩ := Array.getElem?_eq_some_iff.mp hc
    have q := List.all_eq_true.mp ((Array.all_eq_true_iff_forall_mem.mp hF) _ (Array.getElem_mem ha)) i (List.mem_range.mpr hi)
    simpa [Array.getElem?_eq_getElem hi] using q
  obtain ⟨hsets, hown0⟩ := atoms_of _ (rest_1_c_eq ▸ (show rest_1_c.before _ s = true from hrest))
  obtain ⟨i0, ei0⟩ := is_v hg0
  obtain rfl : w0 = (.int i0) := Option.some.inj ei0
  obtain ⟨i1, ei1⟩ := is_v hg1
  obtain rfl : w1 = (.int i1) := Option.some.inj ei1
  obtain ⟨i2, ei2⟩ := isL_v hg2
  obtain rfl : w2 = (.long i2) := Option.some.inj ei2
  obtain ⟨i3, ei3⟩ := isL_v hg3
  obtain rfl : w3 = (.long i3) := Option.some.inj ei3
  obtain ⟨i4, ei4⟩ := is_v hg4
  obtain rfl : w4 = (.int i4) := Option.some.inj ei4
  obtain ⟨hn0, hn⟩ := and_e hn
  obtain ⟨hn1, hn⟩ := and_e hn
  obtain ⟨hn2, hn⟩ := and_e hn
  obtain ⟨hn3, hn⟩ := and_e hn
  obtain ⟨hn4, hn⟩ := and_e hn
  obtain ⟨hn5, hn⟩ := and_e hn
  obtain ⟨hn6, hn⟩ := and_e hn
  obtain ⟨hn7, hn⟩ := and_e hn
  obtain ⟨hn8, hn⟩ := and_e hn
  obtain ⟨hn9, hn⟩ := and_e hn
  obtain ⟨hn10, hn⟩ := and_e hn
  obtain ⟨hn11, hn⟩ := and_e hn
  obtain ⟨hn12, hn⟩ := and_e hn
  obtain ⟨hn13, hn⟩ := and_e hn
  obtain ⟨hn14, hn⟩ := and_e hn
  obtain ⟨hn15, hn⟩ := and_e hn
  obtain ⟨hn16, hn⟩ := and_e hn
  obtain ⟨hn17, hn⟩ := and_e hn
  obtain ⟨hn18, hn⟩ := and_e hn
  obtain ⟨hn19, hn⟩ := and_e hn
  obtain ⟨hn20, hn⟩ := and_e hn
  obtain ⟨hn21, hn⟩ := and_e hn
  obtain ⟨hn22, hn⟩ := and_e hn
  obtain ⟨hn23, hn⟩ := and_e hn
  obtain ⟨hn24, hn⟩ := and_e hn
  obtain ⟨hn25, hn⟩ := and_e hn
  obtain ⟨hn26, hn⟩ := and_e hn
  obtain ⟨hn27, hn⟩ := and_e hn
  obtain ⟨hn28, hn⟩ := and_e hn
  obtain ⟨hn29, hn⟩ := and_e hn
  obtain ⟨hn30, hn⟩ := and_e hn
  obtain ⟨hn31, hn⟩ := and_e hn
  obtain ⟨hn32, hn⟩ := and_e hn
  obtain ⟨hn33, hn⟩ := and_e hn
  obtain ⟨hn34, hn⟩ := and_e hn
  obtain ⟨hn35, hn⟩ := and_e hn
  obtain ⟨hn36, hn⟩ := and_e hn
  obtain ⟨hn37, hn⟩ := and_e hn
  obtain ⟨hn38, hn⟩ := and_e hn
  obtain ⟨hn39, hn⟩ := and_e hn
  obtain ⟨hn40, hn⟩ := and_e hn
  obtain ⟨hn41, hn⟩ := and_e hn
  obtain ⟨hn42, hn⟩ := and_e hn
  obtain ⟨hn43, hn⟩ := and_e hn
  obtain ⟨hn44, hn⟩ := and_e hn
  obtain ⟨hn45, hn⟩ := and_e hn
  obtain ⟨hn46, hn⟩ := and_e hn
  obtain ⟨hn47, hn⟩ := and_e hn
  obtain ⟨hn48, hn⟩ := and_e hn
  obtain ⟨hn49, hn⟩ := and_e hn
  obtain ⟨hn50, hn⟩ := and_e hn
  obtain ⟨hn51, hn⟩ := and_e hn
  obtain ⟨hn52, hn⟩ := and_e hn
  obtain ⟨hn53, hn⟩ := and_e hn
  obtain ⟨hn54, hn⟩ := and_e hn
  obtain ⟨hn55, hn⟩ := and_e hn
  obtain ⟨hn56, hn⟩ := and_e hn
  have hn57 := hn
  obtain ⟨d0, e_d0⟩ := exa_v hn3
  have hd0 : Sta s s.heap "com/example/applicator/applicator/Dialect" "DRAFT_2020_12" "Lcom/example/applicator/applicator/Dialect;" (.ref d0) := Sta.start e_d0 (Or.inr ⟨(hw _ (List.mem_of_getElem? (i := 81) rfl)), (hw _ (List.mem_of_getElem? (i := 95) rfl))⟩)
  have Ed0 : Exa s s.heap d0 "com/example/applicator/applicator/Dialect" := Exa.start e_d0 hn3
  obtain ⟨d1, e_d1⟩ := exa_v hn5
  have hd1 : Sta s s.heap "com/example/applicator/applicator/Dialect" "DRAFT_07" "Lcom/example/applicator/applicator/Dialect;" (.ref d1) := Sta.start e_d1 (Or.inr ⟨(hw _ (List.mem_of_getElem? (i := 81) rfl)), (hw _ (List.mem_of_getElem? (i := 96) rfl))⟩)
  have Ed1 : Exa s s.heap d1 "com/example/applicator/applicator/Dialect" := Exa.start e_d1 hn5
  obtain ⟨d2, e_d2⟩ := exa_v hn7
  have hd2 : Sta s s.heap "com/example/applicator/applicator/Dialect" "DRAFT_06" "Lcom/example/applicator/applicator/Dialect;" (.ref d2) := Sta.start e_d2 (Or.inr ⟨(hw _ (List.mem_of_getElem? (i := 81) rfl)), (hw _ (List.mem_of_getElem? (i := 97) rfl))⟩)
  have Ed2 : Exa s s.heap d2 "com/example/applicator/applicator/Dialect" := Exa.start e_d2 hn7
  obtain ⟨d3, e_d3⟩ := exa_v hn9
  have hd3 : Sta s s.heap "com/example/applicator/applicator/Dialect" "DRAFT_04" "Lcom/example/applicator/applicator/Dialect;" (.ref d3) := Sta.start e_d3 (Or.inr ⟨(hw _ (List.mem_of_getElem? (i := 81) rfl)), (hw _ (List.mem_of_getElem? (i := 98) rfl))⟩)
  have Ed3 : Exa s s.heap d3 "com/example/applicator/applicator/Dialect" := Exa.start e_d3 hn9
  obtain ⟨va, e_va⟩ := arr_v hn0
  have hva : Sta s s.heap "com/example/applicator/applicator/Dialect" "$VALUES" "[Lcom/example/applicator/applicator/Dialect;" (.ref va) := Sta.start e_va (Or.inr ⟨(hw _ (List.mem_of_getElem? (i := 81) rfl)), (hw _ (List.mem_of_getElem? (i := 87) rfl))⟩)
  obtain ⟨cv, Av⟩ := Arr.start e_va hn0
  obtain ⟨lv1, lv2⟩ := own_len e_va Av hn2
  have VV : Arv s s.heap va cv.cls (.object "com/example/applicator/applicator/Dialect") (4 : Int32) [.ref d0, .ref d1, .ref d2, .ref d3] .null := Arv.start hfit Av lv1 lv2 (by decide) rfl ⟨own_elemR e_va Av 0 (by decide) e_d0 hn4, own_elemR e_va Av 1 (by decide) e_d1 hn6, own_elemR e_va Av 2 (by decide) e_d2 hn8, own_elemR e_va Av 3 (by decide) e_d3 hn10, trivial⟩
  have EV : Exa s s.heap va "[Lcom/example/applicator/applicator/Dialect;" := Exa.start e_va hn1
  have FV : ∀ cl : Cell, s.heap[va]? = some cl → FitC s cl := fun cl q => by
    cases Av.1.symm.trans q
    exact FitC.start hfit Av
  obtain ⟨w0, e_w0⟩ := exa_v hn11
  have Fw0 : Fld s s.heap d0 "com/example/applicator/applicator/Dialect" "label" "Ljava/lang/String;" (.ref w0) := Fld.start ((fld_at e_d0).symm.trans e_w0)
  obtain ⟨bw0, e_bw0⟩ := arr_v hn13
  obtain ⟨c_w0, A_w0⟩ := Arr.start e_bw0 hn13
  obtain ⟨l1_w0, l2_w0⟩ := own_len e_bw0 A_w0 hn14
  have K_w0 : Arv s s.heap bw0 c_w0.cls .byte (7 : Int32) [.int (50 : Int32), .int (48 : Int32), .int (50 : Int32), .int (48 : Int32), .int (45 : Int32), .int (49 : Int32), .int (50 : Int32)] (.int (0 : Int32)) := Arv.start hfit A_w0 l1_w0 l2_w0 (by decide) rfl ⟨own_elemI e_bw0 A_w0 0 50 (by decide) hn27, own_elemI e_bw0 A_w0 1 48 (by decide) hn28, own_elemI e_bw0 A_w0 2 50 (by decide) hn29, own_elemI e_bw0 A_w0 3 48 (by decide) hn30, own_elemI e_bw0 A_w0 4 45 (by decide) hn31, own_elemI e_bw0 A_w0 5 49 (by decide) hn32, own_elemI e_bw0 A_w0 6 50 (by decide) hn33, trivial⟩
  have Qw0 : oStr s s.heap w0 [50, 48, 50, 48, 45, 49, 50] := ⟨(oPS (by decide) (oPS (by decide) (oPS (by decide) (oPS (by decide) (oPS (by decide) (oPS (by decide) (oPS (by decide) oP0))))))), by decide, bw0, c_w0.cls, Exa.start e_w0 hn11, Fld.start ((fld_at e_w0).symm.trans e_bw0), Fld.start ((fld_at e_w0).symm.trans (eqv_i (Term.int_eval 0) hn12)), by rw [show ([50, 48, 50, 48, 45, 49, 50] : List Int32).map (fun c => c.toInt8.toInt32) = [50, 48, 50, 48, 45, 49, 50] from by decide +kernel]; exact K_w0⟩
  obtain ⟨w1, e_w1⟩ := exa_v hn15
  have Fw1 : Fld s s.heap d1 "com/example/applicator/applicator/Dialect" "label" "Ljava/lang/String;" (.ref w1) := Fld.start ((fld_at e_d1).symm.trans e_w1)
  obtain ⟨bw1, e_bw1⟩ := arr_v hn17
  obtain ⟨c_w1, A_w1⟩ := Arr.start e_bw1 hn17
  obtain ⟨l1_w1, l2_w1⟩ := own_len e_bw1 A_w1 hn18
  have K_w1 : Arv s s.heap bw1 c_w1.cls .byte (8 : Int32) [.int (100 : Int32), .int (114 : Int32), .int (97 : Int32), .int (102 : Int32), .int (116 : Int32), .int (45 : Int32), .int (48 : Int32), .int (55 : Int32)] (.int (0 : Int32)) := Arv.start hfit A_w1 l1_w1 l2_w1 (by decide) rfl ⟨own_elemI e_bw1 A_w1 0 100 (by decide) hn34, own_elemI e_bw1 A_w1 1 114 (by decide) hn35, own_elemI e_bw1 A_w1 2 97 (by decide) hn36, own_elemI e_bw1 A_w1 3 102 (by decide) hn37, own_elemI e_bw1 A_w1 4 116 (by decide) hn38, own_elemI e_bw1 A_w1 5 45 (by decide) hn39, own_elemI e_bw1 A_w1 6 48 (by decide) hn40, own_elemI e_bw1 A_w1 7 55 (by decide) hn41, trivial⟩
  have Qw1 : oStr s s.heap w1 [100, 114, 97, 102, 116, 45, 48, 55] := ⟨(oPS (by decide) (oPS (by decide) (oPS (by decide) (oPS (by decide) (oPS (by decide) (oPS (by decide) (oPS (by decide) (oPS (by decide) oP0)))))))), by decide, bw1, c_w1.cls, Exa.start e_w1 hn15, Fld.start ((fld_at e_w1).symm.trans e_bw1), Fld.start ((fld_at e_w1).symm.trans (eqv_i (Term.int_eval 0) hn16)), by rw [show ([100, 114, 97, 102, 116, 45, 48, 55] : List Int32).map (fun c => c.toInt8.toInt32) = [100, 114, 97, 102, 116, 45, 48, 55] from by decide +kernel]; exact K_w1⟩
  obtain ⟨w2, e_w2⟩ := exa_v hn19
  have Fw2 : Fld s s.heap d2 "com/example/applicator/applicator/Dialect" "label" "Ljava/lang/String;" (.ref w2) := Fld.start ((fld_at e_d2).symm.trans e_w2)
  obtain ⟨bw2, e_bw2⟩ := arr_v hn21
  obtain ⟨c_w2, A_w2⟩ := Arr.start e_bw2 hn21
  obtain ⟨l1_w2, l2_w2⟩ := own_len e_bw2 A_w2 hn22
  have K_w2 : Arv s s.heap bw2 c_w2.cls .byte (8 : Int32) [.int (100 : Int32), .int (114 : Int32), .int (97 : Int32), .int (102 : Int32), .int (116 : Int32), .int (45 : Int32), .int (48 : Int32), .int (54 : Int32)] (.int (0 : Int32)) := Arv.start hfit A_w2 l1_w2 l2_w2 (by decide) rfl ⟨own_elemI e_bw2 A_w2 0 100 (by decide) hn42, own_elemI e_bw2 A_w2 1 114 (by decide) hn43, own_elemI e_bw2 A_w2 2 97 (by decide) hn44, own_elemI e_bw2 A_w2 3 102 (by decide) hn45, own_elemI e_bw2 A_w2 4 116 (by decide) hn46, own_elemI e_bw2 A_w2 5 45 (by decide) hn47, own_elemI e_bw2 A_w2 6 48 (by decide) hn48, own_elemI e_bw2 A_w2 7 54 (by decide) hn49, trivial⟩
  have Qw2 : oStr s s.heap w2 [100, 114, 97, 102, 116, 45, 48, 54] := ⟨(oPS (by decide) (oPS (by decide) (oPS (by decide) (oPS (by decide) (oPS (by decide) (oPS (by decide) (oPS (by decide) (oPS (by decide) oP0)))))))), by decide, bw2, c_w2.cls, Exa.start e_w2 hn19, Fld.start ((fld_at e_w2).symm.trans e_bw2), Fld.start ((fld_at e_w2).symm.trans (eqv_i (Term.int_eval 0) hn20)), by rw [show ([100, 114, 97, 102, 116, 45, 48, 54] : List Int32).map (fun c => c.toInt8.toInt32) = [100, 114, 97, 102, 116, 45, 48, 54] from by decide +kernel]; exact K_w2⟩
  obtain ⟨w3, e_w3⟩ := exa_v hn23
  have Fw3 : Fld s s.heap d3 "com/example/applicator/applicator/Dialect" "label" "Ljava/lang/String;" (.ref w3) := Fld.start ((fld_at e_d3).symm.trans e_w3)
  obtain ⟨bw3, e_bw3⟩ := arr_v hn25
  obtain ⟨c_w3, A_w3⟩ := Arr.start e_bw3 hn25
  obtain ⟨l1_w3, l2_w3⟩ := own_len e_bw3 A_w3 hn26
  have K_w3 : Arv s s.heap bw3 c_w3.cls .byte (8 : Int32) [.int (100 : Int32), .int (114 : Int32), .int (97 : Int32), .int (102 : Int32), .int (116 : Int32), .int (45 : Int32), .int (48 : Int32), .int (52 : Int32)] (.int (0 : Int32)) := Arv.start hfit A_w3 l1_w3 l2_w3 (by decide) rfl ⟨own_elemI e_bw3 A_w3 0 100 (by decide) hn50, own_elemI e_bw3 A_w3 1 114 (by decide) hn51, own_elemI e_bw3 A_w3 2 97 (by decide) hn52, own_elemI e_bw3 A_w3 3 102 (by decide) hn53, own_elemI e_bw3 A_w3 4 116 (by decide) hn54, own_elemI e_bw3 A_w3 5 45 (by decide) hn55, own_elemI e_bw3 A_w3 6 48 (by decide) hn56, own_elemI e_bw3 A_w3 7 52 (by decide) hn57, trivial⟩
  have Qw3 : oStr s s.heap w3 [100, 114, 97, 102, 116, 45, 48, 52] := ⟨(oPS (by decide) (oPS (by decide) (oPS (by decide) (oPS (by decide) (oPS (by decide) (oPS (by decide) (oPS (by decide) (oPS (by decide) oP0)))))))), by decide, bw3, c_w3.cls, Exa.start e_w3 hn23, Fld.start ((fld_at e_w3).symm.trans e_bw3), Fld.start ((fld_at e_w3).symm.trans (eqv_i (Term.int_eval 0) hn24)), by rw [show ([100, 114, 97, 102, 116, 45, 48, 52] : List Int32).map (fun c => c.toInt8.toInt32) = [100, 114, 97, 102, 116, 45, 48, 52] from by decide +kernel]; exact K_w3⟩
  obtain ⟨zc, ezc⟩ := is_v (Cond.before_iff.mp (hsets _ (List.mem_of_getElem? (i := 1) rfl)))
  have hcs : Sta s s.heap "java/lang/String" "COMPACT_STRINGS" "Z" (.int zc) := Sta.start ezc (Or.inl (hsets _ (List.mem_of_getElem? (i := 0) rfl)))
  have hcz : ¬ zc = 0 := own_ne0 ezc (hsets _ (List.mem_of_getElem? (i := 2) rfl))
  obtain ⟨fm, efm, rfm⟩ := isR_v (Cond.before_iff.mp (hsets _ (List.mem_of_getElem? (i := 8) rfl)))
  have hfm : Sta s s.heap "jdk/internal/util/Preconditions" "SIOOBE_FORMATTER" "Ljava/util/function/BiFunction;" fm := Sta.start efm (Or.inl (hsets _ (List.mem_of_getElem? (i := 7) rfl)))
  have hEL : EW s _ consts_1 := (EW.cons (hw _ (List.mem_of_getElem? (i := 4) rfl)) (by decide +kernel) (EW.cons (hw _ (List.mem_of_getElem? (i := 117) rfl)) (by decide +kernel) (EW.cons (hw _ (List.mem_of_getElem? (i := 118) rfl)) (by decide +kernel) (EW.cons (hw _ (List.mem_of_getElem? (i := 119) rfl)) (by decide +kernel) (EW.cons (hw _ (List.mem_of_getElem? (i := 121) rfl)) (by decide +kernel) EW.nil)))))
  have hCH : CHv s consts_1 s.vm s.heap := CHv.start hEL (fun p hp => hcalls.1 p hp) (hsets _ (List.mem_of_getElem? (i := 2) rfl)) (hw _ (List.mem_of_getElem? (i := 7) rfl)) (hw _ (List.mem_of_getElem? (i := 6) rfl))
  obtain ⟨n, o, h1, h2, h3, v, L, rfl, ⟨N, -, hv⟩, -, hq⟩ := own_law l s _ hw hEL s.heap.size s.heap (Old.start s) i0 i1 i2 i3 i4 zc hcs hcz fm hfm rfm d0 d1 d2 d3 va cv.cls hva VV EV FV hd0 hd1 hd2 hd3 Ed0 Ed1 Ed2 Ed3 w0 w1 w2 w3 Fw0 Fw1 Fw2 Fw3 Qw0 Qw1 Qw2 Qw3 p e ha hc hk s m _ below hf ((Spec.applies_iff_loose hf).mp happ).1 ⟨rfl, State.Warmed39.refl s, rfl, hCH, fun _ q => nomatch q⟩ trivial
  subst hv
  exact ⟨n, _, h1, h2, h3, hpost _ _ _ _ _ _ ⟨Cond.after_iff.mpr rfl, Cond.after_iff.mpr (eq_i res_at (Term.int_eval (1)) rfl), trivial⟩ ⟨hq.1, hq.2.1, hq.2.2.1, (hq.2.2.2.sift fun y hy => Or.inr (N y hy)).mono (by decide) (by decide)⟩⟩
theorem main_1_1 : Claimed_1_1 := comes_1 fun _ _ _ _ _ _ h hF => ⟨h.1, hF⟩
theorem main_1_2 : Claimed_1_2 := comes_1 fun _ _ _ _ _ _ h hF => ⟨h.2.1, hF⟩
end Jvm.Pilot.@@N@@
namespace Jvm.Pilot.@@N@@
open Jvm Jvm.ClassFile Sem Op Lib Jvm.Free Jvm.Stand Jvm.Pilot.@@N@@.Jvm.D
/-! MADE BY PROGRAM (witnessworld.py) out of the Statement's table words and the real class files: 22 classes; the members and pool entries that the words name. The judged class is class 1, her method 1. -/
namespace start1
open Jvm.ClassFile
def u (s : String) : CpInfo := .utf8 (stringToUtf16 s)
/-- a pool by its gaps: so many unusable entries, then the entry; so many at the end -/
def gap : Nat → List CpInfo → List CpInfo
  | 0, r => r
  | n + 1, r => .unusable :: gap n r
def poolList (es : List (Nat × CpInfo)) (last : Nat) : List CpInfo := es.foldr (fun e r => gap e.1 (e.2 :: r)) (gap last [])
def pool (es : List (Nat × CpInfo)) (last : Nat) : Array CpInfo := ⟨poolList es last⟩
def fileOf (pool : Array CpInfo) (this : Nat) (attrs : Array Attribute := #[]) (ms : Array MethodInfo := #[]) (fl : Nat := 33) (sup : Nat := 0) (ifs : Array Nat := #[]) (fds : Array FieldInfo := #[]) : ClassFile where
  minorVersion := 0
  majorVersion := 65
  constantPool := pool
  accessFlags := fl
  thisClass := this
  superClass := sup
  interfaces := ifs
  fields := fds
  methods := ms
  attributes := attrs
def plain (name : String) (sup : Option ClassId) : Class where
  name := name
  kind := .ordinary
  loader := none
  accessFlags := 33
  super := sup
  interfaces := #[]
  cf := none
  fields := #[]
  methods := #[]
  instanceTypes := #[]
  staticTypes := #[]
  resolved := #[]
  callSites := []
  init := .initialized
  statics := none
  mirror := none

def pool0 : Array CpInfo := pool [(5, u "<init>"), (0, u "()V"), (1, .class_ 10), (1, u "java/lang/Object"), (85, u "clone"), (0, u "()Ljava/lang/Object;")] 26

def k0c0 : Code := { maxStack := 0, maxLocals := 1, code := object_method_1_code, exceptionTable := #[], attributes := #[] }
def k0m0 : Method := { name := "<init>", desc := "()V", sig := { parameters := [], returnType := none }, accessFlags := 1, code := some k0c0 }
def k0m1 : Method := { name := "clone", desc := "()Ljava/lang/Object;", sig := { parameters := [], returnType := some (.object "java/lang/Object") }, accessFlags := 260, code := none }
/-- java/lang/Object -/
def k0 : Class := { plain "java/lang/Object" none with
  accessFlags := 33
  interfaces := #[]
  cf := some (fileOf pool0 8 #[] #[{ accessFlags := 1, nameIndex := 5, descriptorIndex := 6, attributes := #[] }, { accessFlags := 260, nameIndex := 96, descriptorIndex := 97, attributes := #[] }] 33 0 #[] #[])
  fields := #[]
  methods := #[k0m0, k0m1]
  instanceTypes := #[]
  staticTypes := #[]
  resolved := Array.replicate 124 none
  statics := none }

def pool1 : Array CpInfo := pool [(2, .class_ 4), (1, u "java/lang/Object"), (0, u "<init>"), (0, u "()V"), (0, .methodref 8 9), (0, .class_ 10), (0, .nameAndType 11 12), (0, u "com/example/applicator/applicator/DialectLabelledPinLaw"), (0, u "label"), (0, u "(I)Ljava/lang/String;"), (0, .methodref 14 15), (0, .class_ 16), (0, .nameAndType 17 18), (0, u "java/lang/String"), (0, u "length"), (0, u "()I"), (0, .integer 2147483647), (0, .methodref 8 21), (0, .nameAndType 22 23), (0, u "pick"), (0, u "(Ljava/lang/String;IIJJ)C"), (0, .methodref 8 25), (0, .nameAndType 26 27), (0, u "make"), (0, u "(ICCCCCCCCC)Ljava/lang/String;"), (0, .methodref 29 30), (0, .class_ 31), (0, .nameAndType 32 33), (0, u "com/example/applicator/applicator/Dialect"), (0, u "labelled"), (0, u "(Ljava/lang/String;)Lcom/example/applicator/applicator/Dialect;"), (0, .methodref 8 35), (0, .nameAndType 36 33), (0, u "expected"), (0, .string 38), (0, u "2020-12"), (0, .string 40), (0, u "draft-07"), (0, .string 42), (0, u "draft-06"), (0, .string 44), (0, u "draft-04"), (0, .long 255), (1, .methodref 14 48), (0, .nameAndType 49 50), (0, u "charAt"), (0, u "(I)C"), (0, .methodref 8 52), (0, .nameAndType 53 54), (0, u "drawn"), (0, u "(IJJ)C"), (0, .methodref 14 56), (0, .nameAndType 5 57), (0, u "([C)V"), (0, .methodref 14 59), (0, .nameAndType 60 61), (0, u "equals"), (0, u "(Ljava/lang/Object;)Z"), (0, .fieldref 29 63), (0, .nameAndType 64 65), (0, u "DRAFT_2020_12"), (0, u "Lcom/example/applicator/applicator/Dialect;"), (0, .fieldref 29 67), (0, .nameAndType 68 65), (0, u "DRAFT_07"), (0, .fieldref 29 70), (0, .nameAndType 71 65), (0, u "DRAFT_06"), (0, .fieldref 29 73), (0, .nameAndType 74 65), (0, u "DRAFT_04"), (2, u "law"), (0, u "(IIJJI)Z")] 3

def k1m0 : Method := { name := "<init>", desc := "()V", sig := { parameters := [], returnType := none }, accessFlags := 1, code := none }
def k1c1 : Code := { maxStack := 10, maxLocals := 21, code := code, exceptionTable := #[], attributes := #[] }
def k1m1 : Method := { name := "law", desc := "(IIJJI)Z", sig := { parameters := [.int, .int, .long, .long, .int], returnType := some .boolean }, accessFlags := 9, code := some k1c1 }
def k1c2 : Code := { maxStack := 2, maxLocals := 1, code := method_3_code, exceptionTable := #[], attributes := #[] }
def k1m2 : Method := { name := "label", desc := "(I)Ljava/lang/String;", sig := { parameters := [.int], returnType := some (.object "java/lang/String") }, accessFlags := 10, code := some k1c2 }
def k1c3 : Code := { maxStack := 4, maxLocals := 5, code := method_4_code, exceptionTable := #[], attributes := #[] }
def k1m3 : Method := { name := "drawn", desc := "(IJJ)C", sig := { parameters := [.int, .long, .long], returnType := some .char }, accessFlags := 10, code := some k1c3 }
def k1c4 : Code := { maxStack := 5, maxLocals := 7, code := method_5_code, exceptionTable := #[], attributes := #[] }
def k1m4 : Method := { name := "pick", desc := "(Ljava/lang/String;IIJJ)C", sig := { parameters := [(.object "java/lang/String"), .int, .int, .long, .long], returnType := some .char }, accessFlags := 10, code := some k1c4 }
def k1c5 : Code := { maxStack := 6, maxLocals := 10, code := method_6_code, exceptionTable := #[], attributes := #[] }
def k1m5 : Method := { name := "make", desc := "(ICCCCCCCCC)Ljava/lang/String;", sig := { parameters := [.int, .char, .char, .char, .char, .char, .char, .char, .char, .char], returnType := some (.object "java/lang/String") }, accessFlags := 10, code := some k1c5 }
def k1c6 : Code := { maxStack := 2, maxLocals := 1, code := method_7_code, exceptionTable := #[], attributes := #[] }
def k1m6 : Method := { name := "expected", desc := "(Ljava/lang/String;)Lcom/example/applicator/applicator/Dialect;", sig := { parameters := [(.object "java/lang/String")], returnType := some (.object "com/example/applicator/applicator/Dialect") }, accessFlags := 10, code := some k1c6 }
/-- com/example/applicator/applicator/DialectLabelledPinLaw -/
def k1 : Class := { plain "com/example/applicator/applicator/DialectLabelledPinLaw" (some 0) with
  accessFlags := 49
  interfaces := #[]
  cf := some (fileOf pool1 8 #[] #[{ accessFlags := 1, nameIndex := 5, descriptorIndex := 6, attributes := #[] }, { accessFlags := 9, nameIndex := 77, descriptorIndex := 78, attributes := #[] }, { accessFlags := 10, nameIndex := 11, descriptorIndex := 12, attributes := #[] }, { accessFlags := 10, nameIndex := 53, descriptorIndex := 54, attributes := #[] }, { accessFlags := 10, nameIndex := 22, descriptorIndex := 23, attributes := #[] }, { accessFlags := 10, nameIndex := 26, descriptorIndex := 27, attributes := #[] }, { accessFlags := 10, nameIndex := 36, descriptorIndex := 33, attributes := #[] }] 49 2 #[] #[])
  fields := #[]
  methods := #[k1m0, k1m1, k1m2, k1m3, k1m4, k1m5, k1m6]
  instanceTypes := #[]
  staticTypes := #[]
  resolved := Array.replicate 82 none
  statics := none }

def pool2 : Array CpInfo := pool [(1, .class_ 2), (0, u "java/io/Serializable"), (0, .class_ 4), (0, u "java/lang/Object")] 2

/-- java/io/Serializable -/
def k2 : Class := { plain "java/io/Serializable" (some 0) with
  accessFlags := 1537
  interfaces := #[]
  cf := some (fileOf pool2 1 #[] #[] 1537 3 #[] #[])
  fields := #[]
  methods := #[]
  instanceTypes := #[]
  staticTypes := #[]
  resolved := Array.replicate 7 none
  statics := none }

def pool3 : Array CpInfo := pool [(1, .class_ 2), (0, u "java/lang/Comparable"), (0, .class_ 4), (0, u "java/lang/Object")] 7

/-- java/lang/Comparable -/
def k3 : Class := { plain "java/lang/Comparable" (some 0) with
  accessFlags := 1537
  interfaces := #[]
  cf := some (fileOf pool3 1 #[] #[] 1537 3 #[] #[])
  fields := #[]
  methods := #[]
  instanceTypes := #[]
  staticTypes := #[]
  resolved := Array.replicate 12 none
  statics := none }

def pool4 : Array CpInfo := pool [(2, .class_ 4), (1, u "java/lang/CharSequence"), (42, .class_ 48), (0, u "java/lang/CharSequence$1CodePointIterator"), (10, .class_ 60), (0, u "java/lang/CharSequence$1CharIterator"), (5, .class_ 67), (0, u "java/lang/Object")] 63

/-- java/lang/CharSequence -/
def k4 : Class := { plain "java/lang/CharSequence" (some 0) with
  accessFlags := 1537
  interfaces := #[]
  cf := some (fileOf pool4 2 #[.nestMembers #[47, 59]] #[] 1537 66 #[] #[])
  fields := #[]
  methods := #[]
  instanceTypes := #[]
  staticTypes := #[]
  resolved := Array.replicate 131 none
  statics := none }

def pool5 : Array CpInfo := pool [(1, .class_ 2), (0, u "java/lang/constant/Constable"), (0, .class_ 4), (0, u "java/lang/Object")] 6

/-- java/lang/constant/Constable -/
def k5 : Class := { plain "java/lang/constant/Constable" (some 0) with
  accessFlags := 1537
  interfaces := #[]
  cf := some (fileOf pool5 1 #[] #[] 1537 3 #[] #[])
  fields := #[]
  methods := #[]
  instanceTypes := #[]
  staticTypes := #[]
  resolved := Array.replicate 11 none
  statics := none }

def pool6 : Array CpInfo := pool [(1, .class_ 2), (0, u "java/lang/constant/ConstantDesc"), (0, .class_ 4), (0, u "java/lang/Object")] 32

/-- java/lang/constant/ConstantDesc -/
def k6 : Class := { plain "java/lang/constant/ConstantDesc" (some 0) with
  accessFlags := 1537
  interfaces := #[]
  cf := some (fileOf pool6 1 #[] #[] 1537 3 #[] #[])
  fields := #[]
  methods := #[]
  instanceTypes := #[]
  staticTypes := #[]
  resolved := Array.replicate 37 none
  statics := none }

def pool7 : Array CpInfo := pool [(1, .methodref 2 3), (0, .class_ 4), (0, .nameAndType 5 6), (0, u "java/lang/Object"), (0, u "<init>"), (0, u "()V"), (0, .string 8), (0, u ""), (0, .fieldref 10 11), (0, .class_ 12), (0, .nameAndType 13 14), (0, u "java/lang/String"), (0, u "value"), (0, u "[B"), (0, .fieldref 10 16), (0, .nameAndType 17 18), (0, u "coder"), (0, u "B"), (2, u "hash"), (0, u "I"), (2, u "hashIsZero"), (0, u "Z"), (0, .methodref 10 28), (0, .nameAndType 5 29), (0, u "([CIILjava/lang/Void;)V"), (8, .fieldref 10 39), (0, .nameAndType 40 26), (0, u "COMPACT_STRINGS"), (1, .class_ 44), (1, u "java/lang/StringUTF16"), (0, u "compress"), (1, .methodref 42 48), (0, .nameAndType 49 50), (0, u "coderFromArrayLen"), (0, u "([BI)B"), (56, .class_ 109), (1, u "java/lang/StringLatin1"), (32, u "()Z"), (34, .methodref 42 178), (0, .nameAndType 45 179), (0, u "([CII)[B"), (154, u "()I"), (0, .methodref 10 336), (0, .nameAndType 17 337), (0, u "()B"), (25, u "([BI)C"), (27, u "(II)V"), (35, u "(I)C"), (64, .methodref 10 493), (0, .nameAndType 494 142), (0, u "isLatin1"), (0, .methodref 107 496), (0, .nameAndType 497 363), (0, u "charAt"), (3, u "checkIndex"), (5, u "length"), (33, .methodref 107 542), (0, .nameAndType 543 544), (0, u "equals"), (0, u "([B[B)Z"), (28, u "(Ljava/lang/Object;)Z"), (1, .class_ 576), (0, u "java/lang/CharSequence"), (22, u "CASE_INSENSITIVE_ORDER"), (0, u "Ljava/util/Comparator;"), (409, u "([C)V"), (42, .fieldref 1054 1055), (0, .class_ 1056), (0, .nameAndType 1057 1058), (0, u "jdk/internal/util/Preconditions"), (0, u "SIOOBE_FORMATTER"), (0, u "Ljava/util/function/BiFunction;"), (0, .methodref 1054 1060), (0, .nameAndType 501 1061), (0, u "(IILjava/util/function/BiFunction;)I"), (39, u "serialPersistentFields"), (0, u "[Ljava/io/ObjectStreamField;"), (0, .class_ 1104), (0, u "java/lang/String$CaseInsensitiveComparator"), (1, .class_ 1107), (0, u "java/io/Serializable"), (0, .class_ 1109), (0, u "java/lang/Comparable"), (0, .class_ 1111), (0, u "java/lang/constant/Constable"), (0, .class_ 1113), (0, u "java/lang/constant/ConstantDesc"), (2, u "serialVersionUID"), (0, u "J"), (3, u "REPL"), (0, u "C"), (2, u "LATIN1"), (1, u "UTF16")] 323

def k7m0 : Method := { name := "<init>", desc := "()V", sig := { parameters := [], returnType := none }, accessFlags := 1, code := none }
def k7c1 : Code := { maxStack := 5, maxLocals := 2, code := jdk_42_method_3_code, exceptionTable := #[], attributes := #[] }
def k7m1 : Method := { name := "<init>", desc := "([C)V", sig := { parameters := [(.array .char)], returnType := none }, accessFlags := 1, code := some k7c1 }
def k7c2 : Code := { maxStack := 2, maxLocals := 1, code := jdk_42_method_54_code, exceptionTable := #[], attributes := #[] }
def k7m2 : Method := { name := "length", desc := "()I", sig := { parameters := [], returnType := some .int }, accessFlags := 1, code := some k7c2 }
def k7c3 : Code := { maxStack := 2, maxLocals := 2, code := jdk_42_method_56_code, exceptionTable := #[], attributes := #[] }
def k7m3 : Method := { name := "charAt", desc := "(I)C", sig := { parameters := [.int], returnType := some .char }, accessFlags := 1, code := some k7c3 }
def k7c4 : Code := { maxStack := 2, maxLocals := 3, code := jdk_42_method_66_code, exceptionTable := #[], attributes := #[] }
def k7m4 : Method := { name := "equals", desc := "(Ljava/lang/Object;)Z", sig := { parameters := [(.object "java/lang/Object")], returnType := some .boolean }, accessFlags := 1, code := some k7c4 }
def k7c5 : Code := { maxStack := 4, maxLocals := 6, code := jdk_42_method_149_code, exceptionTable := #[], attributes := #[] }
def k7m5 : Method := { name := "<init>", desc := "([CIILjava/lang/Void;)V", sig := { parameters := [(.array .char), .int, .int, (.object "java/lang/Void")], returnType := none }, accessFlags := 2, code := some k7c5 }
def k7c6 : Code := { maxStack := 1, maxLocals := 1, code := jdk_42_method_152_code, exceptionTable := #[], attributes := #[] }
def k7m6 : Method := { name := "coder", desc := "()B", sig := { parameters := [], returnType := some .byte }, accessFlags := 0, code := some k7c6 }
def k7c7 : Code := { maxStack := 1, maxLocals := 1, code := jdk_42_method_154_code, exceptionTable := #[], attributes := #[] }
def k7m7 : Method := { name := "isLatin1", desc := "()Z", sig := { parameters := [], returnType := some .boolean }, accessFlags := 0, code := some k7c7 }
def k7c8 : Code := { maxStack := 3, maxLocals := 2, code := jdk_42_method_155_code, exceptionTable := #[], attributes := #[] }
def k7m8 : Method := { name := "checkIndex", desc := "(II)V", sig := { parameters := [.int, .int], returnType := none }, accessFlags := 8, code := some k7c8 }
/-- java/lang/String -/
def k7 : Class := { plain "java/lang/String" (some 0) with
  accessFlags := 49
  interfaces := #[2, 3, 4, 5, 6]
  cf := some (fileOf pool7 10 #[.nestMembers #[1103]] #[{ accessFlags := 1, nameIndex := 5, descriptorIndex := 6, attributes := #[] }, { accessFlags := 1, nameIndex := 5, descriptorIndex := 1010, attributes := #[] }, { accessFlags := 1, nameIndex := 507, descriptorIndex := 334, attributes := #[] }, { accessFlags := 1, nameIndex := 497, descriptorIndex := 427, attributes := #[] }, { accessFlags := 1, nameIndex := 543, descriptorIndex := 573, attributes := #[] }, { accessFlags := 2, nameIndex := 5, descriptorIndex := 29, attributes := #[] }, { accessFlags := 0, nameIndex := 17, descriptorIndex := 337, attributes := #[] }, { accessFlags := 0, nameIndex := 494, descriptorIndex := 142, attributes := #[] }, { accessFlags := 8, nameIndex := 501, descriptorIndex := 391, attributes := #[] }] 49 2 #[1106, 1108, 575, 1110, 1112] #[{ accessFlags := 18, nameIndex := 13, descriptorIndex := 14, attributes := #[] }, { accessFlags := 18, nameIndex := 17, descriptorIndex := 18, attributes := #[] }, { accessFlags := 2, nameIndex := 21, descriptorIndex := 22, attributes := #[] }, { accessFlags := 2, nameIndex := 25, descriptorIndex := 26, attributes := #[] }, { accessFlags := 26, nameIndex := 1116, descriptorIndex := 1117, attributes := #[] }, { accessFlags := 24, nameIndex := 40, descriptorIndex := 26, attributes := #[] }, { accessFlags := 26, nameIndex := 1101, descriptorIndex := 1102, attributes := #[] }, { accessFlags := 26, nameIndex := 1121, descriptorIndex := 1122, attributes := #[] }, { accessFlags := 25, nameIndex := 599, descriptorIndex := 600, attributes := #[] }, { accessFlags := 24, nameIndex := 1125, descriptorIndex := 18, attributes := #[] }, { accessFlags := 24, nameIndex := 1127, descriptorIndex := 18, attributes := #[] }])
  fields := #[{ name := "value", type := (.array .byte), accessFlags := 18, slot := 0, constantValue := 0 }, { name := "coder", type := .byte, accessFlags := 18, slot := 1, constantValue := 0 }, { name := "hash", type := .int, accessFlags := 2, slot := 2, constantValue := 0 }, { name := "hashIsZero", type := .boolean, accessFlags := 2, slot := 3, constantValue := 0 }, { name := "serialVersionUID", type := .long, accessFlags := 26, slot := 0, constantValue := 0 }, { name := "COMPACT_STRINGS", type := .boolean, accessFlags := 24, slot := 1, constantValue := 0 }, { name := "serialPersistentFields", type := (.array (.object "java/io/ObjectStreamField")), accessFlags := 26, slot := 2, constantValue := 0 }, { name := "REPL", type := .char, accessFlags := 26, slot := 3, constantValue := 0 }, { name := "CASE_INSENSITIVE_ORDER", type := (.object "java/util/Comparator"), accessFlags := 25, slot := 4, constantValue := 0 }, { name := "LATIN1", type := .byte, accessFlags := 24, slot := 5, constantValue := 0 }, { name := "UTF16", type := .byte, accessFlags := 24, slot := 6, constantValue := 0 }]
  methods := #[k7m0, k7m1, k7m2, k7m3, k7m4, k7m5, k7m6, k7m7, k7m8]
  instanceTypes := #[(.array .byte), .byte, .int, .boolean]
  staticTypes := #[.long, .boolean, (.array (.object "java/io/ObjectStreamField")), .char, (.object "java/util/Comparator"), .byte, .byte]
  resolved := Array.replicate 1451 none
  statics := some 0 }

def pool8 : Array CpInfo := pool [(1, .class_ 2), (0, u "java/lang/String"), (1, .class_ 6), (1, u "java/lang/Object"), (0, u "<init>"), (0, u "()V"), (0, .methodref 1 10), (0, .nameAndType 11 12), (0, u "checkIndex"), (0, u "(II)V"), (1, .class_ 16), (1, u "java/lang/StringLatin1"), (36, u "([BI)C"), (67, u "$assertionsDisabled"), (0, u "Z"), (98, .class_ 223), (1, u "java/lang/StringLatin1$LinesSpliterator"), (28, u "charAt"), (28, u "equals"), (0, u "([B[B)Z"), (107, .class_ 391), (0, u "java/lang/StringLatin1$CharsSpliterator")] 3

def k8m0 : Method := { name := "<init>", desc := "()V", sig := { parameters := [], returnType := none }, accessFlags := 0, code := none }
def k8c1 : Code := { maxStack := 2, maxLocals := 2, code := jdk_43_method_2_code, exceptionTable := #[], attributes := #[] }
def k8m1 : Method := { name := "charAt", desc := "([BI)C", sig := { parameters := [(.array .byte), .int], returnType := some .char }, accessFlags := 9, code := some k8c1 }
def k8c2 : Code := { maxStack := 3, maxLocals := 3, code := jdk_43_method_13_code, exceptionTable := #[], attributes := #[] }
def k8m2 : Method := { name := "equals", desc := "([B[B)Z", sig := { parameters := [(.array .byte), (.array .byte)], returnType := some .boolean }, accessFlags := 9, code := some k8c2 }
/-- java/lang/StringLatin1 -/
def k8 : Class := { plain "java/lang/StringLatin1" (some 0) with
  accessFlags := 48
  interfaces := #[]
  cf := some (fileOf pool8 14 #[.nestMembers #[390, 221]] #[{ accessFlags := 0, nameIndex := 7, descriptorIndex := 8, attributes := #[] }, { accessFlags := 9, nameIndex := 252, descriptorIndex := 53, attributes := #[] }, { accessFlags := 9, nameIndex := 281, descriptorIndex := 282, attributes := #[] }] 48 4 #[] #[{ accessFlags := 4120, nameIndex := 121, descriptorIndex := 122, attributes := #[] }])
  fields := #[{ name := "$assertionsDisabled", type := .boolean, accessFlags := 4120, slot := 0, constantValue := 0 }]
  methods := #[k8m0, k8m1, k8m2]
  instanceTypes := #[]
  staticTypes := #[.boolean]
  resolved := Array.replicate 395 none
  statics := none }

def pool9 : Array CpInfo := pool [(2, .class_ 4), (1, u "java/lang/Object"), (0, u "<init>"), (0, u "()V"), (17, .class_ 26), (1, u "jdk/internal/util/Preconditions"), (6, u "checkIndex"), (21, .class_ 56), (0, u "jdk/internal/util/Preconditions$4"), (57, .class_ 115), (0, u "jdk/internal/util/Preconditions$1"), (7, u "SIOOBE_FORMATTER"), (0, u "Ljava/util/function/BiFunction;"), (0, .class_ 126), (0, u "jdk/internal/util/Preconditions$2"), (3, u "AIOOBE_FORMATTER"), (0, .class_ 132), (0, u "jdk/internal/util/Preconditions$3"), (3, u "IOOBE_FORMATTER"), (41, u "(IILjava/util/function/BiFunction;)I")] 15

def k9m0 : Method := { name := "<init>", desc := "()V", sig := { parameters := [], returnType := none }, accessFlags := 1, code := none }
def k9c1 : Code := { maxStack := 3, maxLocals := 3, code := jdk_41_method_11_code, exceptionTable := #[], attributes := #[] }
def k9m1 : Method := { name := "checkIndex", desc := "(IILjava/util/function/BiFunction;)I", sig := { parameters := [.int, .int, (.object "java/util/function/BiFunction")], returnType := some .int }, accessFlags := 9, code := some k9c1 }
/-- jdk/internal/util/Preconditions -/
def k9 : Class := { plain "jdk/internal/util/Preconditions" (some 0) with
  accessFlags := 33
  interfaces := #[]
  cf := some (fileOf pool9 24 #[.nestMembers #[55, 131, 125, 114]] #[{ accessFlags := 1, nameIndex := 5, descriptorIndex := 6, attributes := #[] }, { accessFlags := 9, nameIndex := 33, descriptorIndex := 178, attributes := #[] }] 33 2 #[] #[{ accessFlags := 25, nameIndex := 123, descriptorIndex := 124, attributes := #[] }, { accessFlags := 25, nameIndex := 130, descriptorIndex := 124, attributes := #[] }, { accessFlags := 25, nameIndex := 136, descriptorIndex := 124, attributes := #[] }])
  fields := #[{ name := "SIOOBE_FORMATTER", type := (.object "java/util/function/BiFunction"), accessFlags := 25, slot := 0, constantValue := 0 }, { name := "AIOOBE_FORMATTER", type := (.object "java/util/function/BiFunction"), accessFlags := 25, slot := 1, constantValue := 0 }, { name := "IOOBE_FORMATTER", type := (.object "java/util/function/BiFunction"), accessFlags := 25, slot := 2, constantValue := 0 }]
  methods := #[k9m0, k9m1]
  instanceTypes := #[]
  staticTypes := #[(.object "java/util/function/BiFunction"), (.object "java/util/function/BiFunction"), (.object "java/util/function/BiFunction")]
  resolved := Array.replicate 194 none
  statics := some 1 }

def pool10 : Array CpInfo := pool [(6, .class_ 8), (1, u "java/lang/Object"), (0, u "<init>"), (0, u "()V"), (1, .class_ 14), (1, u "java/lang/StringUTF16"), (31, u "$assertionsDisabled"), (0, u "Z"), (13, u "HI_BYTE_SHIFT"), (0, u "I"), (2, u "LO_BYTE_SHIFT"), (49, .methodref 12 116), (0, .nameAndType 117 118), (0, u "compress"), (0, u "([CI[BII)I"), (3, u "([CII)[B"), (138, u "coderFromArrayLen"), (0, u "([BI)B"), (106, .class_ 371), (1, u "java/lang/StringUTF16$LinesSpliterator"), (58, u "MAX_LENGTH"), (196, .class_ 628), (0, u "java/lang/StringUTF16$CodePointsSpliterator"), (0, .class_ 630), (0, u "java/lang/StringUTF16$CharsSpliterator")] 4

def k10m0 : Method := { name := "<init>", desc := "()V", sig := { parameters := [], returnType := none }, accessFlags := 0, code := none }
def k10c1 : Code := { maxStack := 2, maxLocals := 2, code := jdk_52_method_15_code, exceptionTable := #[], attributes := #[] }
def k10m1 : Method := { name := "coderFromArrayLen", desc := "([BI)B", sig := { parameters := [(.array .byte), .int], returnType := some .byte }, accessFlags := 8, code := some k10c1 }
def k10c2 : Code := { maxStack := 5, maxLocals := 6, code := jdk_52_method_16_code, exceptionTable := #[], attributes := #[] }
def k10m2 : Method := { name := "compress", desc := "([CII)[B", sig := { parameters := [(.array .char), .int, .int], returnType := some (.array .byte) }, accessFlags := 9, code := some k10c2 }
def k10c3 : Code := { maxStack := 3, maxLocals := 7, code := jdk_52_method_21_code, exceptionTable := #[], attributes := #[] }
def k10m3 : Method := { name := "compress", desc := "([CI[BII)I", sig := { parameters := [(.array .char), .int, (.array .byte), .int, .int], returnType := some .int }, accessFlags := 9, code := some k10c3 }
/-- java/lang/StringUTF16 -/
def k10 : Class := { plain "java/lang/StringUTF16" (some 0) with
  accessFlags := 48
  interfaces := #[]
  cf := some (fileOf pool10 12 #[.nestMembers #[627, 629, 369]] #[{ accessFlags := 0, nameIndex := 9, descriptorIndex := 10, attributes := #[] }, { accessFlags := 8, nameIndex := 261, descriptorIndex := 262, attributes := #[] }, { accessFlags := 9, nameIndex := 117, descriptorIndex := 122, attributes := #[] }, { accessFlags := 9, nameIndex := 117, descriptorIndex := 118, attributes := #[] }] 48 6 #[] #[{ accessFlags := 26, nameIndex := 61, descriptorIndex := 62, attributes := #[] }, { accessFlags := 26, nameIndex := 65, descriptorIndex := 62, attributes := #[] }, { accessFlags := 24, nameIndex := 430, descriptorIndex := 62, attributes := #[] }, { accessFlags := 4120, nameIndex := 46, descriptorIndex := 47, attributes := #[] }])
  fields := #[{ name := "HI_BYTE_SHIFT", type := .int, accessFlags := 26, slot := 0, constantValue := 0 }, { name := "LO_BYTE_SHIFT", type := .int, accessFlags := 26, slot := 1, constantValue := 0 }, { name := "MAX_LENGTH", type := .int, accessFlags := 24, slot := 2, constantValue := 0 }, { name := "$assertionsDisabled", type := .boolean, accessFlags := 4120, slot := 3, constantValue := 0 }]
  methods := #[k10m0, k10m1, k10m2, k10m3]
  instanceTypes := #[]
  staticTypes := #[.int, .int, .int, .boolean]
  resolved := Array.replicate 635 none
  statics := none }

def pool11 : Array CpInfo := pool [(2, .class_ 4), (1, u "java/lang/Enum"), (0, u "name"), (0, u "Ljava/lang/String;"), (2, u "ordinal"), (0, u "I"), (1, .class_ 14), (1, u "java/lang/Object"), (4, u "hash"), (86, .class_ 108), (1, u "java/lang/Enum$EnumDesc"), (2, .class_ 112), (0, u "java/lang/constant/Constable"), (0, .class_ 114), (0, u "java/lang/Comparable"), (0, .class_ 116), (0, u "java/io/Serializable")] 87

/-- java/lang/Enum -/
def k11 : Class := { plain "java/lang/Enum" (some 0) with
  accessFlags := 1057
  interfaces := #[5, 3, 2]
  cf := some (fileOf pool11 2 #[.nestMembers #[106]] #[] 1057 12 #[111, 113, 115] #[{ accessFlags := 18, nameIndex := 5, descriptorIndex := 6, attributes := #[] }, { accessFlags := 18, nameIndex := 9, descriptorIndex := 10, attributes := #[] }, { accessFlags := 2, nameIndex := 19, descriptorIndex := 10, attributes := #[] }])
  fields := #[{ name := "name", type := (.object "java/lang/String"), accessFlags := 18, slot := 0, constantValue := 0 }, { name := "ordinal", type := .int, accessFlags := 18, slot := 1, constantValue := 0 }, { name := "hash", type := .int, accessFlags := 2, slot := 2, constantValue := 0 }]
  methods := #[]
  instanceTypes := #[(.object "java/lang/String"), .int, .int]
  staticTypes := #[]
  resolved := Array.replicate 204 none
  statics := none }

def pool12 : Array CpInfo := pool [(1, .class_ 2), (0, u "com/example/applicator/applicator/Dialect"), (2, u "DRAFT_2020_12"), (0, u "Lcom/example/applicator/applicator/Dialect;"), (2, u "DRAFT_07"), (2, u "DRAFT_06"), (2, u "DRAFT_04"), (0, .fieldref 1 17), (0, .nameAndType 18 19), (0, u "$VALUES"), (0, u "[Lcom/example/applicator/applicator/Dialect;"), (0, .methodref 21 22), (0, .class_ 19), (0, .nameAndType 23 24), (0, u "clone"), (0, u "()Ljava/lang/Object;"), (1, .class_ 28), (1, u "java/lang/Enum"), (8, u "iri"), (0, u "Ljava/lang/String;"), (0, .fieldref 1 40), (0, .nameAndType 41 38), (0, u "label"), (0, .methodref 1 43), (0, .nameAndType 44 45), (0, u "values"), (0, u "()[Lcom/example/applicator/applicator/Dialect;"), (17, .methodref 64 65), (0, .class_ 66), (0, .nameAndType 67 68), (0, u "java/lang/String"), (0, u "equals"), (0, u "(Ljava/lang/Object;)Z"), (28, u "(Ljava/lang/String;)Lcom/example/applicator/applicator/Dialect;"), (5, u "labelled")] 5

def k12c0 : Code := { maxStack := 1, maxLocals := 0, code := prog_5_method_1_code, exceptionTable := #[], attributes := #[] }
def k12m0 : Method := { name := "values", desc := "()[Lcom/example/applicator/applicator/Dialect;", sig := { parameters := [], returnType := some (.array (.object "com/example/applicator/applicator/Dialect")) }, accessFlags := 9, code := some k12c0 }
def k12c1 : Code := { maxStack := 2, maxLocals := 6, code := prog_5_method_5_code, exceptionTable := #[], attributes := #[] }
def k12m1 : Method := { name := "labelled", desc := "(Ljava/lang/String;)Lcom/example/applicator/applicator/Dialect;", sig := { parameters := [(.object "java/lang/String")], returnType := some (.object "com/example/applicator/applicator/Dialect") }, accessFlags := 8, code := some k12c1 }
/-- com/example/applicator/applicator/Dialect -/
def k12 : Class := { plain "com/example/applicator/applicator/Dialect" (some 11) with
  accessFlags := 16433
  interfaces := #[]
  cf := some (fileOf pool12 1 #[] #[{ accessFlags := 9, nameIndex := 44, descriptorIndex := 45, attributes := #[] }, { accessFlags := 8, nameIndex := 103, descriptorIndex := 97, attributes := #[] }] 16433 26 #[] #[{ accessFlags := 16409, nameIndex := 5, descriptorIndex := 6, attributes := #[] }, { accessFlags := 16409, nameIndex := 9, descriptorIndex := 6, attributes := #[] }, { accessFlags := 16409, nameIndex := 12, descriptorIndex := 6, attributes := #[] }, { accessFlags := 16409, nameIndex := 15, descriptorIndex := 6, attributes := #[] }, { accessFlags := 18, nameIndex := 37, descriptorIndex := 38, attributes := #[] }, { accessFlags := 18, nameIndex := 41, descriptorIndex := 38, attributes := #[] }, { accessFlags := 4122, nameIndex := 18, descriptorIndex := 19, attributes := #[] }])
  fields := #[{ name := "DRAFT_2020_12", type := (.object "com/example/applicator/applicator/Dialect"), accessFlags := 16409, slot := 0, constantValue := 0 }, { name := "DRAFT_07", type := (.object "com/example/applicator/applicator/Dialect"), accessFlags := 16409, slot := 1, constantValue := 0 }, { name := "DRAFT_06", type := (.object "com/example/applicator/applicator/Dialect"), accessFlags := 16409, slot := 2, constantValue := 0 }, { name := "DRAFT_04", type := (.object "com/example/applicator/applicator/Dialect"), accessFlags := 16409, slot := 3, constantValue := 0 }, { name := "iri", type := (.object "java/lang/String"), accessFlags := 18, slot := 3, constantValue := 0 }, { name := "label", type := (.object "java/lang/String"), accessFlags := 18, slot := 4, constantValue := 0 }, { name := "$VALUES", type := (.array (.object "com/example/applicator/applicator/Dialect")), accessFlags := 4122, slot := 4, constantValue := 0 }]
  methods := #[k12m0, k12m1]
  instanceTypes := #[(.object "java/lang/String"), .int, .int, (.object "java/lang/String"), (.object "java/lang/String")]
  staticTypes := #[(.object "com/example/applicator/applicator/Dialect"), (.object "com/example/applicator/applicator/Dialect"), (.object "com/example/applicator/applicator/Dialect"), (.object "com/example/applicator/applicator/Dialect"), (.array (.object "com/example/applicator/applicator/Dialect"))]
  resolved := Array.replicate 109 none
  statics := some 2 }

def pool13 : Array CpInfo := pool [(1, .class_ 2), (0, u "java/lang/Cloneable"), (0, .class_ 4), (0, u "java/lang/Object")] 2

/-- java/lang/Cloneable -/
def k13 : Class := { plain "java/lang/Cloneable" (some 0) with
  accessFlags := 1537
  interfaces := #[]
  cf := some (fileOf pool13 1 #[] #[] 1537 3 #[] #[])
  fields := #[]
  methods := #[]
  instanceTypes := #[]
  staticTypes := #[]
  resolved := Array.replicate 7 none
  statics := none }

def pool14 : Array CpInfo := pool [(9, u "<init>"), (6, .class_ 18), (1, u "java/lang/Object"), (0, u "()V"), (1, .class_ 23), (1, u "jdk/internal/util/ArraysSupport"), (0, u "LOG2_ARRAY_LONG_INDEX_SCALE"), (0, u "I"), (2, u "U"), (0, u "Ljdk/internal/misc/Unsafe;"), (8, u "BIG_ENDIAN"), (0, u "Z"), (8, u "LOG2_BYTE_BIT_SIZE"), (4, u "LOG2_ARRAY_INT_INDEX_SCALE"), (54, u "JLA"), (0, u "Ljdk/internal/access/JavaLangAccess;"), (11, u "LOG2_ARRAY_BOOLEAN_INDEX_SCALE"), (9, u "LOG2_ARRAY_BYTE_INDEX_SCALE"), (5, u "LOG2_ARRAY_CHAR_INDEX_SCALE"), (5, u "LOG2_ARRAY_SHORT_INDEX_SCALE"), (18, u "LOG2_ARRAY_FLOAT_INDEX_SCALE"), (24, u "LOG2_ARRAY_DOUBLE_INDEX_SCALE"), (89, u "T_BOOLEAN"), (2, u "T_CHAR"), (1, u "T_FLOAT"), (1, u "T_DOUBLE"), (1, u "T_BYTE"), (1, u "T_SHORT"), (1, u "T_INT"), (1, u "T_LONG"), (1, u "SOFT_MAX_ARRAY_LENGTH")] 83

def k14m0 : Method := { name := "<init>", desc := "()V", sig := { parameters := [], returnType := none }, accessFlags := 2, code := none }
/-- jdk/internal/util/ArraysSupport -/
def k14 : Class := { plain "jdk/internal/util/ArraysSupport" (some 0) with
  accessFlags := 33
  interfaces := #[]
  cf := some (fileOf pool14 21 #[] #[{ accessFlags := 2, nameIndex := 9, descriptorIndex := 19, attributes := #[] }] 33 16 #[] #[{ accessFlags := 24, nameIndex := 28, descriptorIndex := 29, attributes := #[] }, { accessFlags := 26, nameIndex := 38, descriptorIndex := 39, attributes := #[] }, { accessFlags := 25, nameIndex := 121, descriptorIndex := 25, attributes := #[] }, { accessFlags := 25, nameIndex := 131, descriptorIndex := 25, attributes := #[] }, { accessFlags := 25, nameIndex := 137, descriptorIndex := 25, attributes := #[] }, { accessFlags := 25, nameIndex := 143, descriptorIndex := 25, attributes := #[] }, { accessFlags := 25, nameIndex := 53, descriptorIndex := 25, attributes := #[] }, { accessFlags := 25, nameIndex := 24, descriptorIndex := 25, attributes := #[] }, { accessFlags := 25, nameIndex := 162, descriptorIndex := 25, attributes := #[] }, { accessFlags := 25, nameIndex := 187, descriptorIndex := 25, attributes := #[] }, { accessFlags := 26, nameIndex := 48, descriptorIndex := 25, attributes := #[] }, { accessFlags := 25, nameIndex := 277, descriptorIndex := 25, attributes := #[] }, { accessFlags := 25, nameIndex := 280, descriptorIndex := 25, attributes := #[] }, { accessFlags := 25, nameIndex := 282, descriptorIndex := 25, attributes := #[] }, { accessFlags := 25, nameIndex := 284, descriptorIndex := 25, attributes := #[] }, { accessFlags := 25, nameIndex := 286, descriptorIndex := 25, attributes := #[] }, { accessFlags := 25, nameIndex := 288, descriptorIndex := 25, attributes := #[] }, { accessFlags := 25, nameIndex := 290, descriptorIndex := 25, attributes := #[] }, { accessFlags := 25, nameIndex := 292, descriptorIndex := 25, attributes := #[] }, { accessFlags := 26, nameIndex := 108, descriptorIndex := 109, attributes := #[] }, { accessFlags := 25, nameIndex := 294, descriptorIndex := 25, attributes := #[] }])
  fields := #[{ name := "U", type := (.object "jdk/internal/misc/Unsafe"), accessFlags := 24, slot := 0, constantValue := 0 }, { name := "BIG_ENDIAN", type := .boolean, accessFlags := 26, slot := 1, constantValue := 0 }, { name := "LOG2_ARRAY_BOOLEAN_INDEX_SCALE", type := .int, accessFlags := 25, slot := 2, constantValue := 0 }, { name := "LOG2_ARRAY_BYTE_INDEX_SCALE", type := .int, accessFlags := 25, slot := 3, constantValue := 0 }, { name := "LOG2_ARRAY_CHAR_INDEX_SCALE", type := .int, accessFlags := 25, slot := 4, constantValue := 0 }, { name := "LOG2_ARRAY_SHORT_INDEX_SCALE", type := .int, accessFlags := 25, slot := 5, constantValue := 0 }, { name := "LOG2_ARRAY_INT_INDEX_SCALE", type := .int, accessFlags := 25, slot := 6, constantValue := 0 }, { name := "LOG2_ARRAY_LONG_INDEX_SCALE", type := .int, accessFlags := 25, slot := 7, constantValue := 0 }, { name := "LOG2_ARRAY_FLOAT_INDEX_SCALE", type := .int, accessFlags := 25, slot := 8, constantValue := 0 }, { name := "LOG2_ARRAY_DOUBLE_INDEX_SCALE", type := .int, accessFlags := 25, slot := 9, constantValue := 0 }, { name := "LOG2_BYTE_BIT_SIZE", type := .int, accessFlags := 26, slot := 10, constantValue := 0 }, { name := "T_BOOLEAN", type := .int, accessFlags := 25, slot := 11, constantValue := 0 }, { name := "T_CHAR", type := .int, accessFlags := 25, slot := 12, constantValue := 0 }, { name := "T_FLOAT", type := .int, accessFlags := 25, slot := 13, constantValue := 0 }, { name := "T_DOUBLE", type := .int, accessFlags := 25, slot := 14, constantValue := 0 }, { name := "T_BYTE", type := .int, accessFlags := 25, slot := 15, constantValue := 0 }, { name := "T_SHORT", type := .int, accessFlags := 25, slot := 16, constantValue := 0 }, { name := "T_INT", type := .int, accessFlags := 25, slot := 17, constantValue := 0 }, { name := "T_LONG", type := .int, accessFlags := 25, slot := 18, constantValue := 0 }, { name := "JLA", type := (.object "jdk/internal/access/JavaLangAccess"), accessFlags := 26, slot := 19, constantValue := 0 }, { name := "SOFT_MAX_ARRAY_LENGTH", type := .int, accessFlags := 25, slot := 20, constantValue := 0 }]
  methods := #[k14m0]
  instanceTypes := #[]
  staticTypes := #[(.object "jdk/internal/misc/Unsafe"), .boolean, .int, .int, .int, .int, .int, .int, .int, .int, .int, .int, .int, .int, .int, .int, .int, .int, .int, (.object "jdk/internal/access/JavaLangAccess"), .int]
  resolved := Array.replicate 378 none
  statics := none }

/-- the primitive byte -/
def k15 : Class := { plain "byte" none with kind := .primitive 'B', accessFlags := 0x411 }
/-- [B -/
def k16 : Class := { plain "[B" (some 0) with kind := .array 15 .byte, interfaces := #[13, 2], accessFlags := 1041 }

/-- the primitive char -/
def k17 : Class := { plain "char" none with kind := .primitive 'C', accessFlags := 0x411 }
/-- [C -/
def k18 : Class := { plain "[C" (some 0) with kind := .array 17 .char, interfaces := #[13, 2], accessFlags := 1041 }

/-- the primitive int -/
def k19 : Class := { plain "int" none with kind := .primitive 'I', accessFlags := 0x411 }
/-- [I -/
def k20 : Class := { plain "[I" (some 0) with kind := .array 19 .int, interfaces := #[13, 2], accessFlags := 1041 }

/-- [Lcom/example/applicator/applicator/Dialect; -/
def k21 : Class := { plain "[Lcom/example/applicator/applicator/Dialect;" (some 0) with kind := .array 12 (.object "com/example/applicator/applicator/Dialect"), interfaces := #[13, 2], accessFlags := 1041 }

def heap : Heap := #[{ cls := 7, slots := #[.long 0, .int 1, .null, .int 0, .null, .int 0, .int 0], vm := .statics 7 },
  { cls := 9, slots := #[.null, .null, .null], vm := .statics 9 },
  { cls := 12, slots := #[.ref 6, .ref 9, .ref 12, .ref 15, .ref 3], vm := .statics 12 },
  { cls := 21, slots := #[.ref 6, .ref 9, .ref 12, .ref 15], vm := .none },
  { cls := 16, slots := #[.int 50, .int 48, .int 50, .int 48, .int 45, .int 49, .int 50], vm := .none },
  { cls := 7, slots := #[.ref 4, .int 0, .int 0, .int 0], vm := .none },
  { cls := 12, slots := #[.null, .int 0, .int 0, .null, .ref 5], vm := .none },
  { cls := 16, slots := #[.int 100, .int 114, .int 97, .int 102, .int 116, .int 45, .int 48, .int 55], vm := .none },
  { cls := 7, slots := #[.ref 7, .int 0, .int 0, .int 0], vm := .none },
  { cls := 12, slots := #[.null, .int 1, .int 0, .null, .ref 8], vm := .none },
  { cls := 16, slots := #[.int 100, .int 114, .int 97, .int 102, .int 116, .int 45, .int 48, .int 54], vm := .none },
  { cls := 7, slots := #[.ref 10, .int 0, .int 0, .int 0], vm := .none },
  { cls := 12, slots := #[.null, .int 2, .int 0, .null, .ref 11], vm := .none },
  { cls := 16, slots := #[.int 100, .int 114, .int 97, .int 102, .int 116, .int 45, .int 48, .int 52], vm := .none },
  { cls := 7, slots := #[.ref 13, .int 0, .int 0, .int 0], vm := .none },
  { cls := 12, slots := #[.null, .int 3, .int 0, .null, .ref 14], vm := .none }]
def classes : Array Class := #[k0, k1, k2, k3, k4, k5, k6, k7, k8, k9, k10, k11, k12, k13, k14, k15, k16, k17, k18, k19, k20, k21]
def interned : List (Array UInt16 × Addr) := []
def slotsUsed : Nat := 86
def theMethod : MethodId := ⟨1, 1⟩
def args0 : Array Value := #[.int 5, .int 300, .long 7, .long 9, .int 2]
def aboutOver (below : List Frame) : State where
  vm := { classes := classes, interned := interned.toArray }
  heap := heap
  slotsUsed := slotsUsed
  threads := #[{ frames := .invoking theMethod args0 :: below }]
def below0 : List Frame := [.native { method := ⟨0, 0⟩, args := #[] }]
def about1 : State := aboutOver below0
def p0 : Program := .bare "" "" ""
def e0 : Env := launch0.env 0 0 0
theorem w_frames : about1.frames = Frame.invoking theMethod args0 :: below0 := rfl
set_option maxRecDepth 65536 in
theorem w_args : argsFit about1.vm theMethod args0 = true := by decide +kernel
set_option maxRecDepth 65536 in
theorem w_heap : heapFits about1 = true := by decide +kernel
set_option maxRecDepth 65536 in
theorem w_runnable : about1.curStatus? = some .runnable := by decide +kernel
set_option maxRecDepth 65536 in
theorem w_alone : about1.alone = true := by decide +kernel
set_option maxRecDepth 65536 in
theorem w_named : about1.methodNamed? x = some theMethod := by decide +kernel
set_option maxRecDepth 65536 in
theorem w_hears : about1.hears theMethod below0 = true := by decide +kernel
set_option maxRecDepth 65536 in
theorem w_ripe : about1.ripe theMethod args0 below0 = true := by decide +kernel
theorem w_running : about1.status = .running := rfl
set_option maxRecDepth 65536 in
theorem w_room : about1.hasRoom e0.platform room_1 = true :=
  launch0.hasRoom_least _ room_1 (by decide +kernel) (by decide +kernel) (by decide +kernel) (by decide +kernel) (by decide +kernel) (by decide +kernel)
theorem allAtoms_all (ts : List Jvm.Cond) (a : Array Jvm.Value) (st : Jvm.State) : (allAtoms ts).before a st = ts.all (fun c => c.before a st) := by
  induction ts with
  | nil => rfl
  | cons c t ih =>
    show (Jvm.Cond.and c (allAtoms t)).before a st = _
    rw [Jvm.Cond.before_and, ih, List.all_cons]
def words1 : List Jvm.Cond := Jvm.Cond.code x code maxLocals ret :: tables_1
/-- a 'code' word, met by the world's own term for the bytes: nothing is compared byte by byte -/
theorem code_word {y : MethodName} {bytes : ByteArray} {mx : Nat} {rt : Option FieldType} {a : Array Value} {s : State} {m : MethodId} {meth : Method} {c : Code} (h1 : s.methodNamed? y = some m) (h2 : s.vm.method? m = some meth) (h3 : meth.code = some c) (h4 : c.code = bytes)
    (h5 : (c.maxLocals == mx && c.exceptionTable.isEmpty && decide (c.maxStack ≤ mostOperands) && decide (meth.sig.returnType = rt) && !meth.locks && decide (parseMethodDescriptor y.desc = some meth.sig)) = true) : (Jvm.Cond.code y bytes mx rt).before a s = true := by
  simp only [Bool.and_eq_true, beq_iff_eq, Bool.not_eq_true', decide_eq_true_eq] at h5
  obtain ⟨⟨⟨⟨⟨g1, g2⟩, g3⟩, g4⟩, g5⟩, g6⟩ := h5
  simp [Cond.before, Cond.holds, Cond.value, h1, h2, h3, h4, g1, g2, g3, g4, g5, g6]
def isCode : Jvm.Cond → Bool
  | .code _ _ _ _ => true
  | _ => false
theorem all_split {L : List Jvm.Cond} {P : Jvm.Cond → Bool} (h1 : L.all (fun c => isCode c || P c) = true) (h2 : ∀ c ∈ L.filter isCode, P c = true) : L.all P = true := by
  refine List.all_eq_true.mpr fun c hc => ?_
  have h := List.all_eq_true.mp h1 c hc
  rcases Bool.eq_false_or_eq_true (isCode c) with hi | hi
  · exact h2 c (List.mem_filter.mpr ⟨hc, hi⟩)
  · simpa [hi] using h
set_option maxRecDepth 65536 in
theorem w_c0 : (Jvm.Cond.code x code maxLocals ret).before args0 about1 = true := code_word (m := ⟨1, 1⟩) (meth := k1m1) (c := k1c1) (by decide +kernel) rfl rfl rfl (by decide +kernel)
set_option maxRecDepth 65536 in
theorem w_c1 : (Jvm.Cond.code ({ cls := "com/example/applicator/applicator/DialectLabelledPinLaw", name := "label", desc := "(I)Ljava/lang/String;" } : Jvm.MethodName) method_3_code (1 : Nat) (Option.some (Jvm.ClassFile.FieldType.object "java/lang/String"))).before args0 about1 = true := code_word (m := ⟨1, 2⟩) (meth := k1m2) (c := k1c2) (by decide +kernel) rfl rfl rfl (by decide +kernel)
set_option maxRecDepth 65536 in
theorem w_c2 : (Jvm.Cond.code ({ cls := "java/lang/String", name := "length", desc := "()I" } : Jvm.MethodName) jdk_42_method_54_code (1 : Nat) (Option.some Jvm.ClassFile.FieldType.int)).before args0 about1 = true := code_word (m := ⟨7, 2⟩) (meth := k7m2) (c := k7c2) (by decide +kernel) rfl rfl rfl (by decide +kernel)
set_option maxRecDepth 65536 in
theorem w_c3 : (Jvm.Cond.code ({ cls := "java/lang/String", name := "coder", desc := "()B" } : Jvm.MethodName) jdk_42_method_152_code (1 : Nat) (Option.some Jvm.ClassFile.FieldType.byte)).before args0 about1 = true := code_word (m := ⟨7, 6⟩) (meth := k7m6) (c := k7c6) (by decide +kernel) rfl rfl rfl (by decide +kernel)
set_option maxRecDepth 65536 in
theorem w_c4 : (Jvm.Cond.code ({ cls := "com/example/applicator/applicator/DialectLabelledPinLaw", name := "pick", desc := "(Ljava/lang/String;IIJJ)C" } : Jvm.MethodName) method_5_code (7 : Nat) (Option.some Jvm.ClassFile.FieldType.char)).before args0 about1 = true := code_word (m := ⟨1, 4⟩) (meth := k1m4) (c := k1c4) (by decide +kernel) rfl rfl rfl (by decide +kernel)
set_option maxRecDepth 65536 in
theorem w_c5 : (Jvm.Cond.code ({ cls := "com/example/applicator/applicator/DialectLabelledPinLaw", name := "drawn", desc := "(IJJ)C" } : Jvm.MethodName) method_4_code (5 : Nat) (Option.some Jvm.ClassFile.FieldType.char)).before args0 about1 = true := code_word (m := ⟨1, 3⟩) (meth := k1m3) (c := k1c3) (by decide +kernel) rfl rfl rfl (by decide +kernel)
set_option maxRecDepth 65536 in
theorem w_c6 : (Jvm.Cond.code ({ cls := "java/lang/String", name := "charAt", desc := "(I)C" } : Jvm.MethodName) jdk_42_method_56_code (2 : Nat) (Option.some Jvm.ClassFile.FieldType.char)).before args0 about1 = true := code_word (m := ⟨7, 3⟩) (meth := k7m3) (c := k7c3) (by decide +kernel) rfl rfl rfl (by decide +kernel)
set_option maxRecDepth 65536 in
theorem w_c7 : (Jvm.Cond.code ({ cls := "java/lang/String", name := "isLatin1", desc := "()Z" } : Jvm.MethodName) jdk_42_method_154_code (1 : Nat) (Option.some Jvm.ClassFile.FieldType.boolean)).before args0 about1 = true := code_word (m := ⟨7, 7⟩) (meth := k7m7) (c := k7c7) (by decide +kernel) rfl rfl rfl (by decide +kernel)
set_option maxRecDepth 65536 in
theorem w_c8 : (Jvm.Cond.code ({ cls := "java/lang/StringLatin1", name := "charAt", desc := "([BI)C" } : Jvm.MethodName) jdk_43_method_2_code (2 : Nat) (Option.some Jvm.ClassFile.FieldType.char)).before args0 about1 = true := code_word (m := ⟨8, 1⟩) (meth := k8m1) (c := k8c1) (by decide +kernel) rfl rfl rfl (by decide +kernel)
set_option maxRecDepth 65536 in
theorem w_c9 : (Jvm.Cond.code ({ cls := "java/lang/String", name := "checkIndex", desc := "(II)V" } : Jvm.MethodName) jdk_42_method_155_code (2 : Nat) (Option.none : Option Jvm.ClassFile.FieldType)).before args0 about1 = true := code_word (m := ⟨7, 8⟩) (meth := k7m8) (c := k7c8) (by decide +kernel) rfl rfl rfl (by decide +kernel)
set_option maxRecDepth 65536 in
theorem w_c10 : (Jvm.Cond.code ({ cls := "jdk/internal/util/Preconditions", name := "checkIndex", desc := "(IILjava/util/function/BiFunction;)I" } : Jvm.MethodName) jdk_41_method_11_code (3 : Nat) (Option.some Jvm.ClassFile.FieldType.int)).before args0 about1 = true := code_word (m := ⟨9, 1⟩) (meth := k9m1) (c := k9c1) (by decide +kernel) rfl rfl rfl (by decide +kernel)
set_option maxRecDepth 65536 in
theorem w_c11 : (Jvm.Cond.code ({ cls := "com/example/applicator/applicator/DialectLabelledPinLaw", name := "make", desc := "(ICCCCCCCCC)Ljava/lang/String;" } : Jvm.MethodName) method_6_code (10 : Nat) (Option.some (Jvm.ClassFile.FieldType.object "java/lang/String"))).before args0 about1 = true := code_word (m := ⟨1, 5⟩) (meth := k1m5) (c := k1c5) (by decide +kernel) rfl rfl rfl (by decide +kernel)
set_option maxRecDepth 65536 in
theorem w_c12 : (Jvm.Cond.code ({ cls := "java/lang/String", name := "<init>", desc := "([C)V" } : Jvm.MethodName) jdk_42_method_3_code (2 : Nat) (Option.none : Option Jvm.ClassFile.FieldType)).before args0 about1 = true := code_word (m := ⟨7, 1⟩) (meth := k7m1) (c := k7c1) (by decide +kernel) rfl rfl rfl (by decide +kernel)
set_option maxRecDepth 65536 in
theorem w_c13 : (Jvm.Cond.code ({ cls := "java/lang/String", name := "<init>", desc := "([CIILjava/lang/Void;)V" } : Jvm.MethodName) jdk_42_method_149_code (6 : Nat) (Option.none : Option Jvm.ClassFile.FieldType)).before args0 about1 = true := code_word (m := ⟨7, 5⟩) (meth := k7m5) (c := k7c5) (by decide +kernel) rfl rfl rfl (by decide +kernel)
set_option maxRecDepth 65536 in
theorem w_c14 : (Jvm.Cond.code ({ cls := "java/lang/Object", name := "<init>", desc := "()V" } : Jvm.MethodName) object_method_1_code (1 : Nat) (Option.none : Option Jvm.ClassFile.FieldType)).before args0 about1 = true := code_word (m := ⟨0, 0⟩) (meth := k0m0) (c := k0c0) (by decide +kernel) rfl rfl rfl (by decide +kernel)
set_option maxRecDepth 65536 in
theorem w_c15 : (Jvm.Cond.code ({ cls := "java/lang/StringUTF16", name := "compress", desc := "([CII)[B" } : Jvm.MethodName) jdk_52_method_16_code (6 : Nat) (Option.some (Jvm.ClassFile.FieldType.array Jvm.ClassFile.FieldType.byte))).before args0 about1 = true := code_word (m := ⟨10, 2⟩) (meth := k10m2) (c := k10c2) (by decide +kernel) rfl rfl rfl (by decide +kernel)
set_option maxRecDepth 65536 in
theorem w_c16 : (Jvm.Cond.code ({ cls := "java/lang/StringUTF16", name := "compress", desc := "([CI[BII)I" } : Jvm.MethodName) jdk_52_method_21_code (7 : Nat) (Option.some Jvm.ClassFile.FieldType.int)).before args0 about1 = true := code_word (m := ⟨10, 3⟩) (meth := k10m3) (c := k10c3) (by decide +kernel) rfl rfl rfl (by decide +kernel)
set_option maxRecDepth 65536 in
theorem w_c17 : (Jvm.Cond.code ({ cls := "java/lang/StringUTF16", name := "coderFromArrayLen", desc := "([BI)B" } : Jvm.MethodName) jdk_52_method_15_code (2 : Nat) (Option.some Jvm.ClassFile.FieldType.byte)).before args0 about1 = true := code_word (m := ⟨10, 1⟩) (meth := k10m1) (c := k10c1) (by decide +kernel) rfl rfl rfl (by decide +kernel)
set_option maxRecDepth 65536 in
theorem w_c18 : (Jvm.Cond.code ({ cls := "com/example/applicator/applicator/Dialect", name := "labelled", desc := "(Ljava/lang/String;)Lcom/example/applicator/applicator/Dialect;" } : Jvm.MethodName) prog_5_method_5_code (6 : Nat) (Option.some (Jvm.ClassFile.FieldType.object "com/example/applicator/applicator/Dialect"))).before args0 about1 = true := code_word (m := ⟨12, 1⟩) (meth := k12m1) (c := k12c1) (by decide +kernel) rfl rfl rfl (by decide +kernel)
set_option maxRecDepth 65536 in
theorem w_c19 : (Jvm.Cond.code ({ cls := "com/example/applicator/applicator/Dialect", name := "values", desc := "()[Lcom/example/applicator/applicator/Dialect;" } : Jvm.MethodName) prog_5_method_1_code (0 : Nat) (Option.some (Jvm.ClassFile.FieldType.array (Jvm.ClassFile.FieldType.object "com/example/applicator/applicator/Dialect")))).before args0 about1 = true := code_word (m := ⟨12, 0⟩) (meth := k12m0) (c := k12c0) (by decide +kernel) rfl rfl rfl (by decide +kernel)
set_option maxRecDepth 65536 in
theorem w_c20 : (Jvm.Cond.code ({ cls := "java/lang/String", name := "equals", desc := "(Ljava/lang/Object;)Z" } : Jvm.MethodName) jdk_42_method_66_code (3 : Nat) (Option.some Jvm.ClassFile.FieldType.boolean)).before args0 about1 = true := code_word (m := ⟨7, 4⟩) (meth := k7m4) (c := k7c4) (by decide +kernel) rfl rfl rfl (by decide +kernel)
set_option maxRecDepth 65536 in
theorem w_c21 : (Jvm.Cond.code ({ cls := "java/lang/StringLatin1", name := "equals", desc := "([B[B)Z" } : Jvm.MethodName) jdk_43_method_13_code (3 : Nat) (Option.some Jvm.ClassFile.FieldType.boolean)).before args0 about1 = true := code_word (m := ⟨8, 2⟩) (meth := k8m2) (c := k8c2) (by decide +kernel) rfl rfl rfl (by decide +kernel)
set_option maxRecDepth 65536 in
theorem w_c22 : (Jvm.Cond.code ({ cls := "com/example/applicator/applicator/DialectLabelledPinLaw", name := "expected", desc := "(Ljava/lang/String;)Lcom/example/applicator/applicator/Dialect;" } : Jvm.MethodName) method_7_code (1 : Nat) (Option.some (Jvm.ClassFile.FieldType.object "com/example/applicator/applicator/Dialect"))).before args0 about1 = true := code_word (m := ⟨1, 6⟩) (meth := k1m6) (c := k1c6) (by decide +kernel) rfl rfl rfl (by decide +kernel)
def codes1 : List Jvm.Cond := [Jvm.Cond.code x code maxLocals ret, Jvm.Cond.code ({ cls := "com/example/applicator/applicator/DialectLabelledPinLaw", name := "label", desc := "(I)Ljava/lang/String;" } : Jvm.MethodName) method_3_code (1 : Nat) (Option.some (Jvm.ClassFile.FieldType.object "java/lang/String")), Jvm.Cond.code ({ cls := "java/lang/String", name := "length", desc := "()I" } : Jvm.MethodName) jdk_42_method_54_code (1 : Nat) (Option.some Jvm.ClassFile.FieldType.int), Jvm.Cond.code ({ cls := "java/lang/String", name := "coder", desc := "()B" } : Jvm.MethodName) jdk_42_method_152_code (1 : Nat) (Option.some Jvm.ClassFile.FieldType.byte), Jvm.Cond.code ({ cls := "com/example/applicator/applicator/DialectLabelledPinLaw", name := "pick", desc := "(Ljava/lang/String;IIJJ)C" } : Jvm.MethodName) method_5_code (7 : Nat) (Option.some Jvm.ClassFile.FieldType.char), Jvm.Cond.code ({ cls := "com/example/applicator/applicator/DialectLabelledPinLaw", name := "drawn", desc := "(IJJ)C" } : Jvm.MethodName) method_4_code (5 : Nat) (Option.some Jvm.ClassFile.FieldType.char), Jvm.Cond.code ({ cls := "java/lang/String", name := "charAt", desc := "(I)C" } : Jvm.MethodName) jdk_42_method_56_code (2 : Nat) (Option.some Jvm.ClassFile.FieldType.char), Jvm.Cond.code ({ cls := "java/lang/String", name := "isLatin1", desc := "()Z" } : Jvm.MethodName) jdk_42_method_154_code (1 : Nat) (Option.some Jvm.ClassFile.FieldType.boolean), Jvm.Cond.code ({ cls := "java/lang/StringLatin1", name := "charAt", desc := "([BI)C" } : Jvm.MethodName) jdk_43_method_2_code (2 : Nat) (Option.some Jvm.ClassFile.FieldType.char), Jvm.Cond.code ({ cls := "java/lang/String", name := "checkIndex", desc := "(II)V" } : Jvm.MethodName) jdk_42_method_155_code (2 : Nat) (Option.none : Option Jvm.ClassFile.FieldType), Jvm.Cond.code ({ cls := "jdk/internal/util/Preconditions", name := "checkIndex", desc := "(IILjava/util/function/BiFunction;)I" } : Jvm.MethodName) jdk_41_method_11_code (3 : Nat) (Option.some Jvm.ClassFile.FieldType.int), Jvm.Cond.code ({ cls := "com/example/applicator/applicator/DialectLabelledPinLaw", name := "make", desc := "(ICCCCCCCCC)Ljava/lang/String;" } : Jvm.MethodName) method_6_code (10 : Nat) (Option.some (Jvm.ClassFile.FieldType.object "java/lang/String")), Jvm.Cond.code ({ cls := "java/lang/String", name := "<init>", desc := "([C)V" } : Jvm.MethodName) jdk_42_method_3_code (2 : Nat) (Option.none : Option Jvm.ClassFile.FieldType), Jvm.Cond.code ({ cls := "java/lang/String", name := "<init>", desc := "([CIILjava/lang/Void;)V" } : Jvm.MethodName) jdk_42_method_149_code (6 : Nat) (Option.none : Option Jvm.ClassFile.FieldType), Jvm.Cond.code ({ cls := "java/lang/Object", name := "<init>", desc := "()V" } : Jvm.MethodName) object_method_1_code (1 : Nat) (Option.none : Option Jvm.ClassFile.FieldType), Jvm.Cond.code ({ cls := "java/lang/StringUTF16", name := "compress", desc := "([CII)[B" } : Jvm.MethodName) jdk_52_method_16_code (6 : Nat) (Option.some (Jvm.ClassFile.FieldType.array Jvm.ClassFile.FieldType.byte)), Jvm.Cond.code ({ cls := "java/lang/StringUTF16", name := "compress", desc := "([CI[BII)I" } : Jvm.MethodName) jdk_52_method_21_code (7 : Nat) (Option.some Jvm.ClassFile.FieldType.int), Jvm.Cond.code ({ cls := "java/lang/StringUTF16", name := "coderFromArrayLen", desc := "([BI)B" } : Jvm.MethodName) jdk_52_method_15_code (2 : Nat) (Option.some Jvm.ClassFile.FieldType.byte), Jvm.Cond.code ({ cls := "com/example/applicator/applicator/Dialect", name := "labelled", desc := "(Ljava/lang/String;)Lcom/example/applicator/applicator/Dialect;" } : Jvm.MethodName) prog_5_method_5_code (6 : Nat) (Option.some (Jvm.ClassFile.FieldType.object "com/example/applicator/applicator/Dialect")), Jvm.Cond.code ({ cls := "com/example/applicator/applicator/Dialect", name := "values", desc := "()[Lcom/example/applicator/applicator/Dialect;" } : Jvm.MethodName) prog_5_method_1_code (0 : Nat) (Option.some (Jvm.ClassFile.FieldType.array (Jvm.ClassFile.FieldType.object "com/example/applicator/applicator/Dialect"))), Jvm.Cond.code ({ cls := "java/lang/String", name := "equals", desc := "(Ljava/lang/Object;)Z" } : Jvm.MethodName) jdk_42_method_66_code (3 : Nat) (Option.some Jvm.ClassFile.FieldType.boolean), Jvm.Cond.code ({ cls := "java/lang/StringLatin1", name := "equals", desc := "([B[B)Z" } : Jvm.MethodName) jdk_43_method_13_code (3 : Nat) (Option.some Jvm.ClassFile.FieldType.boolean), Jvm.Cond.code ({ cls := "com/example/applicator/applicator/DialectLabelledPinLaw", name := "expected", desc := "(Ljava/lang/String;)Lcom/example/applicator/applicator/Dialect;" } : Jvm.MethodName) method_7_code (1 : Nat) (Option.some (Jvm.ClassFile.FieldType.object "com/example/applicator/applicator/Dialect"))]
set_option maxRecDepth 65536 in
theorem codes_eq : words1.filter isCode = codes1 := rfl
theorem w_codes : ∀ c ∈ words1.filter isCode, c.before args0 about1 = true := by
  rw [codes_eq]
  intro c hc
  simp only [codes1, List.mem_cons, List.not_mem_nil, or_false] at hc
  rcases hc with rfl | rfl | rfl | rfl | rfl | rfl | rfl | rfl | rfl | rfl | rfl | rfl | rfl | rfl | rfl | rfl | rfl | rfl | rfl | rfl | rfl | rfl | rfl
  · exact w_c0
  · exact w_c1
  · exact w_c2
  · exact w_c3
  · exact w_c4
  · exact w_c5
  · exact w_c6
  · exact w_c7
  · exact w_c8
  · exact w_c9
  · exact w_c10
  · exact w_c11
  · exact w_c12
  · exact w_c13
  · exact w_c14
  · exact w_c15
  · exact w_c16
  · exact w_c17
  · exact w_c18
  · exact w_c19
  · exact w_c20
  · exact w_c21
  · exact w_c22
set_option maxRecDepth 65536 in
theorem w_t1 : (words1.take 24).all (fun c => isCode c || c.before args0 about1) = true := by decide +kernel
set_option maxRecDepth 65536 in
theorem w_t2 : ((words1.drop 24).take 24).all (fun c => isCode c || c.before args0 about1) = true := by decide +kernel
set_option maxRecDepth 65536 in
theorem w_t3 : (((words1.drop 24).drop 24).take 24).all (fun c => isCode c || c.before args0 about1) = true := by decide +kernel
set_option maxRecDepth 65536 in
theorem w_t4 : ((((words1.drop 24).drop 24).drop 24).take 24).all (fun c => isCode c || c.before args0 about1) = true := by decide +kernel
set_option maxRecDepth 65536 in
theorem w_t5 : (((((words1.drop 24).drop 24).drop 24).drop 24).take 24).all (fun c => isCode c || c.before args0 about1) = true := by decide +kernel
set_option maxRecDepth 65536 in
theorem w_t6 : (((((words1.drop 24).drop 24).drop 24).drop 24).drop 24).all (fun c => isCode c || c.before args0 about1) = true := by decide +kernel
theorem w_tables : (allAtoms (Jvm.Cond.code x code maxLocals ret :: tables_1)).before args0 about1 = true := by
  rw [allAtoms_all]
  show words1.all (fun c => c.before args0 about1) = true
  refine all_split ?_ w_codes
  rw [← List.take_append_drop 24 words1, List.all_append, w_t1, ← List.take_append_drop 24 (words1.drop 24), List.all_append, w_t2, ← List.take_append_drop 24 ((words1.drop 24).drop 24), List.all_append, w_t3, ← List.take_append_drop 24 (((words1.drop 24).drop 24).drop 24), List.all_append, w_t4, ← List.take_append_drop 24 ((((words1.drop 24).drop 24).drop 24).drop 24), List.all_append, w_t5, w_t6]
  rfl
set_option maxRecDepth 65536 in
theorem w_rest : rest_1_c.before args0 about1 = true := by decide +kernel
set_option maxRecDepth 65536 in
theorem w_case : (Jvm.Cond.and given_1 narrow_1).before args0 about1 = true := by decide +kernel
set_option maxRecDepth 65536 in
theorem w_consts : constsHeld consts_1 about1 := Jvm.Lit.constsHeldB_iff.mp (by decide +kernel)
theorem w_applies : (headSpec (Jvm.Cond.code x code maxLocals ret :: tables_1) room_1).applies x e0.platform about1 = true :=
  (Spec.applies_iff w_frames).mpr ⟨w_running, w_runnable, w_alone, w_named, w_hears, w_ripe, w_room, w_tables⟩
theorem atStart : AtStart classFile x code maxLocals ret World_1 tables_1 room_1 Calls_1 rest_1 Pre_1 launch0 p0 e0 about1 theMethod args0 below0 :=
  ⟨lists_1, trivial, launch0.admits_env _ _ _, launch0.least_env, fairChoices_fair.cas, fairChoices_fair.clock, w_frames, w_args, w_heap, w_applies, ⟨w_consts, trivial⟩, w_rest, w_case⟩
end start1
theorem witness_1 : WitnessClaimed_1 := ⟨start1.p0, start1.e0, start1.about1, start1.theMethod, start1.args0, start1.below0, start1.atStart⟩
end Jvm.Pilot.@@N@@
