import JvmDerived
import JvmDerived.Pilot.@@N@@Statement
import JvmDerived.Pilot.@@N@@Code
set_option linter.unusedVariables false
set_option linter.unusedSimpArgs false
/- laws to paste: Road.backV, Road.lenW, Road.chN, Road.codOf (cut by pick.py; bodies as the Statement names them) -/
namespace Jvm.Pilot.@@N@@
namespace StrChars
open Jvm Sem ClassFile Op Lib Jvm.Stand Jvm.Free.XT Jvm.Free.ALB Jvm.Free.JM Jvm.Free
open Jvm.Lib.Cold (StaticIs)
/-- a char array whose places are chars -/
def Ch (a : Addr) (A : Cell) (U : State) : Prop := Arr .char a A U ∧ Typed .char A
theorem Ch.mv {a : Addr} {A : Cell} {U U' : State} (h : Ch a A U) (hal : U.vm.Alike U'.vm) (hh : U'.heap = U.heap) : Ch a A U' := ⟨h.1.mv hal hh, h.2⟩
theorem Ch.keep {a : Addr} {A : Cell} {U U' : State} (h : Ch a A U) (hal : U.vm.Alike U'.vm) (hk : U'.heap[a]? = some A) : Ch a A U' := ⟨h.1.keep hal hk, h.2⟩
/-- what place i of a char[]'s cell holds -/
def cv (A : Cell) (i : Nat) : Int32 := match A.slots[i]? with | some (.int x) => x | _ => 0
theorem Ch.get {a : Addr} {A : Cell} {U : State} (h : Ch a A U) {i : Nat} (hi : i < A.slots.size) : A.slots[i]? = some (.int (cv A i)) := by
  have e := Array.getElem?_eq_getElem hi
  have f := h.2 i _ e
  unfold cv; rw [e]
  generalize A.slots[i] = v at f
  cases v <;> simp [fits] at f ⊢
/-- the byte that i2b leaves of a char -/
def lo8 (x : Int32) : Int32 := x.toInt8.toInt32
theorem fits_lo8 (y : Int32) : fits .byte (.int (lo8 y)) = true := by
  have h1 := y.toInt8.le_toInt
  have h2 := y.toInt8.toInt_lt
  simp only [lo8, fits, Bool.and_eq_true, decide_eq_true_eq, Int32.le_iff_toInt_le, Int8.toInt_toInt32, show (-128 : Int32).toInt = -128 from by decide, show (127 : Int32).toInt = 127 from by decide]
  omega
/-- A' is A but that each place j of lo .. hi - 1 holds f j -/
def Laid (A A' : Cell) (lo hi : Nat) (f : Nat → Value) : Prop := A'.cls = A.cls ∧ A'.vm = A.vm ∧ A'.slots.size = A.slots.size ∧ ∀ i, A'.slots[i]? = if lo ≤ i ∧ i < hi then some (f i) else A.slots[i]?
theorem Laid.zero (A : Cell) (lo : Nat) (f : Nat → Value) : Laid A A lo (lo + 0) f := ⟨rfl, rfl, rfl, fun i => by rw [if_neg (by omega)]⟩
theorem Laid.step {A Ak : Cell} {lo k : Nat} {f : Nat → Value} {v : Value} (h : Laid A Ak lo k f) (hlo : lo ≤ k) (hk : k < Ak.slots.size) (hv : v = f k) : Laid A (Ak.setSlot k v) lo (k + 1) f := by
  refine ⟨h.1, h.2.1, by simpa [Cell.setSlot] using h.2.2.1, fun i => ?_⟩
  by_cases e : k = i
  · subst e; rw [Cell.slots_setSlot_self v hk, if_pos (by omega), hv]
  · rw [Cell.slots_setSlot_ne v e, h.2.2.2 i]
    by_cases q : lo ≤ i ∧ i < k
    · rw [if_pos q, if_pos (by omega)]
    · rw [if_neg q, if_neg (by omega)]
def U16 : String := "java/lang/StringUTF16"
namespace Cmp5
def yN : MethodName := ⟨"java/lang/StringUTF16", "compress", "([CI[BII)I"⟩
abbrev yB : ByteArray := jdk_52_method_21_code
theorem d0 : decode yB 0 = .ok (.iconst 0, 1) := by decide +kernel
theorem d1 : decode yB 1 = .ok (.istore 5, 2) := by decide +kernel
theorem d3 : decode yB 3 = .ok (.iload 5, 2) := by decide +kernel
theorem d5 : decode yB 5 = .ok (.iload 4, 2) := by decide +kernel
theorem d7 : decode yB 7 = .ok (.if_icmp (.ge) 37, 3) := by decide +kernel
theorem d10 : decode yB 10 = .ok (.aload_n 0, 1) := by decide +kernel
theorem d11 : decode yB 11 = .ok (.iload_n 1, 1) := by decide +kernel
theorem d12 : decode yB 12 = .ok (.caload, 1) := by decide +kernel
theorem d13 : decode yB 13 = .ok (.istore 6, 2) := by decide +kernel
theorem d15 : decode yB 15 = .ok (.iload 6, 2) := by decide +kernel
theorem d17 : decode yB 17 = .ok (.sipush 255, 3) := by decide +kernel
theorem d20 : decode yB 20 = .ok (.if_icmp (.le) 6, 3) := by decide +kernel
theorem d26 : decode yB 26 = .ok (.aload_n 2, 1) := by decide +kernel
theorem d27 : decode yB 27 = .ok (.iload_n 3, 1) := by decide +kernel
theorem d28 : decode yB 28 = .ok (.iload 6, 2) := by decide +kernel
theorem d30 : decode yB 30 = .ok (.i2b, 1) := by decide +kernel
theorem d31 : decode yB 31 = .ok (.bastore, 1) := by decide +kernel
theorem d32 : decode yB 32 = .ok (.iinc 1 1, 3) := by decide +kernel
theorem d35 : decode yB 35 = .ok (.iinc 3 1, 3) := by decide +kernel
theorem d38 : decode yB 38 = .ok (.iinc 5 1, 3) := by decide +kernel
theorem d41 : decode yB 41 = .ok (.goto (-38), 3) := by decide +kernel
theorem d44 : decode yB 44 = .ok (.iload 4, 2) := by decide +kernel
theorem d46 : decode yB 46 = .ok (.ireturn, 1) := by decide +kernel
def site : List Cond := []
def tab : Cond := tabOf yN yB 7 (some .int) site
def P (b : Addr) (A : Cell) (d : Addr) (B : Cell) (o q len : Nat) (args : Array Value) (s : State) : Prop := args = #[.ref b, .int (Int32.ofNat o), .ref d, .int (Int32.ofNat q), .int (Int32.ofNat len)] ∧ Ch b A s ∧ Arr .byte d B s ∧ b ≠ d ∧ o + len ≤ A.slots.size ∧ q + len ≤ B.slots.size ∧ ∀ i, i < len → ¬ 255 < cv A (o + i)
def E (b : Addr) (A : Cell) (d : Addr) (B : Cell) (o q len : Nat) (r : Option Value) (s u : State) : Prop := r = some (.int (Int32.ofNat len)) ∧ ∃ B', Put d B' s u ∧ Laid B B' q (q + len) (fun j => Value.int (lo8 (cv A (o + (j - q)))))
/-- no char of the range above 255: len; the places written hold each char's low byte -/
theorem law (l : Launch) (b : Addr) (A : Cell) (d : Addr) (B : Cell) (o q len : Nat) : Law l yN 5 5 0 0 yB 7 (some .int) site (P b A d B o q len) (E b A d B o q len) (copyLocs d q len) 0 0 := by
  refine Law.of_walk (plainFor_of_name (by decide +kernel)) (by decide +kernel) (by decide +kernel) (by decide) (fun _ _ h => by rw [h.1]; rfl) (fun _ U U' hal hh h => ⟨h.1, h.2.1.mv hal hh, h.2.2.1.mv hal hh, h.2.2.2⟩) (fun r U U' V V' h1 hal h2 h => ⟨h.1, h.2.elim fun B' q => ⟨B', q.1.mv h1 h2, q.2⟩⟩) ?_
  intro p e s m args below meth c s₁ X0 hexec hbytes hml hret hlk hnm hown hh0 W hP
  obtain ⟨rfl, hA, hB, hne, l1, l2, hp⟩ := hP
  have c1 : Steps p.tables e below (s₁.setTop (entryFrame m #[.ref b, .int (Int32.ofNat o), .ref d, .int (Int32.ofNat q), .int (Int32.ofNat len)] 7)) (s₁.setTop (mkF m 0 #[.val (.ref b), .val (.int (Int32.ofNat o)), .val (.ref d), .val (.int (Int32.ofNat q)), .val (.int (Int32.ofNat len)), .unset, .unset] [])) := entry rfl
  have hA0 := hA.1.mv X0.warmed.alike hh0
  have hB0 := hB.mv X0.warmed.alike hh0
  have a31 := hA.1.2.2.2
  have c2 : Steps p.tables e below (s₁.setTop (entryFrame m #[.ref b, .int (Int32.ofNat o), .ref d, .int (Int32.ofNat q), .int (Int32.ofNat len)] 7)) (s₁.setTop (mkF m 3 #[.val (.ref b), .val (.int (Int32.ofNat o)), .val (.ref d), .val (.int (Int32.ofNat q)), .val (.int (Int32.ofNat len)), .val (.int 0), .unset] [])) := c1.trans (by
    refine iconstV X0.here hexec rfl 0 (hb hbytes d0) (by decide) ?_
    refine XS.istore X0.here hexec rfl (hb hbytes d1) rfl rfl ?_
    exact Steps.refl _)
  have loop : ∀ (r i : Nat), i + r = len → ∀ (z : Slot), (z = .unset ∨ ∃ w, z = .val w ∧ w.category = 1) → ∀ (Tl : State) (Bk : Cell), Stand p l e { frames := 0, locals := 0, cells := 0, slots := 0 } s m #[.ref b, .int (Int32.ofNat o), .ref d, .int (Int32.ofNat q), .int (Int32.ofNat len)] below meth c Tl ([] ++ copyLocs d q i) 0 0 → Put d Bk s₁ Tl → Laid B Bk q (q + i) (fun j => Value.int (lo8 (cv A (o + (j - q))))) →
      Steps p.tables e below (s₁.setTop (entryFrame m #[.ref b, .int (Int32.ofNat o), .ref d, .int (Int32.ofNat q), .int (Int32.ofNat len)] 7)) (Tl.setTop (mkF m 3 #[.val (.ref b), .val (.int (Int32.ofNat (o + i))), .val (.ref d), .val (.int (Int32.ofNat (q + i))), .val (.int (Int32.ofNat len)), .val (.int (Int32.ofNat i)), z] [])) → ∃ (T' : State) (B' : Cell) (z' : Slot), Stand p l e { frames := 0, locals := 0, cells := 0, slots := 0 } s m #[.ref b, .int (Int32.ofNat o), .ref d, .int (Int32.ofNat q), .int (Int32.ofNat len)] below meth c T' ([] ++ copyLocs d q len) 0 0 ∧ Put d B' s₁ T' ∧ Laid B B' q (q + len) (fun j => Value.int (lo8 (cv A (o + (j - q))))) ∧
      Steps p.tables e below (s₁.setTop (entryFrame m #[.ref b, .int (Int32.ofNat o), .ref d, .int (Int32.ofNat q), .int (Int32.ofNat len)] 7)) (T'.setTop (mkF m 3 #[.val (.ref b), .val (.int (Int32.ofNat (o + len))), .val (.ref d), .val (.int (Int32.ofNat (q + len))), .val (.int (Int32.ofNat len)), .val (.int (Int32.ofNat len)), z'] [])) := by
    intro r
    induction r with
    | zero =>
      intro i hi z hz Tl Bk Xl pl fl cl
      have hil : i = len := by omega
      rw [hil] at Xl fl cl
      exact ⟨Tl, Bk, z, Xl, pl, fl, cl⟩
    | succ r ih =>
      intro i hi z hz Tl Bk Xl pl fl cl
      have all := X0.warmed.alike.symm.trans Xl.warmed.alike
      have hAl := hA0.keep all (pl.other hne hA0.1)
      have hBk := hB0.like all pl.1 fl.1 fl.2.1 fl.2.2.1
      have hlt : q + i < Bk.slots.size := by rw [fl.2.2.1]; omega
      have c3 : Steps p.tables e below (s₁.setTop (entryFrame m #[.ref b, .int (Int32.ofNat o), .ref d, .int (Int32.ofNat q), .int (Int32.ofNat len)] 7)) (Tl.setTop (mkF m 12 #[.val (.ref b), .val (.int (Int32.ofNat (o + i))), .val (.ref d), .val (.int (Int32.ofNat (q + i))), .val (.int (Int32.ofNat len)), .val (.int (Int32.ofNat i)), z] [.int (Int32.ofNat (o + i)), .ref b])) := cl.trans (by
        refine XS.iload Xl.here hexec rfl (hb hbytes d3) rfl ?_
        refine XS.iload Xl.here hexec rfl (hb hbytes d5) rfl ?_
        refine XS.icmpNo Xl.here hexec rfl (hb hbytes d7) rfl (ii_ge_f (lt32 (by omega) (by omega))) ?_
        refine XS.aloadN Xl.here hexec rfl (hb hbytes d10) rfl rfl ?_
        refine XS.iloadN Xl.here hexec rfl (hb hbytes d11) rfl ?_
        exact Steps.refl _)
      have c4 : Steps p.tables e below (s₁.setTop (entryFrame m #[.ref b, .int (Int32.ofNat o), .ref d, .int (Int32.ofNat q), .int (Int32.ofNat len)] 7)) (Tl.setTop (mkF m 13 #[.val (.ref b), .val (.int (Int32.ofNat (o + i))), .val (.ref d), .val (.int (Int32.ofNat (q + i))), .val (.int (Int32.ofNat len)), .val (.int (Int32.ofNat i)), z] [.int (cv A (o + i))])) := c3.trans (by
        refine Xl.aget hexec hAl rfl (hA.get (i := o + i) (by omega)) rfl rfl (hb hbytes d12) ?_
        exact Steps.refl _)
      have c5 : Steps p.tables e below (s₁.setTop (entryFrame m #[.ref b, .int (Int32.ofNat o), .ref d, .int (Int32.ofNat q), .int (Int32.ofNat len)] 7)) (Tl.setTop (mkF m 15 #[.val (.ref b), .val (.int (Int32.ofNat (o + i))), .val (.ref d), .val (.int (Int32.ofNat (q + i))), .val (.int (Int32.ofNat len)), .val (.int (Int32.ofNat i)), .val (.int (cv A (o + i)))] [])) := c4.trans (by
        refine XS.istoreS Xl.here hexec rfl (hb hbytes d13) rfl rfl hz ?_
        exact Steps.refl _)
      have c6 : Steps p.tables e below (s₁.setTop (entryFrame m #[.ref b, .int (Int32.ofNat o), .ref d, .int (Int32.ofNat q), .int (Int32.ofNat len)] 7)) (Tl.setTop (mkF m 31 #[.val (.ref b), .val (.int (Int32.ofNat (o + i))), .val (.ref d), .val (.int (Int32.ofNat (q + i))), .val (.int (Int32.ofNat len)), .val (.int (Int32.ofNat i)), .val (.int (cv A (o + i)))] [.int (lo8 (cv A (o + i))), .int (Int32.ofNat (q + i)), .ref d])) := c5.trans (by
        refine XS.iload Xl.here hexec rfl (hb hbytes d15) rfl ?_
        refine sipushV Xl.here hexec rfl 255 (hb hbytes d17) (by decide) ?_
        refine XS.icmpYes Xl.here hexec rfl (pc0 := 20) rfl (hb hbytes d20) rfl (ii_le_t (hp i (by omega))) (by decide) rfl ?_
        refine XS.aloadN Xl.here hexec rfl (hb hbytes d26) rfl rfl ?_
        refine XS.iloadN Xl.here hexec rfl (hb hbytes d27) rfl ?_
        refine XS.iload Xl.here hexec rfl (hb hbytes d28) rfl ?_
        refine i2b Xl.here hexec rfl (hb hbytes d30) rfl ?_
        exact Steps.refl _)
      obtain ⟨T7, X7, p7, st7⟩ := Xl.aput hexec hBk rfl hlt rfl (fits_lo8 (cv A (o + i))) (g := (mkF m 31 #[.val (.ref b), .val (.int (Int32.ofNat (o + i))), .val (.ref d), .val (.int (Int32.ofNat (q + i))), .val (.int (Int32.ofNat len)), .val (.int (Int32.ofNat i)), .val (.int (cv A (o + i)))] [.int (lo8 (cv A (o + i))), .int (Int32.ofNat (q + i)), .ref d])) rfl (rest := []) rfl (hb hbytes d31)
      have c8 : Steps p.tables e below (s₁.setTop (entryFrame m #[.ref b, .int (Int32.ofNat o), .ref d, .int (Int32.ofNat q), .int (Int32.ofNat len)] 7)) (T7.setTop (mkF m 32 #[.val (.ref b), .val (.int (Int32.ofNat (o + i))), .val (.ref d), .val (.int (Int32.ofNat (q + i))), .val (.int (Int32.ofNat len)), .val (.int (Int32.ofNat i)), .val (.int (cv A (o + i)))] [])) := c6.trans (st7 _ (Steps.refl _))
      have c9 : Steps p.tables e below (s₁.setTop (entryFrame m #[.ref b, .int (Int32.ofNat o), .ref d, .int (Int32.ofNat q), .int (Int32.ofNat len)] 7)) (T7.setTop (mkF m 3 #[.val (.ref b), .val (.int (Int32.ofNat (o + i) + 1)), .val (.ref d), .val (.int (Int32.ofNat (q + i) + 1)), .val (.int (Int32.ofNat len)), .val (.int (Int32.ofNat i + 1)), .val (.int (cv A (o + i)))] [])) := c8.trans (by
        refine iincV X7.here hexec rfl 1 (hb hbytes d32) (by decide) rfl rfl ?_
        refine iincV X7.here hexec rfl 1 (hb hbytes d35) (by decide) rfl rfl ?_
        refine iincV X7.here hexec rfl 1 (hb hbytes d38) (by decide) rfl rfl ?_
        refine XS.goto X7.here hexec rfl (pc0 := 41) rfl (hb hbytes d41) (by decide) rfl ?_
        exact Steps.refl _)
      have c10 : Steps p.tables e below (s₁.setTop (entryFrame m #[.ref b, .int (Int32.ofNat o), .ref d, .int (Int32.ofNat q), .int (Int32.ofNat len)] 7)) (T7.setTop (mkF m 3 #[.val (.ref b), .val (.int (Int32.ofNat (o + (i + 1)))), .val (.ref d), .val (.int (Int32.ofNat (q + (i + 1)))), .val (.int (Int32.ofNat len)), .val (.int (Int32.ofNat (i + 1))), .val (.int (cv A (o + i)))] [])) := by
        have := c9
        rw [succ32, succ32, succ32] at this
        exact this
      exact ih (i + 1) (by omega) _ (Or.inr ⟨_, rfl, rfl⟩) T7 _ (by rw [copyLocs_step, ← List.append_assoc]; exact X7) (pl.trans p7) (fl.step (by omega) hlt (by simp)) c10
  obtain ⟨T9, B9, z9, X9, p9, f9, g9⟩ := loop len 0 (by omega) .unset (Or.inl rfl) s₁ B (by simpa [copyLocs] using X0) ⟨hB0.1, fun _ _ => rfl, rfl⟩ (Laid.zero _ _ _) c2
  have c11 : Steps p.tables e below (s₁.setTop (entryFrame m #[.ref b, .int (Int32.ofNat o), .ref d, .int (Int32.ofNat q), .int (Int32.ofNat len)] 7)) (T9.setTop (mkF m 46 #[.val (.ref b), .val (.int (Int32.ofNat (o + len))), .val (.ref d), .val (.int (Int32.ofNat (q + len))), .val (.int (Int32.ofNat len)), .val (.int (Int32.ofNat len)), z9] [.int (Int32.ofNat len)])) := g9.trans (by
    refine XS.iload X9.here hexec rfl (hb hbytes d3) rfl ?_
    refine XS.iload X9.here hexec rfl (hb hbytes d5) rfl ?_
    refine XS.icmpYes X9.here hexec rfl (pc0 := 7) rfl (hb hbytes d7) rfl (ii_ge_t (nlt32 (by omega) (Nat.le_refl _))) (by decide) rfl ?_
    refine XS.iload X9.here hexec rfl (hb hbytes d44) rfl ?_
    exact Steps.refl _)
  exact ⟨T9, some (.int (Int32.ofNat len)), _, _, _, X9, by simp, rfl, rfl, (fun h => by cases h), ⟨rfl, B9, p9.from hh0, f9⟩, fun fs hl => c11.trans (X9.ireturnOut hexec hret rfl (Or.inl rfl) (hb hbytes d46) hl)⟩
end Cmp5
namespace Cmp3
def yN : MethodName := ⟨"java/lang/StringUTF16", "compress", "([CII)[B"⟩
abbrev yB : ByteArray := jdk_52_method_16_code
theorem d0 : decode yB 0 = .ok (.iload_n 2, 1) := by decide +kernel
theorem d1 : decode yB 1 = .ok (.newarray .byte, 2) := by decide +kernel
theorem d3 : decode yB 3 = .ok (.astore_n 3, 1) := by decide +kernel
theorem d4 : decode yB 4 = .ok (.aload_n 0, 1) := by decide +kernel
theorem d5 : decode yB 5 = .ok (.iload_n 1, 1) := by decide +kernel
theorem d6 : decode yB 6 = .ok (.aload_n 3, 1) := by decide +kernel
theorem d7 : decode yB 7 = .ok (.iconst 0, 1) := by decide +kernel
theorem d8 : decode yB 8 = .ok (.iload_n 2, 1) := by decide +kernel
theorem d9 : decode yB 9 = .ok (.invokestatic 115, 3) := by decide +kernel
theorem d12 : decode yB 12 = .ok (.istore 4, 2) := by decide +kernel
theorem d14 : decode yB 14 = .ok (.iload 4, 2) := by decide +kernel
theorem d16 : decode yB 16 = .ok (.iload_n 2, 1) := by decide +kernel
theorem d17 : decode yB 17 = .ok (.if_icmp (.eq) 40, 3) := by decide +kernel
theorem d57 : decode yB 57 = .ok (.aload_n 3, 1) := by decide +kernel
theorem d58 : decode yB 58 = .ok (.areturn, 1) := by decide +kernel
def site : List Cond := [.arrayClass .byte, Cmp5.tab] ++ staticW U16 115 Cmp5.yN
def tab : Cond := tabOf yN yB 6 (some (.array .byte)) site
def P (b : Addr) (A : Cell) (o len : Nat) (args : Array Value) (s : State) : Prop := args = #[.ref b, .int (Int32.ofNat o), .int (Int32.ofNat len)] ∧ Ch b A s ∧ o + len ≤ A.slots.size ∧ len ≤ 536870912 ∧ ∀ i, i < len → ¬ 255 < cv A (o + i)
def E (b : Addr) (A : Cell) (o len : Nat) (r : Option Value) (s u : State) : Prop := NewArr .byte "[B" len (fun j => .int (lo8 (cv A (o + j)))) r s u ∧ u.heap.size = s.heap.size + 1
/-- no char of the range above 255: a new byte[] of their low bytes -/
theorem law (l : Launch) (b : Addr) (A : Cell) (o len : Nat) : Law l yN 3 3 1 18 yB 6 (some (.array .byte)) site (P b A o len) (E b A o len) [] 1 len := by
  refine Law.of_walk (plainFor_of_name (by decide +kernel)) (by decide +kernel) (by decide +kernel) (by decide) (fun _ _ h => by rw [h.1]; rfl) (fun _ U U' hal hh h => ⟨h.1, h.2.1.mv hal hh, h.2.2⟩) (fun r U U' V V' h1 hal h2 h => ⟨NewArr.mv r U U' V V' h1 hal h2 h.1, by rw [h1, h2]; exact h.2⟩) ?_
  intro p e s m args below meth c s₁ X0 hexec hbytes hml hret hlk hnm hown hh0 W hP
  obtain ⟨rfl, hA, l1, l2, hp⟩ := hP
  have a31 := hA.1.2.2.2
  have c1 : Steps p.tables e below (s₁.setTop (entryFrame m #[.ref b, .int (Int32.ofNat o), .int (Int32.ofNat len)] 6)) (s₁.setTop (mkF m 0 #[.val (.ref b), .val (.int (Int32.ofNat o)), .val (.int (Int32.ofNat len)), .unset, .unset, .unset] [])) := entry rfl
  have c2 : Steps p.tables e below (s₁.setTop (entryFrame m #[.ref b, .int (Int32.ofNat o), .int (Int32.ofNat len)] 6)) (s₁.setTop (mkF m 1 #[.val (.ref b), .val (.int (Int32.ofNat o)), .val (.int (Int32.ofNat len)), .unset, .unset, .unset] [.int (Int32.ofNat len)])) := c1.trans (by
    refine XS.iloadN X0.here hexec rfl (hb hbytes d0) rfl ?_
    exact Steps.refl _)
  obtain ⟨T3, B3, X3, ba3, bs3, bv3, bh3, bf3, st3⟩ := X0.anew hexec (atype := .byte) (wk W (.arrayClass .byte)) rfl (by show len * 1 ≤ _; omega) (by omega) (g := (mkF m 1 #[.val (.ref b), .val (.int (Int32.ofNat o)), .val (.int (Int32.ofNat len)), .unset, .unset, .unset] [.int (Int32.ofNat len)])) rfl (hb hbytes d1) (rest := []) rfl (Nat.le_refl _) (by show 0 + len ≤ len; omega)
  rw [hh0] at ba3 st3
  have kp3 : XT.Kept s T3 := (XT.Kept.of_eq hh0).push bh3
  have hA3 := hA.keep X3.warmed.alike (kp3 _ _ hA.1.1)
  have hne : b ≠ s.heap.size := hA.1.ne
  have c4 : Steps p.tables e below (s₁.setTop (entryFrame m #[.ref b, .int (Int32.ofNat o), .int (Int32.ofNat len)] 6)) (T3.setTop (mkF m 3 #[.val (.ref b), .val (.int (Int32.ofNat o)), .val (.int (Int32.ofNat len)), .unset, .unset, .unset] [.ref s.heap.size])) := c2.trans (st3 _ (Steps.refl _))
  have c5 : Steps p.tables e below (s₁.setTop (entryFrame m #[.ref b, .int (Int32.ofNat o), .int (Int32.ofNat len)] 6)) (T3.setTop (mkF m 9 #[.val (.ref b), .val (.int (Int32.ofNat o)), .val (.int (Int32.ofNat len)), .val (.ref s.heap.size), .unset, .unset] [.int (Int32.ofNat len), .int 0, .ref s.heap.size, .int (Int32.ofNat o), .ref b])) := c4.trans (by
    refine XS.astoreN X3.here hexec rfl (hb hbytes d3) rfl rfl rfl ?_
    refine XS.aloadN X3.here hexec rfl (hb hbytes d4) rfl rfl ?_
    refine XS.iloadN X3.here hexec rfl (hb hbytes d5) rfl ?_
    refine XS.aloadN X3.here hexec rfl (hb hbytes d6) rfl rfl ?_
    refine iconstV X3.here hexec rfl 0 (hb hbytes d7) (by decide) ?_
    refine XS.iloadN X3.here hexec rfl (hb hbytes d8) rfl ?_
    exact Steps.refl _)
  obtain ⟨v6, T6, X6, E6, g6⟩ := X3.callS hexec (Cmp5.law l b A s.heap.size B3 o 0 len) hown (wks W (staticW U16 115 Cmp5.yN)) (wk W Cmp5.tab) (W := 0) (Nat.le_of_ble_eq_true rfl) (Nat.le_of_ble_eq_true rfl) (Nat.le_refl _) (by show 0 + len + 0 ≤ len; omega) (g := (mkF m 9 #[.val (.ref b), .val (.int (Int32.ofNat o)), .val (.int (Int32.ofNat len)), .val (.ref s.heap.size), .unset, .unset] [.int (Int32.ofNat len), .int (Int32.ofNat 0), .ref s.heap.size, .int (Int32.ofNat o), .ref b])) rfl (by rw [hml]; rfl) c5 (argsL := [.ref b, .int (Int32.ofNat o), .ref s.heap.size, .int (Int32.ofNat 0), .int (Int32.ofNat len)]) (rest := []) rfl rfl (by show 2 * 0 + 0 ≤ _; decide) (hb hbytes d9) (⟨rfl, hA3, ba3, hne, l1, by rw [bs3]; simp, hp⟩)
  obtain ⟨rfl, B6, p6, f6⟩ := E6
  have c7 : Steps p.tables e below (s₁.setTop (entryFrame m #[.ref b, .int (Int32.ofNat o), .int (Int32.ofNat len)] 6)) (T6.setTop (mkF m 12 #[.val (.ref b), .val (.int (Int32.ofNat o)), .val (.int (Int32.ofNat len)), .val (.ref s.heap.size), .unset, .unset] [.int (Int32.ofNat len)])) := g6
  have c8 : Steps p.tables e below (s₁.setTop (entryFrame m #[.ref b, .int (Int32.ofNat o), .int (Int32.ofNat len)] 6)) (T6.setTop (mkF m 58 #[.val (.ref b), .val (.int (Int32.ofNat o)), .val (.int (Int32.ofNat len)), .val (.ref s.heap.size), .val (.int (Int32.ofNat len)), .unset] [.ref s.heap.size])) := c7.trans (by
    refine XS.istore X6.here hexec rfl (hb hbytes d12) rfl rfl ?_
    refine XS.iload X6.here hexec rfl (hb hbytes d14) rfl ?_
    refine XS.iloadN X6.here hexec rfl (hb hbytes d16) rfl ?_
    refine XS.icmpYes X6.here hexec rfl (pc0 := 17) rfl (hb hbytes d17) rfl (ii_eq_t rfl) (by decide) rfl ?_
    refine XS.aloadN X6.here hexec rfl (hb hbytes d57) rfl rfl ?_
    exact Steps.refl _)
  have X8 := X6.wide (L' := []) (cells' := 1) (slots' := len) (fun x hx hlt => by
    simp only [List.nil_append, copyLocs, List.mem_map, List.mem_range] at hx
    obtain ⟨i, -, rfl⟩ := hx
    exact absurd hlt (Nat.lt_irrefl _)) (Nat.le_refl _) (by omega)
  exact ⟨T6, some (.ref s.heap.size), _, _, _, X8, rfl, rfl, rfl, (fun h => by cases h), ⟨⟨rfl, B6, ba3.like (X3.warmed.alike.symm.trans X6.warmed.alike) p6.1 f6.1 f6.2.1 f6.2.2.1, f6.2.1.trans bv3, by rw [X6.warmed.alike.findClass, f6.1]; exact bf3, by rw [f6.2.2.1, bs3]; simp, fun j hj => by rw [f6.2.2.2 j, if_pos (by omega)]; rfl, kp3.put p6 (Nat.le_refl _)⟩, by rw [p6.2.2, bh3, hh0]; simp⟩, fun fs hl => c8.trans (X8.areturnOut hexec rfl hret rfl (hb hbytes d58) hl)⟩
end Cmp3
namespace CodL
def yN : MethodName := ⟨"java/lang/StringUTF16", "coderFromArrayLen", "([BI)B"⟩
abbrev yB : ByteArray := jdk_52_method_15_code
theorem d0 : decode yB 0 = .ok (.iload_n 1, 1) := by decide +kernel
theorem d1 : decode yB 1 = .ok (.aload_n 0, 1) := by decide +kernel
theorem d2 : decode yB 2 = .ok (.arraylength, 1) := by decide +kernel
theorem d3 : decode yB 3 = .ok (.isub, 1) := by decide +kernel
theorem d4 : decode yB 4 = .ok (.bipush 31, 2) := by decide +kernel
theorem d6 : decode yB 6 = .ok (.iushr, 1) := by decide +kernel
theorem d7 : decode yB 7 = .ok (.i2b, 1) := by decide +kernel
theorem d8 : decode yB 8 = .ok (.ireturn, 1) := by decide +kernel
def site : List Cond := []
def tab : Cond := tabOf yN yB 2 (some .byte) site
def P (d : Addr) (B : Cell) (args : Array Value) (s : State) : Prop := args = #[.ref d, .int (Int32.ofNat B.slots.size)] ∧ Arr .byte d B s
def E (r : Option Value) (s u : State) : Prop := XT.PureE (some (.int 0)) r s u
/-- an array as long as the number of chars: LATIN1 -/
theorem law (l : Launch) (d : Addr) (B : Cell) : Law l yN 2 2 0 0 yB 2 (some .byte) site (P d B) E [] 0 0 := by
  refine Law.of_walk (plainFor_of_name (by decide +kernel)) (by decide +kernel) (by decide +kernel) (by decide) (fun _ _ h => by rw [h.1]; rfl) (fun _ U U' hal hh h => ⟨h.1, h.2.mv hal hh⟩) (fun r U U' V V' h1 hal h2 h => XT.PureE.mv r U U' V V' h1 hal h2 h) ?_
  intro p e s m args below meth c s₁ X0 hexec hbytes hml hret hlk hnm hown hh0 W hP
  obtain ⟨rfl, hB⟩ := hP
  have hB0 := hB.mv X0.warmed.alike hh0
  have c1 : Steps p.tables e below (s₁.setTop (entryFrame m #[.ref d, .int (Int32.ofNat B.slots.size)] 2)) (s₁.setTop (mkF m 0 #[.val (.ref d), .val (.int (Int32.ofNat B.slots.size))] [])) := entry rfl
  have c2 : Steps p.tables e below (s₁.setTop (entryFrame m #[.ref d, .int (Int32.ofNat B.slots.size)] 2)) (s₁.setTop (mkF m 2 #[.val (.ref d), .val (.int (Int32.ofNat B.slots.size))] [.ref d, .int (Int32.ofNat B.slots.size)])) := c1.trans (by
    refine XS.iloadN X0.here hexec rfl (hb hbytes d0) rfl ?_
    refine XS.aloadN X0.here hexec rfl (hb hbytes d1) rfl rfl ?_
    exact Steps.refl _)
  have c3 : Steps p.tables e below (s₁.setTop (entryFrame m #[.ref d, .int (Int32.ofNat B.slots.size)] 2)) (s₁.setTop (mkF m 8 #[.val (.ref d), .val (.int (Int32.ofNat B.slots.size))] [.int (lo8 (ushr (Int32.ofNat B.slots.size - Int32.ofNat B.slots.size) 31))])) := c2.trans (by
    refine X0.alen hexec hB0 rfl rfl (hb hbytes d2) ?_
    refine XS.isub X0.here hexec rfl (hb hbytes d3) rfl ?_
    refine bipushV X0.here hexec rfl 31 (hb hbytes d4) (by decide) ?_
    refine iushr X0.here hexec rfl (hb hbytes d6) rfl ?_
    refine i2b X0.here hexec rfl (hb hbytes d7) rfl ?_
    exact Steps.refl _)
  have e0 : lo8 (ushr (Int32.ofNat B.slots.size - Int32.ofNat B.slots.size) 31) = 0 := by rw [Int32.sub_self]; decide
  rw [e0] at c3
  exact ⟨s₁, some (.int 0), _, _, _, X0, rfl, rfl, rfl, (fun h => by cases h), ⟨rfl, hh0⟩, fun fs hl => c3.trans (X0.ireturnOut hexec hret rfl (Or.inr (Or.inr (Or.inl rfl))) (hb hbytes d8) hl)⟩
end CodL
/-- the String at a is Latin-1 over a new byte[] (the heap's one new cell): the low bytes of the len chars of A from o on; every cell but a is kept -/
def Got (a : Addr) (D : Cell) (fV fC : Field) (A : Cell) (o len : Nat) (r : Option Value) (s u : State) : Prop := r = none ∧ ∃ D' V : Cell, Blank "java/lang/String" a D' u ∧ Same D D' [fV.slot, fC.slot] ∧ D'.slots[fV.slot]? = some (.ref s.heap.size) ∧ D'.slots[fC.slot]? = some (.int 0) ∧ Arr .byte s.heap.size V u ∧ V.vm = .none ∧ u.vm.findClass "[B" = some V.cls ∧ V.slots.size = len ∧ (∀ j, j < len → V.slots[j]? = some (.int (lo8 (cv A (o + j))))) ∧ (∀ (y : Addr) (c : Cell), y ≠ a → s.heap[y]? = some c → u.heap[y]? = some c) ∧ u.heap.size = s.heap.size + 1
theorem Got.mv {a : Addr} {D A : Cell} {fV fC : Field} {o len : Nat} : ∀ r (U U' V V' : State), U'.heap = U.heap → V.vm.Alike V'.vm → V'.heap = V.heap → Got a D fV fC A o len r U V → Got a D fV fC A o len r U' V' :=
  fun r U U' V V' h1 hal h2 ⟨e0, D', X, a1, a2, a3, a4, a5, a6, a7, a8, a9, a10, a11⟩ => ⟨e0, D', X, a1.mv hal h2, a2, by rw [h1]; exact a3, a4, by rw [h1]; exact a5.mv hal h2, a6, by rw [hal.findClass]; exact a7, a8, a9, by rw [h1, h2]; exact a10, by rw [h1, h2]; exact a11⟩
namespace New4
def yN : MethodName := ⟨"java/lang/String", "<init>", "([CIILjava/lang/Void;)V"⟩
abbrev yB : ByteArray := jdk_42_method_149_code
theorem d0 : decode yB 0 = .ok (.aload_n 0, 1) := by decide +kernel
theorem d1 : decode yB 1 = .ok (.invokespecial 1, 3) := by decide +kernel
theorem d4 : decode yB 4 = .ok (.iload_n 3, 1) := by decide +kernel
theorem d5 : decode yB 5 = .ok (.ifCond (.ne) 22, 3) := by decide +kernel
theorem d27 : decode yB 27 = .ok (.getstatic 38, 3) := by decide +kernel
theorem d30 : decode yB 30 = .ok (.ifCond (.eq) 28, 3) := by decide +kernel
theorem d33 : decode yB 33 = .ok (.aload_n 1, 1) := by decide +kernel
theorem d34 : decode yB 34 = .ok (.iload_n 2, 1) := by decide +kernel
theorem d35 : decode yB 35 = .ok (.iload_n 3, 1) := by decide +kernel
theorem d36 : decode yB 36 = .ok (.invokestatic 177, 3) := by decide +kernel
theorem d39 : decode yB 39 = .ok (.astore 5, 2) := by decide +kernel
theorem d41 : decode yB 41 = .ok (.aload_n 0, 1) := by decide +kernel
theorem d42 : decode yB 42 = .ok (.aload 5, 2) := by decide +kernel
theorem d44 : decode yB 44 = .ok (.iload_n 3, 1) := by decide +kernel
theorem d45 : decode yB 45 = .ok (.invokestatic 47, 3) := by decide +kernel
theorem d48 : decode yB 48 = .ok (.putfield 15, 3) := by decide +kernel
theorem d51 : decode yB 51 = .ok (.aload_n 0, 1) := by decide +kernel
theorem d52 : decode yB 52 = .ok (.aload 5, 2) := by decide +kernel
theorem d54 : decode yB 54 = .ok (.putfield 9, 3) := by decide +kernel
theorem d57 : decode yB 57 = .ok (.return_, 1) := by decide +kernel
def site : List Cond := [.fieldLink "java/lang/String" 38 "java/lang/String" "COMPACT_STRINGS" "Z", Cmp3.tab, CodL.tab, .laysFinal "java/lang/String" "java/lang/String" "value" "[B", .fieldLink "java/lang/String" 9 "java/lang/String" "value" "[B", .laysFinal "java/lang/String" "java/lang/String" "coder" "B", .fieldLink "java/lang/String" 15 "java/lang/String" "coder" "B"] ++ objW "java/lang/String" 1 ++ staticW "java/lang/String" 177 Cmp3.yN ++ staticW "java/lang/String" 47 CodL.yN
def tab : Cond := tabOf yN yB 6 none site
def P (a : Addr) (D : Cell) (fV fC : Field) (b : Addr) (A : Cell) (z : Int32) (o len : Nat) (args : Array Value) (s : State) : Prop := args = #[.ref a, .ref b, .int (Int32.ofNat o), .int (Int32.ofNat len), .null] ∧ Blank "java/lang/String" a D s ∧ Found "java/lang/String" "value" "[B" fV s ∧ Found "java/lang/String" "coder" "B" fC s ∧ Ch b A s ∧ StaticIs s "java/lang/String" "COMPACT_STRINGS" "Z" (.int z) ∧ ¬ z = 0 ∧ 0 < len ∧ o + len ≤ A.slots.size ∧ len ≤ 536870912 ∧ ∀ i, i < len → ¬ 255 < cv A (o + i)
def E (a : Addr) (D : Cell) (fV fC : Field) (A : Cell) (o len : Nat) (r : Option Value) (s u : State) : Prop := Got a D fV fC A o len r s u
/-- len > 0, no char of the range above 255: a Latin-1 String of their low bytes -/
theorem law (l : Launch) (a : Addr) (D : Cell) (fV fC : Field) (b : Addr) (A : Cell) (z : Int32) (o len : Nat) : Law l yN 5 4 2 35 yB 6 none site (P a D fV fC b A z o len) (E a D fV fC A o len) [⟨a, fC.slot⟩, ⟨a, fV.slot⟩] 1 len := by
  refine Law.of_walk (plainFor_of_name (by decide +kernel)) (by decide +kernel) (by decide +kernel) (by decide) (fun _ _ h => by rw [h.1]; rfl) (fun _ U U' hal hh h => ⟨h.1, h.2.1.mv hal hh, h.2.2.1.al hal, h.2.2.2.1.al hal, h.2.2.2.2.1.mv hal hh, h.2.2.2.2.2.1.there hal hh, h.2.2.2.2.2.2⟩) (fun r U U' V V' h1 hal h2 h => Got.mv r U U' V V' h1 hal h2 h) ?_
  intro p e s m args below meth c s₁ X0 hexec hbytes hml hret hlk hnm hown hh0 W hP
  obtain ⟨rfl, hB, f1, f2, hA, s1, hz, l0, l1, l2, hp⟩ := hP
  have a31 := hA.1.2.2.2
  have c1 : Steps p.tables e below (s₁.setTop (entryFrame m #[.ref a, .ref b, .int (Int32.ofNat o), .int (Int32.ofNat len), .null] 6)) (s₁.setTop (mkF m 0 #[.val (.ref a), .val (.ref b), .val (.int (Int32.ofNat o)), .val (.int (Int32.ofNat len)), .val .null, .unset] [])) := entry rfl
  have c2 : Steps p.tables e below (s₁.setTop (entryFrame m #[.ref a, .ref b, .int (Int32.ofNat o), .int (Int32.ofNat len), .null] 6)) (s₁.setTop (mkF m 1 #[.val (.ref a), .val (.ref b), .val (.int (Int32.ofNat o)), .val (.int (Int32.ofNat len)), .val .null, .unset] [.ref a])) := c1.trans (by
    refine XS.aloadN X0.here hexec rfl (hb hbytes d0) rfl rfl ?_
    exact Steps.refl _)
  obtain ⟨T3, X3, q3, st3⟩ := X0.oinit hexec hown (wks W (objW "java/lang/String" 1)) (g := (mkF m 1 #[.val (.ref a), .val (.ref b), .val (.int (Int32.ofNat o)), .val (.int (Int32.ofNat len)), .val .null, .unset] [.ref a])) rfl (by rw [hml]; rfl) (rest := []) rfl (hb hbytes d1) (W := 0) (by show 2 * 0 + 0 ≤ _; decide) (Nat.le_of_ble_eq_true rfl) (Nat.le_of_ble_eq_true rfl)
  have hh3 := q3.trans hh0
  have c4 : Steps p.tables e below (s₁.setTop (entryFrame m #[.ref a, .ref b, .int (Int32.ofNat o), .int (Int32.ofNat len), .null] 6)) (T3.setTop (mkF m 27 #[.val (.ref a), .val (.ref b), .val (.int (Int32.ofNat o)), .val (.int (Int32.ofNat len)), .val .null, .unset] [])) := (c2.trans (st3 _ (Steps.refl _))).trans (by
    refine XS.iloadN X3.here hexec rfl (hb hbytes d4) rfl ?_
    refine XS.ifYes X3.here hexec rfl (pc0 := 5) rfl (hb hbytes d5) rfl (i0_ne_t (nz32 (by omega) l0)) (by decide) rfl ?_
    exact Steps.refl _)
  obtain ⟨T5, X5, q5, st5⟩ := X3.sget hexec hown (wk W (.fieldLink "java/lang/String" 38 "java/lang/String" "COMPACT_STRINGS" "Z")) s1 (fun _ _ h => by rw [hh3]; exact h) (g := (mkF m 27 #[.val (.ref a), .val (.ref b), .val (.int (Int32.ofNat o)), .val (.int (Int32.ofNat len)), .val .null, .unset] [])) rfl (hb hbytes d27)
  have hh5 := q5.trans hh3
  have c6 : Steps p.tables e below (s₁.setTop (entryFrame m #[.ref a, .ref b, .int (Int32.ofNat o), .int (Int32.ofNat len), .null] 6)) (T5.setTop (mkF m 30 #[.val (.ref a), .val (.ref b), .val (.int (Int32.ofNat o)), .val (.int (Int32.ofNat len)), .val .null, .unset] [.int z])) := c4.trans (st5 _ (Steps.refl _))
  have c7 : Steps p.tables e below (s₁.setTop (entryFrame m #[.ref a, .ref b, .int (Int32.ofNat o), .int (Int32.ofNat len), .null] 6)) (T5.setTop (mkF m 36 #[.val (.ref a), .val (.ref b), .val (.int (Int32.ofNat o)), .val (.int (Int32.ofNat len)), .val .null, .unset] [.int (Int32.ofNat len), .int (Int32.ofNat o), .ref b])) := c6.trans (by
    refine XS.ifNo X5.here hexec rfl (hb hbytes d30) rfl (i0_eq_f hz) ?_
    refine XS.aloadN X5.here hexec rfl (hb hbytes d33) rfl rfl ?_
    refine XS.iloadN X5.here hexec rfl (hb hbytes d34) rfl ?_
    refine XS.iloadN X5.here hexec rfl (hb hbytes d35) rfl ?_
    exact Steps.refl _)
  obtain ⟨v8, T8, X8, E8, g8⟩ := X5.callS hexec (Cmp3.law l b A o len) hown (wks W (staticW "java/lang/String" 177 Cmp3.yN)) (wk W Cmp3.tab) (W := 0) (Nat.le_of_ble_eq_true rfl) (Nat.le_of_ble_eq_true rfl) (Nat.le_refl _) (by show 0 + len ≤ len; omega) (g := (mkF m 36 #[.val (.ref a), .val (.ref b), .val (.int (Int32.ofNat o)), .val (.int (Int32.ofNat len)), .val .null, .unset] [.int (Int32.ofNat len), .int (Int32.ofNat o), .ref b])) rfl (by rw [hml]; rfl) c7 (argsL := [.ref b, .int (Int32.ofNat o), .int (Int32.ofNat len)]) (rest := []) rfl rfl (by show 2 * 0 + 0 ≤ _; decide) (hb hbytes d36) (⟨rfl, hA.mv X5.warmed.alike hh5, l1, l2, hp⟩)
  obtain ⟨e8, z8⟩ := E8
  obtain ⟨rfl, N, n1, n2, n3, n4, n5, n6⟩ := NewArr.mv _ T5 s _ _ hh5.symm (Vm.Alike.refl _) rfl e8
  rw [hh5] at z8
  have hB1 := hB.keep X8.warmed.alike (n6 _ _ hB.1)
  have hne : s.heap.size ≠ a := (Nat.ne_of_lt (Array.getElem?_eq_some_iff.mp hB.1).1).symm
  have c9 : Steps p.tables e below (s₁.setTop (entryFrame m #[.ref a, .ref b, .int (Int32.ofNat o), .int (Int32.ofNat len), .null] 6)) (T8.setTop (mkF m 39 #[.val (.ref a), .val (.ref b), .val (.int (Int32.ofNat o)), .val (.int (Int32.ofNat len)), .val .null, .unset] [.ref s.heap.size])) := g8
  have c10 : Steps p.tables e below (s₁.setTop (entryFrame m #[.ref a, .ref b, .int (Int32.ofNat o), .int (Int32.ofNat len), .null] 6)) (T8.setTop (mkF m 45 #[.val (.ref a), .val (.ref b), .val (.int (Int32.ofNat o)), .val (.int (Int32.ofNat len)), .val .null, .val (.ref s.heap.size)] [.int (Int32.ofNat N.slots.size), .ref s.heap.size, .ref a])) := by
    have hc : Steps p.tables e below (s₁.setTop (entryFrame m #[.ref a, .ref b, .int (Int32.ofNat o), .int (Int32.ofNat len), .null] 6)) (T8.setTop (mkF m 45 #[.val (.ref a), .val (.ref b), .val (.int (Int32.ofNat o)), .val (.int (Int32.ofNat len)), .val .null, .val (.ref s.heap.size)] [.int (Int32.ofNat len), .ref s.heap.size, .ref a])) := c9.trans (by
      refine XS.astore X8.here hexec rfl (hb hbytes d39) rfl rfl rfl ?_
      refine XS.aloadN X8.here hexec rfl (hb hbytes d41) rfl rfl ?_
      refine XS.aload X8.here hexec rfl (hb hbytes d42) rfl rfl ?_
      refine XS.iloadN X8.here hexec rfl (hb hbytes d44) rfl ?_
      exact Steps.refl _)
    rw [n4]; exact hc
  obtain ⟨v11, T11, X11, E11, g11⟩ := X8.callS hexec (CodL.law l s.heap.size N) hown (wks W (staticW "java/lang/String" 47 CodL.yN)) (wk W CodL.tab) (W := 1) (Nat.le_of_ble_eq_true rfl) (Nat.le_of_ble_eq_true rfl) (Nat.le_refl _) (by show 0 + len + 0 ≤ len; omega) (g := (mkF m 45 #[.val (.ref a), .val (.ref b), .val (.int (Int32.ofNat o)), .val (.int (Int32.ofNat len)), .val .null, .val (.ref s.heap.size)] [.int (Int32.ofNat N.slots.size), .ref s.heap.size, .ref a])) rfl (by rw [hml]; rfl) c10 (argsL := [.ref s.heap.size, .int (Int32.ofNat N.slots.size)]) (rest := [.ref a]) rfl rfl (by show 2 * 0 + (1 + 0) ≤ _; decide) (hb hbytes d45) (⟨rfl, n1⟩)
  obtain ⟨rfl, q11⟩ := E11
  have hB11 := hB1.mv (X8.warmed.alike.symm.trans X11.warmed.alike) q11
  have c12 : Steps p.tables e below (s₁.setTop (entryFrame m #[.ref a, .ref b, .int (Int32.ofNat o), .int (Int32.ofNat len), .null] 6)) (T11.setTop (mkF m 48 #[.val (.ref a), .val (.ref b), .val (.int (Int32.ofNat o)), .val (.int (Int32.ofNat len)), .val .null, .val (.ref s.heap.size)] [.int 0, .ref a])) := g11
  obtain ⟨T13, X13, p13, bl13, sl13, st13⟩ := X11.finit hexec hown (wk W (.fieldLink "java/lang/String" 15 "java/lang/String" "coder" "B")) (Or.inr ⟨_, (wk W (.laysFinal "java/lang/String" "java/lang/String" "coder" "B"))⟩) (Or.inl ⟨rfl, hnm⟩) f2 (Or.inl rfl) hB11 (t := .byte) (by decide +kernel) rfl (g := (mkF m 48 #[.val (.ref a), .val (.ref b), .val (.int (Int32.ofNat o)), .val (.int (Int32.ofNat len)), .val .null, .val (.ref s.heap.size)] [.int 0, .ref a])) rfl (rest := []) rfl (hb hbytes d48)
  have c14 : Steps p.tables e below (s₁.setTop (entryFrame m #[.ref a, .ref b, .int (Int32.ofNat o), .int (Int32.ofNat len), .null] 6)) (T13.setTop (mkF m 54 #[.val (.ref a), .val (.ref b), .val (.int (Int32.ofNat o)), .val (.int (Int32.ofNat len)), .val .null, .val (.ref s.heap.size)] [.ref s.heap.size, .ref a])) := (c12.trans (st13 _ (Steps.refl _))).trans (by
    refine XS.aloadN X13.here hexec rfl (hb hbytes d51) rfl rfl ?_
    refine XS.aload X13.here hexec rfl (hb hbytes d52) rfl rfl ?_
    exact Steps.refl _)
  obtain ⟨T15, X15, p15, bl15, sl15, st15⟩ := X13.finit hexec hown (wk W (.fieldLink "java/lang/String" 9 "java/lang/String" "value" "[B")) (Or.inr ⟨_, (wk W (.laysFinal "java/lang/String" "java/lang/String" "value" "[B"))⟩) (Or.inl ⟨rfl, hnm⟩) f1 (Or.inl rfl) bl13 (t := (.array .byte)) (by decide +kernel) rfl (g := (mkF m 54 #[.val (.ref a), .val (.ref b), .val (.int (Int32.ofNat o)), .val (.int (Int32.ofNat len)), .val .null, .val (.ref s.heap.size)] [.ref s.heap.size, .ref a])) rfl (rest := []) rfl (hb hbytes d54)
  have c16 : Steps p.tables e below (s₁.setTop (entryFrame m #[.ref a, .ref b, .int (Int32.ofNat o), .int (Int32.ofNat len), .null] 6)) (T15.setTop (mkF m 57 #[.val (.ref a), .val (.ref b), .val (.int (Int32.ofNat o)), .val (.int (Int32.ofNat len)), .val .null, .val (.ref s.heap.size)] [])) := c14.trans (st15 _ (Steps.refl _))
  have ap := apart (Or.inr ⟨_, (wk W (.laysFinal "java/lang/String" "java/lang/String" "value" "[B"))⟩) (Or.inr ⟨_, (wk W (.laysFinal "java/lang/String" "java/lang/String" "coder" "B"))⟩) f1 f2 (t₁ := .array .byte) (t₂ := .byte) (by decide +kernel) (by decide +kernel) (by decide)
  have al := X8.warmed.alike.symm.trans X15.warmed.alike
  have n7 : T11.heap[s.heap.size]? = some N := by rw [q11]; exact n1.1
  exact ⟨T15, none, _, _, _, X15, by simp, rfl, by omega, (fun _ => rfl), ⟨rfl, _, N, bl15, ((Same.refl D _).set _ (by simp)).set _ (by simp), sl15, (Cell.slots_setSlot_ne _ ap).trans sl13, n1.keep al (p15.other hne (p13.other hne n7)), n2, by rw [al.findClass]; exact n3, n4, n5, fun y c h1 h2 => p15.other h1 (p13.other h1 (by rw [q11]; exact n6 y c h2)), by rw [p15.2.2, p13.2.2, q11]; exact z8⟩, fun fs hl => c16.trans (X15.returnOut hexec hret (hb hbytes d57) hl)⟩
end New4
namespace New1
def yN : MethodName := ⟨"java/lang/String", "<init>", "([C)V"⟩
abbrev yB : ByteArray := jdk_42_method_3_code
theorem d0 : decode yB 0 = .ok (.aload_n 0, 1) := by decide +kernel
theorem d1 : decode yB 1 = .ok (.aload_n 1, 1) := by decide +kernel
theorem d2 : decode yB 2 = .ok (.iconst 0, 1) := by decide +kernel
theorem d3 : decode yB 3 = .ok (.aload_n 1, 1) := by decide +kernel
theorem d4 : decode yB 4 = .ok (.arraylength, 1) := by decide +kernel
theorem d5 : decode yB 5 = .ok (.aconst_null, 1) := by decide +kernel
theorem d6 : decode yB 6 = .ok (.invokespecial 27, 3) := by decide +kernel
theorem d9 : decode yB 9 = .ok (.return_, 1) := by decide +kernel
def site : List Cond := [New4.tab] ++ initW "java/lang/String" 27 New4.yN
def tab : Cond := tabOf yN yB 2 none site
def P (a : Addr) (D : Cell) (fV fC : Field) (b : Addr) (A : Cell) (z : Int32) (args : Array Value) (s : State) : Prop := args = #[.ref a, .ref b] ∧ Blank "java/lang/String" a D s ∧ Found "java/lang/String" "value" "[B" fV s ∧ Found "java/lang/String" "coder" "B" fC s ∧ Ch b A s ∧ StaticIs s "java/lang/String" "COMPACT_STRINGS" "Z" (.int z) ∧ ¬ z = 0 ∧ 0 < A.slots.size ∧ A.slots.size ≤ 536870912 ∧ ∀ i, i < A.slots.size → ¬ 255 < cv A i
def E (a : Addr) (D : Cell) (fV fC : Field) (A : Cell) (r : Option Value) (s u : State) : Prop := Got a D fV fC A 0 A.slots.size r s u
/-- new String(chars), not empty, no char above 255: a Latin-1 String of their low bytes -/
theorem law (l : Launch) (a : Addr) (D : Cell) (fV fC : Field) (b : Addr) (A : Cell) (z : Int32) : Law l yN 2 1 3 52 yB 2 none site (P a D fV fC b A z) (E a D fV fC A) [⟨a, fC.slot⟩, ⟨a, fV.slot⟩] 1 A.slots.size := by
  refine Law.of_walk (plainFor_of_name (by decide +kernel)) (by decide +kernel) (by decide +kernel) (by decide) (fun _ _ h => by rw [h.1]; rfl) (fun _ U U' hal hh h => ⟨h.1, h.2.1.mv hal hh, h.2.2.1.al hal, h.2.2.2.1.al hal, h.2.2.2.2.1.mv hal hh, h.2.2.2.2.2.1.there hal hh, h.2.2.2.2.2.2⟩) (fun r U U' V V' h1 hal h2 h => Got.mv r U U' V V' h1 hal h2 h) ?_
  intro p e s m args below meth c s₁ X0 hexec hbytes hml hret hlk hnm hown hh0 W hP
  obtain ⟨rfl, hB, f1, f2, hA, s1, hz, l0, l2, hp⟩ := hP
  have c1 : Steps p.tables e below (s₁.setTop (entryFrame m #[.ref a, .ref b] 2)) (s₁.setTop (mkF m 0 #[.val (.ref a), .val (.ref b)] [])) := entry rfl
  have c2 : Steps p.tables e below (s₁.setTop (entryFrame m #[.ref a, .ref b] 2)) (s₁.setTop (mkF m 6 #[.val (.ref a), .val (.ref b)] [.null, .int (Int32.ofNat A.slots.size), .int 0, .ref b, .ref a])) := c1.trans (by
    refine XS.aloadN X0.here hexec rfl (hb hbytes d0) rfl rfl ?_
    refine XS.aloadN X0.here hexec rfl (hb hbytes d1) rfl rfl ?_
    refine iconstV X0.here hexec rfl 0 (hb hbytes d2) (by decide) ?_
    refine XS.aloadN X0.here hexec rfl (hb hbytes d3) rfl rfl ?_
    refine X0.alen hexec (hA.1.mv X0.warmed.alike hh0) rfl rfl (hb hbytes d4) ?_
    refine XS.aconstNull X0.here hexec rfl (hb hbytes d5) ?_
    exact Steps.refl _)
  obtain ⟨v3, T3, X3, E3, g3⟩ := X0.callN hexec (New4.law l a D fV fC b A z 0 A.slots.size) rfl hown (wks W (initW "java/lang/String" 27 New4.yN)) (W New4.tab (by simp only [site, List.mem_cons, List.mem_append, true_or, or_true])) (W := 0) (Nat.le_of_ble_eq_true rfl) (Nat.le_of_ble_eq_true rfl) (Nat.le_refl _) (by show 0 + A.slots.size ≤ A.slots.size; omega) (g := (mkF m 6 #[.val (.ref a), .val (.ref b)] [.null, .int (Int32.ofNat A.slots.size), .int (Int32.ofNat 0), .ref b, .ref a])) rfl (by rw [hml]; rfl) c2 (argsL := [.ref b, .int (Int32.ofNat 0), .int (Int32.ofNat A.slots.size), .null]) (rest := []) rfl rfl (by show 2 * 0 + 0 ≤ _; decide) (hb hbytes d6) (⟨rfl, hB.mv X0.warmed.alike hh0, f1.al X0.warmed.alike, f2.al X0.warmed.alike, hA.mv X0.warmed.alike hh0, s1.there X0.warmed.alike hh0, hz, l0, by omega, l2, fun i hi => by rw [Nat.zero_add]; exact hp i hi⟩)
  have e0 := Got.mv _ s₁ s _ _ hh0.symm (Vm.Alike.refl _) rfl E3
  obtain rfl := e0.1
  have c4 : Steps p.tables e below (s₁.setTop (entryFrame m #[.ref a, .ref b] 2)) (T3.setTop (mkF m 9 #[.val (.ref a), .val (.ref b)] [])) := g3
  exact ⟨T3, none, _, _, _, X3, by simp, rfl, by omega, (fun _ => rfl), e0, fun fs hl => c4.trans (X3.returnOut hexec hret (hb hbytes d9) hl)⟩
theorem pays {l : Launch} {R : Room} {p : Program} {e : Env} {below : List Frame} {s : State} {sargs : Array Value} {len W : Nat} (a : Addr) (D : Cell) (fV fC : Field) (b : Addr) (A : Cell) (z : Int32) (htab : tab.before sargs s = true) (hfr : 4 ≤ R.frames) (hlo : W + 65 ≤ R.locals) :
    Back l R p e below s sargs yN len W (fun A₁ a₁ => A₁.cells + 1 ≤ R.cells ∧ A₁.slots + A.slots.size ≤ R.slots ∧ P a D fV fC b A z a₁ A₁.U) (fun A₁ _ v₁ B₁ => E a D fV fC A v₁ A₁.U B₁.U ∧ B₁.locs = A₁.locs ++ [⟨a, fC.slot⟩, ⟨a, fV.slot⟩] ∧ B₁.cells = A₁.cells + 1 ∧ B₁.slots = A₁.slots + A.slots.size) :=
  (law l a D fV fC b A z).pays htab hfr (by omega)
end New1
/-- the byte, read back as charAt reads it, is the char -/
theorem lo8_mask {x : Int32} (h0 : ¬ x < 0) (h1 : ¬ 255 < x) : lo8 x &&& 255 = x := by
  have t : ∀ k : Fin 256, lo8 (Int32.ofNat k.val) &&& 255 = Int32.ofNat k.val := by decide +kernel
  rw [Int32.lt_iff_toInt_lt] at h0 h1
  have e0 : (0 : Int32).toInt = 0 := rfl
  have e1 : (255 : Int32).toInt = 255 := rfl
  obtain ⟨k, hk⟩ : ∃ k : Nat, x.toInt = k := ⟨x.toInt.toNat, by omega⟩
  have hx : x = Int32.ofNat k := Int32.toInt_inj.mp (by rw [hk, Int32.toInt_ofNat_small (by omega)])
  rw [hx]
  exact t ⟨k, by omega⟩
end StrChars
namespace StrChars.Road
open Jvm Sem ClassFile Op Lib Jvm.Stand Jvm.Free Jvm.Free.XT
open Jvm.Lib.Cold (StaticIs)
abbrev ST : String := "java/lang/String"
/-- every table word that New1's law asks, flat -/
abbrev words : List Jvm.Cond := [.code New1.yN New1.yB 2 none, .initialized ST, .methodLink ST 27 New4.yN, .instanceMethod New4.yN,
  .code New4.yN New4.yB 6 none, .fieldLink ST 38 ST "COMPACT_STRINGS" "Z", .laysFinal ST ST "value" "[B", .fieldLink ST 9 ST "value" "[B", .laysFinal ST ST "coder" "B", .fieldLink ST 15 ST "coder" "B",
  .methodLink ST 1 Lib.objectInit, .instanceMethod Lib.objectInit, .code Lib.objectInit ⟨#[0xb1]⟩ 1 none, .methodLink ST 177 Cmp3.yN, .static Cmp3.yN, .methodLink ST 47 CodL.yN, .static CodL.yN,
  .code Cmp3.yN Cmp3.yB 6 (some (.array .byte)), .initialized U16, .arrayClass .byte, .methodLink U16 115 Cmp5.yN, .static Cmp5.yN, .code Cmp5.yN Cmp5.yB 7 (some .int), .code CodL.yN CodL.yB 2 (some .byte)]
theorem tab_of {a : Array Value} {s : State} (h : ∀ w ∈ words, w.before a s = true) : New1.tab.before a s = true := by
  have h5 : Cmp5.tab.before a s = true := unparts (wk h (.code Cmp5.yN Cmp5.yB 7 (some .int))) (wks h (.initialized Cmp5.yN.cls :: Cmp5.site))
  have hc : CodL.tab.before a s = true := unparts (wk h (.code CodL.yN CodL.yB 2 (some .byte))) (wks h (.initialized CodL.yN.cls :: CodL.site))
  have q5 : ∀ w ∈ Cmp5.tab :: words, w.before a s = true := fun w hw => (List.mem_cons.mp hw).elim (fun e => e ▸ h5) (h w)
  have h3 : Cmp3.tab.before a s = true := unparts (wk q5 (.code Cmp3.yN Cmp3.yB 6 (some (.array .byte)))) (wks q5 (.initialized Cmp3.yN.cls :: Cmp3.site))
  have q3 : ∀ w ∈ Cmp3.tab :: CodL.tab :: words, w.before a s = true := fun w hw => (List.mem_cons.mp hw).elim (fun e => e ▸ h3) fun hw => (List.mem_cons.mp hw).elim (fun e => e ▸ hc) (h w)
  have h4 : New4.tab.before a s = true := unparts (wk q3 (.code New4.yN New4.yB 6 none)) (wks q3 (.initialized New4.yN.cls :: New4.site))
  have q4 : ∀ w ∈ New4.tab :: words, w.before a s = true := fun w hw => (List.mem_cons.mp hw).elim (fun e => e ▸ h4) (h w)
  exact unparts (wk q4 (.code New1.yN New1.yB 2 none)) (wks q4 (.initialized New1.yN.cls :: New1.site))
/-- the words ride from the start Z to the walk's own state -/
theorem moved {Z s : State} {a0 args : Array Value} (hZ : Z.Warmed39 s.vm) (hw : ∀ d ∈ words, d.before a0 Z = true) : ∀ d ∈ words, d.before args s = true := fun d hd => by
  have q := hw d hd
  have t : ∀ d ∈ words, d = .arrayClass .byte ∨ (d.onTables && d.keepsFace) = true := by decide +kernel
  rcases t d hd with rfl | t
  · exact RoadKit.mvA hZ q
  · exact RoadKit.mv hZ q t
/-- WHAT COMES BACK, over the tables of the start Z: h the heap at the call, h' behind it -/
def Q (Z : State) (x : Addr) (A : Cell) (h : Heap) (v : Option Value) (h' : Heap) (L : List Loc) : Prop := v = none ∧ (∀ y ∈ L, y.base = x) ∧ RoadKit.Keep h h' [x] ∧ h'.size = h.size + 1 ∧ RoadKit.Exa Z h' x ST ∧ RoadKit.Fld Z h' x ST "value" "[B" (.ref h.size) ∧ RoadKit.Fld Z h' x ST "coder" "B" (.int 0) ∧
  (∃ V : Cell, RoadKit.Arr Z h' h.size V .byte ∧ V.vm = .none ∧ Z.vm.findClass "[B" = some V.cls ∧ V.slots.size = A.slots.size ∧ ∀ j, j < A.slots.size → V.slots[j]? = some (.int (lo8 (cv A j)))) ∧
  ∀ (O n d : String) (w : Value), RoadKit.Fld Z h x O n d w → RoadKit.slotOf Z O n d ≠ RoadKit.slotOf Z ST "value" "[B" → RoadKit.slotOf Z O n d ≠ RoadKit.slotOf Z ST "coder" "B" → RoadKit.Fld Z h' x O n d w
/-- **new String(chars) AT A CALL, IN THE ROAD'S FORM**: for specialBack behind newO: x the fresh String, b the char[] with the cell A -/
theorem back {p : Program} {l : Launch} {e : Env} {R : Room} {s : State} {args : Array Value} {below : List Frame} {len W : Nat} {Z : State} {a0 : Array Value} {h : Heap} (hZ : Z.Warmed39 s.vm) (hw : ∀ d ∈ words, d.before a0 Z = true) {kI : Nat} (wi : (Jvm.Cond.instantiable ST kI).before a0 Z = true)
    {x b : Addr} {A : Cell} {z : Int32} {v0 c0 : Value} (E : RoadKit.Exa Z h x ST) (V : RoadKit.Fld Z h x ST "value" "[B" v0) (C : RoadKit.Fld Z h x ST "coder" "B" c0) (K : RoadKit.Arr Z h b A .char) (hty : Typed .char A) (S : RoadKit.Sta Z h ST "COMPACT_STRINGS" "Z" (.int z)) (hz : ¬ z = 0)
    (l0 : 0 < A.slots.size) (l2 : A.slots.size ≤ 536870912) (hp : ∀ i, i < A.slots.size → ¬ 255 < cv A i) (hfr : 4 ≤ R.frames) (hlo : W + 65 ≤ R.locals) :
    Back l R p e below s args New1.yN len W (fun P a => a = #[.ref x, .ref b] ∧ P.U.heap = h ∧ P.cells + 1 ≤ R.cells ∧ P.slots + A.slots.size ≤ R.slots)
      (fun P _ v B => ∃ L, Q Z x A h v B.U.heap L ∧ B.locs = P.locs ++ L ∧ B.cells = P.cells + 1 ∧ B.slots = P.slots + A.slots.size) := by
  intro m meth c P g ig mk a X hg hsize hdg hW hn hp'
  obtain ⟨rfl, rfl, r1, r2⟩ := hp'
  have al : Z.vm.Alike P.U.vm := hZ.alike.trans X.warmed.alike
  obtain ⟨D, cfV, kV, iV, fV, hD, gV, stV, knV, obV, asV, slV⟩ := id V
  obtain ⟨D', cfC, kC, iC, fC, hD', gC, stC, -, -, asC, slC⟩ := id C
  cases hD.symm.trans hD'
  obtain ⟨D2, kD, e1, e2, e3, e4, e5⟩ := id E
  cases hD.symm.trans e1
  obtain ⟨c2, k2, i1, i2, i3, -⟩ := Cond.instantiable_spec wi
  cases e2.symm.trans i1
  cases e3.symm.trans i2
  obtain ⟨kU, u1, u2⟩ := al.2.2 _ _ e3
  have hB : Blank ST x D P.U := ⟨hD, ⟨knV, fun q hq => by rw [hq] at obV; cases obV⟩, by rw [al.findClass]; exact e2, kU, u1, by rw [u2]; exact i3, by rw [u2]; exact e5 i3⟩
  have F1 : Found ST "value" "[B" fV P.U := ⟨SBG.found_only al ⟨cfV, kV, iV, gV⟩, stV⟩
  have F2 : Found ST "coder" "B" fC P.U := ⟨SBG.found_only al ⟨cfC, kC, iC, gC⟩, stC⟩
  have hA : Ch b A P.U := ⟨⟨K.1, State.isArrayOf_alike al K.2.1, K.2.2, by omega⟩, hty⟩
  have hS : StaticIs P.U ST "COMPACT_STRINGS" "Z" (.int z) := by
    obtain ⟨cfS, iS, kS, fS, st, cS, t1, t2, t3, t4, t5, t6, t7⟩ := S
    exact StaticIs.there (s := { Z with heap := P.U.heap }) ⟨cfS, iS, kS, fS, st, cS, t1, t2, t3, t4, t5, (fun q => by rw [q] at t6; cases t6), t7⟩ al rfl
  obtain ⟨v, B, X', ⟨⟨hv, E', V', q1, q2, q3, q4, q5, q6, q7, q8, q9, q10, q11⟩, hl, hc, hs⟩, st⟩ := New1.pays x D fV fC b A z (tab_of (moved hZ hw)) hfr hlo m meth c P g ig mk _ X hg hsize hdg hW hn ⟨r1, r2, rfl, hB, F1, F2, hA, hS, hz, l0, l2, hp⟩
  have al' : Z.vm.Alike B.U.vm := hZ.alike.trans X'.warmed.alike
  have hsz : E'.slots.size = D.slots.size := by
    obtain ⟨-, -, -, kB, w1, w2, w3⟩ := q1
    obtain ⟨kB', y1, y2⟩ := al'.2.2 _ _ e3
    rw [q2.2.1] at w1
    cases w1.symm.trans y1
    rw [w3, e5 i3, y2]
  refine ⟨v, B, X', ⟨_, ⟨hv, ?_, ⟨by omega, fun y cy hy hn' => q10 y cy (by simpa using hn') hy, fun y cy hy => ?_⟩, q11, ⟨E', _, q1.1, by rw [q2.2.1]; exact e2, by rw [q2.2.1]; exact e3, by rw [q2.1]; exact obV, fun _ => by rw [hsz]; exact e5 i3⟩,
    ⟨E', cfV, kV, iV, fV, q1.1, gV, stV, by rw [q2.1]; exact knV, by rw [q2.1]; exact obV, by rw [q2.2.1]; exact asV, q3⟩, ⟨E', cfC, kC, iC, fC, q1.1, gC, stC, by rw [q2.1]; exact knV, by rw [q2.1]; exact obV, by rw [q2.2.1]; exact asC, q4⟩,
    ⟨V', ⟨q5.1, State.isArrayOf_alike al'.symm q5.2.1, q5.2.2.1⟩, q6, by rw [← al'.findClass]; exact q7, q8, fun j hj => by have := q9 j hj; rwa [Nat.zero_add] at this⟩, fun O n d w F n1 n2 => ?_⟩, hl, hc, hs⟩, st⟩
  · intro y hy
    simp only [List.mem_cons, List.not_mem_nil, or_false] at hy
    rcases hy with rfl | rfl <;> rfl
  · by_cases q : y = x
    · subst q
      cases hD.symm.trans hy
      exact ⟨E', q1.1, q2.2.1, q2.1, hsz⟩
    · exact ⟨cy, q10 y cy q hy, rfl, rfl, rfl⟩
  · obtain ⟨D3, cf, k, i, f, g1, g2, g3, g4, g5, g6, g7⟩ := F
    cases hD.symm.trans g1
    simp only [RoadKit.slotOf, g2, gV, gC, Option.map_some, Option.getD_some] at n1 n2
    exact ⟨E', cf, k, i, f, q1.1, g2, g3, by rw [q2.1]; exact g4, by rw [q2.1]; exact g5, by rw [q2.2.1]; exact g6, by rw [q2.2.2 f.slot (by simp [n1, n2])]; exact g7⟩
end StrChars.Road
namespace StrChars.Road
open Jvm Sem ClassFile Op Lib Jvm.Stand Jvm.Free Jvm.Free.XT
/-- WHAT COMES BACK, the byte[] as a list of values -/
def QA (Z : State) (x : Addr) (zn : Int32) (cs : List Int32) (h : Heap) (v : Option Value) (h' : Heap) (L : List Loc) : Prop := v = none ∧ (∀ y ∈ L, y.base = x) ∧ RoadKit.Keep h h' [x] ∧ h'.size = h.size + 1 ∧ RoadKit.Exa Z h' x ST ∧ RoadKit.Fld Z h' x ST "value" "[B" (.ref h.size) ∧ RoadKit.Fld Z h' x ST "coder" "B" (.int 0) ∧
  (∃ kb, Z.vm.findClass "[B" = some kb ∧ RoadKit.Arv Z h' h.size kb .byte zn (cs.map fun c => .int (lo8 c)) (.int 0)) ∧
  ∀ (O n d : String) (w : Value), RoadKit.Fld Z h x O n d w → RoadKit.slotOf Z O n d ≠ RoadKit.slotOf Z ST "value" "[B" → RoadKit.slotOf Z O n d ≠ RoadKit.slotOf Z ST "coder" "B" → RoadKit.Fld Z h' x O n d w
/-- **new String(chars) AT A CALL, THE ARRAYS AS LISTS**: the char[] at b holds cs, not empty, no char above 255 -/
theorem backArv {p : Program} {l : Launch} {e : Env} {R : Room} {s : State} {args : Array Value} {below : List Frame} {len W : Nat} {Z : State} {a0 : Array Value} {h : Heap} (hZ : Z.Warmed39 s.vm) (hw : ∀ d ∈ words, d.before a0 Z = true) {kI : Nat} (wi : (Jvm.Cond.instantiable ST kI).before a0 Z = true)
    {x b : Addr} {k : ClassId} {zn z : Int32} {cs : List Int32} {dv v0 c0 : Value} (E : RoadKit.Exa Z h x ST) (V : RoadKit.Fld Z h x ST "value" "[B" v0) (C : RoadKit.Fld Z h x ST "coder" "B" c0) (K : RoadKit.Arv Z h b k .char zn (cs.map Value.int) dv) (S : RoadKit.Sta Z h ST "COMPACT_STRINGS" "Z" (.int z)) (hz : ¬ z = 0)
    (hlen : zn.toNatClampNeg = cs.length) (h0 : 0 < cs.length) (hbig : cs.length ≤ 536870912) (hall : ∀ c ∈ cs, ¬ 255 < c) (hfr : 4 ≤ R.frames) (hlo : W + 65 ≤ R.locals) :
    Back l R p e below s args New1.yN len W (fun P a => a = #[.ref x, .ref b] ∧ P.U.heap = h ∧ P.cells + 1 ≤ R.cells ∧ P.slots + cs.length ≤ R.slots)
      (fun P _ v B => ∃ L, QA Z x zn cs h v B.U.heap L ∧ B.locs = P.locs ++ L ∧ B.cells = P.cells + 1 ∧ B.slots = P.slots + cs.length) := by
  obtain ⟨A, K1, K2, K3, K4, K5, K6⟩ := K
  have e : A.slots.size = cs.length := K3.trans hlen
  have hat : ∀ (i : Nat) (hi : i < cs.length), A.slots[i]? = some (.int cs[i]) := fun i hi => by rw [K5 i (by omega)]; simp [List.getD_eq_getElem?_getD, hi]
  have hcv : ∀ (i : Nat) (hi : i < cs.length), cv A i = cs[i] := fun i hi => by unfold cv; rw [hat i hi]
  have hty : Typed .char A := fun i v hv => by
    have hi : i < A.slots.size := (Array.getElem?_eq_some_iff.mp hv).1
    have q := K5 i hi
    rw [hv] at q
    rw [Option.some.inj q]
    exact K6 i hi
  refine Back.mono (back hZ hw wi E V C K1 hty S hz (by omega) (by omega) (fun i hi => by rw [hcv i (by omega)]; exact hall _ (List.getElem_mem _)) hfr hlo) (fun P a hp => ⟨hp.1, hp.2.1, hp.2.2.1, by rw [e]; exact hp.2.2.2⟩) (fun P a v B hp hq => ?_)
  obtain ⟨L, ⟨q1, q2, q3, q4, q5, q6, q7, ⟨V', v1, v2, v3, v4, v5⟩, q9⟩, hl, hc, hs⟩ := hq
  refine ⟨L, ⟨q1, q2, q3, q4, q5, q6, q7, ⟨V'.cls, v3, V', v1, rfl, by rw [v4, e, hlen], K4, fun i hi => ?_, fun i hi => ?_⟩, q9⟩, hl, hc, by rw [hs, e]⟩
  · have hi' : i < cs.length := by omega
    rw [v5 i (by omega), hcv i hi']; simp [List.getD_eq_getElem?_getD, hi']
  · have hi' : i < cs.length := by omega
    simp only [List.getD_eq_getElem?_getD, List.getElem?_map, List.getElem?_eq_getElem hi', Option.map_some, Option.getD_some]
    exact fits_lo8 _
end StrChars.Road
namespace StrChars.Road
open Jvm Sem ClassFile Op Lib Jvm.Stand Jvm.Free Jvm.Free.XT
/-- WHAT COMES BACK, in the writer's own shape -/
def QV (Z : State) (x : Addr) (N : Int32) (bs : List Int32) (h : Heap) (n0 : Nat) (v : Option Value) (h' : Heap) (L : List Loc) : Prop := v = none ∧ RoadKit.Fr n0 L ∧ RoadKit.Keep h h' [x] ∧ RoadKit.Exa Z h' x ST ∧ RoadKit.Fld Z h' x ST "coder" "B" (.int 0) ∧
  ∃ (t : Addr) (kb : ClassId), n0 ≤ t ∧ h.size ≤ t ∧ ¬ t = x ∧ RoadKit.Fld Z h' x ST "value" "[B" (.ref t) ∧ RoadKit.Arv Z h' t kb .byte N (bs.map Value.int) (.int 0)
/-- **new String(chars) AT A CALL, FOR THE WRITER**: a char[] of n known ints, each 0 to 255 -/
theorem backV {p : Program} {l : Launch} {e : Env} {R : Room} {s : State} {args : Array Value} {below : List Frame} {len W : Nat} {Z : State} {a0 : Array Value} {h : Heap} (hZ : Z.Warmed39 s.vm) (hw : ∀ d ∈ words, d.before a0 Z = true) {kI : Nat} (wi : (Jvm.Cond.instantiable ST kI).before a0 Z = true)
    {x b : Addr} {kC : ClassId} {cs bs : List Int32} {d v0 c0 : Value} {z N : Int32} {n n0 : Nat} (hx0 : n0 ≤ x) (hh0 : n0 ≤ h.size) (E : RoadKit.Exa Z h x ST) (V : RoadKit.Fld Z h x ST "value" "[B" v0) (C : RoadKit.Fld Z h x ST "coder" "B" c0) (K : RoadKit.Arv Z h b kC .char N (cs.map Value.int) d) (S : RoadKit.Sta Z h ST "COMPACT_STRINGS" "Z" (.int z)) (hz : ¬ z = 0)
    (hn : cs.length = n) (hN : N = Int32.ofNat n) (l0 : 0 < n) (l2 : n ≤ 4000) (hp : ∀ c ∈ cs, ¬ c < 0 ∧ ¬ (255 : Int32) < c) (hb : bs = cs.map (fun c => c.toInt8.toInt32)) (hfr : 4 ≤ R.frames) (hlo : W + 65 ≤ R.locals) :
    Back l R p e below s args (⟨"java/lang/String", "<init>", "([C)V"⟩ : MethodName) len W (fun P a => a = #[.ref x, .ref b] ∧ P.U.heap = h ∧ P.cells + 1 ≤ R.cells ∧ P.slots + n ≤ R.slots)
      (fun P _ v B => ∃ L, QV Z x N bs h n0 v B.U.heap L ∧ B.locs = P.locs ++ L ∧ B.cells = P.cells + 1 ∧ B.slots = P.slots + n) := by
  subst hn hN hb
  refine Back.mono (backArv hZ hw wi E V C K S hz (n32 (by omega)) l0 (by omega) (fun c hc => (hp c hc).2) hfr hlo) (fun P a hp => hp) (fun P a v B hp hq => ?_)
  obtain ⟨L, ⟨q1, q2, q3, q4, q5, q6, q7, ⟨kb, v1, v2⟩, q9⟩, hl, hc, hs⟩ := hq
  exact ⟨L, ⟨q1, fun y hy => by rw [q2 y hy]; exact hx0, q3, q5, q7, h.size, kb, hh0, Nat.le_refl _, Nat.ne_of_gt E.lt, q6, by rw [List.map_map]; exact v2⟩, hl, hc, hs⟩
end StrChars.Road
namespace StrChars
open Jvm Sem ClassFile Op Lib Jvm.Stand Jvm.Free.XT Jvm.Free.ALB Jvm.Free.JM Jvm.Free
open Jvm.Lib.Cold (StaticIs)
def hi8 (x : Int32) : Int32 := lo8 (x >>> ((8 : Int32) &&& 31))
/-- what StringUTF16.getChar makes of two bytes -/
def pairCh (u v : Int32) : Int32 := (((u &&& 255) <<< ((0 : Int32) &&& 31)) ||| ((v &&& 255) <<< ((8 : Int32) &&& 31))).toUInt32.toUInt16.toUInt32.toInt32
theorem shr0 (c : Int32) : c >>> ((0 : Int32) &&& 31) = c := by
  have e : ((0 : Int32) &&& 31) = 0 := by decide
  rw [e]
  apply Int32.toBitVec_inj.mp
  rw [Int32.toBitVec_shiftRight]
  have e1 : ((0 : Int32).toBitVec.smod 32) = 0#32 := by decide
  rw [e1, BitVec.sshiftRight_eq']
  exact BitVec.sshiftRight_zero
theorem lo8_and (x : Int32) : (lo8 x &&& 255).toBitVec.toNat = x.toBitVec.toNat % 256 := by
  have h : (lo8 x).toBitVec = (x.toBitVec.signExtend 8).signExtend 32 := by rw [lo8, Int8.toBitVec_toInt32, Int32.toBitVec_toInt8]
  rw [Int32.toBitVec_and, BitVec.toNat_and, h]
  have e : ((x.toBitVec.signExtend 8).signExtend 32).toNat % 256 = x.toBitVec.toNat % 256 := by
    rw [BitVec.toNat_signExtend]
    have hlt := x.toBitVec.isLt
    simp only [BitVec.toNat_setWidth, BitVec.toNat_signExtend]
    split <;> split <;> omega
  rw [← e]
  exact Nat.and_two_pow_sub_one_eq_mod _ 8
theorem pair_says {c : Int32} (h0 : ¬ c < 0) (h1 : ¬ 65535 < c) : pairCh (lo8 c) (hi8 c) = c := by
  rw [Int32.lt_iff_toInt_lt] at h0 h1
  have e0 : (0 : Int32).toInt = 0 := rfl
  have e1 : (65535 : Int32).toInt = 65535 := rfl
  have hc : c.toInt = c.toBitVec.toNat := by
    have := c.toBitVec.isLt
    have e : c.toInt = c.toBitVec.toInt := rfl
    rw [e] at h0 h1
    rw [e]
    rw [BitVec.toInt_eq_toNat_cond] at h0 h1 ⊢
    split at h0 <;> split <;> omega
  have hn : c.toBitVec.toNat < 65536 := by omega
  have a1 := lo8_and c
  have a2 : (hi8 c &&& 255).toBitVec.toNat = c.toBitVec.toNat / 256 := by
    rw [hi8, lo8_and]
    have e : ((8 : Int32) &&& 31) = 8 := by decide
    rw [e, Int32.toBitVec_shiftRight]
    have e2 : ((8 : Int32).toBitVec.smod 32) = 8#32 := by decide
    rw [e2, BitVec.sshiftRight_eq', BitVec.toNat_sshiftRight_of_msb_false (by rw [BitVec.msb_eq_false_iff_two_mul_lt]; omega)]
    show c.toBitVec.toNat >>> 8 % 256 = _
    rw [Nat.shiftRight_eq_div_pow]
    omega
  unfold pairCh
  apply Int32.toBitVec_inj.mp
  apply BitVec.eq_of_toNat_eq
  have f0 : ((0 : Int32) &&& 31) = 0 := by decide
  have f8 : ((8 : Int32) &&& 31) = 8 := by decide
  rw [f0, f8]
  have g : (((lo8 c &&& 255) <<< (0 : Int32)) ||| ((hi8 c &&& 255) <<< (8 : Int32))).toBitVec.toNat = c.toBitVec.toNat := by
    rw [Int32.toBitVec_or, Int32.toBitVec_shiftLeft, Int32.toBitVec_shiftLeft]
    have s0 : ((0 : Int32).toBitVec.smod 32) = 0#32 := by decide
    have s8 : ((8 : Int32).toBitVec.smod 32) = 8#32 := by decide
    rw [s0, s8, BitVec.toNat_or]
    simp only [BitVec.shiftLeft_eq', BitVec.toNat_shiftLeft, a1, a2]
    show (c.toBitVec.toNat % 256) <<< 0 % 2 ^ 32 ||| (c.toBitVec.toNat / 256) <<< 8 % 2 ^ 32 = _
    rw [Nat.shiftLeft_zero, Nat.mod_eq_of_lt (show c.toBitVec.toNat % 256 < 2 ^ 32 by omega), Nat.mod_eq_of_lt (show (c.toBitVec.toNat / 256) <<< 8 < 2 ^ 32 by rw [Nat.shiftLeft_eq]; omega), Nat.or_comm, ← Nat.shiftLeft_add_eq_or_of_lt (by omega), Nat.shiftLeft_eq]
    omega
  show BitVec.toNat (((((lo8 c &&& 255) <<< (0 : Int32)) ||| ((hi8 c &&& 255) <<< (8 : Int32))).toBitVec.setWidth 16).setWidth 32) = _
  rw [BitVec.toNat_setWidth, BitVec.toNat_setWidth, g]
  omega
end StrChars
namespace StrChars
open Jvm Sem ClassFile Op Lib Jvm.Stand Jvm.Free.XT Jvm.Free.ALB Jvm.Free.JM Jvm.Free
open Jvm.Lib.Cold (StaticIs)
theorem shr1 {n : Nat} (h : 2 * n < 2 ^ 31) : Int32.ofNat (2 * n) >>> ((1 : Int32) &&& 31) = Int32.ofNat n := by
  have e : ((1 : Int32) &&& 31) = 1 := by decide
  rw [e]
  apply Int32.toBitVec_inj.mp
  rw [Int32.toBitVec_shiftRight]
  have e1 : ((1 : Int32).toBitVec.smod 32) = 1#32 := by decide
  have hm : (BitVec.ofNat 32 (2 * n)).toNat = 2 * n := by rw [BitVec.toNat_ofNat, Nat.mod_eq_of_lt (by omega)]
  rw [e1, BitVec.sshiftRight_eq']
  apply BitVec.eq_of_toNat_eq
  show ((BitVec.ofNat 32 (2 * n)).sshiftRight 1).toNat = (BitVec.ofNat 32 n).toNat
  rw [BitVec.toNat_sshiftRight_of_msb_false (by rw [BitVec.msb_eq_false_iff_two_mul_lt, hm]; omega), hm, BitVec.toNat_ofNat, Nat.shiftRight_eq_div_pow]
  omega
/-- charAt's cast of a byte read back -/
def chr8 (u : Int32) : Int32 := (u &&& 255).toUInt32.toUInt16.toUInt32.toInt32
theorem chr8_lo8 {c : Int32} (h0 : ¬ c < 0) (h1 : ¬ 255 < c) : chr8 (lo8 c) = c := by
  have t : ∀ k : Fin 256, (Int32.ofNat k.val).toUInt32.toUInt16.toUInt32.toInt32 = Int32.ofNat k.val := by decide +kernel
  unfold chr8
  rw [lo8_mask h0 h1]
  rw [Int32.lt_iff_toInt_lt] at h0 h1
  have e0 : (0 : Int32).toInt = 0 := rfl
  have e1 : (255 : Int32).toInt = 255 := rfl
  obtain ⟨k, hk⟩ : ∃ k : Nat, c.toInt = k := ⟨c.toInt.toNat, by omega⟩
  have hx : c = Int32.ofNat k := Int32.toInt_inj.mp (by rw [hk, Int32.toInt_ofNat_small (by omega)])
  rw [hx]
  exact t ⟨k, by omega⟩
theorem narrow_ch {c : Int32} (h0 : ¬ c < 0) (h1 : ¬ 65535 < c) : narrow .char (.int c) = .int c := by
  have q : narrow .char (.int (pairCh (lo8 c) (hi8 c))) = .int (pairCh (lo8 c) (hi8 c)) := narrow_c _
  rwa [pair_says h0 h1] at q
/-- the array's cell V codes the n chars f 0 .. f (n - 1) by the coder cd, as the JDK does: coder 1 just where some char is above 255 -/
def Cod (cd : Int32) (n : Nat) (f : Nat → Int32) (V : Cell) : Prop := (cd = 0 ∧ V.slots.size = n ∧ ∀ j, j < n → V.slots[j]? = some (.int (lo8 (f j))) ∧ ¬ 255 < f j) ∨ (cd = 1 ∧ V.slots.size = 2 * n ∧ (∀ j, j < n → V.slots[2 * j]? = some (.int (lo8 (f j))) ∧ V.slots[2 * j + 1]? = some (.int (hi8 (f j)))) ∧ ∃ j, j < n ∧ 255 < f j)
theorem Cod.cd {cd : Int32} {n : Nat} {f : Nat → Int32} {V : Cell} (h : Cod cd n f V) : cd = 0 ∨ cd = 1 := h.imp (fun q => q.1) fun q => q.1
theorem Cod.len {cd : Int32} {n : Nat} {f : Nat → Int32} {V : Cell} (h : Cod cd n f V) (hs : V.slots.size < 2 ^ 31) : Int32.ofNat V.slots.size >>> (cd &&& 31) = Int32.ofNat n := by
  rcases h with ⟨rfl, h, -⟩ | ⟨rfl, h, -⟩
  · rw [shr0, h]
  · rw [h, shr1 (by omega)]
/-- **x is a String of the n chars f 0 .. f (n - 1)**, Latin-1 or UTF-16; its array at t has the cell V -/
def Txt (x t : Addr) (V : Cell) (cd : Int32) (n : Nat) (f : Nat → Int32) (U : State) : Prop := Exact "java/lang/String" x U ∧ Has x "java/lang/String" "value" "[B" (.ref t) U ∧ Has x "java/lang/String" "coder" "B" (.int cd) U ∧ XT.Arr .byte t V U ∧ Cod cd n f V ∧ ∀ j, j < n → ¬ f j < 0 ∧ ¬ 65535 < f j
theorem Txt.mv {x t : Addr} {V : Cell} {cd : Int32} {n : Nat} {f : Nat → Int32} {U U' : State} (h : Txt x t V cd n f U) (hal : U.vm.Alike U'.vm) (hh : U'.heap = U.heap) : Txt x t V cd n f U' := ⟨h.1.mv hal hh, h.2.1.mv hal hh, h.2.2.1.mv hal hh, h.2.2.2.1.mv hal hh, h.2.2.2.2⟩
namespace Cdr
def yN : MethodName := ⟨"java/lang/String", "coder", "()B"⟩
abbrev yB : ByteArray := jdk_42_method_152_code
theorem d0 : decode yB 0 = .ok (.getstatic 38, 3) := by decide +kernel
theorem d3 : decode yB 3 = .ok (.ifCond (.eq) 10, 3) := by decide +kernel
theorem d6 : decode yB 6 = .ok (.aload_n 0, 1) := by decide +kernel
theorem d7 : decode yB 7 = .ok (.getfield 15, 3) := by decide +kernel
theorem d10 : decode yB 10 = .ok (.goto 4, 3) := by decide +kernel
theorem d14 : decode yB 14 = .ok (.ireturn, 1) := by decide +kernel
def site : List Cond := [.fieldLink "java/lang/String" 38 "java/lang/String" "COMPACT_STRINGS" "Z", .fieldLink "java/lang/String" 15 "java/lang/String" "coder" "B"]
def tab : Cond := tabOf yN yB 1 (some .byte) site
def P (x : Addr) (cd z : Int32) (args : Array Value) (s : State) : Prop := args = #[.ref x] ∧ Has x "java/lang/String" "coder" "B" (.int cd) s ∧ (cd = 0 ∨ cd = 1) ∧ StaticIs s "java/lang/String" "COMPACT_STRINGS" "Z" (.int z) ∧ ¬ z = 0
def E (cd : Int32) (r : Option Value) (s u : State) : Prop := XT.PureE (some (.int cd)) r s u
theorem law (l : Launch) (x : Addr) (cd z : Int32) : Law l yN 1 0 0 0 yB 1 (some .byte) site (P x cd z) (E cd) [] 0 0 := by
  refine Law.of_walk (plainFor_of_name (by decide +kernel)) (by decide +kernel) (by decide +kernel) (by decide) (fun _ _ h => by rw [h.1]; rfl) (fun _ U U' hal hh h => ⟨h.1, h.2.1.mv hal hh, h.2.2.1, h.2.2.2.1.there hal hh, h.2.2.2.2⟩) (fun r U U' V V' h1 hal h2 h => XT.PureE.mv r U U' V V' h1 hal h2 h) ?_
  intro p e s m args below meth c s₁ X0 hexec hbytes hml hret hlk hnm hown hh0 W hP
  obtain ⟨rfl, hx, hc, s1, hz⟩ := hP
  have c1 : Steps p.tables e below (s₁.setTop (entryFrame m #[.ref x] 1)) (s₁.setTop (mkF m 0 #[.val (.ref x)] [])) := entry rfl
  obtain ⟨T2, X2, q2, st2⟩ := X0.sget hexec hown (wk W (.fieldLink "java/lang/String" 38 "java/lang/String" "COMPACT_STRINGS" "Z")) s1 (fun _ _ h => by rw [hh0]; exact h) (g := (mkF m 0 #[.val (.ref x)] [])) rfl (hb hbytes d0)
  have hh2 := q2.trans hh0
  have c3 : Steps p.tables e below (s₁.setTop (entryFrame m #[.ref x] 1)) (T2.setTop (mkF m 7 #[.val (.ref x)] [.ref x])) := (c1.trans (st2 _ (Steps.refl _))).trans (by
    refine XS.ifNo X2.here hexec rfl (hb hbytes d3) rfl (i0_eq_f hz) ?_
    refine XS.aloadN X2.here hexec rfl (hb hbytes d6) rfl rfl ?_
    exact Steps.refl _)
  obtain ⟨T4, X4, q4, st4⟩ := X2.hget hexec hown (wk W (.fieldLink "java/lang/String" 15 "java/lang/String" "coder" "B")) (hx.mv X2.warmed.alike hh2) (g := (mkF m 7 #[.val (.ref x)] [.ref x])) rfl (rest := []) rfl (hb hbytes d7)
  have c5 : Steps p.tables e below (s₁.setTop (entryFrame m #[.ref x] 1)) (T4.setTop (mkF m 14 #[.val (.ref x)] [.int cd])) := (c3.trans (st4 _ (Steps.refl _))).trans (by
    refine XS.goto X4.here hexec rfl (pc0 := 10) rfl (hb hbytes d10) (by decide) rfl ?_
    exact Steps.refl _)
  exact ⟨T4, some (.int cd), _, _, _, X4, rfl, rfl, rfl, (fun h => by cases h), ⟨rfl, q4.trans hh2⟩, fun fs hl => c5.trans (X4.ireturnOut hexec hret (by rcases hc with rfl | rfl <;> rfl) (Or.inr (Or.inr (Or.inl rfl))) (hb hbytes d14) hl)⟩
end Cdr
namespace Len
def yN : MethodName := ⟨"java/lang/String", "length", "()I"⟩
abbrev yB : ByteArray := jdk_42_method_54_code
theorem d0 : decode yB 0 = .ok (.aload_n 0, 1) := by decide +kernel
theorem d1 : decode yB 1 = .ok (.getfield 9, 3) := by decide +kernel
theorem d4 : decode yB 4 = .ok (.arraylength, 1) := by decide +kernel
theorem d5 : decode yB 5 = .ok (.aload_n 0, 1) := by decide +kernel
theorem d6 : decode yB 6 = .ok (.invokevirtual 335, 3) := by decide +kernel
theorem d9 : decode yB 9 = .ok (.ishr, 1) := by decide +kernel
theorem d10 : decode yB 10 = .ok (.ireturn, 1) := by decide +kernel
def site : List Cond := [.fieldLink "java/lang/String" 9 "java/lang/String" "value" "[B", Cdr.tab] ++ virtW "java/lang/String" 335 "java/lang/String" Cdr.yN Cdr.yN
def tab : Cond := tabOf yN yB 1 (some .int) site
def P (x t : Addr) (V : Cell) (cd : Int32) (n : Nat) (f : Nat → Int32) (z : Int32) (args : Array Value) (s : State) : Prop := args = #[.ref x] ∧ Txt x t V cd n f s ∧ StaticIs s "java/lang/String" "COMPACT_STRINGS" "Z" (.int z) ∧ ¬ z = 0
def E (n : Nat) (r : Option Value) (s u : State) : Prop := XT.PureE (some (.int (Int32.ofNat n))) r s u
/-- length() of a String of n chars, in either coding -/
theorem law (l : Launch) (x t : Addr) (V : Cell) (cd : Int32) (n : Nat) (f : Nat → Int32) (z : Int32) : Law l yN 1 0 1 13 yB 1 (some .int) site (P x t V cd n f z) (E n) [] 0 0 := by
  refine Law.of_walk (plainFor_of_name (by decide +kernel)) (by decide +kernel) (by decide +kernel) (by decide) (fun _ _ h => by rw [h.1]; rfl) (fun _ U U' hal hh h => ⟨h.1, h.2.1.mv hal hh, h.2.2.1.there hal hh, h.2.2.2⟩) (fun r U U' V V' h1 hal h2 h => XT.PureE.mv r U U' V V' h1 hal h2 h) ?_
  intro p e s m args below meth c s₁ X0 hexec hbytes hml hret hlk hnm hown hh0 W hP
  obtain ⟨rfl, hx, s1, hz⟩ := hP
  have v31 := hx.2.2.2.1.2.2.2
  have c1 : Steps p.tables e below (s₁.setTop (entryFrame m #[.ref x] 1)) (s₁.setTop (mkF m 1 #[.val (.ref x)] [.ref x])) := Steps.trans (entry rfl) (by
    show Steps p.tables e below (s₁.setTop (mkF m 0 #[.val (.ref x)] [])) _
    refine XS.aloadN X0.here hexec rfl (hb hbytes d0) rfl rfl ?_
    exact Steps.refl _)
  obtain ⟨T2, X2, q2, st2⟩ := X0.hget hexec hown (wk W (.fieldLink "java/lang/String" 9 "java/lang/String" "value" "[B")) (hx.mv X0.warmed.alike hh0).2.1 (g := (mkF m 1 #[.val (.ref x)] [.ref x])) rfl (rest := []) rfl (hb hbytes d1)
  have hh2 := q2.trans hh0
  have hx2 := hx.mv X2.warmed.alike hh2
  have c3 : Steps p.tables e below (s₁.setTop (entryFrame m #[.ref x] 1)) (T2.setTop (mkF m 6 #[.val (.ref x)] [.ref x, .int (Int32.ofNat V.slots.size)])) := (c1.trans (st2 _ (Steps.refl _))).trans (by
    refine X2.alen hexec hx2.2.2.2.1 rfl rfl (hb hbytes d4) ?_
    refine XS.aloadN X2.here hexec rfl (hb hbytes d5) rfl rfl ?_
    exact Steps.refl _)
  obtain ⟨v4, T4, X4, E4, g4⟩ := X2.callV hexec (Cdr.law l x cd z) hown (wks W (virtW "java/lang/String" 335 "java/lang/String" Cdr.yN Cdr.yN)) rfl (by decide) (wk W Cdr.tab) (W := 1) (Nat.le_of_ble_eq_true rfl) (Nat.le_of_ble_eq_true rfl) (Nat.le_refl _) (Nat.le_refl _) (hx2.1.fc X2.warmed.alike) hx2.1.is (g := (mkF m 6 #[.val (.ref x)] [.ref x, .int (Int32.ofNat V.slots.size)])) rfl (by rw [hml]; rfl) c3 (argsL := []) (rest := [.int (Int32.ofNat V.slots.size)]) rfl rfl (by show 2 * 0 + (1 + 0) ≤ _; decide) (hb hbytes d6) (⟨rfl, hx2.2.2.1, hx.2.2.2.2.1.cd, s1.there X2.warmed.alike hh2, hz⟩)
  obtain ⟨rfl, q4⟩ := E4
  have c5 : Steps p.tables e below (s₁.setTop (entryFrame m #[.ref x] 1)) (T4.setTop (mkF m 10 #[.val (.ref x)] [.int (Int32.ofNat V.slots.size >>> (cd &&& 31))])) := Steps.trans g4 (by
    refine ishr X4.here hexec rfl (hb hbytes d9) rfl ?_
    exact Steps.refl _)
  rw [hx.2.2.2.2.1.len v31] at c5
  exact ⟨T4, some (.int (Int32.ofNat n)), _, _, _, X4, rfl, rfl, rfl, (fun h => by cases h), ⟨rfl, q4.trans hh2⟩, fun fs hl => c5.trans (X4.ireturnOut hexec hret rfl (Or.inl rfl) (hb hbytes d10) hl)⟩
theorem pays {l : Launch} {R : Room} {p : Program} {e : Env} {below : List Frame} {s : State} {sargs : Array Value} {len W : Nat} (x t : Addr) (V : Cell) (cd : Int32) (n : Nat) (f : Nat → Int32) (z : Int32) (htab : tab.before sargs s = true) (hfr : 2 ≤ R.frames) (hlo : W + 25 ≤ R.locals) :
    Back l R p e below s sargs yN len W (fun A₁ a₁ => A₁.cells + 0 ≤ R.cells ∧ A₁.slots + 0 ≤ R.slots ∧ P x t V cd n f z a₁ A₁.U) (fun A₁ _ v₁ B₁ => E n v₁ A₁.U B₁.U ∧ B₁.locs = A₁.locs ++ [] ∧ B₁.cells = A₁.cells + 0 ∧ B₁.slots = A₁.slots + 0) :=
  (law l x t V cd n f z).pays htab hfr (by omega)
end Len
namespace IsL
def yN : MethodName := ⟨"java/lang/String", "isLatin1", "()Z"⟩
abbrev yB : ByteArray := jdk_42_method_154_code
theorem d0 : decode yB 0 = .ok (.getstatic 38, 3) := by decide +kernel
theorem d3 : decode yB 3 = .ok (.ifCond (.eq) 14, 3) := by decide +kernel
theorem d6 : decode yB 6 = .ok (.aload_n 0, 1) := by decide +kernel
theorem d7 : decode yB 7 = .ok (.getfield 15, 3) := by decide +kernel
theorem d10 : decode yB 10 = .ok (.ifCond (.ne) 7, 3) := by decide +kernel
theorem d13 : decode yB 13 = .ok (.iconst 1, 1) := by decide +kernel
theorem d14 : decode yB 14 = .ok (.goto 4, 3) := by decide +kernel
theorem d17 : decode yB 17 = .ok (.iconst 0, 1) := by decide +kernel
theorem d18 : decode yB 18 = .ok (.ireturn, 1) := by decide +kernel
def site : List Cond := [.fieldLink "java/lang/String" 38 "java/lang/String" "COMPACT_STRINGS" "Z", .fieldLink "java/lang/String" 15 "java/lang/String" "coder" "B"]
def tab : Cond := tabOf yN yB 1 (some .boolean) site
def P (x : Addr) (cd z : Int32) (args : Array Value) (s : State) : Prop := args = #[.ref x] ∧ Has x "java/lang/String" "coder" "B" (.int cd) s ∧ (cd = 0 ∨ cd = 1) ∧ StaticIs s "java/lang/String" "COMPACT_STRINGS" "Z" (.int z) ∧ ¬ z = 0
def E (cd : Int32) (r : Option Value) (s u : State) : Prop := XT.PureE (some (.int (1 - cd))) r s u
theorem law (l : Launch) (x : Addr) (cd z : Int32) : Law l yN 1 0 0 0 yB 1 (some .boolean) site (P x cd z) (E cd) [] 0 0 := by
  refine Law.of_walk (plainFor_of_name (by decide +kernel)) (by decide +kernel) (by decide +kernel) (by decide) (fun _ _ h => by rw [h.1]; rfl) (fun _ U U' hal hh h => ⟨h.1, h.2.1.mv hal hh, h.2.2.1, h.2.2.2.1.there hal hh, h.2.2.2.2⟩) (fun r U U' V V' h1 hal h2 h => XT.PureE.mv r U U' V V' h1 hal h2 h) ?_
  intro p e s m args below meth c s₁ X0 hexec hbytes hml hret hlk hnm hown hh0 W hP
  obtain ⟨rfl, hx, hc, s1, hz⟩ := hP
  have c1 : Steps p.tables e below (s₁.setTop (entryFrame m #[.ref x] 1)) (s₁.setTop (mkF m 0 #[.val (.ref x)] [])) := entry rfl
  obtain ⟨T2, X2, q2, st2⟩ := X0.sget hexec hown (wk W (.fieldLink "java/lang/String" 38 "java/lang/String" "COMPACT_STRINGS" "Z")) s1 (fun _ _ h => by rw [hh0]; exact h) (g := (mkF m 0 #[.val (.ref x)] [])) rfl (hb hbytes d0)
  have hh2 := q2.trans hh0
  have c3 : Steps p.tables e below (s₁.setTop (entryFrame m #[.ref x] 1)) (T2.setTop (mkF m 7 #[.val (.ref x)] [.ref x])) := (c1.trans (st2 _ (Steps.refl _))).trans (by
    refine XS.ifNo X2.here hexec rfl (hb hbytes d3) rfl (i0_eq_f hz) ?_
    refine XS.aloadN X2.here hexec rfl (hb hbytes d6) rfl rfl ?_
    exact Steps.refl _)
  obtain ⟨T4, X4, q4, st4⟩ := X2.hget hexec hown (wk W (.fieldLink "java/lang/String" 15 "java/lang/String" "coder" "B")) (hx.mv X2.warmed.alike hh2) (g := (mkF m 7 #[.val (.ref x)] [.ref x])) rfl (rest := []) rfl (hb hbytes d7)
  have c5 : Steps p.tables e below (s₁.setTop (entryFrame m #[.ref x] 1)) (T4.setTop (mkF m 10 #[.val (.ref x)] [.int cd])) := c3.trans (st4 _ (Steps.refl _))
  have c6 : Steps p.tables e below (s₁.setTop (entryFrame m #[.ref x] 1)) (T4.setTop (mkF m 18 #[.val (.ref x)] [.int (1 - cd)])) := by
    rcases hc with rfl | rfl
    · exact c5.trans (by
        refine XS.ifNo X4.here hexec rfl (hb hbytes d10) rfl (i0_ne_f rfl) ?_
        refine iconstV X4.here hexec rfl 1 (hb hbytes d13) (by decide) ?_
        refine XS.goto X4.here hexec rfl (pc0 := 14) rfl (hb hbytes d14) (by decide) rfl ?_
        exact Steps.refl _)
    · exact c5.trans (by
        refine XS.ifYes X4.here hexec rfl (pc0 := 10) rfl (hb hbytes d10) rfl (i0_ne_t (by decide)) (by decide) rfl ?_
        refine iconstV X4.here hexec rfl 0 (hb hbytes d17) (by decide) ?_
        exact Steps.refl _)
  exact ⟨T4, some (.int (1 - cd)), _, _, _, X4, rfl, rfl, rfl, (fun h => by cases h), ⟨rfl, q4.trans hh2⟩, fun fs hl => c6.trans (X4.ireturnOut hexec hret (by rcases hc with rfl | rfl <;> rfl) (Or.inr (Or.inl rfl)) (hb hbytes d18) hl)⟩
end IsL
namespace LChA
def yN : MethodName := ⟨"java/lang/StringLatin1", "charAt", "([BI)C"⟩
abbrev yB : ByteArray := jdk_43_method_2_code
theorem d0 : decode yB 0 = .ok (.iload_n 1, 1) := by decide +kernel
theorem d1 : decode yB 1 = .ok (.aload_n 0, 1) := by decide +kernel
theorem d2 : decode yB 2 = .ok (.arraylength, 1) := by decide +kernel
theorem d3 : decode yB 3 = .ok (.invokestatic 9, 3) := by decide +kernel
theorem d6 : decode yB 6 = .ok (.aload_n 0, 1) := by decide +kernel
theorem d7 : decode yB 7 = .ok (.iload_n 1, 1) := by decide +kernel
theorem d8 : decode yB 8 = .ok (.baload, 1) := by decide +kernel
theorem d9 : decode yB 9 = .ok (.sipush 255, 3) := by decide +kernel
theorem d12 : decode yB 12 = .ok (.iand, 1) := by decide +kernel
theorem d13 : decode yB 13 = .ok (.i2c, 1) := by decide +kernel
theorem d14 : decode yB 14 = .ok (.ireturn, 1) := by decide +kernel
def site : List Cond := [JO.Str_checkIndex.tab] ++ staticW "java/lang/StringLatin1" 9 JO.Str_checkIndex.yN
def tab : Cond := tabOf yN yB 2 (some .char) site
def P (t : Addr) (V : Cell) (i : Nat) (u : Int32) (fm : Value) (args : Array Value) (s : State) : Prop := args = #[.ref t, .int (Int32.ofNat i)] ∧ XT.Arr .byte t V s ∧ V.slots[i]? = some (.int u) ∧ (StaticIs s "jdk/internal/util/Preconditions" "SIOOBE_FORMATTER" "Ljava/util/function/BiFunction;" fm ∧ fm.isRef = true)
def E (u : Int32) (r : Option Value) (s w : State) : Prop := XT.PureE (some (.int (chr8 u))) r s w
theorem law (l : Launch) (t : Addr) (V : Cell) (i : Nat) (u : Int32) (fm : Value) : Law l yN 2 2 2 27 yB 2 (some .char) site (P t V i u fm) (E u) [] 0 0 := by
  refine Law.of_walk (plainFor_of_name (by decide +kernel)) (by decide +kernel) (by decide +kernel) (by decide) (fun _ _ h => by rw [h.1]; rfl) (fun _ U U' hal hh h => ⟨h.1, h.2.1.mv hal hh, h.2.2.1, h.2.2.2.1.there hal hh, h.2.2.2.2⟩) (fun r U U' V V' h1 hal h2 h => XT.PureE.mv r U U' V V' h1 hal h2 h) ?_
  intro p e s m args below meth c s₁ X0 hexec hbytes hml hret hlk hnm hown hh0 W hP
  obtain ⟨rfl, hV, hu, s1, rf⟩ := hP
  have v31 := hV.2.2.2
  have hi : i < V.slots.size := (Array.getElem?_eq_some_iff.mp hu).1
  have c1 : Steps p.tables e below (s₁.setTop (entryFrame m #[.ref t, .int (Int32.ofNat i)] 2)) (s₁.setTop (mkF m 0 #[.val (.ref t), .val (.int (Int32.ofNat i))] [])) := entry rfl
  have c2 : Steps p.tables e below (s₁.setTop (entryFrame m #[.ref t, .int (Int32.ofNat i)] 2)) (s₁.setTop (mkF m 3 #[.val (.ref t), .val (.int (Int32.ofNat i))] [.int (Int32.ofNat V.slots.size), .int (Int32.ofNat i)])) := c1.trans (by
    refine XS.iloadN X0.here hexec rfl (hb hbytes d0) rfl ?_
    refine XS.aloadN X0.here hexec rfl (hb hbytes d1) rfl rfl ?_
    refine X0.alen hexec (hV.mv X0.warmed.alike hh0) rfl rfl (hb hbytes d2) ?_
    exact Steps.refl _)
  obtain ⟨v3, T3, X3, E3, g3⟩ := X0.callS hexec (JO.Str_checkIndex.law l (Int32.ofNat i) (Int32.ofNat V.slots.size) fm) hown (wks W (staticW "java/lang/StringLatin1" 9 JO.Str_checkIndex.yN)) (wk W JO.Str_checkIndex.tab) (W := 0) (Nat.le_of_ble_eq_true rfl) (Nat.le_of_ble_eq_true rfl) (Nat.le_refl _) (Nat.le_refl _) (g := (mkF m 3 #[.val (.ref t), .val (.int (Int32.ofNat i))] [.int (Int32.ofNat V.slots.size), .int (Int32.ofNat i)])) rfl (by rw [hml]; rfl) c2 (argsL := [.int (Int32.ofNat i), .int (Int32.ofNat V.slots.size)]) (rest := []) rfl rfl (by show 2 * 0 + 0 ≤ _; decide) (hb hbytes d3) (⟨rfl, rf, s1.there X0.warmed.alike hh0, Int32.ofNat_not_neg (by omega), lt32 v31 hi⟩)
  obtain ⟨rfl, q3⟩ := E3
  have hh3 := q3.trans hh0
  have c4 : Steps p.tables e below (s₁.setTop (entryFrame m #[.ref t, .int (Int32.ofNat i)] 2)) (T3.setTop (mkF m 14 #[.val (.ref t), .val (.int (Int32.ofNat i))] [.int (chr8 u)])) := Steps.trans g3 (by
    refine XS.aloadN X3.here hexec rfl (hb hbytes d6) rfl rfl ?_
    refine XS.iloadN X3.here hexec rfl (hb hbytes d7) rfl ?_
    refine X3.aget hexec (hV.mv X3.warmed.alike hh3) rfl hu rfl rfl (hb hbytes d8) ?_
    refine sipushV X3.here hexec rfl 255 (hb hbytes d9) (by decide) ?_
    refine XS.iand X3.here hexec rfl (hb hbytes d12) rfl ?_
    refine i2c X3.here hexec rfl (hb hbytes d13) rfl ?_
    exact Steps.refl _)
  exact ⟨T3, some (.int (chr8 u)), _, _, _, X3, rfl, rfl, rfl, (fun h => by cases h), ⟨rfl, hh3⟩, fun fs hl => c4.trans (X3.ireturnOut hexec hret (narrow_c _) (Or.inr (Or.inr (Or.inr (Or.inl rfl)))) (hb hbytes d14) hl)⟩
end LChA
end StrChars
namespace StrChars.Road
open Jvm Sem ClassFile Op Lib Jvm.Stand Jvm.Free Jvm.Free.XT
open Jvm.Lib.Cold (StaticIs)
theorem consq {a : Array Value} {s : State} {c : Jvm.Cond} {L : List Jvm.Cond} (h0 : c.before a s = true) (h : ∀ w ∈ L, w.before a s = true) : ∀ w ∈ c :: L, w.before a s = true := fun w hw => (List.mem_cons.mp hw).elim (fun e => e ▸ h0) (h w)
/-- the words of String.length(), either coding -/
abbrev wordsLen : List Jvm.Cond := [.code Len.yN Len.yB 1 (some .int), .initialized ST, .fieldLink ST 9 ST "value" "[B", .fieldLink ST 38 ST "COMPACT_STRINGS" "Z", .fieldLink ST 15 ST "coder" "B", .code Cdr.yN Cdr.yB 1 (some .byte), .methodLink ST 335 Cdr.yN, .declares Cdr.yN, .selects ST Cdr.yN Cdr.yN, .instanceMethod Cdr.yN]
theorem tabLen_of {a : Array Value} {s : State} (h : ∀ w ∈ wordsLen, w.before a s = true) : Len.tab.before a s = true := by
  have hc : Cdr.tab.before a s = true := unparts (wk h (.code Cdr.yN Cdr.yB 1 (some .byte))) (wks h (.initialized Cdr.yN.cls :: Cdr.site))
  have q := consq hc h
  exact unparts (wk q (.code Len.yN Len.yB 1 (some .int))) (wks q (.initialized Len.yN.cls :: Len.site))
theorem movedLen {Z s : State} {a0 args : Array Value} (hZ : Z.Warmed39 s.vm) (hw : ∀ d ∈ wordsLen, d.before a0 Z = true) : ∀ d ∈ wordsLen, d.before args s = true := fun d hd => by
  have q := hw d hd
  have t : ∀ d ∈ wordsLen, d = .arrayClass .byte ∨ (d.onTables && d.keepsFace) = true := by decide +kernel
  rcases t d hd with rfl | t
  · exact RoadKit.mvA hZ q
  · exact RoadKit.mv hZ q t
/-- the bytes of the chars cs, low before high -/
def wideBytes : List Int32 → List Value
  | [] => []
  | c :: cs => .int (lo8 c) :: .int (hi8 c) :: wideBytes cs
theorem wide_lo (d : Value) : ∀ (cs : List Int32) (j : Nat), j < cs.length → (wideBytes cs).getD (2 * j) d = .int (lo8 (cs.getD j 0))
  | [], j, h => absurd h (Nat.not_lt_zero j)
  | c :: cs, 0, _ => rfl
  | c :: cs, j + 1, h => by
    have q := wide_lo d cs j (by simpa using h)
    rw [show 2 * (j + 1) = 2 * j + 1 + 1 from by omega]
    simpa [wideBytes] using q
theorem wide_hi (d : Value) : ∀ (cs : List Int32) (j : Nat), j < cs.length → (wideBytes cs).getD (2 * j + 1) d = .int (hi8 (cs.getD j 0))
  | [], j, h => absurd h (Nat.not_lt_zero j)
  | c :: cs, 0, _ => rfl
  | c :: cs, j + 1, h => by
    have q := wide_hi d cs j (by simpa using h)
    rw [show 2 * (j + 1) + 1 = 2 * j + 1 + 1 + 1 from by omega]
    simpa [wideBytes] using q
theorem low_at (d : Value) (cs : List Int32) (j : Nat) (h : j < cs.length) : (cs.map fun c => Value.int (lo8 c)).getD j d = .int (lo8 (cs.getD j 0)) := by
  simp [List.getD_eq_getElem?_getD, h]
/-- an array of N2 bytes vs codes the chars cs by the coder cd -/
def CodA (cs : List Int32) (cd N2 : Int32) (vs : List Value) : Prop := (cd = 0 ∧ N2 = Int32.ofNat cs.length ∧ vs = (cs.map fun c => Value.int (lo8 c)) ∧ ∀ c ∈ cs, ¬ 255 < c) ∨ (cd = 1 ∧ N2 = Int32.ofNat (2 * cs.length) ∧ vs = wideBytes cs ∧ ∃ c ∈ cs, 255 < c)
theorem CodA.cod {cs : List Int32} {cd N2 : Int32} {vs : List Value} {V : Cell} (h : CodA cs cd N2 vs) (hn : 2 * cs.length < 2 ^ 31) (hs : V.slots.size = N2.toNatClampNeg) (hv : RoadKit.Has V vs (.int 0)) : Cod cd cs.length (fun j => cs.getD j 0) V := by
  rcases h with ⟨rfl, rfl, rfl, h⟩ | ⟨rfl, rfl, rfl, c, hc, hw⟩
  · rw [n32 (by omega)] at hs
    exact Or.inl ⟨rfl, hs, fun j hj => ⟨by rw [hv j (by omega), low_at _ _ _ hj], by
      have e : cs.getD j 0 = cs[j] := by simp [List.getD_eq_getElem?_getD, hj]
      show ¬ 255 < cs.getD j 0
      rw [e]; exact h _ (List.getElem_mem _)⟩⟩
  · rw [n32 (by omega)] at hs
    obtain ⟨j, hj, rfl⟩ := List.getElem_of_mem hc
    exact Or.inr ⟨rfl, hs, fun j hj => ⟨by rw [hv _ (by omega), wide_lo _ _ _ hj], by rw [hv _ (by omega), wide_hi _ _ _ hj]⟩, j, hj, by
      have e : cs.getD j 0 = cs[j] := by simp [List.getD_eq_getElem?_getD, hj]
      show 255 < cs.getD j 0
      rw [e]; exact hw⟩
/-- an object of exactly java/lang/String, its two fields found: as the laws ask it -/
theorem strObj {Z U : State} {a0 : Array Value} {kI : Nat} (wi : (Jvm.Cond.instantiable ST kI).before a0 Z = true) (al : Z.vm.Alike U.vm) {x : Addr} {v0 c0 : Value} (E : RoadKit.Exa Z U.heap x ST) (V : RoadKit.Fld Z U.heap x ST "value" "[B" v0) (C : RoadKit.Fld Z U.heap x ST "coder" "B" c0) :
    ∃ (D : Cell) (fV fC : Field), Blank ST x D U ∧ Found ST "value" "[B" fV U ∧ Found ST "coder" "B" fC U ∧ D.slots[fV.slot]? = some v0 ∧ D.slots[fC.slot]? = some c0 ∧ RoadKit.slotOf Z ST "value" "[B" = fV.slot ∧ RoadKit.slotOf Z ST "coder" "B" = fC.slot := by
  obtain ⟨D, cfV, kV, iV, fV, hD, gV, stV, knV, obV, asV, slV⟩ := V
  obtain ⟨D', cfC, kC, iC, fC, hD', gC, stC, -, -, asC, slC⟩ := C
  cases hD.symm.trans hD'
  obtain ⟨D2, kD, e1, e2, e3, e4, e5⟩ := E
  cases hD.symm.trans e1
  obtain ⟨c2, k2, i1, i2, i3, -⟩ := Cond.instantiable_spec wi
  cases e2.symm.trans i1
  cases e3.symm.trans i2
  obtain ⟨kU, u1, u2⟩ := al.2.2 _ _ e3
  exact ⟨D, fV, fC, ⟨hD, ⟨knV, fun q hq => by rw [hq] at obV; cases obV⟩, by rw [al.findClass]; exact e2, kU, u1, by rw [u2]; exact i3, by rw [u2]; exact e5 i3⟩, ⟨SBG.found_only al ⟨cfV, kV, iV, gV⟩, stV⟩, ⟨SBG.found_only al ⟨cfC, kC, iC, gC⟩, stC⟩, slV, slC, by simp [RoadKit.slotOf, gV], by simp [RoadKit.slotOf, gC]⟩
theorem sta_is {Z U : State} (al : Z.vm.Alike U.vm) {C n d : String} {v : Value} (S : RoadKit.Sta Z U.heap C n d v) : StaticIs U C n d v := by
  obtain ⟨cfS, iS, kS, fS, st, cS, t1, t2, t3, t4, t5, t6, t7⟩ := S
  exact StaticIs.there (s := { Z with heap := U.heap }) ⟨cfS, iS, kS, fS, st, cS, t1, t2, t3, t4, t5, (fun q => by rw [q] at t6; cases t6), t7⟩ al rfl
/-- **length() OF SUCH A STRING** -/
theorem lenW {p : Program} {l : Launch} {e : Env} {R : Room} {s : State} {args : Array Value} {below : List Frame} {len W : Nat} {Z : State} {a0 : Array Value} {h : Heap} (hZ : Z.Warmed39 s.vm) (hw : ∀ d ∈ wordsLen, d.before a0 Z = true) {kI : Nat} (wi : (Jvm.Cond.instantiable ST kI).before a0 Z = true)
    {x t : Addr} {kb : ClassId} {cs : List Int32} {cd N2 z : Int32} {vs : List Value} (E : RoadKit.Exa Z h x ST) (V : RoadKit.Fld Z h x ST "value" "[B" (.ref t)) (C : RoadKit.Fld Z h x ST "coder" "B" (.int cd)) (K : RoadKit.Arv Z h t kb .byte N2 vs (.int 0)) (hc : CodA cs cd N2 vs) (hb : ∀ c ∈ cs, ¬ c < 0 ∧ ¬ (65535 : Int32) < c)
    (S : RoadKit.Sta Z h ST "COMPACT_STRINGS" "Z" (.int z)) (hz : ¬ z = 0) (l2 : cs.length ≤ 4000) (hfr : 2 ≤ R.frames) (hlo : W + 25 ≤ R.locals) :
    Back l R p e below s args (⟨"java/lang/String", "length", "()I"⟩ : MethodName) len W (fun P a => a = #[.ref x] ∧ P.U.heap = h ∧ P.cells + 0 ≤ R.cells ∧ P.slots + 0 ≤ R.slots)
      (fun P _ v B => ∃ L, (v = some (.int (Int32.ofNat cs.length)) ∧ L = [] ∧ B.U.heap = h) ∧ B.locs = P.locs ++ L ∧ B.cells = P.cells + 0 ∧ B.slots = P.slots + 0) := by
  obtain ⟨A, K1, K2, K3, K4, K5, K6⟩ := K
  have hcod := hc.cod (by omega) K3 K5
  intro m meth c P g ig mk a X hg hsize hdg hW hn hp'
  obtain ⟨rfl, rfl, r1, r2⟩ := hp'
  have al : Z.vm.Alike P.U.vm := hZ.alike.trans X.warmed.alike
  obtain ⟨D, fV, fC, hB, F1, F2, g1, g2, -, -⟩ := strObj wi al E V C
  have hx : Txt x t A cd cs.length (fun j => cs.getD j 0) P.U := ⟨⟨_, hB.2.2.1, D, hB.1, rfl, by cases q : D.vm <;> first | rfl | exact absurd q (hB.2.1.2 _)⟩, Has.of hB F1 g1, Has.of hB F2 g2, ⟨K1.1, State.isArrayOf_alike al K1.2.1, K1.2.2, by rcases hcod with ⟨-, q, -⟩ | ⟨-, q, -⟩ <;> omega⟩, hcod, fun j hj => by
    have e : cs.getD j 0 = cs[j] := by simp [List.getD_eq_getElem?_getD, hj]
    show ¬ cs.getD j 0 < 0 ∧ ¬ 65535 < cs.getD j 0
    rw [e]; exact hb _ (List.getElem_mem _)⟩
  obtain ⟨v, B, X', ⟨⟨hv, hh⟩, hl, hk, hs⟩, st⟩ := Len.pays x t A cd cs.length (fun j => cs.getD j 0) z (tabLen_of (movedLen hZ hw)) hfr hlo m meth c P g ig mk _ X hg hsize hdg hW hn ⟨r1, r2, rfl, hx, sta_is al S, hz⟩
  exact ⟨v, B, X', ⟨[], ⟨hv, rfl, hh⟩, hl, hk, hs⟩, st⟩
end StrChars.Road
namespace StrChars.Road
open Jvm Sem ClassFile Op Lib Jvm.Stand Jvm.Free Jvm.Free.XT
open Jvm.Lib.Cold (StaticIs)
/-- the road's facts of a String, as the laws ask it -/
theorem txt_of {Z U : State} {a0 : Array Value} {kI : Nat} (wi : (Jvm.Cond.instantiable ST kI).before a0 Z = true) (al : Z.vm.Alike U.vm) {x t : Addr} {kb : ClassId} {cs : List Int32} {cd N2 : Int32} {vs : List Value} (E : RoadKit.Exa Z U.heap x ST) (V : RoadKit.Fld Z U.heap x ST "value" "[B" (.ref t)) (C : RoadKit.Fld Z U.heap x ST "coder" "B" (.int cd)) (K : RoadKit.Arv Z U.heap t kb .byte N2 vs (.int 0)) (hc : CodA cs cd N2 vs) (hb : ∀ c ∈ cs, ¬ c < 0 ∧ ¬ (65535 : Int32) < c) (l2 : cs.length ≤ 4000) :
    ∃ A, Txt x t A cd cs.length (fun j => cs.getD j 0) U := by
  obtain ⟨A, K1, K2, K3, K4, K5, K6⟩ := K
  have hcod := hc.cod (by omega) K3 K5
  obtain ⟨D, fV, fC, hB, F1, F2, g1, g2, -, -⟩ := strObj wi al E V C
  exact ⟨A, ⟨_, hB.2.2.1, D, hB.1, rfl, by cases q : D.vm <;> first | rfl | exact absurd q (hB.2.1.2 _)⟩, Has.of hB F1 g1, Has.of hB F2 g2, ⟨K1.1, State.isArrayOf_alike al K1.2.1, K1.2.2, by rcases hcod with ⟨-, q, -⟩ | ⟨-, q, -⟩ <;> omega⟩, hcod, fun j hj => by
    have e : cs.getD j 0 = cs[j] := by simp [List.getD_eq_getElem?_getD, hj]
    show ¬ cs.getD j 0 < 0 ∧ ¬ 65535 < cs.getD j 0
    rw [e]; exact hb _ (List.getElem_mem _)⟩
end StrChars.Road
namespace StrChars
open Jvm Sem ClassFile Op Lib Jvm.Stand Jvm.Free.XT Jvm.Free.ALB Jvm.Free.JM Jvm.Free
open Jvm.Lib.Cold (StaticIs)
namespace ChN
def yN : MethodName := ⟨"java/lang/String", "charAt", "(I)C"⟩
abbrev yB : ByteArray := jdk_42_method_56_code
theorem d0 : decode yB 0 = .ok (.aload_n 0, 1) := by decide +kernel
theorem d1 : decode yB 1 = .ok (.invokevirtual 492, 3) := by decide +kernel
theorem d4 : decode yB 4 = .ok (.ifCond (.eq) 12, 3) := by decide +kernel
theorem d7 : decode yB 7 = .ok (.aload_n 0, 1) := by decide +kernel
theorem d8 : decode yB 8 = .ok (.getfield 9, 3) := by decide +kernel
theorem d11 : decode yB 11 = .ok (.iload_n 1, 1) := by decide +kernel
theorem d12 : decode yB 12 = .ok (.invokestatic 495, 3) := by decide +kernel
theorem d15 : decode yB 15 = .ok (.ireturn, 1) := by decide +kernel
def site : List Cond := [.fieldLink "java/lang/String" 9 "java/lang/String" "value" "[B", IsL.tab, LChA.tab] ++ virtW "java/lang/String" 492 "java/lang/String" IsL.yN IsL.yN ++ staticW "java/lang/String" 495 LChA.yN
def tab : Cond := tabOf yN yB 2 (some .char) site
def P (x t : Addr) (V : Cell) (n : Nat) (f : Nat → Int32) (z : Int32) (fm : Value) (i : Nat) (args : Array Value) (s : State) : Prop := args = #[.ref x, .int (Int32.ofNat i)] ∧ Txt x t V 0 n f s ∧ i < n ∧ StaticIs s "java/lang/String" "COMPACT_STRINGS" "Z" (.int z) ∧ ¬ z = 0 ∧ StaticIs s "jdk/internal/util/Preconditions" "SIOOBE_FORMATTER" "Ljava/util/function/BiFunction;" fm ∧ fm.isRef = true
def E (f : Nat → Int32) (i : Nat) (r : Option Value) (s u : State) : Prop := XT.PureE (some (.int (f i))) r s u
/-- charAt(i) of a Latin-1 String of n chars, i < n: f i -/
theorem law (l : Launch) (x t : Addr) (V : Cell) (n : Nat) (f : Nat → Int32) (z : Int32) (fm : Value) (i : Nat) : Law l yN 2 1 3 40 yB 2 (some .char) site (P x t V n f z fm i) (E f i) [] 0 0 := by
  refine Law.of_walk (plainFor_of_name (by decide +kernel)) (by decide +kernel) (by decide +kernel) (by decide) (fun _ _ h => by rw [h.1]; rfl) (fun _ U U' hal hh h => ⟨h.1, h.2.1.mv hal hh, h.2.2.1, h.2.2.2.1.there hal hh, h.2.2.2.2.1, h.2.2.2.2.2.1.there hal hh, h.2.2.2.2.2.2⟩) (fun r U U' V V' h1 hal h2 h => XT.PureE.mv r U U' V V' h1 hal h2 h) ?_
  intro p e s m args below meth c s₁ X0 hexec hbytes hml hret hlk hnm hown hh0 W hP
  obtain ⟨rfl, hx, hi, s1, hz, s3, rf⟩ := hP
  have v31 := hx.2.2.2.1.2.2.2
  have hr := hx.2.2.2.2.2 i hi
  have hx0 := hx.mv X0.warmed.alike hh0
  have c1 : Steps p.tables e below (s₁.setTop (entryFrame m #[.ref x, .int (Int32.ofNat i)] 2)) (s₁.setTop (mkF m 1 #[.val (.ref x), .val (.int (Int32.ofNat i))] [.ref x])) := Steps.trans (entry rfl) (by
    show Steps p.tables e below (s₁.setTop (mkF m 0 #[.val (.ref x), .val (.int (Int32.ofNat i))] [])) _
    refine XS.aloadN X0.here hexec rfl (hb hbytes d0) rfl rfl ?_
    exact Steps.refl _)
  obtain ⟨v2, T2, X2, E2, g2⟩ := X0.callV hexec (IsL.law l x 0 z) hown (wks W (virtW "java/lang/String" 492 "java/lang/String" IsL.yN IsL.yN)) rfl (by decide) (wk W IsL.tab) (W := 0) (Nat.le_of_ble_eq_true rfl) (Nat.le_of_ble_eq_true rfl) (Nat.le_refl _) (Nat.le_refl _) (hx0.1.fc X0.warmed.alike) hx0.1.is (g := (mkF m 1 #[.val (.ref x), .val (.int (Int32.ofNat i))] [.ref x])) rfl (by rw [hml]; rfl) c1 (argsL := []) (rest := []) rfl rfl (by show 2 * 0 + 0 ≤ _; decide) (hb hbytes d1) (⟨rfl, hx0.2.2.1, hx.2.2.2.2.1.cd, s1.there X0.warmed.alike hh0, hz⟩)
  obtain ⟨rfl, q2⟩ := E2
  have hh2 := q2.trans hh0
  have hx2 := hx.mv X2.warmed.alike hh2
  obtain ⟨-, k1, k2⟩ | ⟨k0, -⟩ := hx.2.2.2.2.1
  · have c3 : Steps p.tables e below (s₁.setTop (entryFrame m #[.ref x, .int (Int32.ofNat i)] 2)) (T2.setTop (mkF m 8 #[.val (.ref x), .val (.int (Int32.ofNat i))] [.ref x])) := Steps.trans g2 (by
      refine XS.ifNo X2.here hexec rfl (hb hbytes d4) rfl (i0_eq_f (by decide)) ?_
      refine XS.aloadN X2.here hexec rfl (hb hbytes d7) rfl rfl ?_
      exact Steps.refl _)
    obtain ⟨T4, X4, q4, st4⟩ := X2.hget hexec hown (wk W (.fieldLink "java/lang/String" 9 "java/lang/String" "value" "[B")) hx2.2.1 (g := (mkF m 8 #[.val (.ref x), .val (.int (Int32.ofNat i))] [.ref x])) rfl (rest := []) rfl (hb hbytes d8)
    have hh4 := q4.trans hh2
    have c5 : Steps p.tables e below (s₁.setTop (entryFrame m #[.ref x, .int (Int32.ofNat i)] 2)) (T4.setTop (mkF m 12 #[.val (.ref x), .val (.int (Int32.ofNat i))] [.int (Int32.ofNat i), .ref t])) := (c3.trans (st4 _ (Steps.refl _))).trans (by
      refine XS.iloadN X4.here hexec rfl (hb hbytes d11) rfl ?_
      exact Steps.refl _)
    obtain ⟨v6, T6, X6, E6, g6⟩ := X4.callS hexec (LChA.law l t V i (lo8 (f i)) fm) hown (wks W (staticW "java/lang/String" 495 LChA.yN)) (wk W LChA.tab) (W := 0) (Nat.le_of_ble_eq_true rfl) (Nat.le_of_ble_eq_true rfl) (Nat.le_refl _) (Nat.le_refl _) (g := (mkF m 12 #[.val (.ref x), .val (.int (Int32.ofNat i))] [.int (Int32.ofNat i), .ref t])) rfl (by rw [hml]; rfl) c5 (argsL := [.ref t, .int (Int32.ofNat i)]) (rest := []) rfl rfl (by show 2 * 0 + 0 ≤ _; decide) (hb hbytes d12) (⟨rfl, hx.2.2.2.1.mv X4.warmed.alike hh4, (k2 i hi).1, s3.there X4.warmed.alike hh4, rf⟩)
    obtain ⟨rfl, q6⟩ := E6
    rw [chr8_lo8 hr.1 (k2 i hi).2] at g6
    exact ⟨T6, some (.int (f i)), _, _, _, X6, rfl, rfl, rfl, (fun h => by cases h), ⟨rfl, q6.trans hh4⟩, fun fs hl => Steps.trans g6 (X6.ireturnOut hexec hret (narrow_ch hr.1 hr.2) (Or.inr (Or.inr (Or.inr (Or.inl rfl)))) (hb hbytes d15) hl)⟩
  · exact absurd k0 (by decide)
theorem pays {l : Launch} {R : Room} {p : Program} {e : Env} {below : List Frame} {s : State} {sargs : Array Value} {len W : Nat} (x t : Addr) (V : Cell) (n : Nat) (f : Nat → Int32) (z : Int32) (fm : Value) (i : Nat) (htab : tab.before sargs s = true) (hfr : 4 ≤ R.frames) (hlo : W + 53 ≤ R.locals) :
    Back l R p e below s sargs yN len W (fun A₁ a₁ => A₁.cells + 0 ≤ R.cells ∧ A₁.slots + 0 ≤ R.slots ∧ P x t V n f z fm i a₁ A₁.U) (fun A₁ _ v₁ B₁ => E f i v₁ A₁.U B₁.U ∧ B₁.locs = A₁.locs ++ [] ∧ B₁.cells = A₁.cells + 0 ∧ B₁.slots = A₁.slots + 0) :=
  (law l x t V n f z fm i).pays htab hfr (by omega)
end ChN
end StrChars
namespace StrChars.Road
open Jvm Sem ClassFile Op Lib Jvm.Stand Jvm.Free Jvm.Free.XT
open Jvm.Lib.Cold (StaticIs)
/-- the words of String.charAt(int), the Latin-1 road alone -/
abbrev wordsChN : List Jvm.Cond := [.code ChN.yN ChN.yB 2 (some .char), .initialized ST, .fieldLink ST 9 ST "value" "[B", .fieldLink ST 38 ST "COMPACT_STRINGS" "Z", .fieldLink ST 15 ST "coder" "B", .code IsL.yN IsL.yB 1 (some .boolean), .methodLink ST 492 IsL.yN, .declares IsL.yN, .selects ST IsL.yN IsL.yN, .instanceMethod IsL.yN,
  .methodLink ST 495 LChA.yN, .static LChA.yN, .code LChA.yN LChA.yB 2 (some .char), .initialized "java/lang/StringLatin1", .methodLink "java/lang/StringLatin1" 9 JO.Str_checkIndex.yN, .static JO.Str_checkIndex.yN, .code JO.Str_checkIndex.yN JO.Str_checkIndex.yB 2 none,
  .fieldLink ST 1053 "jdk/internal/util/Preconditions" "SIOOBE_FORMATTER" "Ljava/util/function/BiFunction;", .methodLink ST 1059 JC.PreCheck.yN, .static JC.PreCheck.yN, .code JC.PreCheck.yN JC.PreCheck.yB 3 (some .int), .initialized "jdk/internal/util/Preconditions"]
theorem tabChN_of {a : Array Value} {s : State} (h : ∀ w ∈ wordsChN, w.before a s = true) : ChN.tab.before a s = true := by
  have hp : JC.PreCheck.tab.before a s = true := unparts (wk h (.code JC.PreCheck.yN JC.PreCheck.yB 3 (some .int))) (wks h (.initialized JC.PreCheck.yN.cls :: JC.PreCheck.site))
  have qk := consq hp h
  have hk : JO.Str_checkIndex.tab.before a s = true := unparts (wk qk (.code JO.Str_checkIndex.yN JO.Str_checkIndex.yB 2 none)) (wks qk (.initialized JO.Str_checkIndex.yN.cls :: JO.Str_checkIndex.site))
  have ql := consq hk h
  have hl : LChA.tab.before a s = true := unparts (wk ql (.code LChA.yN LChA.yB 2 (some .char))) (wks ql (.initialized LChA.yN.cls :: LChA.site))
  have hi : IsL.tab.before a s = true := unparts (wk h (.code IsL.yN IsL.yB 1 (some .boolean))) (wks h (.initialized IsL.yN.cls :: IsL.site))
  have q := consq hi (consq hl h)
  exact unparts (wk q (.code ChN.yN ChN.yB 2 (some .char))) (wks q (.initialized ChN.yN.cls :: ChN.site))
theorem movedChN {Z s : State} {a0 args : Array Value} (hZ : Z.Warmed39 s.vm) (hw : ∀ d ∈ wordsChN, d.before a0 Z = true) : ∀ d ∈ wordsChN, d.before args s = true := fun d hd => by
  have t : ∀ d ∈ wordsChN, (d.onTables && d.keepsFace) = true := by decide +kernel
  exact RoadKit.mv hZ (hw d hd) (t d hd)
/-- **charAt(i) OF A LATIN-1 STRING**, i < n: the char -/
theorem chN {p : Program} {l : Launch} {e : Env} {R : Room} {s : State} {args : Array Value} {below : List Frame} {len W : Nat} {Z : State} {a0 : Array Value} {h : Heap} (hZ : Z.Warmed39 s.vm) (hw : ∀ d ∈ wordsChN, d.before a0 Z = true) {kI : Nat} (wi : (Jvm.Cond.instantiable ST kI).before a0 Z = true)
    {x t : Addr} {kb : ClassId} {cs : List Int32} {N2 z : Int32} {vs : List Value} {fm : Value} {i : Nat} {j : Int32} (E : RoadKit.Exa Z h x ST) (V : RoadKit.Fld Z h x ST "value" "[B" (.ref t)) (C : RoadKit.Fld Z h x ST "coder" "B" (.int 0)) (K : RoadKit.Arv Z h t kb .byte N2 vs (.int 0)) (hc : CodA cs 0 N2 vs) (hb : ∀ c ∈ cs, ¬ c < 0 ∧ ¬ (65535 : Int32) < c)
    (S : RoadKit.Sta Z h ST "COMPACT_STRINGS" "Z" (.int z)) (hz : ¬ z = 0) (F : RoadKit.Sta Z h "jdk/internal/util/Preconditions" "SIOOBE_FORMATTER" "Ljava/util/function/BiFunction;" fm) (rf : fm.isRef = true) (l2 : cs.length ≤ 4000) (hi : i < cs.length) (hj : j = Int32.ofNat i) (hfr : 4 ≤ R.frames) (hlo : W + 53 ≤ R.locals) :
    Back l R p e below s args (⟨"java/lang/String", "charAt", "(I)C"⟩ : MethodName) len W (fun P a => a = #[.ref x, .int j] ∧ P.U.heap = h ∧ P.cells + 0 ≤ R.cells ∧ P.slots + 0 ≤ R.slots)
      (fun P _ v B => ∃ L, (v = some (.int (cs.getD i 0)) ∧ L = [] ∧ B.U.heap = h) ∧ B.locs = P.locs ++ L ∧ B.cells = P.cells + 0 ∧ B.slots = P.slots + 0) := by
  subst hj
  intro m meth c P g ig mk a X hg hsize hdg hW hn hp'
  obtain ⟨rfl, rfl, r1, r2⟩ := hp'
  have al : Z.vm.Alike P.U.vm := hZ.alike.trans X.warmed.alike
  obtain ⟨A, hx⟩ := txt_of wi al E V C K hc hb l2
  obtain ⟨v, B, X', ⟨⟨hv, hh⟩, hl, hk, hs⟩, st⟩ := ChN.pays x t A cs.length (fun j => cs.getD j 0) z fm i (tabChN_of (movedChN hZ hw)) hfr hlo m meth c P g ig mk _ X hg hsize hdg hW hn ⟨r1, r2, rfl, hx, hi, sta_is al S, hz, sta_is al F, rf⟩
  exact ⟨v, B, X', ⟨[], ⟨hv, rfl, hh⟩, hl, hk, hs⟩, st⟩
/-- what backV says of its String, as the contracts of this text ask it: cs's low bytes, coder 0 -/
theorem codOf {cs : List Int32} {n : Nat} (hn : cs.length = n) (hb : ∀ c ∈ cs, ¬ 255 < c) : CodA cs 0 (Int32.ofNat n) ((cs.map lo8).map Value.int) := Or.inl ⟨rfl, by rw [hn], by simp [List.map_map, Function.comp_def], hb⟩
end StrChars.Road
end Jvm.Pilot.@@N@@
namespace Jvm.Pilot.@@N@@
open Jvm Jvm.ClassFile Sem Op Lib Jvm.Free Jvm.Stand Jvm.LawKit Jvm.RoadKit Bundle Jvm.Pilot.@@N@@.Jvm.D
/-! own kit, part A: a walk as a goal (Go), the world of a walk (Wd), contracts (Met) -/
section OwnA
variable {p : Program} {l : Launch} {e : Env} {R : Room} {s : State} {m : MethodId} {args : Array Value} {below : List Frame} {meth : Method} {c : Code} {T T' : State} {h h' : Heap} {Z : State} {a0 : Array Value} {EL : List (String × Nat)} {own : String} {k n : Nat} {P : Outcome → State → Prop} {F : List Addr}
/-- what a walk owes from here -/
def Go (p : Program) (e : Env) (below : List Frame) (P : Outcome → State → Prop) (T : State) (g : JFrame) : Prop :=
  ∃ t o, Steps p.tables e below (T.setTop g) t ∧ t.status = .running ∧ Ended t below o ∧ P o t
theorem Go.st {g g' : JFrame} (K : Go p e below P T' g') (st : ∀ target, Steps p.tables e below (T'.setTop g') target → Steps p.tables e below (T.setTop g) target) : Go p e below P T g := by
  obtain ⟨t, o, h1, h2⟩ := K
  exact ⟨t, o, st t h1, h2⟩
theorem Go.tr {g g' : JFrame} (K : Go p e below P T' g') (st : Steps p.tables e below (T.setTop g) (T'.setTop g')) : Go p e below P T g := by
  obtain ⟨t, o, h1, h2⟩ := K
  exact ⟨t, o, st.trans h1, h2⟩
/-- an address that the walk may write -/
def Wok (Z : State) (F : List Addr) (h : Heap) (a : Addr) : Prop := Z.heap.size ≤ a ∧ (a ∈ F ∨ (∃ C, Exa Z h a C ∧ C ≠ "java/lang/String" ∧ C ≠ "[B") ∨ ∃ cl ty, Arr Z h a cl ty ∧ ty ≠ .byte)
/-- the world of a walk -/
def Wd (p : Program) (l : Launch) (e : Env) (R : Room) (s : State) (m : MethodId) (args : Array Value) (below : List Frame) (meth : Method) (c : Code) (Z : State) (a0 : Array Value) (EL : List (String × Nat)) (own : String) (F : List Addr) (T : State) (h : Heap) (k n : Nat) : Prop :=
  p.tables.exec = Jvm.exec ∧ Ext Z.heap h ∧ EW Z a0 EL ∧ meth.locks = false ∧
    ∃ (vm0 : Vm) (k0 : Nat) (locs : List Loc), Stand p l e R (s.setVm vm0) m args below meth c T locs k n ∧ Z.Warmed39 vm0 ∧ vm0.findClass own = some m.cls ∧ T.heap = h ∧ s.Since vm0 k0 ∧ k0 ≤ h.size ∧ CHr Z EL s.vm s.heap vm0 h ∧ Fr Z.heap.size locs ∧ (EL = [] → s.WarmedH vm0) ∧ ∀ x ∈ F, x < h.size ∧ Safe Z EL vm0 h x
theorem Wd.here (W : Wd p l e R s m args below meth c Z a0 EL own F T h k n) : At T m c below := by
  obtain ⟨-, -, -, -, vm0, k0, locs, X, -⟩ := W; exact X.here
theorem Wd.hx (W : Wd p l e R s m args below meth c Z a0 EL own F T h k n) : p.tables.exec = Jvm.exec := W.1
theorem Wd.old (W : Wd p l e R s m args below meth c Z a0 EL own F T h k n) : Ext Z.heap h := W.2.1
theorem Wd.hEL (W : Wd p l e R s m args below meth c Z a0 EL own F T h k n) : EW Z a0 EL := W.2.2.1
theorem Wd.safeOf {vm0 : Vm} (hal : Z.vm.Alike vm0) (hF : ∀ x ∈ F, x < h.size ∧ Safe Z EL vm0 h x) {a : Addr} (q : Wok Z F h a) : Safe Z EL vm0 h a := by
  rcases q.2 with q | ⟨C, q1, q2, q3⟩ | ⟨cl, ty, q1, q2⟩
  · exact (hF a q).2
  · exact Safe.exa hal q1 q2 q3
  · exact Safe.arr hal q1 q2
theorem Wd.more (W : Wd p l e R s m args below meth c Z a0 EL own F T h k n) {k' n' : Nat} (hk : k ≤ k') (hn : n ≤ n') : Wd p l e R s m args below meth c Z a0 EL own F T h k' n' := by
  obtain ⟨w1, w2, w3, w4, vm0, k0, locs, X, r⟩ := W
  exact ⟨w1, w2, w3, w4, vm0, k0, locs, X.more hk hn, r⟩
theorem Wd.drop (W : Wd p l e R s m args below meth c Z a0 EL own F T h k n) {F' : List Addr} (q : ∀ x ∈ F', x ∈ F) : Wd p l e R s m args below meth c Z a0 EL own F' T h k n := by
  obtain ⟨w1, w2, w3, w4, vm0, k0, locs, X, a, b, d, f, g, i, j, w, u⟩ := W
  exact ⟨w1, w2, w3, w4, vm0, k0, locs, X, a, b, d, f, g, i, j, w, fun x hx => u x (q x hx)⟩
theorem ext_old_wr {a : Addr} {sl : Nat} {v : Value} (E : Ext Z.heap h) (W : Wr h h' a sl v) (q : Z.heap.size ≤ a) : Ext Z.heap h' := (Old.wr (n0 := Z.heap.size) ⟨rfl, E⟩ W q).2
theorem ext_old_keep {ws : List Addr} (E : Ext Z.heap h) (K : Keep h h' ws) (q : ∀ x ∈ ws, Z.heap.size ≤ x) : Ext Z.heap h' := (Old.keep (n0 := Z.heap.size) ⟨rfl, E⟩ K q).2
theorem ext_trans {h2 : Heap} (E : Ext h h') (E' : Ext h' h2) : Ext h h2 := ⟨Nat.le_trans E.1 E'.1, fun a c q => E'.2 a c (E.2 a c q)⟩
theorem ext_refl (h : Heap) : Ext h h := ⟨Nat.le_refl _, fun _ _ q => q⟩
theorem ext_keep (E : Ext h h') (ws : List Addr) : Keep h h' ws := (Keep.refl h ws).ext E
theorem keep_ext (K : Keep h h' []) : Ext h h' := ⟨K.1, fun a c q => K.2.1 a c q (fun z => nomatch z)⟩
/-- a step over the same tables that only makes cells -/
theorem Wd.grow (W : Wd p l e R s m args below meth c Z a0 EL own F T h k n) {k' n' : Nat} {g g' : JFrame}
    (st : ∀ {vm0 : Vm} {locs : List Loc}, Stand p l e R (s.setVm vm0) m args below meth c T locs k n → Z.Warmed39 vm0 → vm0.findClass own = some m.cls → T.heap = h →
      ∃ T', Stand p l e R (s.setVm vm0) m args below meth c T' locs k' n' ∧ T'.heap = h' ∧ ∀ target, Steps p.tables e below (T'.setTop g') target → Steps p.tables e below (T.setTop g) target)
    (E : Ext h h') (K : ∀ T', Wd p l e R s m args below meth c Z a0 EL own F T' h' k' n' → Go p e below P T' g') : Go p e below P T g := by
  obtain ⟨w1, w2, w3, w4, vm0, k0, locs, X, hZ, hown, eT, hS, hk, hC, hN, hH, hF⟩ := W
  obtain ⟨T', X', eT', st⟩ := st X hZ hown eT
  exact (K T' ⟨w1, ext_trans w2 E, w3, w4, vm0, k0, locs, X', hZ, hown, eT', hS, Nat.le_trans hk E.1, hC.trans (CHr.ext E hC.1), hN, hH, fun x q => ⟨Nat.lt_of_lt_of_le (hF x q).1 E.1, Safe.ext E hC.1 (hF x q).2⟩⟩).st st
/-- a step over the same tables that writes one place -/
theorem Wd.write (W : Wd p l e R s m args below meth c Z a0 EL own F T h k n) {a : Addr} {sl : Nat} {v : Value} {g g' : JFrame} (q : Wok Z F h a)
    (st : ∀ {vm0 : Vm} {locs : List Loc}, Stand p l e R (s.setVm vm0) m args below meth c T locs k n → Z.Warmed39 vm0 → vm0.findClass own = some m.cls → T.heap = h →
      ∃ T' h', Stand p l e R (s.setVm vm0) m args below meth c T' (locs ++ [⟨a, sl⟩]) k n ∧ T'.heap = h' ∧ Wr h h' a sl v ∧ ∀ target, Steps p.tables e below (T'.setTop g') target → Steps p.tables e below (T.setTop g) target)
    (K : ∀ T' h', Wd p l e R s m args below meth c Z a0 EL own F T' h' k n → Wr h h' a sl v → Go p e below P T' g') : Go p e below P T g := by
  obtain ⟨w1, w2, w3, w4, vm0, k0, locs, X, hZ, hown, eT, hS, hk, hC, hN, hH, hF⟩ := W
  obtain ⟨T', h', X', eT', Wr1, st⟩ := st X hZ hown eT
  have hsf := Wd.safeOf hZ.alike hF q
  exact (K T' h' ⟨w1, ext_old_wr w2 Wr1 q.1, w3, w4, vm0, k0, _, X', hZ, hown, eT', hS, by rw [Wr1.size]; exact hk, hC.trans (CHr.wr Wr1 hsf hC.1), Fr.snoc X' hN q.1, hH, fun x r => ⟨by rw [Wr1.size]; exact (hF x r).1, Safe.wr Wr1 hsf hC.1 (hF x r).2⟩⟩ Wr1).st st
/-- the end of a walk: what a contract says (FF: addresses of cells that the callee has made and that are nobody's literal) -/
def Endp (Z : State) (EL : List (String × Nat)) (s : State) (Q : Option Value → Heap → List Addr → Prop) (k n : Nat) (o : Outcome) (t : State) : Prop :=
  ∃ v L FF, o = .returned v ∧ (Q v t.heap FF ∧ Fr Z.heap.size L ∧ Ext Z.heap t.heap ∧ ∀ x ∈ FF, x < t.heap.size ∧ Safe Z EL t.vm t.heap x) ∧ CHr Z EL s.vm s.heap t.vm t.heap ∧ ReturnedEndW s o t L k n ∧ (EL = [] → s.WarmedH t.vm)
/-- a contract -/
def MetW (ws : List Jvm.Cond) (l : Launch) (Z : State) (EL : List (String × Nat)) (F : List Addr) (y : MethodName) (bytes : ByteArray) (maxL : Nat) (ret : Option FieldType) (rm : Room) (as' : Array Value) (h : Heap) (Q : Option Value → Heap → List Addr → Prop) : Prop :=
  MetFree l y (head1 (Jvm.Cond.code y bytes maxL ret :: ws) rm) (fun a U => a = as' ∧ Z.Warmed39 U.vm ∧ U.heap = h ∧ CHv Z EL U.vm h ∧ ∀ x ∈ F, x < h.size ∧ Safe Z EL U.vm h x) (fun _ _ _ _ _ => True) (fun _ U o U' => Endp Z EL U Q rm.cells rm.slots o U')
abbrev Met (l : Launch) (Z : State) (EL : List (String × Nat)) (F : List Addr) (y : MethodName) (bytes : ByteArray) (maxL : Nat) (ret : Option FieldType) (rm : Room) (as' : Array Value) (h : Heap) (Q : Option Value → Heap → List Addr → Prop) : Prop := MetW [] l Z EL F y bytes maxL ret rm as' h Q
theorem CHr.id {vm : Vm} (H : CHv Z EL vm h) : CHr Z EL vm h vm h := CHr.refl H
theorem Met.intro {ws : List Jvm.Cond} {y : MethodName} {bytes : ByteArray} {maxL : Nat} {ret : Option FieldType} {rm : Room} {as' : Array Value} {Q : Option Value → Heap → List Addr → Prop} (pn : plainName y.cls = true) (hEL : EW Z a0 EL) (hO : Ext Z.heap h)
    (body : ∀ (p : Program) (e : Env) (s : State) (m : MethodId) (below : List Frame) (meth : Method) (c : Code) (T : State), Wd p l e rm s m as' below meth c Z a0 EL y.cls F T h 0 0 → c.code = bytes → c.maxLocals = maxL → meth.sig.returnType = ret → meth.name = y.name →
      Go p e below (Endp Z EL s Q rm.cells rm.slots) T (entryFrame m as' maxL)) : MetW ws l Z EL F y bytes maxL ret rm as' h Q := by
  refine MetFree.of_bodySF (plainFor_of_name pn) hisR ?_
  intro p e s m args below meth c s₁ Bd hml0 hP hK
  obtain ⟨rfl, hZ, hh, hC, hF⟩ := hP
  have hown : s.vm.findClass y.cls = some m.cls := findClass_of_methodNamed Bd.named
  have hnm := (name_of_methodNamed Bd.named Bd.method).1
  have X0 : Stand p l e rm s m args below meth c s₁ [] 0 0 := Stand.of_body Bd
  have e0 : s₁.heap = h := by rw [← hh, Bd.state]; rfl
  exact body p e s m below meth c s₁ ⟨Bd.exec, hO, hEL, Bd.notSynchronized, s.vm, h.size, [], X0, hZ, hown, e0, State.WarmedH.since (State.WarmedH.refl s) _, Nat.le_refl _, by rw [hh]; exact CHr.refl hC, Fr.nil _, fun _ => State.WarmedH.refl s, hF⟩ Bd.bytes hml0 Bd.returns hnm
/-- the walk leaves -/
theorem Wd.leave (W : Wd p l e R s m args below meth c Z a0 EL own F T h k n) {Q : Option Value → Heap → List Addr → Prop} {k' n' : Nat} (hk : k ≤ k') (hn : n ≤ n') {v : Option Value} (hv : meth.sig.returnType = none → v = none) {FF : List Addr} (hFF : ∀ x ∈ FF, x ∈ F) (q : Q v h FF) {g : JFrame}
    (st : ∀ {vm0 : Vm} {locs : List Loc} {fs : List Frame}, Stand p l e R (s.setVm vm0) m args below meth c T locs k n → (∀ (f : JFrame) (acts : List Action), f.method = m → f.locked = none → f.entered = [] → (doReturn e (T.setTop f) acts v).1 = T.setFrames fs) → Steps p.tables e below (T.setTop g) (T.setFrames fs)) :
    Go p e below (Endp Z EL s Q k' n') T g := by
  obtain ⟨w1, w2, w3, w4, vm0, k0, locs, X, hZ, hown, rfl, hS, hk0, hC, hN, hH, hF⟩ := W
  obtain ⟨fs, hr, hrun, hended, hend⟩ := X.leaveW hS hk0 hv w4
  have hA := CHv.at X hZ w3 hC.1
  refine ⟨_, _, st X hr, hrun, hended, v, locs, FF, rfl, ⟨q, hN, w2, fun x hx => ?_⟩, ?_, ⟨hend.1, hend.2.1, hend.2.2.1, hend.2.2.2.mono hk hn⟩, fun e => ?_⟩
  · show x < T.heap.size ∧ Safe Z EL T.vm T.heap x
    exact ⟨(hF x (hFF x hx)).1, hA.safe (hF x (hFF x hx)).1 (hF x (hFF x hx)).2⟩
  · show CHr Z EL s.vm s.heap T.vm T.heap
    exact hC.trans hA
  · show s.WarmedH T.vm
    exact State.WarmedH.trans (t := s.setVm vm0) (hH e) X.warmed
end OwnA
/-! own kit, part B: one instruction each (by wip/kit/mkB.py) -/
section OwnB
variable {p : Program} {l : Launch} {e : Env} {R : Room} {s : State} {m : MethodId} {args : Array Value} {below : List Frame} {meth : Method} {c : Code} {T T' : State} {h h' : Heap} {Z : State} {a0 : Array Value} {EL : List (String × Nat)} {own : String} {k n : Nat} {P : Outcome → State → Prop} {F : List Addr}
theorem g_iloadN (W : Wd p l e R s m args below meth c Z a0 EL own F T h k n) {pc pc' : Nat} {ls : Array Slot} {st : List Value} {i : Fin 4} {v : Int32} (hd : decode c.code pc = .ok (.iload_n i, 1)) (hp : pc + 1 = pc') (hl : ls[i.val]? = some (.val (.int v)))  (K : Go p e below P T (mkF m pc' ls (.int v :: st))) : Go p e below P T (mkF m pc ls (st)) := by
  subst hp
  exact K.st fun t q => XS.iloadN W.here W.hx rfl hd hl q
theorem g_iload (W : Wd p l e R s m args below meth c Z a0 EL own F T h k n) {pc pc' : Nat} {ls : Array Slot} {st : List Value} {i : Nat} {v : Int32} (hd : decode c.code pc = .ok (.iload i, 2)) (hp : pc + 2 = pc') (hl : ls[i]? = some (.val (.int v)))  (K : Go p e below P T (mkF m pc' ls (.int v :: st))) : Go p e below P T (mkF m pc ls (st)) := by
  subst hp
  exact K.st fun t q => XS.iload W.here W.hx rfl hd hl q
theorem g_aloadN (W : Wd p l e R s m args below meth c Z a0 EL own F T h k n) {pc pc' : Nat} {ls : Array Slot} {st : List Value} {i : Fin 4} {v : Value} (hd : decode c.code pc = .ok (.aload_n i, 1)) (hp : pc + 1 = pc') (hl : ls[i.val]? = some (.val (v))) (hv : v.isRef = true) (K : Go p e below P T (mkF m pc' ls (v :: st))) : Go p e below P T (mkF m pc ls (st)) := by
  subst hp
  exact K.st fun t q => XS.aloadN W.here W.hx rfl hd hl hv q
theorem g_aload (W : Wd p l e R s m args below meth c Z a0 EL own F T h k n) {pc pc' : Nat} {ls : Array Slot} {st : List Value} {i : Nat} {v : Value} (hd : decode c.code pc = .ok (.aload i, 2)) (hp : pc + 2 = pc') (hl : ls[i]? = some (.val (v))) (hv : v.isRef = true) (K : Go p e below P T (mkF m pc' ls (v :: st))) : Go p e below P T (mkF m pc ls (st)) := by
  subst hp
  exact K.st fun t q => XS.aload W.here W.hx rfl hd hl hv q
theorem g_lloadN (W : Wd p l e R s m args below meth c Z a0 EL own F T h k n) {pc pc' : Nat} {ls : Array Slot} {st : List Value} {i : Fin 4} {v : Int64} (hd : decode c.code pc = .ok (.lload_n i, 1)) (hp : pc + 1 = pc') (hl : ls[i.val]? = some (.val (.long v)))  (K : Go p e below P T (mkF m pc' ls (.long v :: st))) : Go p e below P T (mkF m pc ls (st)) := by
  subst hp
  exact K.st fun t q => XT.lloadN W.here W.hx rfl hd hl q
theorem g_lload (W : Wd p l e R s m args below meth c Z a0 EL own F T h k n) {pc pc' : Nat} {ls : Array Slot} {st : List Value} {i : Nat} {v : Int64} (hd : decode c.code pc = .ok (.lload i, 2)) (hp : pc + 2 = pc') (hl : ls[i]? = some (.val (.long v)))  (K : Go p e below P T (mkF m pc' ls (.long v :: st))) : Go p e below P T (mkF m pc ls (st)) := by
  subst hp
  exact K.st fun t q => XT.lload W.here W.hx rfl hd hl q
theorem g_istoreN (W : Wd p l e R s m args below meth c Z a0 EL own F T h k n) {pc pc' : Nat} {ls : Array Slot} {st : List Value} {i : Fin 4} {v : Int32} {ls' : Array Slot} (hd : decode c.code pc = .ok (.istore_n i, 1)) (hp : pc + 1 = pc') (hl : storeLocals ls i.val (.int v) = some ls') (K : Go p e below P T (mkF m pc' ls' (st))) : Go p e below P T (mkF m pc ls (.int v :: st)) := by
  subst hp
  exact K.st fun t q => XS.istoreN W.here W.hx rfl hd rfl hl q
theorem g_istore (W : Wd p l e R s m args below meth c Z a0 EL own F T h k n) {pc pc' : Nat} {ls : Array Slot} {st : List Value} {i : Nat} {v : Int32} {ls' : Array Slot} (hd : decode c.code pc = .ok (.istore i, 2)) (hp : pc + 2 = pc') (hl : storeLocals ls i (.int v) = some ls') (K : Go p e below P T (mkF m pc' ls' (st))) : Go p e below P T (mkF m pc ls (.int v :: st)) := by
  subst hp
  exact K.st fun t q => XS.istore W.here W.hx rfl hd rfl hl q
theorem g_astoreN (W : Wd p l e R s m args below meth c Z a0 EL own F T h k n) {pc pc' : Nat} {ls : Array Slot} {st : List Value} {i : Fin 4} {v : Value} {ls' : Array Slot} (hd : decode c.code pc = .ok (.astore_n i, 1)) (hp : pc + 1 = pc') (hv : v.isRef = true) (hl : storeLocals ls i.val (v) = some ls') (K : Go p e below P T (mkF m pc' ls' (st))) : Go p e below P T (mkF m pc ls (v :: st)) := by
  subst hp
  exact K.st fun t q => XS.astoreN W.here W.hx rfl hd rfl hv hl q
theorem g_astore (W : Wd p l e R s m args below meth c Z a0 EL own F T h k n) {pc pc' : Nat} {ls : Array Slot} {st : List Value} {i : Nat} {v : Value} {ls' : Array Slot} (hd : decode c.code pc = .ok (.astore i, 2)) (hp : pc + 2 = pc') (hv : v.isRef = true) (hl : storeLocals ls i (v) = some ls') (K : Go p e below P T (mkF m pc' ls' (st))) : Go p e below P T (mkF m pc ls (v :: st)) := by
  subst hp
  exact K.st fun t q => XS.astore W.here W.hx rfl hd rfl hv hl q
theorem g_lstoreN (W : Wd p l e R s m args below meth c Z a0 EL own F T h k n) {pc pc' : Nat} {ls : Array Slot} {st : List Value} {i : Fin 4} {v : Int64} {ls' : Array Slot} (hd : decode c.code pc = .ok (.lstore_n i, 1)) (hp : pc + 1 = pc') (hl : storeLocals ls i.val (.long v) = some ls') (K : Go p e below P T (mkF m pc' ls' (st))) : Go p e below P T (mkF m pc ls (.long v :: st)) := by
  subst hp
  exact K.st fun t q => XT.lstoreN W.here W.hx rfl hd rfl hl q
theorem g_lstore (W : Wd p l e R s m args below meth c Z a0 EL own F T h k n) {pc pc' : Nat} {ls : Array Slot} {st : List Value} {i : Nat} {v : Int64} {ls' : Array Slot} (hd : decode c.code pc = .ok (.lstore i, 2)) (hp : pc + 2 = pc') (hl : storeLocals ls i (.long v) = some ls') (K : Go p e below P T (mkF m pc' ls' (st))) : Go p e below P T (mkF m pc ls (.long v :: st)) := by
  subst hp
  exact K.st fun t q => XT.lstore W.here W.hx rfl hd rfl hl q
theorem g_iconst (W : Wd p l e R s m args below meth c Z a0 EL own F T h k n) {pc pc' : Nat} {ls : Array Slot} {st : List Value} {i : Int} {v : Int32} (hd : decode c.code pc = .ok (.iconst i, 1)) (hp : pc + 1 = pc') (hv : Int32.ofInt i = v) (K : Go p e below P T (mkF m pc' ls (.int v :: st))) : Go p e below P T (mkF m pc ls (st)) := by
  subst hp
  subst hv; exact K.st fun t q => XS.iconst W.here W.hx rfl hd  q
theorem g_bipush (W : Wd p l e R s m args below meth c Z a0 EL own F T h k n) {pc pc' : Nat} {ls : Array Slot} {st : List Value} {i : Int} {v : Int32} (hd : decode c.code pc = .ok (.bipush i, 2)) (hp : pc + 2 = pc') (hv : (Int8.ofInt i).toInt32 = v) (K : Go p e below P T (mkF m pc' ls (.int v :: st))) : Go p e below P T (mkF m pc ls (st)) := by
  subst hp
  subst hv; exact K.st fun t q => XS.bipush W.here W.hx rfl hd  q
theorem g_sipush (W : Wd p l e R s m args below meth c Z a0 EL own F T h k n) {pc pc' : Nat} {ls : Array Slot} {st : List Value} {i : Int} {v : Int32} (hd : decode c.code pc = .ok (.sipush i, 3)) (hp : pc + 3 = pc') (hv : (Int16.ofInt i).toInt32 = v) (K : Go p e below P T (mkF m pc' ls (.int v :: st))) : Go p e below P T (mkF m pc ls (st)) := by
  subst hp
  subst hv; exact K.st fun t q => XS.sipush W.here W.hx rfl hd  q
theorem g_aconst_null (W : Wd p l e R s m args below meth c Z a0 EL own F T h k n) {pc pc' : Nat} {ls : Array Slot} {st : List Value}  (hd : decode c.code pc = .ok (.aconst_null, 1)) (hp : pc + 1 = pc')  (K : Go p e below P T (mkF m pc' ls (.null :: st))) : Go p e below P T (mkF m pc ls (st)) := by
  subst hp
  exact K.st fun t q => XS.aconstNull W.here W.hx rfl hd  q
theorem g_lconst (W : Wd p l e R s m args below meth c Z a0 EL own F T h k n) {pc pc' : Nat} {ls : Array Slot} {st : List Value} {i : Fin 2} {v : Int64} (hd : decode c.code pc = .ok (.lconst i, 1)) (hp : pc + 1 = pc') (hv : Int64.ofNat i = v) (K : Go p e below P T (mkF m pc' ls (.long v :: st))) : Go p e below P T (mkF m pc ls (st)) := by
  subst hp
  subst hv; exact K.st fun t q => XT.lconst W.here W.hx rfl hd  q
theorem g_iadd (W : Wd p l e R s m args below meth c Z a0 EL own F T h k n) {pc pc' : Nat} {ls : Array Slot} {st : List Value} {x y : Int32} (hd : decode c.code pc = .ok (.iadd, 1)) (hp : pc + 1 = pc')  (K : Go p e below P T (mkF m pc' ls (.int (x + y) :: st))) : Go p e below P T (mkF m pc ls (.int y :: .int x :: st)) := by
  subst hp
  exact K.st fun t q => XS.iadd W.here W.hx rfl hd rfl q
theorem g_isub (W : Wd p l e R s m args below meth c Z a0 EL own F T h k n) {pc pc' : Nat} {ls : Array Slot} {st : List Value} {x y : Int32} (hd : decode c.code pc = .ok (.isub, 1)) (hp : pc + 1 = pc')  (K : Go p e below P T (mkF m pc' ls (.int (x - y) :: st))) : Go p e below P T (mkF m pc ls (.int y :: .int x :: st)) := by
  subst hp
  exact K.st fun t q => XS.isub W.here W.hx rfl hd rfl q
theorem g_imul (W : Wd p l e R s m args below meth c Z a0 EL own F T h k n) {pc pc' : Nat} {ls : Array Slot} {st : List Value} {x y : Int32} (hd : decode c.code pc = .ok (.imul, 1)) (hp : pc + 1 = pc')  (K : Go p e below P T (mkF m pc' ls (.int (x * y) :: st))) : Go p e below P T (mkF m pc ls (.int y :: .int x :: st)) := by
  subst hp
  exact K.st fun t q => XS.imul W.here W.hx rfl hd rfl q
theorem g_iand (W : Wd p l e R s m args below meth c Z a0 EL own F T h k n) {pc pc' : Nat} {ls : Array Slot} {st : List Value} {x y : Int32} (hd : decode c.code pc = .ok (.iand, 1)) (hp : pc + 1 = pc')  (K : Go p e below P T (mkF m pc' ls (.int (x &&& y) :: st))) : Go p e below P T (mkF m pc ls (.int y :: .int x :: st)) := by
  subst hp
  exact K.st fun t q => XS.iand W.here W.hx rfl hd rfl q
theorem g_ior (W : Wd p l e R s m args below meth c Z a0 EL own F T h k n) {pc pc' : Nat} {ls : Array Slot} {st : List Value} {x y : Int32} (hd : decode c.code pc = .ok (.ior, 1)) (hp : pc + 1 = pc')  (K : Go p e below P T (mkF m pc' ls (.int (x ||| y) :: st))) : Go p e below P T (mkF m pc ls (.int y :: .int x :: st)) := by
  subst hp
  exact K.st fun t q => XT.ior W.here W.hx rfl hd rfl q
theorem g_ixor (W : Wd p l e R s m args below meth c Z a0 EL own F T h k n) {pc pc' : Nat} {ls : Array Slot} {st : List Value} {x y : Int32} (hd : decode c.code pc = .ok (.ixor, 1)) (hp : pc + 1 = pc')  (K : Go p e below P T (mkF m pc' ls (.int (x ^^^ y) :: st))) : Go p e below P T (mkF m pc ls (.int y :: .int x :: st)) := by
  subst hp
  exact K.st fun t q => XT.ixor W.here W.hx rfl hd rfl q
theorem g_ishl (W : Wd p l e R s m args below meth c Z a0 EL own F T h k n) {pc pc' : Nat} {ls : Array Slot} {st : List Value} {x y : Int32} (hd : decode c.code pc = .ok (.ishl, 1)) (hp : pc + 1 = pc')  (K : Go p e below P T (mkF m pc' ls (.int (x <<< (y &&& 31)) :: st))) : Go p e below P T (mkF m pc ls (.int y :: .int x :: st)) := by
  subst hp
  exact K.st fun t q => XT.ishl W.here W.hx rfl hd rfl q
theorem g_ishr (W : Wd p l e R s m args below meth c Z a0 EL own F T h k n) {pc pc' : Nat} {ls : Array Slot} {st : List Value} {x y : Int32} (hd : decode c.code pc = .ok (.ishr, 1)) (hp : pc + 1 = pc')  (K : Go p e below P T (mkF m pc' ls (.int (x >>> (y &&& 31)) :: st))) : Go p e below P T (mkF m pc ls (.int y :: .int x :: st)) := by
  subst hp
  exact K.st fun t q => XT.ishr W.here W.hx rfl hd rfl q
theorem g_iushr (W : Wd p l e R s m args below meth c Z a0 EL own F T h k n) {pc pc' : Nat} {ls : Array Slot} {st : List Value} {x y : Int32} (hd : decode c.code pc = .ok (.iushr, 1)) (hp : pc + 1 = pc')  (K : Go p e below P T (mkF m pc' ls (.int (XT.ushr x y) :: st))) : Go p e below P T (mkF m pc ls (.int y :: .int x :: st)) := by
  subst hp
  exact K.st fun t q => XT.iushr W.here W.hx rfl hd rfl q
theorem g_ladd (W : Wd p l e R s m args below meth c Z a0 EL own F T h k n) {pc pc' : Nat} {ls : Array Slot} {st : List Value} {x y : Int64} (hd : decode c.code pc = .ok (.ladd, 1)) (hp : pc + 1 = pc')  (K : Go p e below P T (mkF m pc' ls (.long (x + y) :: st))) : Go p e below P T (mkF m pc ls (.long y :: .long x :: st)) := by
  subst hp
  exact K.st fun t q => XT.ladd W.here W.hx rfl hd rfl q
theorem g_lsub (W : Wd p l e R s m args below meth c Z a0 EL own F T h k n) {pc pc' : Nat} {ls : Array Slot} {st : List Value} {x y : Int64} (hd : decode c.code pc = .ok (.lsub, 1)) (hp : pc + 1 = pc')  (K : Go p e below P T (mkF m pc' ls (.long (x - y) :: st))) : Go p e below P T (mkF m pc ls (.long y :: .long x :: st)) := by
  subst hp
  exact K.st fun t q => XT.lsub W.here W.hx rfl hd rfl q
theorem g_lmul (W : Wd p l e R s m args below meth c Z a0 EL own F T h k n) {pc pc' : Nat} {ls : Array Slot} {st : List Value} {x y : Int64} (hd : decode c.code pc = .ok (.lmul, 1)) (hp : pc + 1 = pc')  (K : Go p e below P T (mkF m pc' ls (.long (x * y) :: st))) : Go p e below P T (mkF m pc ls (.long y :: .long x :: st)) := by
  subst hp
  exact K.st fun t q => XT.lmul W.here W.hx rfl hd rfl q
theorem g_land (W : Wd p l e R s m args below meth c Z a0 EL own F T h k n) {pc pc' : Nat} {ls : Array Slot} {st : List Value} {x y : Int64} (hd : decode c.code pc = .ok (.land, 1)) (hp : pc + 1 = pc')  (K : Go p e below P T (mkF m pc' ls (.long (x &&& y) :: st))) : Go p e below P T (mkF m pc ls (.long y :: .long x :: st)) := by
  subst hp
  exact K.st fun t q => XT.land W.here W.hx rfl hd rfl q
theorem g_lor (W : Wd p l e R s m args below meth c Z a0 EL own F T h k n) {pc pc' : Nat} {ls : Array Slot} {st : List Value} {x y : Int64} (hd : decode c.code pc = .ok (.lor, 1)) (hp : pc + 1 = pc')  (K : Go p e below P T (mkF m pc' ls (.long (x ||| y) :: st))) : Go p e below P T (mkF m pc ls (.long y :: .long x :: st)) := by
  subst hp
  exact K.st fun t q => XT.lor W.here W.hx rfl hd rfl q
theorem g_lxor (W : Wd p l e R s m args below meth c Z a0 EL own F T h k n) {pc pc' : Nat} {ls : Array Slot} {st : List Value} {x y : Int64} (hd : decode c.code pc = .ok (.lxor, 1)) (hp : pc + 1 = pc')  (K : Go p e below P T (mkF m pc' ls (.long (x ^^^ y) :: st))) : Go p e below P T (mkF m pc ls (.long y :: .long x :: st)) := by
  subst hp
  exact K.st fun t q => XT.lxor W.here W.hx rfl hd rfl q
theorem g_lshl (W : Wd p l e R s m args below meth c Z a0 EL own F T h k n) {pc pc' : Nat} {ls : Array Slot} {st : List Value} {x : Int64} {y : Int32} (hd : decode c.code pc = .ok (.lshl, 1)) (hp : pc + 1 = pc')  (K : Go p e below P T (mkF m pc' ls (.long (x <<< (y.toInt64 &&& 63)) :: st))) : Go p e below P T (mkF m pc ls (.int y :: .long x :: st)) := by
  subst hp
  exact K.st fun t q => XT.lshl W.here W.hx rfl hd rfl q
theorem g_lshr (W : Wd p l e R s m args below meth c Z a0 EL own F T h k n) {pc pc' : Nat} {ls : Array Slot} {st : List Value} {x : Int64} {y : Int32} (hd : decode c.code pc = .ok (.lshr, 1)) (hp : pc + 1 = pc')  (K : Go p e below P T (mkF m pc' ls (.long (x >>> (y.toInt64 &&& 63)) :: st))) : Go p e below P T (mkF m pc ls (.int y :: .long x :: st)) := by
  subst hp
  exact K.st fun t q => XT.lshr W.here W.hx rfl hd rfl q
theorem g_lushr (W : Wd p l e R s m args below meth c Z a0 EL own F T h k n) {pc pc' : Nat} {ls : Array Slot} {st : List Value} {x : Int64} {y : Int32} (hd : decode c.code pc = .ok (.lushr, 1)) (hp : pc + 1 = pc')  (K : Go p e below P T (mkF m pc' ls (.long (XT.ushrL x y) :: st))) : Go p e below P T (mkF m pc ls (.int y :: .long x :: st)) := by
  subst hp
  exact K.st fun t q => XT.lushr W.here W.hx rfl hd rfl q
theorem g_idiv (W : Wd p l e R s m args below meth c Z a0 EL own F T h k n) {pc pc' : Nat} {ls : Array Slot} {st : List Value} {x y : Int32} (hd : decode c.code pc = .ok (.idiv, 1)) (hp : pc + 1 = pc') (hy : y ≠ 0) (K : Go p e below P T (mkF m pc' ls (.int (x / y) :: st))) : Go p e below P T (mkF m pc ls (.int y :: .int x :: st)) := by
  subst hp
  exact K.st fun t q => XS.idiv W.here W.hx rfl hd rfl hy q
theorem g_ldiv (W : Wd p l e R s m args below meth c Z a0 EL own F T h k n) {pc pc' : Nat} {ls : Array Slot} {st : List Value} {x y : Int64} (hd : decode c.code pc = .ok (.ldiv, 1)) (hp : pc + 1 = pc') (hy : y ≠ 0) (K : Go p e below P T (mkF m pc' ls (.long (x / y) :: st))) : Go p e below P T (mkF m pc ls (.long y :: .long x :: st)) := by
  subst hp
  exact K.st fun t q => XT.ldiv W.here W.hx rfl hd rfl hy q
theorem g_irem (W : Wd p l e R s m args below meth c Z a0 EL own F T h k n) {pc pc' : Nat} {ls : Array Slot} {st : List Value} {x y : Int32} (hd : decode c.code pc = .ok (.irem, 1)) (hp : pc + 1 = pc') (hy : y ≠ 0) (K : Go p e below P T (mkF m pc' ls (.int (x % y) :: st))) : Go p e below P T (mkF m pc ls (.int y :: .int x :: st)) := by
  subst hp
  exact K.st fun t q => XS.irem W.here W.hx rfl hd rfl hy (by rw [irem_eq_mod x y]; exact q)
theorem g_lrem (W : Wd p l e R s m args below meth c Z a0 EL own F T h k n) {pc pc' : Nat} {ls : Array Slot} {st : List Value} {x y : Int64} (hd : decode c.code pc = .ok (.lrem, 1)) (hp : pc + 1 = pc') (hy : y ≠ 0) (K : Go p e below P T (mkF m pc' ls (.long (x % y) :: st))) : Go p e below P T (mkF m pc ls (.long y :: .long x :: st)) := by
  subst hp
  exact K.st fun t q => XT.lrem W.here W.hx rfl hd rfl hy (by rw [lrem_mod x y]; exact q)
theorem g_i2l (W : Wd p l e R s m args below meth c Z a0 EL own F T h k n) {pc pc' : Nat} {ls : Array Slot} {st : List Value} {x : Int32} (hd : decode c.code pc = .ok (.i2l, 1)) (hp : pc + 1 = pc')  (K : Go p e below P T (mkF m pc' ls (.long (x.toInt64) :: st))) : Go p e below P T (mkF m pc ls (.int x :: st)) := by
  subst hp
  exact K.st fun t q => XT.i2l W.here W.hx rfl hd rfl q
theorem g_i2b (W : Wd p l e R s m args below meth c Z a0 EL own F T h k n) {pc pc' : Nat} {ls : Array Slot} {st : List Value} {x : Int32} (hd : decode c.code pc = .ok (.i2b, 1)) (hp : pc + 1 = pc')  (K : Go p e below P T (mkF m pc' ls (.int (x.toInt8.toInt32) :: st))) : Go p e below P T (mkF m pc ls (.int x :: st)) := by
  subst hp
  exact K.st fun t q => XT.i2b W.here W.hx rfl hd rfl q
theorem g_i2c (W : Wd p l e R s m args below meth c Z a0 EL own F T h k n) {pc pc' : Nat} {ls : Array Slot} {st : List Value} {x : Int32} (hd : decode c.code pc = .ok (.i2c, 1)) (hp : pc + 1 = pc')  (K : Go p e below P T (mkF m pc' ls (.int (x.toUInt32.toUInt16.toUInt32.toInt32) :: st))) : Go p e below P T (mkF m pc ls (.int x :: st)) := by
  subst hp
  exact K.st fun t q => XT.i2c W.here W.hx rfl hd rfl q
theorem g_i2s (W : Wd p l e R s m args below meth c Z a0 EL own F T h k n) {pc pc' : Nat} {ls : Array Slot} {st : List Value} {x : Int32} (hd : decode c.code pc = .ok (.i2s, 1)) (hp : pc + 1 = pc')  (K : Go p e below P T (mkF m pc' ls (.int (x.toInt16.toInt32) :: st))) : Go p e below P T (mkF m pc ls (.int x :: st)) := by
  subst hp
  exact K.st fun t q => XT.i2s W.here W.hx rfl hd rfl q
theorem g_l2i (W : Wd p l e R s m args below meth c Z a0 EL own F T h k n) {pc pc' : Nat} {ls : Array Slot} {st : List Value} {x : Int64} (hd : decode c.code pc = .ok (.l2i, 1)) (hp : pc + 1 = pc')  (K : Go p e below P T (mkF m pc' ls (.int (x.toInt32) :: st))) : Go p e below P T (mkF m pc ls (.long x :: st)) := by
  subst hp
  exact K.st fun t q => XT.l2i W.here W.hx rfl hd rfl q
theorem g_ineg (W : Wd p l e R s m args below meth c Z a0 EL own F T h k n) {pc pc' : Nat} {ls : Array Slot} {st : List Value} {x : Int32} (hd : decode c.code pc = .ok (.ineg, 1)) (hp : pc + 1 = pc')  (K : Go p e below P T (mkF m pc' ls (.int (-x) :: st))) : Go p e below P T (mkF m pc ls (.int x :: st)) := by
  subst hp
  exact K.st fun t q => XS.ineg W.here W.hx rfl hd rfl q
theorem g_lcmp (W : Wd p l e R s m args below meth c Z a0 EL own F T h k n) {pc pc' : Nat} {ls : Array Slot} {st : List Value} {x y : Int64} (hd : decode c.code pc = .ok (.lcmp, 1)) (hp : pc + 1 = pc')  (K : Go p e below P T (mkF m pc' ls (.int (XT.cmpL x y) :: st))) : Go p e below P T (mkF m pc ls (.long y :: .long x :: st)) := by
  subst hp
  exact K.st fun t q => XT.lcmp W.here W.hx rfl hd rfl q
theorem g_iinc (W : Wd p l e R s m args below meth c Z a0 EL own F T h k n) {pc pc' : Nat} {ls : Array Slot} {st : List Value} {i : Nat} {cst : Int} {x : Int32} {ls' : Array Slot} (hd : decode c.code pc = .ok (.iinc i cst, 3)) (hp : pc + 3 = pc') (hl : ls[i]? = some (.val (.int x))) (hl' : storeLocals ls i (.int (x + Int32.ofInt cst)) = some ls') (K : Go p e below P T (mkF m pc' ls' (st))) : Go p e below P T (mkF m pc ls (st)) := by
  subst hp
  exact K.st fun t q => XS.iinc W.here W.hx rfl hd hl hl' q
theorem g_dup (W : Wd p l e R s m args below meth c Z a0 EL own F T h k n) {pc pc' : Nat} {ls : Array Slot} {st : List Value} {x : Value} (hd : decode c.code pc = .ok (.dup, 1)) (hp : pc + 1 = pc') (hc : x.category = 1) (K : Go p e below P T (mkF m pc' ls (x :: x :: st))) : Go p e below P T (mkF m pc ls (x :: st)) := by
  subst hp
  exact K.st fun t q => XS.dup W.here W.hx rfl hd rfl hc q
theorem g_pop (W : Wd p l e R s m args below meth c Z a0 EL own F T h k n) {pc pc' : Nat} {ls : Array Slot} {st : List Value} {x : Value} (hd : decode c.code pc = .ok (.pop, 1)) (hp : pc + 1 = pc') (hc : x.category = 1) (K : Go p e below P T (mkF m pc' ls (st))) : Go p e below P T (mkF m pc ls (x :: st)) := by
  subst hp
  exact K.st fun t q => XT.pop W.here W.hx rfl hd rfl hc q
theorem g_dup_x1 (W : Wd p l e R s m args below meth c Z a0 EL own F T h k n) {pc pc' : Nat} {ls : Array Slot} {st : List Value} {x y : Value} (hd : decode c.code pc = .ok (.dup_x1, 1)) (hp : pc + 1 = pc') (hc : x.category = 1) (hc' : y.category = 1) (K : Go p e below P T (mkF m pc' ls (x :: y :: x :: st))) : Go p e below P T (mkF m pc ls (x :: y :: st)) := by
  subst hp
  exact K.st fun t q => XT.dupX1 W.here W.hx rfl hd rfl hc hc' q
theorem g_dup2 (W : Wd p l e R s m args below meth c Z a0 EL own F T h k n) {pc pc' : Nat} {ls : Array Slot} {st : List Value} {x y : Value} (hd : decode c.code pc = .ok (.dup2, 1)) (hp : pc + 1 = pc') (hc : x.category = 1) (hc' : y.category = 1) (K : Go p e below P T (mkF m pc' ls (x :: y :: x :: y :: st))) : Go p e below P T (mkF m pc ls (x :: y :: st)) := by
  subst hp
  exact K.st fun t q => XT.dup2 W.here W.hx rfl hd rfl hc hc' q
theorem g_dup2L (W : Wd p l e R s m args below meth c Z a0 EL own F T h k n) {pc pc' : Nat} {ls : Array Slot} {st : List Value} {x : Int64} (hd : decode c.code pc = .ok (.dup2, 1)) (hp : pc + 1 = pc')  (K : Go p e below P T (mkF m pc' ls (.long x :: .long x :: st))) : Go p e below P T (mkF m pc ls (.long x :: st)) := by
  subst hp
  exact K.st fun t q => XT.dup2L W.here W.hx rfl hd rfl q
theorem g_goto (W : Wd p l e R s m args below meth c Z a0 EL own F T h k n) {pc pc' : Nat} {ls : Array Slot} {st : List Value} {o : Int} (hd : decode c.code pc = .ok (.goto o, 3)) (ho : 0 ≤ (pc : Int) + o) (hp : ((pc : Int) + o).toNat = pc') (K : Go p e below P T (mkF m pc' ls st)) : Go p e below P T (mkF m pc ls st) :=
  K.st fun t q => XS.goto W.here W.hx rfl rfl hd ho hp q
theorem g_icmpeqY (W : Wd p l e R s m args below meth c Z a0 EL own F T h k n) {pc pc1 pc2 : Nat} {ls : Array Slot} {st : List Value} {x y : Int32} {o : Int} (hd : decode c.code pc = .ok (.if_icmp .eq o, 3)) (ho : 0 ≤ (pc : Int) + o) (hp1 : ((pc : Int) + o).toNat = pc1) (hp2 : pc + 3 = pc2) (hc : x = y) (K : Go p e below P T (mkF m pc1 ls st)) : Go p e below P T (mkF m pc ls (.int y :: .int x :: st)) :=
  K.st fun t q => XS.icmpYes W.here W.hx rfl rfl hd rfl (teq hc).1 ho hp1 q
theorem g_icmpeqN (W : Wd p l e R s m args below meth c Z a0 EL own F T h k n) {pc pc1 pc2 : Nat} {ls : Array Slot} {st : List Value} {x y : Int32} {o : Int} (hd : decode c.code pc = .ok (.if_icmp .eq o, 3)) (ho : 0 ≤ (pc : Int) + o) (hp1 : ((pc : Int) + o).toNat = pc1) (hp2 : pc + 3 = pc2) (hc : ¬ x = y) (K : Go p e below P T (mkF m pc2 ls st)) : Go p e below P T (mkF m pc ls (.int y :: .int x :: st)) := by
  subst hp2
  exact K.st fun t q => XS.icmpNo W.here W.hx rfl hd rfl (feq hc).1 q
theorem g_icmpeq (W : Wd p l e R s m args below meth c Z a0 EL own F T h k n) {pc pc1 pc2 : Nat} {ls : Array Slot} {st : List Value} {x y : Int32} {o : Int} (hd : decode c.code pc = .ok (.if_icmp .eq o, 3)) (ho : 0 ≤ (pc : Int) + o) (hp1 : ((pc : Int) + o).toNat = pc1) (hp2 : pc + 3 = pc2) (K1 : x = y → Go p e below P T (mkF m pc1 ls st)) (K2 : ¬ x = y → Go p e below P T (mkF m pc2 ls st)) : Go p e below P T (mkF m pc ls (.int y :: .int x :: st)) := by
  by_cases hc : x = y
  · exact g_icmpeqY W hd ho hp1 hp2 hc (K1 hc)
  · exact g_icmpeqN W hd ho hp1 hp2 (by first | exact hc | exact Decidable.not_not.mp hc) (K2 (by first | exact hc | exact Decidable.not_not.mp hc))
theorem g_ifeqY (W : Wd p l e R s m args below meth c Z a0 EL own F T h k n) {pc pc1 pc2 : Nat} {ls : Array Slot} {st : List Value} {x : Int32} {o : Int} (hd : decode c.code pc = .ok (.ifCond .eq o, 3)) (ho : 0 ≤ (pc : Int) + o) (hp1 : ((pc : Int) + o).toNat = pc1) (hp2 : pc + 3 = pc2) (hc : x = 0) (K : Go p e below P T (mkF m pc1 ls st)) : Go p e below P T (mkF m pc ls (.int x :: st)) :=
  K.st fun t q => XS.ifYes W.here W.hx rfl rfl hd rfl (by rw [if0]; exact (teq hc).1) ho hp1 q
theorem g_ifeqN (W : Wd p l e R s m args below meth c Z a0 EL own F T h k n) {pc pc1 pc2 : Nat} {ls : Array Slot} {st : List Value} {x : Int32} {o : Int} (hd : decode c.code pc = .ok (.ifCond .eq o, 3)) (ho : 0 ≤ (pc : Int) + o) (hp1 : ((pc : Int) + o).toNat = pc1) (hp2 : pc + 3 = pc2) (hc : ¬ x = 0) (K : Go p e below P T (mkF m pc2 ls st)) : Go p e below P T (mkF m pc ls (.int x :: st)) := by
  subst hp2
  exact K.st fun t q => XS.ifNo W.here W.hx rfl hd rfl (by rw [if0]; exact (feq hc).1) q
theorem g_ifeq (W : Wd p l e R s m args below meth c Z a0 EL own F T h k n) {pc pc1 pc2 : Nat} {ls : Array Slot} {st : List Value} {x : Int32} {o : Int} (hd : decode c.code pc = .ok (.ifCond .eq o, 3)) (ho : 0 ≤ (pc : Int) + o) (hp1 : ((pc : Int) + o).toNat = pc1) (hp2 : pc + 3 = pc2) (K1 : x = 0 → Go p e below P T (mkF m pc1 ls st)) (K2 : ¬ x = 0 → Go p e below P T (mkF m pc2 ls st)) : Go p e below P T (mkF m pc ls (.int x :: st)) := by
  by_cases hc : x = 0
  · exact g_ifeqY W hd ho hp1 hp2 hc (K1 hc)
  · exact g_ifeqN W hd ho hp1 hp2 (by first | exact hc | exact Decidable.not_not.mp hc) (K2 (by first | exact hc | exact Decidable.not_not.mp hc))
theorem g_icmpneY (W : Wd p l e R s m args below meth c Z a0 EL own F T h k n) {pc pc1 pc2 : Nat} {ls : Array Slot} {st : List Value} {x y : Int32} {o : Int} (hd : decode c.code pc = .ok (.if_icmp .ne o, 3)) (ho : 0 ≤ (pc : Int) + o) (hp1 : ((pc : Int) + o).toNat = pc1) (hp2 : pc + 3 = pc2) (hc : ¬ x = y) (K : Go p e below P T (mkF m pc1 ls st)) : Go p e below P T (mkF m pc ls (.int y :: .int x :: st)) :=
  K.st fun t q => XS.icmpYes W.here W.hx rfl rfl hd rfl (feq hc).2 ho hp1 q
theorem g_icmpneN (W : Wd p l e R s m args below meth c Z a0 EL own F T h k n) {pc pc1 pc2 : Nat} {ls : Array Slot} {st : List Value} {x y : Int32} {o : Int} (hd : decode c.code pc = .ok (.if_icmp .ne o, 3)) (ho : 0 ≤ (pc : Int) + o) (hp1 : ((pc : Int) + o).toNat = pc1) (hp2 : pc + 3 = pc2) (hc : x = y) (K : Go p e below P T (mkF m pc2 ls st)) : Go p e below P T (mkF m pc ls (.int y :: .int x :: st)) := by
  subst hp2
  exact K.st fun t q => XS.icmpNo W.here W.hx rfl hd rfl (teq hc).2 q
theorem g_icmpne (W : Wd p l e R s m args below meth c Z a0 EL own F T h k n) {pc pc1 pc2 : Nat} {ls : Array Slot} {st : List Value} {x y : Int32} {o : Int} (hd : decode c.code pc = .ok (.if_icmp .ne o, 3)) (ho : 0 ≤ (pc : Int) + o) (hp1 : ((pc : Int) + o).toNat = pc1) (hp2 : pc + 3 = pc2) (K1 : ¬ x = y → Go p e below P T (mkF m pc1 ls st)) (K2 : x = y → Go p e below P T (mkF m pc2 ls st)) : Go p e below P T (mkF m pc ls (.int y :: .int x :: st)) := by
  by_cases hc : ¬ x = y
  · exact g_icmpneY W hd ho hp1 hp2 hc (K1 hc)
  · exact g_icmpneN W hd ho hp1 hp2 (by first | exact hc | exact Decidable.not_not.mp hc) (K2 (by first | exact hc | exact Decidable.not_not.mp hc))
theorem g_ifneY (W : Wd p l e R s m args below meth c Z a0 EL own F T h k n) {pc pc1 pc2 : Nat} {ls : Array Slot} {st : List Value} {x : Int32} {o : Int} (hd : decode c.code pc = .ok (.ifCond .ne o, 3)) (ho : 0 ≤ (pc : Int) + o) (hp1 : ((pc : Int) + o).toNat = pc1) (hp2 : pc + 3 = pc2) (hc : ¬ x = 0) (K : Go p e below P T (mkF m pc1 ls st)) : Go p e below P T (mkF m pc ls (.int x :: st)) :=
  K.st fun t q => XS.ifYes W.here W.hx rfl rfl hd rfl (by rw [if0]; exact (feq hc).2) ho hp1 q
theorem g_ifneN (W : Wd p l e R s m args below meth c Z a0 EL own F T h k n) {pc pc1 pc2 : Nat} {ls : Array Slot} {st : List Value} {x : Int32} {o : Int} (hd : decode c.code pc = .ok (.ifCond .ne o, 3)) (ho : 0 ≤ (pc : Int) + o) (hp1 : ((pc : Int) + o).toNat = pc1) (hp2 : pc + 3 = pc2) (hc : x = 0) (K : Go p e below P T (mkF m pc2 ls st)) : Go p e below P T (mkF m pc ls (.int x :: st)) := by
  subst hp2
  exact K.st fun t q => XS.ifNo W.here W.hx rfl hd rfl (by rw [if0]; exact (teq hc).2) q
theorem g_ifne (W : Wd p l e R s m args below meth c Z a0 EL own F T h k n) {pc pc1 pc2 : Nat} {ls : Array Slot} {st : List Value} {x : Int32} {o : Int} (hd : decode c.code pc = .ok (.ifCond .ne o, 3)) (ho : 0 ≤ (pc : Int) + o) (hp1 : ((pc : Int) + o).toNat = pc1) (hp2 : pc + 3 = pc2) (K1 : ¬ x = 0 → Go p e below P T (mkF m pc1 ls st)) (K2 : x = 0 → Go p e below P T (mkF m pc2 ls st)) : Go p e below P T (mkF m pc ls (.int x :: st)) := by
  by_cases hc : ¬ x = 0
  · exact g_ifneY W hd ho hp1 hp2 hc (K1 hc)
  · exact g_ifneN W hd ho hp1 hp2 (by first | exact hc | exact Decidable.not_not.mp hc) (K2 (by first | exact hc | exact Decidable.not_not.mp hc))
theorem g_icmpltY (W : Wd p l e R s m args below meth c Z a0 EL own F T h k n) {pc pc1 pc2 : Nat} {ls : Array Slot} {st : List Value} {x y : Int32} {o : Int} (hd : decode c.code pc = .ok (.if_icmp .lt o, 3)) (ho : 0 ≤ (pc : Int) + o) (hp1 : ((pc : Int) + o).toNat = pc1) (hp2 : pc + 3 = pc2) (hc : x < y) (K : Go p e below P T (mkF m pc1 ls st)) : Go p e below P T (mkF m pc ls (.int y :: .int x :: st)) :=
  K.st fun t q => XS.icmpYes W.here W.hx rfl rfl hd rfl (tlt hc).1 ho hp1 q
theorem g_icmpltN (W : Wd p l e R s m args below meth c Z a0 EL own F T h k n) {pc pc1 pc2 : Nat} {ls : Array Slot} {st : List Value} {x y : Int32} {o : Int} (hd : decode c.code pc = .ok (.if_icmp .lt o, 3)) (ho : 0 ≤ (pc : Int) + o) (hp1 : ((pc : Int) + o).toNat = pc1) (hp2 : pc + 3 = pc2) (hc : ¬ x < y) (K : Go p e below P T (mkF m pc2 ls st)) : Go p e below P T (mkF m pc ls (.int y :: .int x :: st)) := by
  subst hp2
  exact K.st fun t q => XS.icmpNo W.here W.hx rfl hd rfl (flt hc).1 q
theorem g_icmplt (W : Wd p l e R s m args below meth c Z a0 EL own F T h k n) {pc pc1 pc2 : Nat} {ls : Array Slot} {st : List Value} {x y : Int32} {o : Int} (hd : decode c.code pc = .ok (.if_icmp .lt o, 3)) (ho : 0 ≤ (pc : Int) + o) (hp1 : ((pc : Int) + o).toNat = pc1) (hp2 : pc + 3 = pc2) (K1 : x < y → Go p e below P T (mkF m pc1 ls st)) (K2 : ¬ x < y → Go p e below P T (mkF m pc2 ls st)) : Go p e below P T (mkF m pc ls (.int y :: .int x :: st)) := by
  by_cases hc : x < y
  · exact g_icmpltY W hd ho hp1 hp2 hc (K1 hc)
  · exact g_icmpltN W hd ho hp1 hp2 (by first | exact hc | exact Decidable.not_not.mp hc) (K2 (by first | exact hc | exact Decidable.not_not.mp hc))
theorem g_ifltY (W : Wd p l e R s m args below meth c Z a0 EL own F T h k n) {pc pc1 pc2 : Nat} {ls : Array Slot} {st : List Value} {x : Int32} {o : Int} (hd : decode c.code pc = .ok (.ifCond .lt o, 3)) (ho : 0 ≤ (pc : Int) + o) (hp1 : ((pc : Int) + o).toNat = pc1) (hp2 : pc + 3 = pc2) (hc : x < 0) (K : Go p e below P T (mkF m pc1 ls st)) : Go p e below P T (mkF m pc ls (.int x :: st)) :=
  K.st fun t q => XS.ifYes W.here W.hx rfl rfl hd rfl (by rw [if0]; exact (tlt hc).1) ho hp1 q
theorem g_ifltN (W : Wd p l e R s m args below meth c Z a0 EL own F T h k n) {pc pc1 pc2 : Nat} {ls : Array Slot} {st : List Value} {x : Int32} {o : Int} (hd : decode c.code pc = .ok (.ifCond .lt o, 3)) (ho : 0 ≤ (pc : Int) + o) (hp1 : ((pc : Int) + o).toNat = pc1) (hp2 : pc + 3 = pc2) (hc : ¬ x < 0) (K : Go p e below P T (mkF m pc2 ls st)) : Go p e below P T (mkF m pc ls (.int x :: st)) := by
  subst hp2
  exact K.st fun t q => XS.ifNo W.here W.hx rfl hd rfl (by rw [if0]; exact (flt hc).1) q
theorem g_iflt (W : Wd p l e R s m args below meth c Z a0 EL own F T h k n) {pc pc1 pc2 : Nat} {ls : Array Slot} {st : List Value} {x : Int32} {o : Int} (hd : decode c.code pc = .ok (.ifCond .lt o, 3)) (ho : 0 ≤ (pc : Int) + o) (hp1 : ((pc : Int) + o).toNat = pc1) (hp2 : pc + 3 = pc2) (K1 : x < 0 → Go p e below P T (mkF m pc1 ls st)) (K2 : ¬ x < 0 → Go p e below P T (mkF m pc2 ls st)) : Go p e below P T (mkF m pc ls (.int x :: st)) := by
  by_cases hc : x < 0
  · exact g_ifltY W hd ho hp1 hp2 hc (K1 hc)
  · exact g_ifltN W hd ho hp1 hp2 (by first | exact hc | exact Decidable.not_not.mp hc) (K2 (by first | exact hc | exact Decidable.not_not.mp hc))
theorem g_icmpgeY (W : Wd p l e R s m args below meth c Z a0 EL own F T h k n) {pc pc1 pc2 : Nat} {ls : Array Slot} {st : List Value} {x y : Int32} {o : Int} (hd : decode c.code pc = .ok (.if_icmp .ge o, 3)) (ho : 0 ≤ (pc : Int) + o) (hp1 : ((pc : Int) + o).toNat = pc1) (hp2 : pc + 3 = pc2) (hc : ¬ x < y) (K : Go p e below P T (mkF m pc1 ls st)) : Go p e below P T (mkF m pc ls (.int y :: .int x :: st)) :=
  K.st fun t q => XS.icmpYes W.here W.hx rfl rfl hd rfl (flt hc).2.1 ho hp1 q
theorem g_icmpgeN (W : Wd p l e R s m args below meth c Z a0 EL own F T h k n) {pc pc1 pc2 : Nat} {ls : Array Slot} {st : List Value} {x y : Int32} {o : Int} (hd : decode c.code pc = .ok (.if_icmp .ge o, 3)) (ho : 0 ≤ (pc : Int) + o) (hp1 : ((pc : Int) + o).toNat = pc1) (hp2 : pc + 3 = pc2) (hc : x < y) (K : Go p e below P T (mkF m pc2 ls st)) : Go p e below P T (mkF m pc ls (.int y :: .int x :: st)) := by
  subst hp2
  exact K.st fun t q => XS.icmpNo W.here W.hx rfl hd rfl (tlt hc).2.1 q
theorem g_icmpge (W : Wd p l e R s m args below meth c Z a0 EL own F T h k n) {pc pc1 pc2 : Nat} {ls : Array Slot} {st : List Value} {x y : Int32} {o : Int} (hd : decode c.code pc = .ok (.if_icmp .ge o, 3)) (ho : 0 ≤ (pc : Int) + o) (hp1 : ((pc : Int) + o).toNat = pc1) (hp2 : pc + 3 = pc2) (K1 : ¬ x < y → Go p e below P T (mkF m pc1 ls st)) (K2 : x < y → Go p e below P T (mkF m pc2 ls st)) : Go p e below P T (mkF m pc ls (.int y :: .int x :: st)) := by
  by_cases hc : ¬ x < y
  · exact g_icmpgeY W hd ho hp1 hp2 hc (K1 hc)
  · exact g_icmpgeN W hd ho hp1 hp2 (by first | exact hc | exact Decidable.not_not.mp hc) (K2 (by first | exact hc | exact Decidable.not_not.mp hc))
theorem g_ifgeY (W : Wd p l e R s m args below meth c Z a0 EL own F T h k n) {pc pc1 pc2 : Nat} {ls : Array Slot} {st : List Value} {x : Int32} {o : Int} (hd : decode c.code pc = .ok (.ifCond .ge o, 3)) (ho : 0 ≤ (pc : Int) + o) (hp1 : ((pc : Int) + o).toNat = pc1) (hp2 : pc + 3 = pc2) (hc : ¬ x < 0) (K : Go p e below P T (mkF m pc1 ls st)) : Go p e below P T (mkF m pc ls (.int x :: st)) :=
  K.st fun t q => XS.ifYes W.here W.hx rfl rfl hd rfl (by rw [if0]; exact (flt hc).2.1) ho hp1 q
theorem g_ifgeN (W : Wd p l e R s m args below meth c Z a0 EL own F T h k n) {pc pc1 pc2 : Nat} {ls : Array Slot} {st : List Value} {x : Int32} {o : Int} (hd : decode c.code pc = .ok (.ifCond .ge o, 3)) (ho : 0 ≤ (pc : Int) + o) (hp1 : ((pc : Int) + o).toNat = pc1) (hp2 : pc + 3 = pc2) (hc : x < 0) (K : Go p e below P T (mkF m pc2 ls st)) : Go p e below P T (mkF m pc ls (.int x :: st)) := by
  subst hp2
  exact K.st fun t q => XS.ifNo W.here W.hx rfl hd rfl (by rw [if0]; exact (tlt hc).2.1) q
theorem g_ifge (W : Wd p l e R s m args below meth c Z a0 EL own F T h k n) {pc pc1 pc2 : Nat} {ls : Array Slot} {st : List Value} {x : Int32} {o : Int} (hd : decode c.code pc = .ok (.ifCond .ge o, 3)) (ho : 0 ≤ (pc : Int) + o) (hp1 : ((pc : Int) + o).toNat = pc1) (hp2 : pc + 3 = pc2) (K1 : ¬ x < 0 → Go p e below P T (mkF m pc1 ls st)) (K2 : x < 0 → Go p e below P T (mkF m pc2 ls st)) : Go p e below P T (mkF m pc ls (.int x :: st)) := by
  by_cases hc : ¬ x < 0
  · exact g_ifgeY W hd ho hp1 hp2 hc (K1 hc)
  · exact g_ifgeN W hd ho hp1 hp2 (by first | exact hc | exact Decidable.not_not.mp hc) (K2 (by first | exact hc | exact Decidable.not_not.mp hc))
theorem g_icmpgtY (W : Wd p l e R s m args below meth c Z a0 EL own F T h k n) {pc pc1 pc2 : Nat} {ls : Array Slot} {st : List Value} {x y : Int32} {o : Int} (hd : decode c.code pc = .ok (.if_icmp .gt o, 3)) (ho : 0 ≤ (pc : Int) + o) (hp1 : ((pc : Int) + o).toNat = pc1) (hp2 : pc + 3 = pc2) (hc : y < x) (K : Go p e below P T (mkF m pc1 ls st)) : Go p e below P T (mkF m pc ls (.int y :: .int x :: st)) :=
  K.st fun t q => XS.icmpYes W.here W.hx rfl rfl hd rfl (tlt hc).2.2.1 ho hp1 q
theorem g_icmpgtN (W : Wd p l e R s m args below meth c Z a0 EL own F T h k n) {pc pc1 pc2 : Nat} {ls : Array Slot} {st : List Value} {x y : Int32} {o : Int} (hd : decode c.code pc = .ok (.if_icmp .gt o, 3)) (ho : 0 ≤ (pc : Int) + o) (hp1 : ((pc : Int) + o).toNat = pc1) (hp2 : pc + 3 = pc2) (hc : ¬ y < x) (K : Go p e below P T (mkF m pc2 ls st)) : Go p e below P T (mkF m pc ls (.int y :: .int x :: st)) := by
  subst hp2
  exact K.st fun t q => XS.icmpNo W.here W.hx rfl hd rfl (flt hc).2.2.1 q
theorem g_icmpgt (W : Wd p l e R s m args below meth c Z a0 EL own F T h k n) {pc pc1 pc2 : Nat} {ls : Array Slot} {st : List Value} {x y : Int32} {o : Int} (hd : decode c.code pc = .ok (.if_icmp .gt o, 3)) (ho : 0 ≤ (pc : Int) + o) (hp1 : ((pc : Int) + o).toNat = pc1) (hp2 : pc + 3 = pc2) (K1 : y < x → Go p e below P T (mkF m pc1 ls st)) (K2 : ¬ y < x → Go p e below P T (mkF m pc2 ls st)) : Go p e below P T (mkF m pc ls (.int y :: .int x :: st)) := by
  by_cases hc : y < x
  · exact g_icmpgtY W hd ho hp1 hp2 hc (K1 hc)
  · exact g_icmpgtN W hd ho hp1 hp2 (by first | exact hc | exact Decidable.not_not.mp hc) (K2 (by first | exact hc | exact Decidable.not_not.mp hc))
theorem g_ifgtY (W : Wd p l e R s m args below meth c Z a0 EL own F T h k n) {pc pc1 pc2 : Nat} {ls : Array Slot} {st : List Value} {x : Int32} {o : Int} (hd : decode c.code pc = .ok (.ifCond .gt o, 3)) (ho : 0 ≤ (pc : Int) + o) (hp1 : ((pc : Int) + o).toNat = pc1) (hp2 : pc + 3 = pc2) (hc : 0 < x) (K : Go p e below P T (mkF m pc1 ls st)) : Go p e below P T (mkF m pc ls (.int x :: st)) :=
  K.st fun t q => XS.ifYes W.here W.hx rfl rfl hd rfl (by rw [if0]; exact (tlt hc).2.2.1) ho hp1 q
theorem g_ifgtN (W : Wd p l e R s m args below meth c Z a0 EL own F T h k n) {pc pc1 pc2 : Nat} {ls : Array Slot} {st : List Value} {x : Int32} {o : Int} (hd : decode c.code pc = .ok (.ifCond .gt o, 3)) (ho : 0 ≤ (pc : Int) + o) (hp1 : ((pc : Int) + o).toNat = pc1) (hp2 : pc + 3 = pc2) (hc : ¬ 0 < x) (K : Go p e below P T (mkF m pc2 ls st)) : Go p e below P T (mkF m pc ls (.int x :: st)) := by
  subst hp2
  exact K.st fun t q => XS.ifNo W.here W.hx rfl hd rfl (by rw [if0]; exact (flt hc).2.2.1) q
theorem g_ifgt (W : Wd p l e R s m args below meth c Z a0 EL own F T h k n) {pc pc1 pc2 : Nat} {ls : Array Slot} {st : List Value} {x : Int32} {o : Int} (hd : decode c.code pc = .ok (.ifCond .gt o, 3)) (ho : 0 ≤ (pc : Int) + o) (hp1 : ((pc : Int) + o).toNat = pc1) (hp2 : pc + 3 = pc2) (K1 : 0 < x → Go p e below P T (mkF m pc1 ls st)) (K2 : ¬ 0 < x → Go p e below P T (mkF m pc2 ls st)) : Go p e below P T (mkF m pc ls (.int x :: st)) := by
  by_cases hc : 0 < x
  · exact g_ifgtY W hd ho hp1 hp2 hc (K1 hc)
  · exact g_ifgtN W hd ho hp1 hp2 (by first | exact hc | exact Decidable.not_not.mp hc) (K2 (by first | exact hc | exact Decidable.not_not.mp hc))
theorem g_icmpleY (W : Wd p l e R s m args below meth c Z a0 EL own F T h k n) {pc pc1 pc2 : Nat} {ls : Array Slot} {st : List Value} {x y : Int32} {o : Int} (hd : decode c.code pc = .ok (.if_icmp .le o, 3)) (ho : 0 ≤ (pc : Int) + o) (hp1 : ((pc : Int) + o).toNat = pc1) (hp2 : pc + 3 = pc2) (hc : ¬ y < x) (K : Go p e below P T (mkF m pc1 ls st)) : Go p e below P T (mkF m pc ls (.int y :: .int x :: st)) :=
  K.st fun t q => XS.icmpYes W.here W.hx rfl rfl hd rfl (flt hc).2.2.2 ho hp1 q
theorem g_icmpleN (W : Wd p l e R s m args below meth c Z a0 EL own F T h k n) {pc pc1 pc2 : Nat} {ls : Array Slot} {st : List Value} {x y : Int32} {o : Int} (hd : decode c.code pc = .ok (.if_icmp .le o, 3)) (ho : 0 ≤ (pc : Int) + o) (hp1 : ((pc : Int) + o).toNat = pc1) (hp2 : pc + 3 = pc2) (hc : y < x) (K : Go p e below P T (mkF m pc2 ls st)) : Go p e below P T (mkF m pc ls (.int y :: .int x :: st)) := by
  subst hp2
  exact K.st fun t q => XS.icmpNo W.here W.hx rfl hd rfl (tlt hc).2.2.2 q
theorem g_icmple (W : Wd p l e R s m args below meth c Z a0 EL own F T h k n) {pc pc1 pc2 : Nat} {ls : Array Slot} {st : List Value} {x y : Int32} {o : Int} (hd : decode c.code pc = .ok (.if_icmp .le o, 3)) (ho : 0 ≤ (pc : Int) + o) (hp1 : ((pc : Int) + o).toNat = pc1) (hp2 : pc + 3 = pc2) (K1 : ¬ y < x → Go p e below P T (mkF m pc1 ls st)) (K2 : y < x → Go p e below P T (mkF m pc2 ls st)) : Go p e below P T (mkF m pc ls (.int y :: .int x :: st)) := by
  by_cases hc : ¬ y < x
  · exact g_icmpleY W hd ho hp1 hp2 hc (K1 hc)
  · exact g_icmpleN W hd ho hp1 hp2 (by first | exact hc | exact Decidable.not_not.mp hc) (K2 (by first | exact hc | exact Decidable.not_not.mp hc))
theorem g_ifleY (W : Wd p l e R s m args below meth c Z a0 EL own F T h k n) {pc pc1 pc2 : Nat} {ls : Array Slot} {st : List Value} {x : Int32} {o : Int} (hd : decode c.code pc = .ok (.ifCond .le o, 3)) (ho : 0 ≤ (pc : Int) + o) (hp1 : ((pc : Int) + o).toNat = pc1) (hp2 : pc + 3 = pc2) (hc : ¬ 0 < x) (K : Go p e below P T (mkF m pc1 ls st)) : Go p e below P T (mkF m pc ls (.int x :: st)) :=
  K.st fun t q => XS.ifYes W.here W.hx rfl rfl hd rfl (by rw [if0]; exact (flt hc).2.2.2) ho hp1 q
theorem g_ifleN (W : Wd p l e R s m args below meth c Z a0 EL own F T h k n) {pc pc1 pc2 : Nat} {ls : Array Slot} {st : List Value} {x : Int32} {o : Int} (hd : decode c.code pc = .ok (.ifCond .le o, 3)) (ho : 0 ≤ (pc : Int) + o) (hp1 : ((pc : Int) + o).toNat = pc1) (hp2 : pc + 3 = pc2) (hc : 0 < x) (K : Go p e below P T (mkF m pc2 ls st)) : Go p e below P T (mkF m pc ls (.int x :: st)) := by
  subst hp2
  exact K.st fun t q => XS.ifNo W.here W.hx rfl hd rfl (by rw [if0]; exact (tlt hc).2.2.2) q
theorem g_ifle (W : Wd p l e R s m args below meth c Z a0 EL own F T h k n) {pc pc1 pc2 : Nat} {ls : Array Slot} {st : List Value} {x : Int32} {o : Int} (hd : decode c.code pc = .ok (.ifCond .le o, 3)) (ho : 0 ≤ (pc : Int) + o) (hp1 : ((pc : Int) + o).toNat = pc1) (hp2 : pc + 3 = pc2) (K1 : ¬ 0 < x → Go p e below P T (mkF m pc1 ls st)) (K2 : 0 < x → Go p e below P T (mkF m pc2 ls st)) : Go p e below P T (mkF m pc ls (.int x :: st)) := by
  by_cases hc : ¬ 0 < x
  · exact g_ifleY W hd ho hp1 hp2 hc (K1 hc)
  · exact g_ifleN W hd ho hp1 hp2 (by first | exact hc | exact Decidable.not_not.mp hc) (K2 (by first | exact hc | exact Decidable.not_not.mp hc))
theorem g_ifnullY (W : Wd p l e R s m args below meth c Z a0 EL own F T h k n) {pc pc1 pc2 : Nat} {ls : Array Slot} {st : List Value} {o : Int} (hd : decode c.code pc = .ok (.ifnull o, 3)) (ho : 0 ≤ (pc : Int) + o) (hp1 : ((pc : Int) + o).toNat = pc1) (hp2 : pc + 3 = pc2) (K : Go p e below P T (mkF m pc1 ls st)) : Go p e below P T (mkF m pc ls (.null :: st)) :=
  K.st fun t q => XS.ifnullYes W.here W.hx rfl rfl hd rfl ho hp1 q
theorem g_ifnullN (W : Wd p l e R s m args below meth c Z a0 EL own F T h k n) {pc pc1 pc2 : Nat} {ls : Array Slot} {st : List Value} {o : Int} {b : Addr} (hd : decode c.code pc = .ok (.ifnull o, 3)) (ho : 0 ≤ (pc : Int) + o) (hp1 : ((pc : Int) + o).toNat = pc1) (hp2 : pc + 3 = pc2) (K : Go p e below P T (mkF m pc2 ls st)) : Go p e below P T (mkF m pc ls (.ref b :: st)) := by
  subst hp2
  exact K.st fun t q => XS.ifnullNo W.here W.hx rfl hd rfl q
theorem g_ifnonnullY (W : Wd p l e R s m args below meth c Z a0 EL own F T h k n) {pc pc1 pc2 : Nat} {ls : Array Slot} {st : List Value} {o : Int} {b : Addr} (hd : decode c.code pc = .ok (.ifnonnull o, 3)) (ho : 0 ≤ (pc : Int) + o) (hp1 : ((pc : Int) + o).toNat = pc1) (hp2 : pc + 3 = pc2) (K : Go p e below P T (mkF m pc1 ls st)) : Go p e below P T (mkF m pc ls (.ref b :: st)) :=
  K.st fun t q => XT.ifnonnullYes W.here W.hx rfl rfl hd rfl ho hp1 q
theorem g_ifnonnullN (W : Wd p l e R s m args below meth c Z a0 EL own F T h k n) {pc pc1 pc2 : Nat} {ls : Array Slot} {st : List Value} {o : Int} (hd : decode c.code pc = .ok (.ifnonnull o, 3)) (ho : 0 ≤ (pc : Int) + o) (hp1 : ((pc : Int) + o).toNat = pc1) (hp2 : pc + 3 = pc2) (K : Go p e below P T (mkF m pc2 ls st)) : Go p e below P T (mkF m pc ls (.null :: st)) := by
  subst hp2
  exact K.st fun t q => XT.ifnonnullNo W.here W.hx rfl hd rfl q
theorem g_acmpeqY (W : Wd p l e R s m args below meth c Z a0 EL own F T h k n) {pc pc1 pc2 : Nat} {ls : Array Slot} {st : List Value} {o : Int} {x y : Value} (hd : decode c.code pc = .ok (.if_acmp .eq o, 3)) (ho : 0 ≤ (pc : Int) + o) (hp1 : ((pc : Int) + o).toNat = pc1) (hp2 : pc + 3 = pc2) (h1 : x.isRef = true) (h2 : y.isRef = true) (hc : x = y) (K : Go p e below P T (mkF m pc1 ls st)) : Go p e below P T (mkF m pc ls (y :: x :: st)) := by
  obtain ⟨w1, w2, w3, w4, vm0, k0, locs, X, r⟩ := W
  exact K.st fun t q => acmp X w1 rfl h1 h2 (same := true) rfl hd rfl (by simp [hc]) ho (by simp [acV, hp1]) q
theorem g_acmpeqN (W : Wd p l e R s m args below meth c Z a0 EL own F T h k n) {pc pc1 pc2 : Nat} {ls : Array Slot} {st : List Value} {o : Int} {x y : Value} (hd : decode c.code pc = .ok (.if_acmp .eq o, 3)) (ho : 0 ≤ (pc : Int) + o) (hp1 : ((pc : Int) + o).toNat = pc1) (hp2 : pc + 3 = pc2) (h1 : x.isRef = true) (h2 : y.isRef = true) (hc : ¬ x = y) (K : Go p e below P T (mkF m pc2 ls st)) : Go p e below P T (mkF m pc ls (y :: x :: st)) := by
  obtain ⟨w1, w2, w3, w4, vm0, k0, locs, X, r⟩ := W
  exact K.st fun t q => acmp X w1 rfl h1 h2 (same := false) rfl hd rfl (by simp [hc]) ho (by simp [acV, hp2]) q
theorem g_acmpeq (W : Wd p l e R s m args below meth c Z a0 EL own F T h k n) {pc pc1 pc2 : Nat} {ls : Array Slot} {st : List Value} {o : Int} {x y : Value} (hd : decode c.code pc = .ok (.if_acmp .eq o, 3)) (ho : 0 ≤ (pc : Int) + o) (hp1 : ((pc : Int) + o).toNat = pc1) (hp2 : pc + 3 = pc2) (h1 : x.isRef = true) (h2 : y.isRef = true) (K1 : x = y → Go p e below P T (mkF m pc1 ls st)) (K2 : ¬ x = y → Go p e below P T (mkF m pc2 ls st)) : Go p e below P T (mkF m pc ls (y :: x :: st)) := by
  by_cases hc : x = y
  · exact g_acmpeqY W hd ho hp1 hp2 h1 h2 hc (K1 hc)
  · exact g_acmpeqN W hd ho hp1 hp2 h1 h2 (by first | exact hc | exact Decidable.not_not.mp hc) (K2 (by first | exact hc | exact Decidable.not_not.mp hc))
theorem g_acmpneY (W : Wd p l e R s m args below meth c Z a0 EL own F T h k n) {pc pc1 pc2 : Nat} {ls : Array Slot} {st : List Value} {o : Int} {x y : Value} (hd : decode c.code pc = .ok (.if_acmp .ne o, 3)) (ho : 0 ≤ (pc : Int) + o) (hp1 : ((pc : Int) + o).toNat = pc1) (hp2 : pc + 3 = pc2) (h1 : x.isRef = true) (h2 : y.isRef = true) (hc : ¬ x = y) (K : Go p e below P T (mkF m pc1 ls st)) : Go p e below P T (mkF m pc ls (y :: x :: st)) := by
  obtain ⟨w1, w2, w3, w4, vm0, k0, locs, X, r⟩ := W
  exact K.st fun t q => acmp X w1 rfl h1 h2 (same := false) rfl hd rfl (by simp [hc]) ho (by simp [acV, hp1]) q
theorem g_acmpneN (W : Wd p l e R s m args below meth c Z a0 EL own F T h k n) {pc pc1 pc2 : Nat} {ls : Array Slot} {st : List Value} {o : Int} {x y : Value} (hd : decode c.code pc = .ok (.if_acmp .ne o, 3)) (ho : 0 ≤ (pc : Int) + o) (hp1 : ((pc : Int) + o).toNat = pc1) (hp2 : pc + 3 = pc2) (h1 : x.isRef = true) (h2 : y.isRef = true) (hc : x = y) (K : Go p e below P T (mkF m pc2 ls st)) : Go p e below P T (mkF m pc ls (y :: x :: st)) := by
  obtain ⟨w1, w2, w3, w4, vm0, k0, locs, X, r⟩ := W
  exact K.st fun t q => acmp X w1 rfl h1 h2 (same := true) rfl hd rfl (by simp [hc]) ho (by simp [acV, hp2]) q
theorem g_acmpne (W : Wd p l e R s m args below meth c Z a0 EL own F T h k n) {pc pc1 pc2 : Nat} {ls : Array Slot} {st : List Value} {o : Int} {x y : Value} (hd : decode c.code pc = .ok (.if_acmp .ne o, 3)) (ho : 0 ≤ (pc : Int) + o) (hp1 : ((pc : Int) + o).toNat = pc1) (hp2 : pc + 3 = pc2) (h1 : x.isRef = true) (h2 : y.isRef = true) (K1 : ¬ x = y → Go p e below P T (mkF m pc1 ls st)) (K2 : x = y → Go p e below P T (mkF m pc2 ls st)) : Go p e below P T (mkF m pc ls (y :: x :: st)) := by
  by_cases hc : ¬ x = y
  · exact g_acmpneY W hd ho hp1 hp2 h1 h2 hc (K1 hc)
  · exact g_acmpneN W hd ho hp1 hp2 h1 h2 (by first | exact hc | exact Decidable.not_not.mp hc) (K2 (by first | exact hc | exact Decidable.not_not.mp hc))
theorem g_icmpeqB (W : Wd p l e R s m args below meth c Z a0 EL own F T h k n) {pc pc1 pc2 pc3 pcJ : Nat} {ls : Array Slot} {st : List Value} {x y : Int32} {o o2 i1 i2 : Int} {v1 v2 : Int32} (hd : decode c.code pc = .ok (.if_icmp .eq o, 3)) (ho : 0 ≤ (pc : Int) + o) (hp1 : ((pc : Int) + o).toNat = pc1) (hp2 : pc + 3 = pc2) (hd1 : decode c.code pc2 = .ok (.iconst i1, 1)) (hp3 : pc2 + 1 = pc3) (hd2 : decode c.code pc3 = .ok (.goto o2, 3)) (ho2 : 0 ≤ (pc3 : Int) + o2) (hpJ : ((pc3 : Int) + o2).toNat = pcJ) (hd3 : decode c.code pc1 = .ok (.iconst i2, 1)) (hpJ2 : pc1 + 1 = pcJ) (hv1 : Int32.ofInt i1 = v1) (hv2 : Int32.ofInt i2 = v2) (K : Go p e below P T (mkF m pcJ ls (.int (if x = y then v2 else v1) :: st))) : Go p e below P T (mkF m pc ls (.int y :: .int x :: st)) := by
  refine g_icmpeq W hd ho hp1 hp2 (fun q => ?_) (fun q => ?_)
  · refine g_iconst W hd3 hpJ2 hv2 ?_
    have e : (if x = y then v2 else v1) = v2 := by simp [q]
    rw [e] at K
    exact K
  · refine g_iconst W hd1 hp3 hv1 (g_goto W hd2 ho2 hpJ ?_)
    have e : (if x = y then v2 else v1) = v1 := by simp [q]
    rw [e] at K
    exact K
theorem g_ifeqB (W : Wd p l e R s m args below meth c Z a0 EL own F T h k n) {pc pc1 pc2 pc3 pcJ : Nat} {ls : Array Slot} {st : List Value} {x : Int32} {o o2 i1 i2 : Int} {v1 v2 : Int32} (hd : decode c.code pc = .ok (.ifCond .eq o, 3)) (ho : 0 ≤ (pc : Int) + o) (hp1 : ((pc : Int) + o).toNat = pc1) (hp2 : pc + 3 = pc2) (hd1 : decode c.code pc2 = .ok (.iconst i1, 1)) (hp3 : pc2 + 1 = pc3) (hd2 : decode c.code pc3 = .ok (.goto o2, 3)) (ho2 : 0 ≤ (pc3 : Int) + o2) (hpJ : ((pc3 : Int) + o2).toNat = pcJ) (hd3 : decode c.code pc1 = .ok (.iconst i2, 1)) (hpJ2 : pc1 + 1 = pcJ) (hv1 : Int32.ofInt i1 = v1) (hv2 : Int32.ofInt i2 = v2) (K : Go p e below P T (mkF m pcJ ls (.int (if x = 0 then v2 else v1) :: st))) : Go p e below P T (mkF m pc ls (.int x :: st)) := by
  refine g_ifeq W hd ho hp1 hp2 (fun q => ?_) (fun q => ?_)
  · refine g_iconst W hd3 hpJ2 hv2 ?_
    have e : (if x = 0 then v2 else v1) = v2 := by simp [q]
    rw [e] at K
    exact K
  · refine g_iconst W hd1 hp3 hv1 (g_goto W hd2 ho2 hpJ ?_)
    have e : (if x = 0 then v2 else v1) = v1 := by simp [q]
    rw [e] at K
    exact K
theorem g_icmpneB (W : Wd p l e R s m args below meth c Z a0 EL own F T h k n) {pc pc1 pc2 pc3 pcJ : Nat} {ls : Array Slot} {st : List Value} {x y : Int32} {o o2 i1 i2 : Int} {v1 v2 : Int32} (hd : decode c.code pc = .ok (.if_icmp .ne o, 3)) (ho : 0 ≤ (pc : Int) + o) (hp1 : ((pc : Int) + o).toNat = pc1) (hp2 : pc + 3 = pc2) (hd1 : decode c.code pc2 = .ok (.iconst i1, 1)) (hp3 : pc2 + 1 = pc3) (hd2 : decode c.code pc3 = .ok (.goto o2, 3)) (ho2 : 0 ≤ (pc3 : Int) + o2) (hpJ : ((pc3 : Int) + o2).toNat = pcJ) (hd3 : decode c.code pc1 = .ok (.iconst i2, 1)) (hpJ2 : pc1 + 1 = pcJ) (hv1 : Int32.ofInt i1 = v1) (hv2 : Int32.ofInt i2 = v2) (K : Go p e below P T (mkF m pcJ ls (.int (if ¬ x = y then v2 else v1) :: st))) : Go p e below P T (mkF m pc ls (.int y :: .int x :: st)) := by
  refine g_icmpne W hd ho hp1 hp2 (fun q => ?_) (fun q => ?_)
  · refine g_iconst W hd3 hpJ2 hv2 ?_
    have e : (if ¬ x = y then v2 else v1) = v2 := by simp [q]
    rw [e] at K
    exact K
  · refine g_iconst W hd1 hp3 hv1 (g_goto W hd2 ho2 hpJ ?_)
    have e : (if ¬ x = y then v2 else v1) = v1 := by simp [q]
    rw [e] at K
    exact K
theorem g_ifneB (W : Wd p l e R s m args below meth c Z a0 EL own F T h k n) {pc pc1 pc2 pc3 pcJ : Nat} {ls : Array Slot} {st : List Value} {x : Int32} {o o2 i1 i2 : Int} {v1 v2 : Int32} (hd : decode c.code pc = .ok (.ifCond .ne o, 3)) (ho : 0 ≤ (pc : Int) + o) (hp1 : ((pc : Int) + o).toNat = pc1) (hp2 : pc + 3 = pc2) (hd1 : decode c.code pc2 = .ok (.iconst i1, 1)) (hp3 : pc2 + 1 = pc3) (hd2 : decode c.code pc3 = .ok (.goto o2, 3)) (ho2 : 0 ≤ (pc3 : Int) + o2) (hpJ : ((pc3 : Int) + o2).toNat = pcJ) (hd3 : decode c.code pc1 = .ok (.iconst i2, 1)) (hpJ2 : pc1 + 1 = pcJ) (hv1 : Int32.ofInt i1 = v1) (hv2 : Int32.ofInt i2 = v2) (K : Go p e below P T (mkF m pcJ ls (.int (if ¬ x = 0 then v2 else v1) :: st))) : Go p e below P T (mkF m pc ls (.int x :: st)) := by
  refine g_ifne W hd ho hp1 hp2 (fun q => ?_) (fun q => ?_)
  · refine g_iconst W hd3 hpJ2 hv2 ?_
    have e : (if ¬ x = 0 then v2 else v1) = v2 := by simp [q]
    rw [e] at K
    exact K
  · refine g_iconst W hd1 hp3 hv1 (g_goto W hd2 ho2 hpJ ?_)
    have e : (if ¬ x = 0 then v2 else v1) = v1 := by simp [q]
    rw [e] at K
    exact K
theorem g_icmpltB (W : Wd p l e R s m args below meth c Z a0 EL own F T h k n) {pc pc1 pc2 pc3 pcJ : Nat} {ls : Array Slot} {st : List Value} {x y : Int32} {o o2 i1 i2 : Int} {v1 v2 : Int32} (hd : decode c.code pc = .ok (.if_icmp .lt o, 3)) (ho : 0 ≤ (pc : Int) + o) (hp1 : ((pc : Int) + o).toNat = pc1) (hp2 : pc + 3 = pc2) (hd1 : decode c.code pc2 = .ok (.iconst i1, 1)) (hp3 : pc2 + 1 = pc3) (hd2 : decode c.code pc3 = .ok (.goto o2, 3)) (ho2 : 0 ≤ (pc3 : Int) + o2) (hpJ : ((pc3 : Int) + o2).toNat = pcJ) (hd3 : decode c.code pc1 = .ok (.iconst i2, 1)) (hpJ2 : pc1 + 1 = pcJ) (hv1 : Int32.ofInt i1 = v1) (hv2 : Int32.ofInt i2 = v2) (K : Go p e below P T (mkF m pcJ ls (.int (if x < y then v2 else v1) :: st))) : Go p e below P T (mkF m pc ls (.int y :: .int x :: st)) := by
  refine g_icmplt W hd ho hp1 hp2 (fun q => ?_) (fun q => ?_)
  · refine g_iconst W hd3 hpJ2 hv2 ?_
    have e : (if x < y then v2 else v1) = v2 := by simp [q]
    rw [e] at K
    exact K
  · refine g_iconst W hd1 hp3 hv1 (g_goto W hd2 ho2 hpJ ?_)
    have e : (if x < y then v2 else v1) = v1 := by simp [q]
    rw [e] at K
    exact K
theorem g_ifltB (W : Wd p l e R s m args below meth c Z a0 EL own F T h k n) {pc pc1 pc2 pc3 pcJ : Nat} {ls : Array Slot} {st : List Value} {x : Int32} {o o2 i1 i2 : Int} {v1 v2 : Int32} (hd : decode c.code pc = .ok (.ifCond .lt o, 3)) (ho : 0 ≤ (pc : Int) + o) (hp1 : ((pc : Int) + o).toNat = pc1) (hp2 : pc + 3 = pc2) (hd1 : decode c.code pc2 = .ok (.iconst i1, 1)) (hp3 : pc2 + 1 = pc3) (hd2 : decode c.code pc3 = .ok (.goto o2, 3)) (ho2 : 0 ≤ (pc3 : Int) + o2) (hpJ : ((pc3 : Int) + o2).toNat = pcJ) (hd3 : decode c.code pc1 = .ok (.iconst i2, 1)) (hpJ2 : pc1 + 1 = pcJ) (hv1 : Int32.ofInt i1 = v1) (hv2 : Int32.ofInt i2 = v2) (K : Go p e below P T (mkF m pcJ ls (.int (if x < 0 then v2 else v1) :: st))) : Go p e below P T (mkF m pc ls (.int x :: st)) := by
  refine g_iflt W hd ho hp1 hp2 (fun q => ?_) (fun q => ?_)
  · refine g_iconst W hd3 hpJ2 hv2 ?_
    have e : (if x < 0 then v2 else v1) = v2 := by simp [q]
    rw [e] at K
    exact K
  · refine g_iconst W hd1 hp3 hv1 (g_goto W hd2 ho2 hpJ ?_)
    have e : (if x < 0 then v2 else v1) = v1 := by simp [q]
    rw [e] at K
    exact K
theorem g_icmpgeB (W : Wd p l e R s m args below meth c Z a0 EL own F T h k n) {pc pc1 pc2 pc3 pcJ : Nat} {ls : Array Slot} {st : List Value} {x y : Int32} {o o2 i1 i2 : Int} {v1 v2 : Int32} (hd : decode c.code pc = .ok (.if_icmp .ge o, 3)) (ho : 0 ≤ (pc : Int) + o) (hp1 : ((pc : Int) + o).toNat = pc1) (hp2 : pc + 3 = pc2) (hd1 : decode c.code pc2 = .ok (.iconst i1, 1)) (hp3 : pc2 + 1 = pc3) (hd2 : decode c.code pc3 = .ok (.goto o2, 3)) (ho2 : 0 ≤ (pc3 : Int) + o2) (hpJ : ((pc3 : Int) + o2).toNat = pcJ) (hd3 : decode c.code pc1 = .ok (.iconst i2, 1)) (hpJ2 : pc1 + 1 = pcJ) (hv1 : Int32.ofInt i1 = v1) (hv2 : Int32.ofInt i2 = v2) (K : Go p e below P T (mkF m pcJ ls (.int (if ¬ x < y then v2 else v1) :: st))) : Go p e below P T (mkF m pc ls (.int y :: .int x :: st)) := by
  refine g_icmpge W hd ho hp1 hp2 (fun q => ?_) (fun q => ?_)
  · refine g_iconst W hd3 hpJ2 hv2 ?_
    have e : (if ¬ x < y then v2 else v1) = v2 := by simp [q]
    rw [e] at K
    exact K
  · refine g_iconst W hd1 hp3 hv1 (g_goto W hd2 ho2 hpJ ?_)
    have e : (if ¬ x < y then v2 else v1) = v1 := by simp [q]
    rw [e] at K
    exact K
theorem g_ifgeB (W : Wd p l e R s m args below meth c Z a0 EL own F T h k n) {pc pc1 pc2 pc3 pcJ : Nat} {ls : Array Slot} {st : List Value} {x : Int32} {o o2 i1 i2 : Int} {v1 v2 : Int32} (hd : decode c.code pc = .ok (.ifCond .ge o, 3)) (ho : 0 ≤ (pc : Int) + o) (hp1 : ((pc : Int) + o).toNat = pc1) (hp2 : pc + 3 = pc2) (hd1 : decode c.code pc2 = .ok (.iconst i1, 1)) (hp3 : pc2 + 1 = pc3) (hd2 : decode c.code pc3 = .ok (.goto o2, 3)) (ho2 : 0 ≤ (pc3 : Int) + o2) (hpJ : ((pc3 : Int) + o2).toNat = pcJ) (hd3 : decode c.code pc1 = .ok (.iconst i2, 1)) (hpJ2 : pc1 + 1 = pcJ) (hv1 : Int32.ofInt i1 = v1) (hv2 : Int32.ofInt i2 = v2) (K : Go p e below P T (mkF m pcJ ls (.int (if ¬ x < 0 then v2 else v1) :: st))) : Go p e below P T (mkF m pc ls (.int x :: st)) := by
  refine g_ifge W hd ho hp1 hp2 (fun q => ?_) (fun q => ?_)
  · refine g_iconst W hd3 hpJ2 hv2 ?_
    have e : (if ¬ x < 0 then v2 else v1) = v2 := by simp [q]
    rw [e] at K
    exact K
  · refine g_iconst W hd1 hp3 hv1 (g_goto W hd2 ho2 hpJ ?_)
    have e : (if ¬ x < 0 then v2 else v1) = v1 := by simp [q]
    rw [e] at K
    exact K
theorem g_icmpgtB (W : Wd p l e R s m args below meth c Z a0 EL own F T h k n) {pc pc1 pc2 pc3 pcJ : Nat} {ls : Array Slot} {st : List Value} {x y : Int32} {o o2 i1 i2 : Int} {v1 v2 : Int32} (hd : decode c.code pc = .ok (.if_icmp .gt o, 3)) (ho : 0 ≤ (pc : Int) + o) (hp1 : ((pc : Int) + o).toNat = pc1) (hp2 : pc + 3 = pc2) (hd1 : decode c.code pc2 = .ok (.iconst i1, 1)) (hp3 : pc2 + 1 = pc3) (hd2 : decode c.code pc3 = .ok (.goto o2, 3)) (ho2 : 0 ≤ (pc3 : Int) + o2) (hpJ : ((pc3 : Int) + o2).toNat = pcJ) (hd3 : decode c.code pc1 = .ok (.iconst i2, 1)) (hpJ2 : pc1 + 1 = pcJ) (hv1 : Int32.ofInt i1 = v1) (hv2 : Int32.ofInt i2 = v2) (K : Go p e below P T (mkF m pcJ ls (.int (if y < x then v2 else v1) :: st))) : Go p e below P T (mkF m pc ls (.int y :: .int x :: st)) := by
  refine g_icmpgt W hd ho hp1 hp2 (fun q => ?_) (fun q => ?_)
  · refine g_iconst W hd3 hpJ2 hv2 ?_
    have e : (if y < x then v2 else v1) = v2 := by simp [q]
    rw [e] at K
    exact K
  · refine g_iconst W hd1 hp3 hv1 (g_goto W hd2 ho2 hpJ ?_)
    have e : (if y < x then v2 else v1) = v1 := by simp [q]
    rw [e] at K
    exact K
theorem g_ifgtB (W : Wd p l e R s m args below meth c Z a0 EL own F T h k n) {pc pc1 pc2 pc3 pcJ : Nat} {ls : Array Slot} {st : List Value} {x : Int32} {o o2 i1 i2 : Int} {v1 v2 : Int32} (hd : decode c.code pc = .ok (.ifCond .gt o, 3)) (ho : 0 ≤ (pc : Int) + o) (hp1 : ((pc : Int) + o).toNat = pc1) (hp2 : pc + 3 = pc2) (hd1 : decode c.code pc2 = .ok (.iconst i1, 1)) (hp3 : pc2 + 1 = pc3) (hd2 : decode c.code pc3 = .ok (.goto o2, 3)) (ho2 : 0 ≤ (pc3 : Int) + o2) (hpJ : ((pc3 : Int) + o2).toNat = pcJ) (hd3 : decode c.code pc1 = .ok (.iconst i2, 1)) (hpJ2 : pc1 + 1 = pcJ) (hv1 : Int32.ofInt i1 = v1) (hv2 : Int32.ofInt i2 = v2) (K : Go p e below P T (mkF m pcJ ls (.int (if 0 < x then v2 else v1) :: st))) : Go p e below P T (mkF m pc ls (.int x :: st)) := by
  refine g_ifgt W hd ho hp1 hp2 (fun q => ?_) (fun q => ?_)
  · refine g_iconst W hd3 hpJ2 hv2 ?_
    have e : (if 0 < x then v2 else v1) = v2 := by simp [q]
    rw [e] at K
    exact K
  · refine g_iconst W hd1 hp3 hv1 (g_goto W hd2 ho2 hpJ ?_)
    have e : (if 0 < x then v2 else v1) = v1 := by simp [q]
    rw [e] at K
    exact K
theorem g_icmpleB (W : Wd p l e R s m args below meth c Z a0 EL own F T h k n) {pc pc1 pc2 pc3 pcJ : Nat} {ls : Array Slot} {st : List Value} {x y : Int32} {o o2 i1 i2 : Int} {v1 v2 : Int32} (hd : decode c.code pc = .ok (.if_icmp .le o, 3)) (ho : 0 ≤ (pc : Int) + o) (hp1 : ((pc : Int) + o).toNat = pc1) (hp2 : pc + 3 = pc2) (hd1 : decode c.code pc2 = .ok (.iconst i1, 1)) (hp3 : pc2 + 1 = pc3) (hd2 : decode c.code pc3 = .ok (.goto o2, 3)) (ho2 : 0 ≤ (pc3 : Int) + o2) (hpJ : ((pc3 : Int) + o2).toNat = pcJ) (hd3 : decode c.code pc1 = .ok (.iconst i2, 1)) (hpJ2 : pc1 + 1 = pcJ) (hv1 : Int32.ofInt i1 = v1) (hv2 : Int32.ofInt i2 = v2) (K : Go p e below P T (mkF m pcJ ls (.int (if ¬ y < x then v2 else v1) :: st))) : Go p e below P T (mkF m pc ls (.int y :: .int x :: st)) := by
  refine g_icmple W hd ho hp1 hp2 (fun q => ?_) (fun q => ?_)
  · refine g_iconst W hd3 hpJ2 hv2 ?_
    have e : (if ¬ y < x then v2 else v1) = v2 := by simp [q]
    rw [e] at K
    exact K
  · refine g_iconst W hd1 hp3 hv1 (g_goto W hd2 ho2 hpJ ?_)
    have e : (if ¬ y < x then v2 else v1) = v1 := by simp [q]
    rw [e] at K
    exact K
theorem g_ifleB (W : Wd p l e R s m args below meth c Z a0 EL own F T h k n) {pc pc1 pc2 pc3 pcJ : Nat} {ls : Array Slot} {st : List Value} {x : Int32} {o o2 i1 i2 : Int} {v1 v2 : Int32} (hd : decode c.code pc = .ok (.ifCond .le o, 3)) (ho : 0 ≤ (pc : Int) + o) (hp1 : ((pc : Int) + o).toNat = pc1) (hp2 : pc + 3 = pc2) (hd1 : decode c.code pc2 = .ok (.iconst i1, 1)) (hp3 : pc2 + 1 = pc3) (hd2 : decode c.code pc3 = .ok (.goto o2, 3)) (ho2 : 0 ≤ (pc3 : Int) + o2) (hpJ : ((pc3 : Int) + o2).toNat = pcJ) (hd3 : decode c.code pc1 = .ok (.iconst i2, 1)) (hpJ2 : pc1 + 1 = pcJ) (hv1 : Int32.ofInt i1 = v1) (hv2 : Int32.ofInt i2 = v2) (K : Go p e below P T (mkF m pcJ ls (.int (if ¬ 0 < x then v2 else v1) :: st))) : Go p e below P T (mkF m pc ls (.int x :: st)) := by
  refine g_ifle W hd ho hp1 hp2 (fun q => ?_) (fun q => ?_)
  · refine g_iconst W hd3 hpJ2 hv2 ?_
    have e : (if ¬ 0 < x then v2 else v1) = v2 := by simp [q]
    rw [e] at K
    exact K
  · refine g_iconst W hd1 hp3 hv1 (g_goto W hd2 ho2 hpJ ?_)
    have e : (if ¬ 0 < x then v2 else v1) = v1 := by simp [q]
    rw [e] at K
    exact K
theorem g_acmpeqB (W : Wd p l e R s m args below meth c Z a0 EL own F T h k n) {pc pc1 pc2 pc3 pcJ : Nat} {ls : Array Slot} {st : List Value} {x y : Value} {o o2 i1 i2 : Int} {v1 v2 : Int32} (hd : decode c.code pc = .ok (.if_acmp .eq o, 3)) (ho : 0 ≤ (pc : Int) + o) (hp1 : ((pc : Int) + o).toNat = pc1) (hp2 : pc + 3 = pc2) (hd1 : decode c.code pc2 = .ok (.iconst i1, 1)) (hp3 : pc2 + 1 = pc3) (hd2 : decode c.code pc3 = .ok (.goto o2, 3)) (ho2 : 0 ≤ (pc3 : Int) + o2) (hpJ : ((pc3 : Int) + o2).toNat = pcJ) (hd3 : decode c.code pc1 = .ok (.iconst i2, 1)) (hpJ2 : pc1 + 1 = pcJ) (hv1 : Int32.ofInt i1 = v1) (hv2 : Int32.ofInt i2 = v2) (h1 : x.isRef = true) (h2 : y.isRef = true) (K : Go p e below P T (mkF m pcJ ls (.int (if x = y then v2 else v1) :: st))) : Go p e below P T (mkF m pc ls (y :: x :: st)) := by
  refine g_acmpeq W hd ho hp1 hp2 h1 h2 (fun q => ?_) (fun q => ?_)
  · refine g_iconst W hd3 hpJ2 hv2 ?_
    have e : (if x = y then v2 else v1) = v2 := by simp [q]
    rw [e] at K
    exact K
  · refine g_iconst W hd1 hp3 hv1 (g_goto W hd2 ho2 hpJ ?_)
    have e : (if x = y then v2 else v1) = v1 := by simp [q]
    rw [e] at K
    exact K
theorem g_acmpneB (W : Wd p l e R s m args below meth c Z a0 EL own F T h k n) {pc pc1 pc2 pc3 pcJ : Nat} {ls : Array Slot} {st : List Value} {x y : Value} {o o2 i1 i2 : Int} {v1 v2 : Int32} (hd : decode c.code pc = .ok (.if_acmp .ne o, 3)) (ho : 0 ≤ (pc : Int) + o) (hp1 : ((pc : Int) + o).toNat = pc1) (hp2 : pc + 3 = pc2) (hd1 : decode c.code pc2 = .ok (.iconst i1, 1)) (hp3 : pc2 + 1 = pc3) (hd2 : decode c.code pc3 = .ok (.goto o2, 3)) (ho2 : 0 ≤ (pc3 : Int) + o2) (hpJ : ((pc3 : Int) + o2).toNat = pcJ) (hd3 : decode c.code pc1 = .ok (.iconst i2, 1)) (hpJ2 : pc1 + 1 = pcJ) (hv1 : Int32.ofInt i1 = v1) (hv2 : Int32.ofInt i2 = v2) (h1 : x.isRef = true) (h2 : y.isRef = true) (K : Go p e below P T (mkF m pcJ ls (.int (if ¬ x = y then v2 else v1) :: st))) : Go p e below P T (mkF m pc ls (y :: x :: st)) := by
  refine g_acmpne W hd ho hp1 hp2 h1 h2 (fun q => ?_) (fun q => ?_)
  · refine g_iconst W hd3 hpJ2 hv2 ?_
    have e : (if ¬ x = y then v2 else v1) = v2 := by simp [q]
    rw [e] at K
    exact K
  · refine g_iconst W hd1 hp3 hv1 (g_goto W hd2 ho2 hpJ ?_)
    have e : (if ¬ x = y then v2 else v1) = v1 := by simp [q]
    rw [e] at K
    exact K
theorem g_istoreS (W : Wd p l e R s m args below meth c Z a0 EL own F T h k n) {pc pc' : Nat} {ls ls' : Array Slot} {st : List Value} {i : Nat} {v : Int32} {o : Slot} (hd : decode c.code pc = .ok (.istore i, 2)) (hp : pc + 2 = pc') (ho : ls[i]? = some o) (hone : One o) (hl : ls.setIfInBounds i (.val (.int v)) = ls') (K : Go p e below P T (mkF m pc' ls' st)) : Go p e below P T (mkF m pc ls (.int v :: st)) := by
  subst hp hl
  exact K.st fun t q => XS.istoreS W.here W.hx rfl hd rfl ho hone q
theorem g_istoreNS (W : Wd p l e R s m args below meth c Z a0 EL own F T h k n) {pc pc' : Nat} {ls ls' : Array Slot} {st : List Value} {i : Fin 4} {v : Int32} {o : Slot} (hd : decode c.code pc = .ok (.istore_n i, 1)) (hp : pc + 1 = pc') (ho : ls[i.val]? = some o) (hone : One o) (hl : ls.setIfInBounds i.val (.val (.int v)) = ls') (K : Go p e below P T (mkF m pc' ls' st)) : Go p e below P T (mkF m pc ls (.int v :: st)) := by
  subst hp hl
  exact K.st fun t q => XS.istoreNS W.here W.hx rfl hd rfl ho hone q
theorem g_astoreS (W : Wd p l e R s m args below meth c Z a0 EL own F T h k n) {pc pc' : Nat} {ls ls' : Array Slot} {st : List Value} {i : Nat} {v : Value} {o : Slot} (hd : decode c.code pc = .ok (.astore i, 2)) (hp : pc + 2 = pc') (hv : v.isRef = true) (hc : v.category = 1) (ho : ls[i]? = some o) (hone : One o) (hl : ls.setIfInBounds i (.val v) = ls') (K : Go p e below P T (mkF m pc' ls' st)) : Go p e below P T (mkF m pc ls (v :: st)) := by
  subst hp hl
  exact K.st fun t q => XS.astoreS W.here W.hx rfl hd rfl hv hc ho hone q
theorem g_ldcI (W : Wd p l e R s m args below meth c Z a0 EL own F T h k n) {pc pc' : Nat} {ls : Array Slot} {st : List Value} {index : Nat} {v : Int32} (w : (Jvm.Cond.constant own index v).before a0 Z = true) (hd : decode c.code pc = .ok (.ldc index, 2)) (hp : pc + 2 = pc') (K : Go p e below P T (mkF m pc' ls (.int v :: st))) : Go p e below P T (mkF m pc ls st) := by
  subst hp
  obtain ⟨w1, w2, w3, w4, vm0, k0, locs, X, hZ, hown, r⟩ := W
  exact K.st fun t q => X.ldcI w1 (own := own) hown (mv hZ w) rfl hd q
theorem g_ldc2 (W : Wd p l e R s m args below meth c Z a0 EL own F T h k n) {pc pc' : Nat} {ls : Array Slot} {st : List Value} {index : Nat} {v : Int64} (w : (Jvm.Cond.constantLong own index v).before a0 Z = true) (hd : decode c.code pc = .ok (.ldc2_w index, 3)) (hp : pc + 3 = pc') (K : Go p e below P T (mkF m pc' ls (.long v :: st))) : Go p e below P T (mkF m pc ls st) := by
  subst hp
  obtain ⟨w1, w2, w3, w4, vm0, k0, locs, X, hZ, hown, r⟩ := W
  exact K.st fun t q => X.ldc2Long w1 (own := own) hown (mv hZ w) (g := mkF m pc ls st) rfl hd t q
theorem g_retF (W : Wd p l e R s m args below meth c Z a0 EL own F T h k n) {pc : Nat} {ls : Array Slot} {st : List Value} {v : Value} {t : FieldType} {i : Instr} {Q : Option Value → Heap → List Addr → Prop} {k' n' : Nat} (hd : decode c.code pc = .ok (i, 1)) (hret : meth.sig.returnType = some t) (hn : narrow t v = v)
    (hi : (i = .ireturn ∧ (t = .int ∨ t = .boolean ∨ t = .byte ∨ t = .char ∨ t = .short) ∧ ∃ z, v = .int z) ∨ (i = .lreturn ∧ t = .long ∧ ∃ z, v = .long z) ∨ (i = .dreturn ∧ t = .double ∧ ∃ z, v = .double z) ∨ (i = .freturn ∧ t = .float ∧ ∃ z, v = .float z) ∨ (i = .areturn ∧ t.isReference = true ∧ v.isRef = true))
    (hk : k ≤ k') (hs : n ≤ n') {FF : List Addr} (hFF : ∀ x ∈ FF, x ∈ F) (q : Q (some v) h FF) : Go p e below (Endp Z EL s Q k' n') T (mkF m pc ls (v :: st)) :=
  have hx := W.hx
  W.leave hk hs (fun h => by rw [hret] at h; cases h) hFF q fun X hr => retOut X hx hret hn hi hd hr
theorem g_ret (W : Wd p l e R s m args below meth c Z a0 EL own F T h k n) {pc : Nat} {ls : Array Slot} {st : List Value} {v : Value} {t : FieldType} {i : Instr} {Q : Option Value → Heap → List Addr → Prop} {k' n' : Nat} (hd : decode c.code pc = .ok (i, 1)) (hret : meth.sig.returnType = some t) (hn : narrow t v = v)
    (hi : (i = .ireturn ∧ (t = .int ∨ t = .boolean ∨ t = .byte ∨ t = .char ∨ t = .short) ∧ ∃ z, v = .int z) ∨ (i = .lreturn ∧ t = .long ∧ ∃ z, v = .long z) ∨ (i = .dreturn ∧ t = .double ∧ ∃ z, v = .double z) ∨ (i = .freturn ∧ t = .float ∧ ∃ z, v = .float z) ∨ (i = .areturn ∧ t.isReference = true ∧ v.isRef = true))
    (hk : k ≤ k') (hs : n ≤ n') (q : Q (some v) h []) : Go p e below (Endp Z EL s Q k' n') T (mkF m pc ls (v :: st)) :=
  g_retF W hd hret hn hi hk hs (FF := []) (fun x q => nomatch q) q
theorem g_reti (W : Wd p l e R s m args below meth c Z a0 EL own F T h k n) {pc : Nat} {ls : Array Slot} {st : List Value} {v : Int32} {Q : Option Value → Heap → List Addr → Prop} {k' n' : Nat} (hd : decode c.code pc = .ok (.ireturn, 1)) (hret : meth.sig.returnType = some .int) (hk : k ≤ k') (hs : n ≤ n') (q : Q (some (.int v)) h []) : Go p e below (Endp Z EL s Q k' n') T (mkF m pc ls (.int v :: st)) :=
  g_ret W hd hret rfl (Or.inl ⟨rfl, Or.inl rfl, v, rfl⟩) hk hs q
theorem g_retz (W : Wd p l e R s m args below meth c Z a0 EL own F T h k n) {pc : Nat} {ls : Array Slot} {st : List Value} {v : Int32} {Q : Option Value → Heap → List Addr → Prop} {k' n' : Nat} (hd : decode c.code pc = .ok (.ireturn, 1)) (hret : meth.sig.returnType = some .boolean) (hv : v = 0 ∨ v = 1) (hk : k ≤ k') (hs : n ≤ n') (q : Q (some (.int v)) h []) : Go p e below (Endp Z EL s Q k' n') T (mkF m pc ls (.int v :: st)) :=
  g_ret W hd hret (by rcases hv with rfl | rfl <;> rfl) (Or.inl ⟨rfl, Or.inr (Or.inl rfl), v, rfl⟩) hk hs q
theorem g_retc (W : Wd p l e R s m args below meth c Z a0 EL own F T h k n) {pc : Nat} {ls : Array Slot} {st : List Value} {v : Int32} {Q : Option Value → Heap → List Addr → Prop} {k' n' : Nat} (hd : decode c.code pc = .ok (.ireturn, 1)) (hret : meth.sig.returnType = some .char) (hv : narrow .char (.int v) = .int v) (hk : k ≤ k') (hs : n ≤ n') (q : Q (some (.int v)) h []) : Go p e below (Endp Z EL s Q k' n') T (mkF m pc ls (.int v :: st)) :=
  g_ret W hd hret hv (Or.inl ⟨rfl, Or.inr (Or.inr (Or.inr (Or.inl rfl))), v, rfl⟩) hk hs q
theorem g_areturn (W : Wd p l e R s m args below meth c Z a0 EL own F T h k n) {pc : Nat} {ls : Array Slot} {st : List Value} {v : Value} {t : FieldType} {Q : Option Value → Heap → List Addr → Prop} {k' n' : Nat} (hd : decode c.code pc = .ok (.areturn, 1)) (hret : meth.sig.returnType = some t) (ht : t.isReference = true) (hv : v.isRef = true) (hk : k ≤ k') (hs : n ≤ n') (q : Q (some v) h []) : Go p e below (Endp Z EL s Q k' n') T (mkF m pc ls (v :: st)) :=
  g_ret W hd hret (by rcases ref_cases hv with rfl | ⟨z, rfl⟩ <;> cases t <;> first | rfl | cases ht) (Or.inr (Or.inr (Or.inr (Or.inr ⟨rfl, ht, hv⟩)))) hk hs q
theorem g_return (W : Wd p l e R s m args below meth c Z a0 EL own F T h k n) {pc : Nat} {ls : Array Slot} {Q : Option Value → Heap → List Addr → Prop} {k' n' : Nat} (hd : decode c.code pc = .ok (.return_, 1)) (hret : meth.sig.returnType = none) (hk : k ≤ k') (hs : n ≤ n') (q : Q none h []) : Go p e below (Endp Z EL s Q k' n') T (mkF m pc ls []) :=
  have hx := W.hx
  W.leave hk hs (fun _ => rfl) (FF := []) (fun x q => nomatch q) q fun X hr => X.returnOut hx hret hd hr
theorem g_returnF (W : Wd p l e R s m args below meth c Z a0 EL own F T h k n) {pc : Nat} {ls : Array Slot} {Q : Option Value → Heap → List Addr → Prop} {k' n' : Nat} (hd : decode c.code pc = .ok (.return_, 1)) (hret : meth.sig.returnType = none) (hk : k ≤ k') (hs : n ≤ n') {FF : List Addr} (hFF : ∀ x ∈ FF, x ∈ F) (q : Q none h FF) : Go p e below (Endp Z EL s Q k' n') T (mkF m pc ls []) :=
  have hx := W.hx
  W.leave hk hs (fun _ => rfl) hFF q fun X hr => X.returnOut hx hret hd hr
theorem g_areturnF (W : Wd p l e R s m args below meth c Z a0 EL own F T h k n) {pc : Nat} {ls : Array Slot} {st : List Value} {v : Value} {t : FieldType} {Q : Option Value → Heap → List Addr → Prop} {k' n' : Nat} (hd : decode c.code pc = .ok (.areturn, 1)) (hret : meth.sig.returnType = some t) (ht : t.isReference = true) (hv : v.isRef = true) (hk : k ≤ k') (hs : n ≤ n') {FF : List Addr} (hFF : ∀ x ∈ FF, x ∈ F) (q : Q (some v) h FF) : Go p e below (Endp Z EL s Q k' n') T (mkF m pc ls (v :: st)) :=
  g_retF W hd hret (by rcases ref_cases hv with rfl | ⟨z, rfl⟩ <;> cases t <;> first | rfl | cases ht) (Or.inr (Or.inr (Or.inr (Or.inr ⟨rfl, ht, hv⟩)))) hk hs hFF q
end OwnB
/-! own kit, part C: heap steps and calls -/
section OwnC
variable {p : Program} {l : Launch} {e : Env} {R : Room} {s : State} {m : MethodId} {args : Array Value} {below : List Frame} {meth : Method} {c : Code} {T T' : State} {h h' : Heap} {Z : State} {a0 : Array Value} {EL : List (String × Nat)} {own : String} {k n : Nat} {P : Outcome → State → Prop} {F : List Addr}
theorem g_getfield (W : Wd p l e R s m args below meth c Z a0 EL own F T h k n) {pc pc' : Nat} {ls : Array Slot} {st : List Value} {R0 O nm d host : String} {index : Nat} (w : (Jvm.Cond.fieldLink own index R0 nm d).before a0 Z = true ∨ (Jvm.Cond.fieldLinkNest own index R0 nm d host).before a0 Z = true) (via : Via Z R0 O nm d) {a : Addr} {v : Value} (Fl : Fld Z h a O nm d v)
    (hd : decode c.code pc = .ok (.getfield index, 3)) (hp : pc + 3 = pc') (K : ∀ T', Wd p l e R s m args below meth c Z a0 EL own F T' h k n → Go p e below P T' (mkF m pc' ls (v :: st))) : Go p e below P T (mkF m pc ls (.ref a :: st)) := by
  subst hp
  exact W.grow (fun X hZ hown eT => getF X W.hx hZ hown w via eT Fl rfl rfl hd) (ext_refl h) K
theorem g_getstatic (W : Wd p l e R s m args below meth c Z a0 EL own F T h k n) {pc pc' : Nat} {ls : Array Slot} {st : List Value} {R0 O nm d host : String} {index : Nat} (w : (Jvm.Cond.fieldLink own index R0 nm d).before a0 Z = true ∨ (Jvm.Cond.fieldLinkNest own index R0 nm d host).before a0 Z = true) (via : Via Z R0 O nm d) {v : Value} (Fl : Sta Z h O nm d v)
    (hd : decode c.code pc = .ok (.getstatic index, 3)) (hp : pc + 3 = pc') (K : ∀ T', Wd p l e R s m args below meth c Z a0 EL own F T' h k n → Go p e below P T' (mkF m pc' ls (v :: st))) : Go p e below P T (mkF m pc ls st) := by
  subst hp
  exact W.grow (fun X hZ hown eT => getS2 X W.hx hZ hown w via eT Fl rfl hd) (ext_refl h) K
theorem g_putfield (W : Wd p l e R s m args below meth c Z a0 EL own F T h k n) {pc pc' : Nat} {ls : Array Slot} {st : List Value} {R0 O nm d host C : String} {index kk : Nat} {ty : FieldType} (w : (Jvm.Cond.fieldLink own index R0 nm d).before a0 Z = true ∨ (Jvm.Cond.fieldLinkNest own index R0 nm d host).before a0 Z = true) (via : Via Z R0 O nm d) {a : Addr} {v old : Value} (Fl : Fld Z h a O nm d old) (E : Exa Z h a C)
    (L : (Jvm.Cond.lays C O nm d).before a0 Z = true ∨ ((Jvm.Cond.laysFinal C O nm d).before a0 Z = true ∧ own = O ∧ meth.name = "<init>")) (wi : (Jvm.Cond.instantiable C kk).before a0 Z = true) (hty : parseFieldDescriptor d = some ty) (hn : narrow ty v = v) (hf : fits ty v = true) (q : Wok Z F h a)
    (hd : decode c.code pc = .ok (.putfield index, 3)) (hp : pc + 3 = pc') (K : ∀ T' h', Wd p l e R s m args below meth c Z a0 EL own F T' h' k n → Wr h h' a (Jvm.RoadKit.slotOf Z O nm d) v → Go p e below P T' (mkF m pc' ls st)) : Go p e below P T (mkF m pc ls (v :: .ref a :: st)) := by
  subst hp
  exact W.write q (fun X hZ hown eT => putF X W.hx hZ hown w via eT Fl E L wi hty hn hf rfl rfl hd) K
/-- a step that makes one cell: it is one of the walk's own -/
theorem Wd.make (W : Wd p l e R s m args below meth c Z a0 EL own F T h k n) {k' n' : Nat} {g g' : JFrame} {B : Heap → Prop}
    (st : ∀ {vm0 : Vm} {locs : List Loc}, Stand p l e R (s.setVm vm0) m args below meth c T locs k n → Z.Warmed39 vm0 → vm0.findClass own = some m.cls → T.heap = h →
      ∃ T' h', Stand p l e R (s.setVm vm0) m args below meth c T' locs k' n' ∧ T'.heap = h' ∧ Ext h h' ∧ h.size < h'.size ∧ B h' ∧ ∀ target, Steps p.tables e below (T'.setTop g') target → Steps p.tables e below (T.setTop g) target)
    (K : ∀ T' h', Wd p l e R s m args below meth c Z a0 EL own (h.size :: F) T' h' k' n' → Ext h h' → B h' → Go p e below P T' g') : Go p e below P T g := by
  obtain ⟨w1, w2, w3, w4, vm0, k0, locs, X, hZ, hown, eT, hS, hk, hC, hN, hH, hF⟩ := W
  obtain ⟨T', h', X', eT', E, hlt, hB, st⟩ := st X hZ hown eT
  refine (K T' h' ⟨w1, ext_trans w2 E, w3, w4, vm0, k0, locs, X', hZ, hown, eT', hS, Nat.le_trans hk E.1, hC.trans (CHr.ext E hC.1), hN, hH, fun x q => ?_⟩ E hB).st st
  rcases List.mem_cons.mp q with rfl | q
  · exact ⟨hlt, Safe.ext E hC.1 (Safe.new (Nat.le_refl _))⟩
  · exact ⟨Nat.lt_of_lt_of_le (hF x q).1 E.1, Safe.ext E hC.1 (hF x q).2⟩
theorem g_new (W : Wd p l e R s m args below meth c Z a0 EL own F T h k n) {pc pc' : Nat} {ls : Array Slot} {st : List Value} {C : String} {index nn : Nat} (w : (Jvm.Cond.classLink own index C).before a0 Z = true) (wi : (Jvm.Cond.instantiable C nn).before a0 Z = true) (wz : (Jvm.Cond.initialized C).before a0 Z = true)
    (hd : decode c.code pc = .ok (.new index, 3)) (hp : pc + 3 = pc') (hc : k + 1 ≤ R.cells) (hl : n + nn ≤ R.slots)
    (K : ∀ x T' h', h.size ≤ x → Wd p l e R s m args below meth c Z a0 EL own (x :: F) T' h' (k + 1) (n + nn) → Ext h h' → (Exa Z h' x C ∧ ∀ {O nm d : String} {ty : FieldType}, Laid Z a0 C O nm d → parseFieldDescriptor d = some ty → Fld Z h' x O nm d (defaultValue ty)) → Go p e below P T' (mkF m pc' ls (.ref x :: st))) : Go p e below P T (mkF m pc ls st) := by
  subst hp
  refine W.make (B := fun h' => Exa Z h' h.size C ∧ ∀ {O nm d : String} {ty : FieldType}, Laid Z a0 C O nm d → parseFieldDescriptor d = some ty → Fld Z h' h.size O nm d (defaultValue ty)) (fun X hZ hown eT => ?_) (fun T' h' => K h.size T' h' (Nat.le_refl _))
  obtain ⟨T', h', X', e1, E, A, D, -, st⟩ := newO X W.hx hZ hown w wi wz eT (g := mkF m pc ls st) rfl hd hc hl
  exact ⟨T', h', X', e1, E, A.lt, ⟨A, D⟩, st⟩
/-- an array whose components are these -/
def Ali (Z : State) (h : Heap) (a : Addr) (ty : FieldType) (vs : List Value) : Prop := ∃ cell : Cell, Arr Z h a cell ty ∧ cell.slots.toList = vs ∧ vs.length < 2 ^ 31
theorem Ali.lt {a : Addr} {ty : FieldType} {vs : List Value} (A : Ali Z h a ty vs) : a < h.size := by obtain ⟨c, q, -⟩ := A; exact q.lt
theorem Ali.ext {a : Addr} {ty : FieldType} {vs : List Value} (E : Ext h h') (A : Ali Z h a ty vs) : Ali Z h' a ty vs := by obtain ⟨c, q, r⟩ := A; exact ⟨c, q.ext E, r⟩
theorem Ali.keep {a : Addr} {ty : FieldType} {vs : List Value} {ws : List Addr} (K : Keep h h' ws) (q : a ∉ ws) (A : Ali Z h a ty vs) : Ali Z h' a ty vs := by obtain ⟨c, r, t⟩ := A; exact ⟨c, ⟨K.2.1 _ _ r.1 q, r.2⟩, t⟩
theorem Ali.wok {a : Addr} {ty : FieldType} {vs : List Value} (A : Ali Z h a ty vs) (ht : ty ≠ .byte) (q : Z.heap.size ≤ a) : Wok Z F h a := by obtain ⟨c, r, -⟩ := A; exact ⟨q, Or.inr (Or.inr ⟨c, ty, r, ht⟩)⟩
theorem g_newarray (W : Wd p l e R s m args below meth c Z a0 EL own F T h k n) {pc pc' : Nat} {ls : Array Slot} {st : List Value} {aty : ArrayType} {ty : FieldType} (ht : newarray.typeOf aty = ty) {z : Int32} {i : Nat} (hz : ¬ z < 0) (hi : z.toNatClampNeg = i) (w : (Jvm.Cond.arrayClass ty).before a0 Z = true)
    (hd : decode c.code pc = .ok (.newarray aty, 2)) (hp : pc + 2 = pc') {cap : Nat} (hcap : i ≤ cap) (hb : cap * 8 ≤ 536870912) (hc : k + 1 ≤ R.cells) (hl : n + cap ≤ R.slots)
    (K : ∀ x T' h', h.size ≤ x → Wd p l e R s m args below meth c Z a0 EL own (x :: F) T' h' (k + 1) (n + cap) → Ext h h' → Ali Z h' x ty (List.replicate i (defaultValue ty)) → Go p e below P T' (mkF m pc' ls (.ref x :: st))) : Go p e below P T (mkF m pc ls (.int z :: st)) := by
  subst hp ht
  refine W.make (B := fun h' => Ali Z h' h.size (newarray.typeOf aty) (List.replicate i (defaultValue (newarray.typeOf aty)))) (fun X hZ hown eT => ?_) (fun T' h' => K h.size T' h' (Nat.le_refl _))
  obtain ⟨T', h', cA, X', e1, E, A, st⟩ := newP X W.hx hZ w eT (g := mkF m pc ls (.int z :: st)) rfl hd rfl hz (by rw [hi]; exact hcap) hb hc hl
  refine ⟨T', h', X', e1, E, A.lt, ⟨_, A, by simp [newA, hi], ?_⟩, st⟩
  rw [List.length_replicate]
  have := (back32 hz).2
  omega
theorem Ali.get {a : Addr} {ty : FieldType} {vs : List Value} (A : Ali Z h a ty vs) : ∃ cell : Cell, Arr Z h a cell ty ∧ cell.slots.size = vs.length ∧ ∀ i : Nat, cell.slots[i]? = vs[i]? := by
  obtain ⟨c, A, rfl, -⟩ := A
  exact ⟨c, A, by simp, fun i => by simp⟩
theorem Ali.set {a : Addr} {ty : FieldType} {vs : List Value} {i : Nat} {v : Value} (A : Ali Z h a ty vs) (W : Wr h h' a i v) : Ali Z h' a ty (vs.set i v) := by
  obtain ⟨c, A, rfl, q⟩ := A
  exact ⟨_, A.same W, by simp [Cell.setSlot], by simpa using q⟩
theorem g_castore (W : Wd p l e R s m args below meth c Z a0 EL own F T h k n) {pc pc' : Nat} {ls : Array Slot} {st : List Value} {a : Addr} {cs : List Int32} (A : Ali Z h a .char (cs.map Value.int)) (q : Z.heap.size ≤ a) {j x : Int32} {i : Nat} (hj : ¬ j < 0) (hi : j.toNatClampNeg = i) (hlt : i < cs.length) (hx0 : ¬ x < 0) (hx1 : ¬ 65535 < x)
    (hd : decode c.code pc = .ok (.castore, 1)) (hp : pc + 1 = pc')
    (K : ∀ T' h', Wd p l e R s m args below meth c Z a0 EL own F T' h' k n → Keep h h' [a] → Ali Z h' a .char ((cs.set i x).map Value.int) → Go p e below P T' (mkF m pc' ls st)) : Go p e below P T (mkF m pc ls (.int x :: .int j :: .ref a :: st)) := by
  subst hp
  obtain ⟨cell, A1, hsz, -⟩ := A.get
  have hn : nar .char x = x := by
    have := c_i2c x
    apply Int32.toInt_inj.mp
    have r := rng32 x
    rw [Int32.lt_iff_toInt_lt] at hx0 hx1
    have e0 : (0 : Int32).toInt = 0 := rfl
    have e1 : (65535 : Int32).toInt = 65535 := rfl
    show x.toUInt32.toUInt16.toUInt32.toInt32.toInt = x.toInt
    omega
  refine W.write (a := a) (sl := i) (v := .int x) (A.wok (by decide) q) (fun X hZ hown eT => ?_) (fun T' h' W' Wr1 => K T' h' W' (Keep.of_wr Wr1) (by rw [List.map_set]; exact A.set Wr1))
  obtain ⟨T', h', X', e1, W1, st⟩ := stC X W.hx hZ eT A1 (j := j) (x := x) (by rw [hsz, hi]; simp only [List.length_map]; exact fun r => r.elim hj (by omega)) (g := mkF m pc ls (.int x :: .int j :: .ref a :: st)) rfl rfl hd
  rw [hi] at X' W1
  rw [hn] at W1
  exact ⟨T', h', X', e1, W1, st⟩
theorem g_caload (W : Wd p l e R s m args below meth c Z a0 EL own F T h k n) {pc pc' : Nat} {ls : Array Slot} {st : List Value} {a : Addr} {cs : List Int32} (A : Ali Z h a .char (cs.map Value.int)) {j : Int32} {i : Nat} (hj : ¬ j < 0) (hi : j.toNatClampNeg = i) (hlt : i < cs.length)
    (hd : decode c.code pc = .ok (.caload, 1)) (hp : pc + 1 = pc') (K : Go p e below P T (mkF m pc' ls (.int (cs.getD i 0) :: st))) : Go p e below P T (mkF m pc ls (.int j :: .ref a :: st)) := by
  subst hp
  obtain ⟨cell, A1, hsz, hget⟩ := A.get
  obtain ⟨w1, w2, w3, w4, vm0, k0, locs, X, hZ, hown, rfl, r⟩ := W
  refine K.st fun t q => X.caload w1 A1.1 (State.isArrayOf_alike (s := Z) hZ.alike A1.2.1) A1.2.2 (j := j) (by rw [hsz, hi]; simp only [List.length_map]; exact fun r => r.elim hj (by omega)) (v := .int (cs.getD i 0)) (by rw [hi, hget]; simp [hlt]) (g := mkF m pc ls (.int j :: .ref a :: st)) rfl rfl hd t q
theorem g_arraylength (W : Wd p l e R s m args below meth c Z a0 EL own F T h k n) {pc pc' : Nat} {ls : Array Slot} {st : List Value} {a : Addr} {ty : FieldType} {vs : List Value} (A : Ali Z h a ty vs) {z : Int32} (hz : Int32.ofNat vs.length = z)
    (hd : decode c.code pc = .ok (.arraylength, 1)) (hp : pc + 1 = pc') (K : Go p e below P T (mkF m pc' ls (.int z :: st))) : Go p e below P T (mkF m pc ls (.ref a :: st)) := by
  subst hp hz
  obtain ⟨cell, A1, hsz, hget⟩ := A.get
  obtain ⟨w1, w2, w3, w4, vm0, k0, locs, X, hZ, hown, rfl, r⟩ := W
  refine K.st fun t q => X.arraylength w1 A1.1 (State.isArrayOf_alike (s := Z) hZ.alike A1.2.1) (g := mkF m pc ls (.ref a :: st)) rfl rfl hd t (by rw [hsz]; exact q)
theorem g_initO (W : Wd p l e R s m args below meth c Z a0 EL own F T h k n) {pc pc' : Nat} {ls : Array Slot} {st : List Value} {a : Addr} {index : Nat} (w1 : (Jvm.Cond.methodLink own index Lib.objectInit).before a0 Z = true) (w2 : (Jvm.Cond.instanceMethod Lib.objectInit).before a0 Z = true) (w3 : (Jvm.Cond.code Lib.objectInit ⟨#[0xb1]⟩ 1 none).before a0 Z = true) (hsz : ls.size = c.maxLocals)
    (hd : decode c.code pc = .ok (.invokespecial index, 3)) (hp : pc + 3 = pc') (hf : 1 ≤ R.frames) {Wn : Nat} (hW : (st.map fun v => v.category).sum ≤ Wn) (hl : Wn + 12 ≤ R.locals) (K : ∀ T', Wd p l e R s m args below meth c Z a0 EL own F T' h k n → Go p e below P T' (mkF m pc' ls st)) : Go p e below P T (mkF m pc ls (.ref a :: st)) := by
  subst hp
  exact W.grow (fun X hZ hown eT => initO X W.hx hZ hown w1 w2 w3 eT (g := mkF m pc ls (.ref a :: st)) rfl hsz rfl hd hf (by simpa using hW) hl) (ext_refl h) K
/-! calls by contract -/
theorem nf_cls {y y' : MethodName} {C' : String} (hc : y'.cls = y.cls) (w : (Jvm.Cond.selects C' y' y').before args s = true) : NotFace s y := fun r0 h0 => by
  obtain ⟨c2, r2, m2, q1, q2, q3, q4, kP, hkP, hkPi⟩ := Cond.selects_spec w
  have e1 := findClass_of_methodNamed h0
  have e2 := findClass_of_methodNamed q3
  rw [hc] at e2
  have e : r0.cls = m2.cls := Option.some.inj (e1.symm.trans e2)
  exact ⟨kP, by rw [e]; exact hkP, hkPi⟩
theorem Met.back {F' : List Addr} {y : MethodName} {bytes : ByteArray} {maxL : Nat} {ret : Option FieldType} {rm : Room} {as' : Array Value} {Q : Option Value → Heap → List Addr → Prop} (hM : Met l Z EL F' y bytes maxL ret rm as' h Q) {vm0 : Vm} {len Wn : Nat}
    (hZ : Z.Warmed39 vm0) (wc : (Jvm.Cond.code y bytes maxL ret).before a0 Z = true) (wz : (Jvm.Cond.initialized y.cls).before a0 Z = true) (hf : rm.frames + 1 ≤ R.frames) (hl : Wn + (maxL + 11) + rm.locals ≤ R.locals) (hEL : EW Z a0 EL) (H : CHv Z EL vm0 h) (hF : ∀ x ∈ F', x < h.size ∧ Safe Z EL vm0 h x) :
    BackS l R p e below (s.setVm vm0) args y len Wn (fun A a => a = as' ∧ A.U.heap = h ∧ A.cells + rm.cells ≤ R.cells ∧ A.slots + rm.slots ≤ R.slots)
      (fun A _ v B => ∃ L FF, (Q v B.U.heap FF ∧ Fr Z.heap.size L ∧ Ext Z.heap B.U.heap ∧ ∀ x ∈ FF, x < B.U.heap.size ∧ Safe Z EL B.U.vm B.U.heap x) ∧ B.locs = A.locs ++ L ∧ B.cells = A.cells + rm.cells ∧ B.slots = A.slots + rm.slots ∧ CHr Z EL vm0 h B.U.vm B.U.heap ∧ (EL = [] → (s.setVm vm0).WarmedH B.U.vm)) :=
  BackS.of_freeW (bytes := bytes) (maxL := maxL) (ret := ret) (E := fun _ first o t L k n => k = rm.cells ∧ n = rm.slots ∧ (∃ v FF, o = .returned v ∧ Q v t.heap FF ∧ Fr Z.heap.size L ∧ Ext Z.heap t.heap ∧ ∀ x ∈ FF, x < t.heap.size ∧ Safe Z EL t.vm t.heap x) ∧ CHr Z EL first.vm first.heap t.vm t.heap ∧ (EL = [] → first.WarmedH t.vm)) hM hf hl
    (fun m meth c A a Y hp => have hU : Z.Warmed39 A.U.vm := wtrans (s := s.setVm vm0) hZ Y.warmed
      ⟨by show (Jvm.Cond.and _ .tt).before a A.U = true; rw [Cond.before_and, mv hU wc]; rfl, mv hU wc, mv hU wz, hp.2.2.1, hp.2.2.2⟩)
    (fun m meth c A a g mk Y hp => ⟨hp.1, wtrans (s := s.setVm vm0) hZ Y.warmed, hp.2.1, (CHv.at Y hZ hEL H).1, fun x q => ⟨(hF x q).1, (CHv.at Y hZ hEL H).safe (hF x q).1 (hF x q).2⟩⟩) (fun _ _ _ _ _ _ _ _ _ => trivial)
    (fun _ _ _ _ ⟨v, L, FF, h1, h2, h3, h4, h5⟩ => ⟨L, _, _, h4, rfl, rfl, ⟨v, FF, h1, h2⟩, h3, h5⟩)
    (fun m meth c A a g mk v t L k n Y hp _ _ ⟨e1, e2, ⟨v', FF, e3, e4⟩, e5, e6⟩ => by
      cases e3; subst e1 e2
      refine ⟨L, FF, e4, rfl, rfl, rfl, (CHv.at Y hZ hEL H).trans ?_, fun z => State.WarmedH.trans (t := A.U) Y.warmed (e6 z)⟩
      rw [← hp.2.1]; exact e5)
theorem wd_after (w1 : p.tables.exec = Jvm.exec) (w3 : EW Z a0 EL) (w4 : meth.locks = false) {vm0 : Vm} {k0 : Nat} {locs L : List Loc} {B : Pt} (hZ : Z.Warmed39 vm0) (hown : vm0.findClass own = some m.cls) (hS : s.Since vm0 k0) (hk : k0 ≤ h.size) (hC : CHr Z EL s.vm s.heap vm0 h) (hN : Fr Z.heap.size locs)
    (hF : ∀ x ∈ F, x < h.size ∧ Safe Z EL vm0 h x) (X' : Stand p l e R ((s.setVm vm0).setVm B.U.vm) m args below meth c B.U B.locs B.cells B.slots) (hS' : (s.setVm vm0).Since B.U.vm B.U.heap.size) (hg : h.size ≤ B.U.heap.size) (hNL : Fr Z.heap.size L) (hO : Ext Z.heap B.U.heap) (hl : B.locs = locs ++ L)
    (hc' : CHr Z EL vm0 h B.U.vm B.U.heap) (hH : EL = [] → s.WarmedH vm0) (hH' : EL = [] → (s.setVm vm0).WarmedH B.U.vm) {FF : List Addr} (hFF : ∀ x ∈ FF, x < B.U.heap.size ∧ Safe Z EL B.U.vm B.U.heap x) : Wd p l e R s m args below meth c Z a0 EL own (FF ++ F) B.U B.U.heap B.cells B.slots :=
  ⟨w1, hO, w3, w4, B.U.vm, B.U.heap.size, B.locs, X', State.Warmed39.trans (t := s.setVm vm0) hZ hS'.1, (hS'.1.alike.findClass _ _).trans hown, rfl, hS.trans hS' (Nat.le_trans hk hg), Nat.le_refl _, hC.trans hc', hl ▸ hN.app hNL, fun z => State.WarmedH.trans (t := s.setVm vm0) (hH z) (hH' z), fun x q => (List.mem_append.mp q).elim (hFF x) fun q => ⟨Nat.lt_of_lt_of_le (hF x q).1 hg, hc'.safe (hF x q).1 (hF x q).2⟩⟩
/-- a value comes back -/
def Ret (Q : Value → Heap → Prop) (v : Option Value) (h : Heap) (_ : List Addr) : Prop := ∃ w, v = some w ∧ Q w h
def RetF (Q : Value → Heap → List Addr → Prop) (v : Option Value) (h : Heap) (FF : List Addr) : Prop := ∃ w, v = some w ∧ Q w h FF
def VoidF (Q : Heap → List Addr → Prop) (v : Option Value) (h : Heap) (FF : List Addr) : Prop := v = none ∧ Q h FF
def Void (Q : Heap → Prop) (v : Option Value) (h : Heap) (_ : List Addr) : Prop := v = none ∧ Q h
theorem g_callSO (W : Wd p l e R s m args below meth c Z a0 EL own F T h k n) {F' : List Addr} {y : MethodName} {bytes : ByteArray} {maxL : Nat} {ret : Option FieldType} {rm : Room} {as' : Array Value} {Q : Option Value → Heap → List Addr → Prop} (hM : Met l Z EL F' y bytes maxL ret rm as' h Q) (hF' : ∀ x ∈ F', x ∈ F) {index : Nat}
    (v1 : (Jvm.Cond.methodLink own index y).before a0 Z = true) (v2 : (Jvm.Cond.static y).before a0 Z = true) (v3 : (Jvm.Cond.initialized y.cls).before a0 Z = true) (v4 : (Jvm.Cond.code y bytes maxL ret).before a0 Z = true) (hy : y.cls ≠ "java/lang/invoke/MethodHandle" ∧ y.cls ≠ "java/lang/invoke/VarHandle")
    {ps : List FieldType} {rt : Option FieldType} (pd : parseMethodDescriptor y.desc = some ⟨ps, rt⟩) {argsL : List Value} (has : argsL.toArray = as') (hal : argsL.length = ps.length) {pc pc' : Nat} {ls : Array Slot} {st rest : List Value} (hst : st = argsL.reverse ++ rest) (hsz : ls.size = c.maxLocals)
    (hd : decode c.code pc = .ok (.invokestatic index, 3)) (hp : pc + 3 = pc') {Wn : Nat} (hW : (rest.map fun v => v.category).sum ≤ Wn) (hf : rm.frames + 1 ≤ R.frames) (hl : Wn + (maxL + 11) + rm.locals ≤ R.locals) (hc : k + rm.cells ≤ R.cells) (hs : n + rm.slots ≤ R.slots)
    (K : ∀ v T' h' FF, Wd p l e R s m args below meth c Z a0 EL own (FF ++ F) T' h' (k + rm.cells) (n + rm.slots) → h.size ≤ h'.size → Q v h' FF → Go p e below P T' (mkF m pc' ls (v.toList ++ rest))) : Go p e below P T (mkF m pc ls st) := by
  subst hp hst has
  obtain ⟨w1, w2, w3, w4, vm0, k0, locs, X, hZ, hown, eT, hS, hk, hC, hN, hH, hF⟩ := W
  obtain ⟨v, vm1, B, hw1, X', hS', hg, ⟨L, FF, ⟨q1, q2, q3, q4⟩, r1, r2, r3, r4, r5⟩, st⟩ := callSS X w1 (own := own) hown (mvT (s := s.setVm vm0) hZ v1) (mvT (s := s.setVm vm0) hZ v2) (mvT (s := s.setVm vm0) hZ v3) (mvT (s := s.setVm vm0) hZ v4) hy (Met.back hM hZ v4 v3 hf hl w3 hC.1 (fun x q => hF x (hF' x q))) (g := mkF m pc ls (argsL.reverse ++ rest)) rfl hsz (argsL := argsL) (rest := rest) (lenOf pd hal) rfl (by simpa using hW) hd (fun _ _ => ⟨rfl, eT, hc, hs⟩)
  rw [eT] at hg
  have W' := wd_after (B := B) w1 w3 w4 hZ hown hS hk hC hN hF X' hS' hg q2 q3 r1 r4 hH r5 q4
  simp only [Pt.cells, Pt.slots] at W' r2 r3
  rw [r2, r3] at W'
  exact (K v B.U _ FF W' hg q1).tr st
theorem g_callS (W : Wd p l e R s m args below meth c Z a0 EL own F T h k n) {F' : List Addr} {y : MethodName} {bytes : ByteArray} {maxL : Nat} {ret : Option FieldType} {rm : Room} {as' : Array Value} {Q : Value → Heap → Prop} (hM : Met l Z EL F' y bytes maxL ret rm as' h (Ret Q)) (hF' : ∀ x ∈ F', x ∈ F) {index : Nat}
    (v1 : (Jvm.Cond.methodLink own index y).before a0 Z = true) (v2 : (Jvm.Cond.static y).before a0 Z = true) (v3 : (Jvm.Cond.initialized y.cls).before a0 Z = true) (v4 : (Jvm.Cond.code y bytes maxL ret).before a0 Z = true) (hy : y.cls ≠ "java/lang/invoke/MethodHandle" ∧ y.cls ≠ "java/lang/invoke/VarHandle")
    {ps : List FieldType} {rt : Option FieldType} (pd : parseMethodDescriptor y.desc = some ⟨ps, rt⟩) {argsL : List Value} (has : argsL.toArray = as') (hal : argsL.length = ps.length) {pc pc' : Nat} {ls : Array Slot} {st rest : List Value} (hst : st = argsL.reverse ++ rest) (hsz : ls.size = c.maxLocals)
    (hd : decode c.code pc = .ok (.invokestatic index, 3)) (hp : pc + 3 = pc') {Wn : Nat} (hW : (rest.map fun v => v.category).sum ≤ Wn) (hf : rm.frames + 1 ≤ R.frames) (hl : Wn + (maxL + 11) + rm.locals ≤ R.locals) (hc : k + rm.cells ≤ R.cells) (hs : n + rm.slots ≤ R.slots)
    (K : ∀ v T' h', Wd p l e R s m args below meth c Z a0 EL own F T' h' (k + rm.cells) (n + rm.slots) → h.size ≤ h'.size → Q v h' → Go p e below P T' (mkF m pc' ls (v :: rest))) : Go p e below P T (mkF m pc ls st) :=
  g_callSO W hM hF' v1 v2 v3 v4 hy pd has hal hst hsz hd hp hW hf hl hc hs fun v T' h' FF W' hg q => by
    obtain ⟨w, rfl, q⟩ := q
    exact K w T' h' (W'.drop fun x z => List.mem_append.mpr (Or.inr z)) hg q
theorem g_callSF (W : Wd p l e R s m args below meth c Z a0 EL own F T h k n) {F' : List Addr} {y : MethodName} {bytes : ByteArray} {maxL : Nat} {ret : Option FieldType} {rm : Room} {as' : Array Value} {Q : Value → Heap → List Addr → Prop} (hM : Met l Z EL F' y bytes maxL ret rm as' h (RetF Q)) (hF' : ∀ x ∈ F', x ∈ F) {index : Nat}
    (v1 : (Jvm.Cond.methodLink own index y).before a0 Z = true) (v2 : (Jvm.Cond.static y).before a0 Z = true) (v3 : (Jvm.Cond.initialized y.cls).before a0 Z = true) (v4 : (Jvm.Cond.code y bytes maxL ret).before a0 Z = true) (hy : y.cls ≠ "java/lang/invoke/MethodHandle" ∧ y.cls ≠ "java/lang/invoke/VarHandle")
    {ps : List FieldType} {rt : Option FieldType} (pd : parseMethodDescriptor y.desc = some ⟨ps, rt⟩) {argsL : List Value} (has : argsL.toArray = as') (hal : argsL.length = ps.length) {pc pc' : Nat} {ls : Array Slot} {st rest : List Value} (hst : st = argsL.reverse ++ rest) (hsz : ls.size = c.maxLocals)
    (hd : decode c.code pc = .ok (.invokestatic index, 3)) (hp : pc + 3 = pc') {Wn : Nat} (hW : (rest.map fun v => v.category).sum ≤ Wn) (hf : rm.frames + 1 ≤ R.frames) (hl : Wn + (maxL + 11) + rm.locals ≤ R.locals) (hc : k + rm.cells ≤ R.cells) (hs : n + rm.slots ≤ R.slots)
    (K : ∀ v T' h' FF, Wd p l e R s m args below meth c Z a0 EL own (FF ++ F) T' h' (k + rm.cells) (n + rm.slots) → h.size ≤ h'.size → Q v h' FF → Go p e below P T' (mkF m pc' ls (v :: rest))) : Go p e below P T (mkF m pc ls st) :=
  g_callSO W hM hF' v1 v2 v3 v4 hy pd has hal hst hsz hd hp hW hf hl hc hs fun v T' h' FF W' hg q => by
    obtain ⟨w, rfl, q⟩ := q
    exact K w T' h' FF W' hg q
theorem g_specF (W : Wd p l e R s m args below meth c Z a0 EL own F T h k n) {F' : List Addr} {y : MethodName} {bytes : ByteArray} {maxL : Nat} {rm : Room} {as' : Array Value} {Q : Heap → List Addr → Prop} (hM : Met l Z EL F' y bytes maxL none rm as' h (VoidF Q)) (hF' : ∀ x ∈ F', x ∈ F) {index : Nat} (hy1 : y.name = "<init>")
    (v1 : (Jvm.Cond.methodLink own index y).before a0 Z = true) (v2 : (Jvm.Cond.instanceMethod y).before a0 Z = true) (v3 : (Jvm.Cond.initialized y.cls).before a0 Z = true) (v4 : (Jvm.Cond.code y bytes maxL none).before a0 Z = true) (hy : y.cls ≠ "java/lang/invoke/MethodHandle" ∧ y.cls ≠ "java/lang/invoke/VarHandle")
    {ps : List FieldType} {rt : Option FieldType} (pd : parseMethodDescriptor y.desc = some ⟨ps, rt⟩) {a : Addr} {argsL : List Value} (has : (.ref a :: argsL).toArray = as') (hal : argsL.length = ps.length) {pc pc' : Nat} {ls : Array Slot} {st rest : List Value} (hst : st = argsL.reverse ++ .ref a :: rest) (hsz : ls.size = c.maxLocals)
    (hd : decode c.code pc = .ok (.invokespecial index, 3)) (hp : pc + 3 = pc') {Wn : Nat} (hW : (rest.map fun v => v.category).sum ≤ Wn) (hf : rm.frames + 1 ≤ R.frames) (hl : Wn + (maxL + 11) + rm.locals ≤ R.locals) (hc : k + rm.cells ≤ R.cells) (hs : n + rm.slots ≤ R.slots)
    (K : ∀ T' h' FF, Wd p l e R s m args below meth c Z a0 EL own (FF ++ F) T' h' (k + rm.cells) (n + rm.slots) → h.size ≤ h'.size → Q h' FF → Go p e below P T' (mkF m pc' ls rest)) : Go p e below P T (mkF m pc ls st) := by
  subst hp hst has
  obtain ⟨w1, w2, w3, w4, vm0, k0, locs, X, hZ, hown, eT, hS, hk, hC, hN, hH, hF⟩ := W
  obtain ⟨v, vm1, B, hw1, X', hS', hg, ⟨L, FF, ⟨q1, q2, q3, q4⟩, r1, r2, r3, r4, r5⟩, st⟩ := X.specialBackS w1 (own := own) hy1 hown (mvT (s := s.setVm vm0) hZ v1) (mvT (s := s.setVm vm0) hZ v2) (mvT (s := s.setVm vm0) hZ v4) hy (Met.back hM hZ v4 v3 hf hl w3 hC.1 (fun x q => hF x (hF' x q))) (g := mkF m pc ls (argsL.reverse ++ .ref a :: rest)) rfl hsz (Steps.refl _) (a := a) (argsL := argsL) (rest := rest) (lenOf pd hal) rfl (by simpa using hW) hd (fun _ _ => ⟨rfl, eT, hc, hs⟩)
  rw [eT] at hg
  have W' := wd_after (B := B) w1 w3 w4 hZ hown hS hk hC hN hF X' hS' hg q2 q3 r1 r4 hH r5 q4
  simp only [Pt.cells, Pt.slots] at W' r2 r3
  rw [r2, r3] at W'
  obtain ⟨rfl, q1⟩ := q1
  exact (K B.U _ FF W' hg q1).tr st
theorem g_spec (W : Wd p l e R s m args below meth c Z a0 EL own F T h k n) {F' : List Addr} {y : MethodName} {bytes : ByteArray} {maxL : Nat} {rm : Room} {as' : Array Value} {Q : Heap → Prop} (hM : Met l Z EL F' y bytes maxL none rm as' h (Void Q)) (hF' : ∀ x ∈ F', x ∈ F) {index : Nat} (hy1 : y.name = "<init>")
    (v1 : (Jvm.Cond.methodLink own index y).before a0 Z = true) (v2 : (Jvm.Cond.instanceMethod y).before a0 Z = true) (v3 : (Jvm.Cond.initialized y.cls).before a0 Z = true) (v4 : (Jvm.Cond.code y bytes maxL none).before a0 Z = true) (hy : y.cls ≠ "java/lang/invoke/MethodHandle" ∧ y.cls ≠ "java/lang/invoke/VarHandle")
    {ps : List FieldType} {rt : Option FieldType} (pd : parseMethodDescriptor y.desc = some ⟨ps, rt⟩) {a : Addr} {argsL : List Value} (has : (.ref a :: argsL).toArray = as') (hal : argsL.length = ps.length) {pc pc' : Nat} {ls : Array Slot} {st rest : List Value} (hst : st = argsL.reverse ++ .ref a :: rest) (hsz : ls.size = c.maxLocals)
    (hd : decode c.code pc = .ok (.invokespecial index, 3)) (hp : pc + 3 = pc') {Wn : Nat} (hW : (rest.map fun v => v.category).sum ≤ Wn) (hf : rm.frames + 1 ≤ R.frames) (hl : Wn + (maxL + 11) + rm.locals ≤ R.locals) (hc : k + rm.cells ≤ R.cells) (hs : n + rm.slots ≤ R.slots)
    (K : ∀ T' h', Wd p l e R s m args below meth c Z a0 EL own F T' h' (k + rm.cells) (n + rm.slots) → h.size ≤ h'.size → Q h' → Go p e below P T' (mkF m pc' ls rest)) : Go p e below P T (mkF m pc ls st) :=
  g_specF (Q := fun h _ => Q h) W hM hF' hy1 v1 v2 v3 v4 hy pd has hal hst hsz hd hp hW hf hl hc hs fun T' h' FF W' hg q => K T' h' (W'.drop fun x z => List.mem_append.mpr (Or.inr z)) hg q
theorem g_virtO (W : Wd p l e R s m args below meth c Z a0 EL own F T h k n) {F' : List Addr} {y z : MethodName} {C : String} {bytes : ByteArray} {maxL : Nat} {ret : Option FieldType} {rm : Room} {as' : Array Value} {Q : Option Value → Heap → List Addr → Prop} (hM : Met l Z EL F' z bytes maxL ret rm as' h Q) (hF' : ∀ x ∈ F', x ∈ F) (hyz : ∃ C' y', y'.cls = y.cls ∧ (Jvm.Cond.selects C' y' y').before a0 Z = true) {index : Nat}
    (v1 : (Jvm.Cond.methodLink own index y).before a0 Z = true) (v2 : (Jvm.Cond.declares y).before a0 Z = true) (v5 : (Jvm.Cond.selects C y z).before a0 Z = true) (v6 : (Jvm.Cond.instanceMethod z).before a0 Z = true) (v3 : (Jvm.Cond.initialized z.cls).before a0 Z = true) (v4 : (Jvm.Cond.code z bytes maxL ret).before a0 Z = true) (hy : y.cls ≠ "java/lang/invoke/MethodHandle" ∧ y.cls ≠ "java/lang/invoke/VarHandle")
    {ps : List FieldType} {rt : Option FieldType} (pd : parseMethodDescriptor y.desc = some ⟨ps, rt⟩) {a : Addr} (E : Exa Z h a C) {argsL : List Value} (has : (.ref a :: argsL).toArray = as') (hal : argsL.length = ps.length) {pc pc' : Nat} {ls : Array Slot} {st rest : List Value} (hst : st = argsL.reverse ++ .ref a :: rest) (hsz : ls.size = c.maxLocals)
    (hd : decode c.code pc = .ok (.invokevirtual index, 3)) (hp : pc + 3 = pc') {Wn : Nat} (hW : (rest.map fun v => v.category).sum ≤ Wn) (hf : rm.frames + 1 ≤ R.frames) (hl : Wn + (maxL + 11) + rm.locals ≤ R.locals) (hc : k + rm.cells ≤ R.cells) (hs : n + rm.slots ≤ R.slots)
    (K : ∀ v T' h' FF, Wd p l e R s m args below meth c Z a0 EL own (FF ++ F) T' h' (k + rm.cells) (n + rm.slots) → h.size ≤ h'.size → Q v h' FF → Go p e below P T' (mkF m pc' ls (v.toList ++ rest))) : Go p e below P T (mkF m pc ls st) := by
  subst hp hst has
  obtain ⟨C', y', hyc, hyw⟩ := hyz
  obtain ⟨w1, w2, w3, w4, vm0, k0, locs, X, hZ, hown, eT, hS, hk, hC, hN, hH, hF⟩ := W
  obtain ⟨cq, kq, qa, qb, qc⟩ := isOf (s := s.setVm vm0) hZ eT E
  obtain ⟨v, vm1, B, hw1, X', hS', hg, ⟨L, FF, ⟨q1, q2, q3, q4⟩, r1, r2, r3, r4, r5⟩, st⟩ := X.virtualBackS w1 (own := own) (y := y) (z := z) hown (mvT (s := s.setVm vm0) hZ v1) (mvT (s := s.setVm vm0) hZ v2) (nf_cls (args := #[]) hyc (mvT (s := s.setVm vm0) hZ hyw)) (mvT (s := s.setVm vm0) hZ v5) (mvT (s := s.setVm vm0) hZ v6) hy (Met.back hM hZ v4 v3 hf hl w3 hC.1 (fun x q => hF x (hF' x q))) qa qc (g := mkF m pc ls (argsL.reverse ++ .ref a :: rest)) rfl hsz (Steps.refl _) (argsL := argsL) (rest := rest) (lenOf pd hal) rfl (by simpa using hW) hd (fun _ _ => ⟨rfl, eT, hc, hs⟩)
  rw [eT] at hg
  have W' := wd_after (B := B) w1 w3 w4 hZ hown hS hk hC hN hF X' hS' hg q2 q3 r1 r4 hH r5 q4
  simp only [Pt.cells, Pt.slots] at W' r2 r3
  rw [r2, r3] at W'
  exact (K v B.U _ FF W' hg q1).tr st
theorem g_virt (W : Wd p l e R s m args below meth c Z a0 EL own F T h k n) {F' : List Addr} {y z : MethodName} {C : String} {bytes : ByteArray} {maxL : Nat} {ret : Option FieldType} {rm : Room} {as' : Array Value} {Q : Value → Heap → Prop} (hM : Met l Z EL F' z bytes maxL ret rm as' h (Ret Q)) (hF' : ∀ x ∈ F', x ∈ F) (hyz : ∃ C' y', y'.cls = y.cls ∧ (Jvm.Cond.selects C' y' y').before a0 Z = true) {index : Nat}
    (v1 : (Jvm.Cond.methodLink own index y).before a0 Z = true) (v2 : (Jvm.Cond.declares y).before a0 Z = true) (v5 : (Jvm.Cond.selects C y z).before a0 Z = true) (v6 : (Jvm.Cond.instanceMethod z).before a0 Z = true) (v3 : (Jvm.Cond.initialized z.cls).before a0 Z = true) (v4 : (Jvm.Cond.code z bytes maxL ret).before a0 Z = true) (hy : y.cls ≠ "java/lang/invoke/MethodHandle" ∧ y.cls ≠ "java/lang/invoke/VarHandle")
    {ps : List FieldType} {rt : Option FieldType} (pd : parseMethodDescriptor y.desc = some ⟨ps, rt⟩) {a : Addr} (E : Exa Z h a C) {argsL : List Value} (has : (.ref a :: argsL).toArray = as') (hal : argsL.length = ps.length) {pc pc' : Nat} {ls : Array Slot} {st rest : List Value} (hst : st = argsL.reverse ++ .ref a :: rest) (hsz : ls.size = c.maxLocals)
    (hd : decode c.code pc = .ok (.invokevirtual index, 3)) (hp : pc + 3 = pc') {Wn : Nat} (hW : (rest.map fun v => v.category).sum ≤ Wn) (hf : rm.frames + 1 ≤ R.frames) (hl : Wn + (maxL + 11) + rm.locals ≤ R.locals) (hc : k + rm.cells ≤ R.cells) (hs : n + rm.slots ≤ R.slots)
    (K : ∀ v T' h', Wd p l e R s m args below meth c Z a0 EL own F T' h' (k + rm.cells) (n + rm.slots) → h.size ≤ h'.size → Q v h' → Go p e below P T' (mkF m pc' ls (v :: rest))) : Go p e below P T (mkF m pc ls st) :=
  g_virtO W hM hF' hyz v1 v2 v5 v6 v3 v4 hy pd E has hal hst hsz hd hp hW hf hl hc hs fun v T' h' FF W' hg q => by
    obtain ⟨w, rfl, q⟩ := q
    exact K w T' h' (W'.drop fun x z => List.mem_append.mpr (Or.inr z)) hg q
theorem g_virtF (W : Wd p l e R s m args below meth c Z a0 EL own F T h k n) {F' : List Addr} {y z : MethodName} {C : String} {bytes : ByteArray} {maxL : Nat} {ret : Option FieldType} {rm : Room} {as' : Array Value} {Q : Value → Heap → List Addr → Prop} (hM : Met l Z EL F' z bytes maxL ret rm as' h (RetF Q)) (hF' : ∀ x ∈ F', x ∈ F) (hyz : ∃ C' y', y'.cls = y.cls ∧ (Jvm.Cond.selects C' y' y').before a0 Z = true) {index : Nat}
    (v1 : (Jvm.Cond.methodLink own index y).before a0 Z = true) (v2 : (Jvm.Cond.declares y).before a0 Z = true) (v5 : (Jvm.Cond.selects C y z).before a0 Z = true) (v6 : (Jvm.Cond.instanceMethod z).before a0 Z = true) (v3 : (Jvm.Cond.initialized z.cls).before a0 Z = true) (v4 : (Jvm.Cond.code z bytes maxL ret).before a0 Z = true) (hy : y.cls ≠ "java/lang/invoke/MethodHandle" ∧ y.cls ≠ "java/lang/invoke/VarHandle")
    {ps : List FieldType} {rt : Option FieldType} (pd : parseMethodDescriptor y.desc = some ⟨ps, rt⟩) {a : Addr} (E : Exa Z h a C) {argsL : List Value} (has : (.ref a :: argsL).toArray = as') (hal : argsL.length = ps.length) {pc pc' : Nat} {ls : Array Slot} {st rest : List Value} (hst : st = argsL.reverse ++ .ref a :: rest) (hsz : ls.size = c.maxLocals)
    (hd : decode c.code pc = .ok (.invokevirtual index, 3)) (hp : pc + 3 = pc') {Wn : Nat} (hW : (rest.map fun v => v.category).sum ≤ Wn) (hf : rm.frames + 1 ≤ R.frames) (hl : Wn + (maxL + 11) + rm.locals ≤ R.locals) (hc : k + rm.cells ≤ R.cells) (hs : n + rm.slots ≤ R.slots)
    (K : ∀ v T' h' FF, Wd p l e R s m args below meth c Z a0 EL own (FF ++ F) T' h' (k + rm.cells) (n + rm.slots) → h.size ≤ h'.size → Q v h' FF → Go p e below P T' (mkF m pc' ls (v :: rest))) : Go p e below P T (mkF m pc ls st) :=
  g_virtO W hM hF' hyz v1 v2 v5 v6 v3 v4 hy pd E has hal hst hsz hd hp hW hf hl hc hs fun v T' h' FF W' hg q => by
    obtain ⟨w, rfl, q⟩ := q
    exact K w T' h' FF W' hg q
end OwnC
/-! own kit, part D: Strings of Latin-1 chars -/
section OwnD
variable {p : Program} {l : Launch} {e : Env} {R : Room} {s : State} {m : MethodId} {args : Array Value} {below : List Frame} {meth : Method} {c : Code} {T T' : State} {h h' : Heap} {Z : State} {a0 : Array Value} {EL : List (String × Nat)} {own : String} {k n : Nat} {P : Outcome → State → Prop} {F : List Addr}
theorem own_n32 {n : Nat} (q : n < 2 ^ 31) : (Int32.ofNat n).toNatClampNeg = n := by
  have e : (Int32.ofNat n).toInt = n := Int32.toInt_ofNat_small q
  simp [Int32.toNatClampNeg, e]
theorem own_n0 {n : Nat} (q : n < 2 ^ 31) : ¬ Int32.ofNat n < 0 := by
  rw [Int32.lt_iff_toInt_lt, Int32.toInt_ofNat_small q]
  have e0 : (0 : Int32).toInt = 0 := rfl
  omega
/-- the low byte, signed -/
def lo (x : Int32) : Int32 := x.toInt8.toInt32
def Latin (cs : List Int32) : Prop := ∀ c ∈ cs, ¬ c < 0 ∧ ¬ (255 : Int32) < c
def Str (Z : State) (h : Heap) (a : Addr) (cs : List Int32) : Prop :=
  Exa Z h a "java/lang/String" ∧ Fld Z h a "java/lang/String" "coder" "B" (.int 0) ∧ (∃ t, Fld Z h a "java/lang/String" "value" "[B" (.ref t) ∧ Ali Z h t .byte ((cs.map lo).map Value.int)) ∧ Latin cs ∧ cs.length ≤ 4000
theorem Ali.of_arv {a : Addr} {kk : ClassId} {ty : FieldType} {z : Int32} {vs : List Value} {d : Value} (A : Arv Z h a kk ty z vs d) (hl : z.toNatClampNeg = vs.length) : Ali Z h a ty vs := by
  obtain ⟨c, A, -, S, hz, H, -⟩ := A
  refine ⟨c, A, ?_, ?_⟩
  · apply List.ext_getElem?
    intro i
    rw [Array.getElem?_toList]
    rcases Nat.lt_or_ge i vs.length with q | q
    · rw [H i (by omega)]; simp [q]
    · rw [List.getElem?_eq_none q, Array.getElem?_eq_none (by omega)]
  · have := (back32 hz).2; omega
theorem Ali.arv {a : Addr} {ty : FieldType} {vs : List Value} {d : Value} {z : Int32} (A : Ali Z h a ty vs) (hf : ∀ v ∈ vs, fits ty v = true) (hz : z = Int32.ofNat vs.length) : ∃ kk, Arv Z h a kk ty z vs d := by
  obtain ⟨c, A, rfl, q⟩ := A
  subst hz
  simp only [Array.length_toList] at q hf
  refine ⟨c.cls, c, A, rfl, by rw [Array.length_toList, own_n32 q], by rw [Array.length_toList]; exact own_n0 q, fun i hi => by simp [hi], fun i hi => ?_⟩
  have e : c.slots.toList.getD i d = c.slots[i] := by simp [hi]
  rw [e]
  exact hf _ (by simp)
theorem fits_lo (x : Int32) : fits .byte (.int (lo x)) = true := fits_nar_byte x
theorem Latin.lit {cs : List Int32} (q : Latin cs) : ∀ c ∈ cs, ¬ c < 0 ∧ ¬ (65535 : Int32) < c := fun c hc => ⟨(q c hc).1, fun r => (q c hc).2 (by
  rw [Int32.lt_iff_toInt_lt] at r ⊢
  have e0 : (255 : Int32).toInt = 255 := rfl
  have e1 : (65535 : Int32).toInt = 65535 := rfl
  omega)⟩
theorem Latin.nil : Latin [] := fun _ q => nomatch q
theorem Latin.cons {x : Int32} {cs : List Int32} (q0 : ¬ x < 0) (q1 : ¬ 255 < x) (r : Latin cs) : Latin (x :: cs) := fun c hc => (List.mem_cons.mp hc).elim (fun e => e ▸ ⟨q0, q1⟩) (r c)
theorem fits_chr {x : Int32} (q0 : ¬ x < 0) (q1 : ¬ 65535 < x) : fits .char (.int x) = true := by
  simp only [fits, Bool.and_eq_true, decide_eq_true_eq]
  exact ⟨Int32.not_lt.mp q0, Int32.not_lt.mp q1⟩
theorem Str.ext {a : Addr} {cs : List Int32} (E : Ext h h') (S : Str Z h a cs) : Str Z h' a cs := by
  obtain ⟨s1, s2, ⟨t, s3, s4⟩, r⟩ := S
  exact ⟨s1.ext E, s2.ext E, ⟨t, s3.ext E, s4.ext E⟩, r⟩
theorem Str.lt {a : Addr} {cs : List Int32} (S : Str Z h a cs) : a < h.size := S.1.lt
theorem arr_neT {a b : Addr} {t1 t2 : FieldType} {c1 c2 : Cell} (A : Arr Z h a c1 t1) (B : Arr Z h b c2 t2) (q : t1 ≠ t2) : a ≠ b := fun e => by
  subst e
  cases A.1.symm.trans B.1
  obtain ⟨-, k1, a1, comp1, a2⟩ := A.2.1
  obtain ⟨-, k2, b1, comp2, b2⟩ := B.2.1
  cases a1.symm.trans b1
  rw [a2] at b2
  injection b2 with _ r
  exact q r
theorem Ali.wr {a b : Addr} {ty : FieldType} {vs : List Value} {sl : Nat} {v : Value} (W : Wr h h' b sl v) (q : a ≠ b) (A : Ali Z h a ty vs) : Ali Z h' a ty vs := by obtain ⟨c, r, t⟩ := A; exact ⟨c, r.other W q, t⟩
theorem Ali.neE {x a : Addr} {ty : FieldType} {vs : List Value} {C : String} {nn : Nat} (A : Ali Z h a ty vs) (E : Exa Z h x C) (wi : (Jvm.Cond.instantiable C nn).before a0 Z = true) : a ≠ x := by obtain ⟨c, r, -⟩ := A; exact (ne_arr E wi r).symm
theorem Ali.neA {a b : Addr} {t1 t2 : FieldType} {vs us : List Value} (A : Ali Z h a t1 vs) (B : Ali Z h b t2 us) (q : t1 ≠ t2) : a ≠ b := by obtain ⟨c, r, -⟩ := A; obtain ⟨d, u, -⟩ := B; exact arr_neT r u q
theorem lo_lo (x : Int32) : lo (lo x) = lo x := by
  show x.toInt8.toInt32.toInt8.toInt32 = x.toInt8.toInt32
  rw [Int8.toInt8_toInt32]
theorem g_bastore (W : Wd p l e R s m args below meth c Z a0 EL own F T h k n) {pc pc' : Nat} {ls : Array Slot} {st : List Value} {a : Addr} {bs : List Int32} (A : Ali Z h a .byte (bs.map Value.int)) (q : Z.heap.size ≤ a) (hF : a ∈ F) {j x : Int32} {i : Nat} (hj : ¬ j < 0) (hi : j.toNatClampNeg = i) (hlt : i < bs.length)
    (hd : decode c.code pc = .ok (.bastore, 1)) (hp : pc + 1 = pc')
    (K : ∀ T' h', Wd p l e R s m args below meth c Z a0 EL own F T' h' k n → Keep h h' [a] → Ali Z h' a .byte ((bs.set i (lo x)).map Value.int) → Go p e below P T' (mkF m pc' ls st)) : Go p e below P T (mkF m pc ls (.int x :: .int j :: .ref a :: st)) := by
  subst hp
  obtain ⟨cell, A1, hsz, -⟩ := A.get
  refine W.write (a := a) (sl := i) (v := .int (lo x)) ⟨q, Or.inl hF⟩ (fun X hZ hown eT => ?_) (fun T' h' W' Wr1 => K T' h' W' (Keep.of_wr Wr1) (by rw [List.map_set]; exact A.set Wr1))
  obtain ⟨T', h', X', e1, W1, st⟩ := stB X W.hx hZ eT A1 (j := j) (x := x) (by rw [hsz, hi]; simp only [List.length_map]; exact fun r => r.elim hj (by omega)) (g := mkF m pc ls (.int x :: .int j :: .ref a :: st)) rfl rfl hd
  rw [hi] at X' W1
  exact ⟨T', h', X', e1, W1, st⟩
/-- a place that is no part of a String: an array of another kind, or an object of another class -/
def NoStr (Z : State) (a0 : Array Value) (h : Heap) (x : Addr) : Prop := (∃ C nn, Exa Z h x C ∧ C ≠ "java/lang/String" ∧ (Jvm.Cond.instantiable C nn).before a0 Z = true) ∨ ∃ cl ty, Arr Z h x cl ty ∧ ty ≠ .byte
theorem Ali.noStr {x : Addr} {ty : FieldType} {vs : List Value} (A : Ali Z h x ty vs) (ht : ty ≠ .byte) : NoStr Z a0 h x := by obtain ⟨c, r, -⟩ := A; exact Or.inr ⟨c, ty, r, ht⟩
theorem Str.keep {a x : Addr} {cs : List Int32} (wi : (Jvm.Cond.instantiable "java/lang/String" 4).before a0 Z = true) (S : Str Z h a cs) (K : Keep h h' [x]) (q : NoStr Z a0 h x) : Str Z h' a cs := by
  obtain ⟨s1, s2, ⟨t, s3, ⟨ct, s4, s5⟩⟩, r⟩ := S
  have n1 : a ∉ [x] := ninS (by
    rcases q with ⟨C, nn, q1, q2, q3⟩ | ⟨cl, ty, q1, q2⟩
    · exact Exa.ne s1 q1 (Ne.symm q2)
    · exact ne_arr s1 wi q1) nin0
  have n2 : t ∉ [x] := ninS (by
    rcases q with ⟨C, nn, q1, q2, q3⟩ | ⟨cl, ty, q1, q2⟩
    · exact (ne_arr q1 q3 s4).symm
    · exact arr_neT s4 q1 (Ne.symm q2)) nin0
  exact ⟨s1.keep K, s2.keep K n1, ⟨t, s3.keep K n1, Ali.keep K n2 ⟨ct, s4, s5⟩⟩, r⟩
theorem own_new {b : Addr} {h : Heap} (q : h.size ≤ b) : ∀ x ∈ [b], x ∈ ([] : List Addr) ∨ h.size ≤ x := fun x r => Or.inr (by cases List.mem_singleton.mp r; exact q)
/-- ldc of a String constant -/
theorem g_ldcS (W : Wd p l e R s m args below meth c Z a0 EL own F T h k n) {pc pc' : Nat} {ls : Array Slot} {st : List Value} {index : Nat} {text : String} {cs : List Int32} (w : (Jvm.Cond.stringLink own index text).before a0 Z = true) (wS : ∀ a ∈ Bundle.stringAtoms, a.before a0 Z = true) (hmem : (own, index) ∈ EL)
    (ht : (∀ c ∈ text.toList, c.toNat < 256) ∧ text.toList.map (fun c => Value.int (Jvm.Lit.byteI c.toNat.toUInt16)) = (cs.map lo).map Value.int) (hL : Latin cs) (hlen : cs.length ≤ 4000) {nn : Nat} (hn : 4 * text.toList.length ≤ nn) (hbig : nn ≤ 536870912)
    (hd : decode c.code pc = .ok (.ldc index, 2)) (hp : pc + 2 = pc') (hc : k + 2 ≤ R.cells) (hl : n + (nn + 4) ≤ R.slots)
    (K : ∀ a T' h', Wd p l e R s m args below meth c Z a0 EL own F T' h' (k + 2) (n + (nn + 4)) → Ext h h' → Str Z h' a cs → Go p e below P T' (mkF m pc' ls (.ref a :: st))) : Go p e below P T (mkF m pc ls st) := by
  subst hp
  obtain ⟨w1, w2, w3, w4, vm0, k0, locs, X, hZ, hown, eT, hS, hk, hC, hN, hH, hF⟩ := W
  have hz : (Int32.ofNat cs.length).toNatClampNeg = ((cs.map lo).map Value.int).length := by rw [own_n32 (by omega)]; simp
  obtain ⟨a, T', h', k1, b, kb, X', eT', E, hS', hk1, hZ', hown', q1, q2, q3, q4, -, -, hC', -, -, st⟩ := ldcCH X w1 hZ hown w wS eT hS hk w3 hmem hC.1 ht (own_n0 (by omega)) hz (g := mkF m pc ls st) rfl hd hn hbig hc hl
  exact (K a T' h' ⟨w1, ext_trans w2 E, w3, w4, T'.vm, k1, locs, X', hZ', hown', eT', hS', hk1, hC.trans hC', hN, fun z => (by rw [z] at hmem; cases hmem), fun x q => ⟨Nat.lt_of_lt_of_le (hF x q).1 E.1, hC'.safe (hF x q).1 (hF x q).2⟩⟩ E ⟨q1, q2, ⟨b, q3, Ali.of_arv q4 hz⟩, hL, hlen⟩).st st
/-- a step over the same tables that keeps all but some cells of the walk's own -/
theorem wd_kept (w1 : p.tables.exec = Jvm.exec) (w2 : Ext Z.heap h) (w3 : EW Z a0 EL) (w4 : meth.locks = false) {vm0 : Vm} {k0 : Nat} {locs L : List Loc} {B : Pt} (hZ : Z.Warmed39 vm0) (hown : vm0.findClass own = some m.cls) (hS : s.Since vm0 k0) (hk : k0 ≤ h.size) (hC : CHr Z EL s.vm s.heap vm0 h) (hN : Fr Z.heap.size locs) (hH : EL = [] → s.WarmedH vm0)
    (hF : ∀ x ∈ F, x < h.size ∧ Safe Z EL vm0 h x) (X' : Stand p l e R (s.setVm vm0) m args below meth c B.U B.locs B.cells B.slots) {ws : List Addr} (Kp : Keep h B.U.heap ws) (q : ∀ x ∈ ws, Wok Z F h x) (hNL : Fr Z.heap.size L) (hl : B.locs = locs ++ L) :
    Wd p l e R s m args below meth c Z a0 EL own F B.U B.U.heap B.cells B.slots := by
  have hs : ∀ x ∈ ws, Safe Z EL vm0 h x := fun x hx => Wd.safeOf hZ.alike hF (q x hx)
  exact ⟨w1, ext_old_keep w2 Kp (fun x hx => (q x hx).1), w3, w4, vm0, k0, B.locs, X', hZ, hown, rfl, hS, Nat.le_trans hk Kp.1, hC.trans (CHr.keep Kp hs hC.1), hl ▸ hN.app hNL, hH, fun x r => ⟨Nat.lt_of_lt_of_le (hF x r).1 Kp.1, Safe.keep Kp hs hC.1 (hF x r).2⟩⟩
/-- a String as `new` left it -/
def NewS (Z : State) (F : List Addr) (h : Heap) (x : Addr) : Prop := Z.heap.size ≤ x ∧ x ∈ F ∧ Exa Z h x "java/lang/String" ∧ (∃ v, Fld Z h x "java/lang/String" "value" "[B" v) ∧ ∃ v, Fld Z h x "java/lang/String" "coder" "B" v
theorem NewS.ext {x : Addr} (E : Ext h h') (S : NewS Z F h x) : NewS Z F h' x := by
  obtain ⟨s1, s2, s3, ⟨v, s4⟩, ⟨u, s5⟩⟩ := S
  exact ⟨s1, s2, s3.ext E, ⟨v, s4.ext E⟩, ⟨u, s5.ext E⟩⟩
theorem NewS.mem {x : Addr} {F' : List Addr} (q : ∀ x ∈ F, x ∈ F') (S : NewS Z F h x) : NewS Z F' h x := ⟨S.1, q _ S.2.1, S.2.2⟩
theorem NewS.keep {x b : Addr} (S : NewS Z F h x) (K : Keep h h' [b]) (q : x ≠ b) : NewS Z F h' x := by
  obtain ⟨s1, s2, s3, ⟨v, s4⟩, ⟨u, s5⟩⟩ := S
  exact ⟨s1, s2, s3.keep K, ⟨v, s4.keep K (ninS q nin0)⟩, ⟨u, s5.keep K (ninS q nin0)⟩⟩
theorem NewS.keepA {x b : Addr} {ty : FieldType} {vs : List Value} (wi : (Jvm.Cond.instantiable "java/lang/String" 4).before a0 Z = true) (S : NewS Z F h x) (K : Keep h h' [b]) (A : Ali Z h b ty vs) : NewS Z F h' x := by
  obtain ⟨c, A, -⟩ := A
  exact S.keep K (ne_arr S.2.2.1 wi A)
theorem NewS.one {x : Addr} {F' : List Addr} (S : NewS Z (x :: F') h x) : NewS Z [x] h x := ⟨S.1, List.mem_singleton.mpr rfl, S.2.2⟩
theorem g_newS (W : Wd p l e R s m args below meth c Z a0 EL own F T h k n) {pc pc' : Nat} {ls : Array Slot} {st : List Value} {index : Nat} (w : (Jvm.Cond.classLink own index "java/lang/String").before a0 Z = true) (wi : (Jvm.Cond.instantiable "java/lang/String" 4).before a0 Z = true) (wz : (Jvm.Cond.initialized "java/lang/String").before a0 Z = true)
    (wv : (Jvm.Cond.laysFinal "java/lang/String" "java/lang/String" "value" "[B").before a0 Z = true) (wc : (Jvm.Cond.laysFinal "java/lang/String" "java/lang/String" "coder" "B").before a0 Z = true)
    (hd : decode c.code pc = .ok (.new index, 3)) (hp : pc + 3 = pc') (hc : k + 1 ≤ R.cells) (hl : n + 4 ≤ R.slots)
    (K : ∀ x T' h', h.size ≤ x → Wd p l e R s m args below meth c Z a0 EL own (x :: F) T' h' (k + 1) (n + 4) → Ext h h' → NewS Z (x :: F) h' x → Go p e below P T' (mkF m pc' ls (.ref x :: st))) : Go p e below P T (mkF m pc ls st) := by
  have hO := W.old
  exact g_new W w wi wz hd hp hc hl fun x T' h' hx W' E B => K x T' h' hx W' E ⟨Nat.le_trans hO.1 hx, List.mem_cons_self .., B.1, ⟨_, B.2 (Or.inr wv) (ty := .array .byte) (by decide)⟩, ⟨_, B.2 (Or.inr wc) (ty := .byte) (by decide)⟩⟩
theorem g_baload (W : Wd p l e R s m args below meth c Z a0 EL own F T h k n) {pc pc' : Nat} {ls : Array Slot} {st : List Value} {a : Addr} {cs : List Int32} (A : Ali Z h a .byte (cs.map Value.int)) {j : Int32} {i : Nat} (hj : ¬ j < 0) (hi : j.toNatClampNeg = i) (hlt : i < cs.length)
    (hd : decode c.code pc = .ok (.baload, 1)) (hp : pc + 1 = pc') (K : Go p e below P T (mkF m pc' ls (.int (cs.getD i 0) :: st))) : Go p e below P T (mkF m pc ls (.int j :: .ref a :: st)) := by
  subst hp
  obtain ⟨cell, A1, hsz, hget⟩ := A.get
  obtain ⟨w1, w2, w3, w4, vm0, k0, locs, X, hZ, hown, rfl, r⟩ := W
  refine K.st fun t q => X.baloadBytes w1 A1.1 (State.isArrayOf_alike (s := Z) hZ.alike A1.2.1) A1.2.2 (j := j) (by rw [hsz, hi]; simp only [List.length_map]; exact fun r => r.elim hj (by omega)) (v := .int (cs.getD i 0)) (by rw [hi, hget]; simp [hlt]) (g := mkF m pc ls (.int j :: .ref a :: st)) rfl rfl hd t q
theorem g_instNull (W : Wd p l e R s m args below meth c Z a0 EL own F T h k n) {pc pc' : Nat} {ls : Array Slot} {st : List Value} {index : Nat} (hd : decode c.code pc = .ok (.instanceof index, 3)) (hp : pc + 3 = pc') (K : Go p e below P T (mkF m pc' ls (.int 0 :: st))) : Go p e below P T (mkF m pc ls (.null :: st)) := by
  subst hp
  obtain ⟨w1, w2, w3, w4, vm0, k0, locs, X, r⟩ := W
  exact K.st fun t q => X.instanceofNull w1 (g := mkF m pc ls (.null :: st)) rfl (rest := st) rfl hd t q
theorem g_checkcast (W : Wd p l e R s m args below meth c Z a0 EL own F T h k n) {pc pc' : Nat} {ls : Array Slot} {st : List Value} {index : Nat} {C : String} (w : (Jvm.Cond.classLink own index C).before a0 Z = true) {a : Addr} (I : Ins Z h a C true) (hd : decode c.code pc = .ok (.checkcast index, 3)) (hp : pc + 3 = pc')
    (K : ∀ T', Wd p l e R s m args below meth c Z a0 EL own F T' h k n → Go p e below P T' (mkF m pc' ls (.ref a :: st))) : Go p e below P T (mkF m pc ls (.ref a :: st)) := by
  subst hp
  exact W.grow (fun X hZ hown eT => castY X W.hx hZ hown w eT I (g := mkF m pc ls (.ref a :: st)) rfl rfl hd) (ext_refl h) K
end OwnD
/-! own kit, part E: String's own methods at a call, over the pasted laws of laws/STRINGS -/
section OwnE
variable {p : Program} {l : Launch} {e : Env} {R : Room} {s : State} {m : MethodId} {args : Array Value} {below : List Frame} {meth : Method} {c : Code} {T T' : State} {h h' : Heap} {Z : State} {a0 : Array Value} {EL : List (String × Nat)} {own : String} {k n : Nat} {P : Outcome → State → Prop} {F : List Addr}
/-- compact strings are on -/
def Cst (Z : State) : Prop := ∃ z : Int32, Sta Z Z.heap "java/lang/String" "COMPACT_STRINGS" "Z" (.int z) ∧ ¬ z = 0
def Fst (Z : State) : Prop := ∃ fm : Value, Sta Z Z.heap "jdk/internal/util/Preconditions" "SIOOBE_FORMATTER" "Ljava/util/function/BiFunction;" fm ∧ fm.isRef = true
theorem Str.cod {a : Addr} {cs : List Int32} (S : Str Z h a cs) : ∃ t kb, Fld Z h a "java/lang/String" "value" "[B" (.ref t) ∧ Arv Z h t kb .byte (Int32.ofNat cs.length) ((cs.map StrChars.lo8).map Value.int) (.int 0) ∧ StrChars.Road.CodA cs 0 (Int32.ofNat cs.length) ((cs.map StrChars.lo8).map Value.int) := by
  obtain ⟨s1, s2, ⟨t, s3, s4⟩, s5, s6⟩ := S
  obtain ⟨kb, A⟩ := s4.arv (d := .int 0) (z := Int32.ofNat cs.length) (fun v hv => by
    simp only [List.mem_map] at hv
    obtain ⟨b, ⟨x, -, rfl⟩, rfl⟩ := hv
    exact fits_lo x) (by simp)
  exact ⟨t, kb, s3, A, StrChars.Road.codOf rfl fun c hc => (s5 c hc).2⟩
theorem g_len (W : Wd p l e R s m args below meth c Z a0 EL own F T h k n) (hw : ∀ d ∈ tables_1, d.before a0 Z = true) (cst : Cst Z) {a : Addr} {cs : List Int32} (S : Str Z h a cs) {index : Nat} (v1 : (Jvm.Cond.methodLink own index (⟨"java/lang/String", "length", "()I"⟩ : MethodName)).before a0 Z = true)
    {pc pc' : Nat} {ls : Array Slot} {rest : List Value} (hsz : ls.size = c.maxLocals) (hd : decode c.code pc = .ok (.invokevirtual index, 3)) (hp : pc + 3 = pc') {Wn : Nat} (hW : (rest.map fun v => v.category).sum ≤ Wn) (hf : 2 ≤ R.frames) (hl : Wn + 25 ≤ R.locals) (hc : k ≤ R.cells) (hs : n ≤ R.slots) {z : Int32} (hz : Int32.ofNat cs.length = z)
    (K : ∀ T', Wd p l e R s m args below meth c Z a0 EL own F T' h k n → Go p e below P T' (mkF m pc' ls (.int z :: rest))) : Go p e below P T (mkF m pc ls (.ref a :: rest)) := by
  subst hp hz
  obtain ⟨zc, Sc, hzc⟩ := cst
  have wl : ∀ d ∈ StrChars.Road.wordsLen, d.before a0 Z = true := fun d hd => hw d ((by decide +kernel : ∀ d ∈ StrChars.Road.wordsLen, d ∈ tables_1) d hd)
  have wi : (Jvm.Cond.instantiable "java/lang/String" 4).before a0 Z = true := hw _ (by decide +kernel)
  obtain ⟨t, kb, q1, q2, q3⟩ := S.cod
  obtain ⟨w1, w2, w3, w4, vm0, k0, locs, X, hZ, hown, rfl, hS, hk, hC, hN, hH, hF⟩ := W
  obtain ⟨cq, kq, qa, qb, qc⟩ := isOf (s := s.setVm vm0) hZ rfl S.1
  obtain ⟨v, vm1, B, hw1, X', ⟨L, ⟨rfl, rfl, e1⟩, r1, r2, r3⟩, st⟩ := X.virtualBack w1 (own := own) (y := (⟨"java/lang/String", "length", "()I"⟩ : MethodName)) (z := (⟨"java/lang/String", "length", "()I"⟩ : MethodName)) hown (mvT (s := s.setVm vm0) hZ v1) (mvT (s := s.setVm vm0) hZ (hw _ (by decide +kernel))) (notFace_of_selects (C := "java/lang/String") (y := (⟨"java/lang/String", "length", "()I"⟩ : MethodName)) (args := #[]) (mvT (s := s.setVm vm0) hZ (hw _ (by decide +kernel)))) (mvT (s := s.setVm vm0) hZ (hw _ (by decide +kernel))) (mvT (s := s.setVm vm0) hZ (hw _ (by decide +kernel))) (by decide)
    (StrChars.Road.lenW (s := s.setVm vm0) hZ wl wi S.1 q1 S.2.1 q2 q3 S.2.2.2.1.lit (Sc.ext w2) hzc S.2.2.2.2 hf hl) qa qc (g := mkF m pc ls (.ref a :: rest)) rfl hsz (Steps.refl _) (argsL := []) (rest := rest) (lenOf (by decide : parseMethodDescriptor "()I" = some ⟨[], some .int⟩) rfl) rfl (by simpa using hW) hd (fun _ _ => ⟨rfl, rfl, hc, hs⟩)
  have W' := wd_kept (B := B) (ws := []) (L := []) w1 w2 w3 w4 hZ hown hS hk hC hN hH hF X' (by rw [e1]; exact Keep.refl _ _) (fun x q => nomatch q) (Fr.nil _) (by simpa using r1)
  simp only [Pt.cells, Pt.slots, Pt.U, Nat.add_zero] at W' r2 r3 e1
  rw [r2, r3, e1] at W'
  exact (K B.U W').tr st
theorem g_charAt (W : Wd p l e R s m args below meth c Z a0 EL own F T h k n) (hw : ∀ d ∈ tables_1, d.before a0 Z = true) (cst : Cst Z) (fst : Fst Z) {a : Addr} {cs : List Int32} (S : Str Z h a cs) {index : Nat} (v1 : (Jvm.Cond.methodLink own index (⟨"java/lang/String", "charAt", "(I)C"⟩ : MethodName)).before a0 Z = true)
    {pc pc' : Nat} {ls : Array Slot} {rest : List Value} (hsz : ls.size = c.maxLocals) (hd : decode c.code pc = .ok (.invokevirtual index, 3)) (hp : pc + 3 = pc') {Wn : Nat} (hW : (rest.map fun v => v.category).sum ≤ Wn) (hf : 4 ≤ R.frames) (hl : Wn + 53 ≤ R.locals) (hc : k ≤ R.cells) (hs : n ≤ R.slots) {j : Int32} {i : Nat} (hj : j = Int32.ofNat i) (hi : i < cs.length)
    (K : ∀ T', Wd p l e R s m args below meth c Z a0 EL own F T' h k n → Go p e below P T' (mkF m pc' ls (.int (cs.getD i 0) :: rest))) : Go p e below P T (mkF m pc ls (.int j :: .ref a :: rest)) := by
  subst hp
  obtain ⟨zc, Sc, hzc⟩ := cst
  obtain ⟨fm, Sf, rf⟩ := fst
  have wl : ∀ d ∈ StrChars.Road.wordsChN, d.before a0 Z = true := fun d hd => hw d ((by decide +kernel : ∀ d ∈ StrChars.Road.wordsChN, d ∈ tables_1) d hd)
  have wi : (Jvm.Cond.instantiable "java/lang/String" 4).before a0 Z = true := hw _ (by decide +kernel)
  obtain ⟨t, kb, q1, q2, q3⟩ := S.cod
  obtain ⟨w1, w2, w3, w4, vm0, k0, locs, X, hZ, hown, rfl, hS, hk, hC, hN, hH, hF⟩ := W
  obtain ⟨cq, kq, qa, qb, qc⟩ := isOf (s := s.setVm vm0) hZ rfl S.1
  obtain ⟨v, vm1, B, hw1, X', ⟨L, ⟨rfl, rfl, e1⟩, r1, r2, r3⟩, st⟩ := X.virtualBack w1 (own := own) (y := (⟨"java/lang/String", "charAt", "(I)C"⟩ : MethodName)) (z := (⟨"java/lang/String", "charAt", "(I)C"⟩ : MethodName)) hown (mvT (s := s.setVm vm0) hZ v1) (mvT (s := s.setVm vm0) hZ (hw _ (by decide +kernel))) (notFace_of_selects (C := "java/lang/String") (y := (⟨"java/lang/String", "charAt", "(I)C"⟩ : MethodName)) (args := #[]) (mvT (s := s.setVm vm0) hZ (hw _ (by decide +kernel)))) (mvT (s := s.setVm vm0) hZ (hw _ (by decide +kernel))) (mvT (s := s.setVm vm0) hZ (hw _ (by decide +kernel))) (by decide)
    (StrChars.Road.chN (s := s.setVm vm0) hZ wl wi S.1 q1 S.2.1 q2 q3 S.2.2.2.1.lit (Sc.ext w2) hzc (Sf.ext w2) rf S.2.2.2.2 hi hj hf hl) qa qc (g := mkF m pc ls (.int j :: .ref a :: rest)) rfl hsz (Steps.refl _) (argsL := [.int j]) (rest := rest) (lenOf (by decide : parseMethodDescriptor "(I)C" = some ⟨[.int], some .char⟩) rfl) rfl (by simpa using hW) hd (fun _ _ => ⟨rfl, rfl, hc, hs⟩)
  have W' := wd_kept (B := B) (ws := []) (L := []) w1 w2 w3 w4 hZ hown hS hk hC hN hH hF X' (by rw [e1]; exact Keep.refl _ _) (fun x q => nomatch q) (Fr.nil _) (by simpa using r1)
  simp only [Pt.cells, Pt.slots, Pt.U, Nat.add_zero] at W' r2 r3 e1
  rw [r2, r3, e1] at W'
  exact (K B.U W').tr st
theorem g_initS (W : Wd p l e R s m args below meth c Z a0 EL own F T h k n) (hw : ∀ d ∈ tables_1, d.before a0 Z = true) (cst : Cst Z) {x b : Addr} {cs : List Int32} (S : NewS Z F h x) (A : Ali Z h b .char (cs.map Value.int)) (hL : Latin cs) (l0 : 0 < cs.length) (l1 : cs.length ≤ 4000) {index : Nat}
    (v1 : (Jvm.Cond.methodLink own index (⟨"java/lang/String", "<init>", "([C)V"⟩ : MethodName)).before a0 Z = true)
    {pc pc' : Nat} {ls : Array Slot} {rest : List Value} (hsz : ls.size = c.maxLocals) (hd : decode c.code pc = .ok (.invokespecial index, 3)) (hp : pc + 3 = pc') {Wn : Nat} (hW : (rest.map fun v => v.category).sum ≤ Wn) (hf : 4 ≤ R.frames) (hl : Wn + 65 ≤ R.locals) (hc : k + 1 ≤ R.cells) {nn : Nat} (hnn : cs.length ≤ nn) (hs : n + nn ≤ R.slots)
    (K : ∀ T' h', Wd p l e R s m args below meth c Z a0 EL own F T' h' (k + 1) (n + nn) → Keep h h' [x] → Str Z h' x cs → Go p e below P T' (mkF m pc' ls rest)) : Go p e below P T (mkF m pc ls (.ref b :: .ref x :: rest)) := by
  subst hp
  obtain ⟨zc, Sc, hzc⟩ := cst
  have wl : ∀ d ∈ StrChars.Road.words, d.before a0 Z = true := fun d hd => hw d ((by decide +kernel : ∀ d ∈ StrChars.Road.words, d ∈ tables_1) d hd)
  have wi : (Jvm.Cond.instantiable "java/lang/String" 4).before a0 Z = true := hw _ (by decide +kernel)
  have wcode : (Jvm.Cond.code (⟨"java/lang/String", "<init>", "([C)V"⟩ : MethodName) StrChars.New1.yB 2 none).before a0 Z = true := hw _ (by decide +kernel)
  obtain ⟨s1, s2, s3, ⟨v0, s4⟩, ⟨u0, s5⟩⟩ := S
  obtain ⟨kC, A1⟩ := A.arv (d := .int 0) (z := Int32.ofNat cs.length) (fun v hv => by
    obtain ⟨y, hy, rfl⟩ := List.mem_map.mp hv
    exact fits_chr (hL.lit y hy).1 (hL.lit y hy).2) (by simp)
  obtain ⟨w1, w2, w3, w4, vm0, k0, locs, X, hZ, hown, rfl, hS, hk, hC, hN, hH, hF⟩ := W
  obtain ⟨v, vm1, B, hw1, X', ⟨L, ⟨rfl, f1, f2, f3, f4, t, kb, -, -, -, f5, f6⟩, r1, r2, r3⟩, st⟩ := X.specialBack w1 (own := own) (y := (⟨"java/lang/String", "<init>", "([C)V"⟩ : MethodName)) rfl hown (mvT (s := s.setVm vm0) hZ v1) (mvT (s := s.setVm vm0) hZ (hw _ (by decide +kernel))) (mvT (s := s.setVm vm0) hZ wcode) (by decide)
    (StrChars.Road.backV (s := s.setVm vm0) hZ wl wi s1 w2.1 s3 s4 s5 A1 (Sc.ext w2) hzc rfl rfl l0 l1 hL rfl hf hl) (g := mkF m pc ls (.ref b :: .ref x :: rest)) rfl hsz (Steps.refl _) (a := x) (argsL := [.ref b]) (rest := rest) (lenOf (by decide : parseMethodDescriptor "([C)V" = some ⟨[.array .char], none⟩) rfl) rfl (by simpa using hW) hd (fun _ _ => ⟨rfl, rfl, hc, Nat.le_trans (Nat.add_le_add_left hnn _) hs⟩)
  have W' := wd_kept (B := B) (ws := [x]) (L := L) w1 w2 w3 w4 hZ hown hS hk hC hN hH hF X' f2 (fun y q => by cases List.mem_singleton.mp q; exact ⟨s1, Or.inl s2⟩) f1 r1
  simp only [Pt.cells, Pt.slots, Pt.U] at W' r2 r3
  rw [r2, r3] at W'
  refine (K B.U _ (W'.more (Nat.le_refl _) (Nat.add_le_add_left hnn _)) f2 ⟨f3, f4, ⟨t, f5, Ali.of_arv (vs := (cs.map lo).map Value.int) f6 ?_⟩, hL, l1⟩).tr st
  rw [own_n32 (by omega)]
  simp
end OwnE
/-! own kit, part F: small facts -/
section OwnF
variable {p : Program} {e : Env} {below : List Frame} {P : Outcome → State → Prop} {T : State} {Z : State} {a0 : Array Value}
theorem Go.cast {g g' : JFrame} (q : g = g') (K : Go p e below P T g') : Go p e below P T g := q ▸ K
/-- a char below 256 -/
def Lc (x : Int32) : Prop := ¬ x < 0 ∧ ¬ (255 : Int32) < x
theorem Lc.w {x : Int32} (q : Lc x) : ¬ (65535 : Int32) < x := ((Latin.cons q.1 q.2 Latin.nil).lit x (List.mem_cons_self ..)).2
theorem Lc.mask (x : Int32) : Lc (x &&& 255) := by
  have q := c_and x 255 (by decide)
  have e1 : (255 : Int32).toInt = 255 := rfl
  have e0 : (0 : Int32).toInt = 0 := rfl
  constructor
  · rw [Int32.lt_iff_toInt_lt]; omega
  · rw [Int32.lt_iff_toInt_lt]; omega
theorem nar_char {x : Int32} (h0 : ¬ x < 0) (h1 : ¬ 65535 < x) : x.toUInt32.toUInt16.toUInt32.toInt32 = x := by
  have := c_i2c x
  apply Int32.toInt_inj.mp
  rw [Int32.lt_iff_toInt_lt] at h0 h1
  have e0 : (0 : Int32).toInt = 0 := rfl
  have e1 : (65535 : Int32).toInt = 65535 := rfl
  omega
theorem Lc.i2c {x : Int32} (q : Lc x) : x.toUInt32.toUInt16.toUInt32.toInt32 = x := nar_char q.1 q.w
theorem Lc.nar {x : Int32} (q : Lc x) : narrow .char (.int x) = .int x := by
  show Value.int (Jvm.RoadKit.nar .char x) = _
  rw [show Jvm.RoadKit.nar .char x = x from q.i2c]
theorem Lc.l2i (y : Int64) : Lc (y &&& 255).toInt32 := by
  have a := c_maskL y 255 8 (by decide) (by decide)
  have b := c_l2i (y &&& 255)
  have r := rng32 (y &&& 255).toInt32
  have e0 : (0 : Int32).toInt = 0 := rfl
  have e1 : (255 : Int32).toInt = 255 := rfl
  constructor
  · rw [Int32.lt_iff_toInt_lt]; omega
  · rw [Int32.lt_iff_toInt_lt]; omega
theorem lt_nat {i : Int32} {n : Nat} (h0 : ¬ i < 0) (hn : n < 2 ^ 31) (h : i < Int32.ofNat n) : i.toNatClampNeg < n := by
  rw [Int32.lt_iff_toInt_lt] at h h0
  rw [Int32.toInt_ofNat_small hn] at h
  have e0 : (0 : Int32).toInt = 0 := rfl
  simp only [Int32.toNatClampNeg]
  omega
theorem eq_nat {i : Int32} (h0 : ¬ i < 0) : i = Int32.ofNat i.toNatClampNeg := (back32 h0).1.symm
theorem Lc.zero : Lc 0 := ⟨by decide, by decide⟩
theorem Latin.get {cs : List Int32} (q : Latin cs) (i : Nat) : Lc (cs.getD i 0) := by
  rcases Nat.lt_or_ge i cs.length with h | h
  · have e : cs.getD i 0 = cs[i] := by simp [h]
    rw [e]; exact q _ (List.getElem_mem _)
  · have e : cs.getD i 0 = 0 := by simp [List.getElem?_eq_none h]
    rw [e]; exact Lc.zero
theorem Latin.set {cs : List Int32} (q : Latin cs) (i : Nat) {x : Int32} (hx : Lc x) : Latin (cs.set i x) := fun c hc => by
  rcases List.mem_or_eq_of_mem_set hc with h | rfl
  · exact q c h
  · exact hx
theorem Latin.con {x : Int32} {cs : List Int32} (q : Lc x) (r : Latin cs) : Latin (x :: cs) := Latin.cons q.1 q.2 r
theorem own_wS (hw : ∀ d ∈ tables_1, d.before a0 Z = true) : ∀ a ∈ Bundle.stringAtoms, a.before a0 Z = true := fun d hd => hw d ((by decide +kernel : ∀ d ∈ Bundle.stringAtoms, d ∈ tables_1) d hd)
theorem and3 (x : Int32) : x &&& 3 = 0 ∨ x &&& 3 = 1 ∨ x &&& 3 = 2 ∨ x &&& 3 = 3 := by
  have q := c_and x 3 (by decide)
  have e3 : (3 : Int32).toInt = 3 := rfl
  have e2 : (2 : Int32).toInt = 2 := rfl
  have e1 : (1 : Int32).toInt = 1 := rfl
  have e0 : (0 : Int32).toInt = 0 := rfl
  simp only [← Int32.toInt_inj]
  omega
end OwnF
/-! own kit, part H: private and super calls, System.arraycopy over bytes -/
section OwnH
variable {p : Program} {l : Launch} {e : Env} {R : Room} {s : State} {m : MethodId} {args : Array Value} {below : List Frame} {meth : Method} {c : Code} {T T' : State} {h h' : Heap} {Z : State} {a0 : Array Value} {EL : List (String × Nat)} {own : String} {k n : Nat} {P : Outcome → State → Prop} {F : List Addr}
theorem decl_of {y : MethodName} {bytes : ByteArray} {maxL : Nat} {ret : Option FieldType} (w1 : (Jvm.Cond.instanceMethod y).before args s = true) (w2 : (Jvm.Cond.code y bytes maxL ret).before args s = true) : (Jvm.Cond.declares y).before args s = true := by
  obtain ⟨mk, mM, h1, h2, h3, h4⟩ := Cond.instanceMethod_spec w1
  obtain ⟨m2, cM, q1, -, -, -, -, -, -, q2⟩ := Cond.code_spec h1 w2
  cases h2.symm.trans q1
  simp [Cond.before, Cond.holds, Cond.value, h1, h2, h3, q2]
theorem same_of {y : MethodName} (w1 : (Jvm.Cond.instanceMethod y).before args s = true) (hn : NotFace s y) (hy : y.cls ≠ "java/lang/invoke/MethodHandle" ∧ y.cls ≠ "java/lang/invoke/VarHandle") : (Jvm.Cond.sameMethod y.cls y.cls y.name y.desc).before args s = true := by
  obtain ⟨mk, mM, h1, h2, h3, h4⟩ := Cond.instanceMethod_spec w1
  obtain ⟨kr, h5, h6⟩ := hn mk h1
  have h7 := findClass_of_methodNamed h1
  have h8 := State.methodFound?_of_named h1 hy
  have h9 : s.methodNamed? ⟨y.cls, y.name, y.desc⟩ = some mk := h1
  simp [Cond.before, Cond.holds, Cond.value, h7, h8, h9, h5, h6]
theorem g_superF (W : Wd p l e R s m args below meth c Z a0 EL own F T h k n) {F' : List Addr} {y : MethodName} {bytes : ByteArray} {maxL : Nat} {ret : Option FieldType} {rm : Room} {as' : Array Value} {Q : Value → Heap → List Addr → Prop} (hM : Met l Z EL F' y bytes maxL ret rm as' h (RetF Q)) (hF' : ∀ x ∈ F', x ∈ F) {index : Nat}
    (v1 : (Jvm.Cond.methodLink own index y).before a0 Z = true) (v2 : (Jvm.Cond.instanceMethod y).before a0 Z = true) (v5 : (Jvm.Cond.superclass own y.cls).before a0 Z = true) (v3 : (Jvm.Cond.initialized y.cls).before a0 Z = true) (v4 : (Jvm.Cond.code y bytes maxL ret).before a0 Z = true) (hy : y.cls ≠ "java/lang/invoke/MethodHandle" ∧ y.cls ≠ "java/lang/invoke/VarHandle") (hni : y.name ≠ "<init>")
    {ps : List FieldType} {rt : Option FieldType} (pd : parseMethodDescriptor y.desc = some ⟨ps, rt⟩) (hnf : ∃ C' y', y'.cls = y.cls ∧ (Jvm.Cond.selects C' y' y').before a0 Z = true) {a : Addr} {K0 : String} (I : Ins Z h a K0 true) {argsL : List Value} (has : (.ref a :: argsL).toArray = as') (hal : argsL.length = ps.length) {pc pc' : Nat} {ls : Array Slot} {st rest : List Value} (hst : st = argsL.reverse ++ .ref a :: rest) (hsz : ls.size = c.maxLocals)
    (hd : decode c.code pc = .ok (.invokespecial index, 3)) (hp : pc + 3 = pc') {Wn : Nat} (hW : (rest.map fun v => v.category).sum ≤ Wn) (hf : rm.frames + 1 ≤ R.frames) (hl : Wn + (maxL + 11) + rm.locals ≤ R.locals) (hc : k + rm.cells ≤ R.cells) (hs : n + rm.slots ≤ R.slots)
    (K : ∀ v T' h' FF, Wd p l e R s m args below meth c Z a0 EL own (FF ++ F) T' h' (k + rm.cells) (n + rm.slots) → h.size ≤ h'.size → Q v h' FF → Go p e below P T' (mkF m pc' ls (v :: rest))) : Go p e below P T (mkF m pc ls st) := by
  subst hp hst has
  obtain ⟨C', y', hyc, hyw⟩ := hnf
  obtain ⟨w1, w2, w3, w4, vm0, k0, locs, X, hZ, hown, eT, hS, hk, hC, hN, hH, hF⟩ := W
  obtain ⟨v, vm1, B, hw1, X', hS', hg, ⟨L, FF, ⟨q1, q2, q3, q4⟩, r1, r2, r3, r4, r5⟩, st⟩ := superBackS X w1 (own := own) hZ hown v1 (same_of v2 (nf_cls hyc hyw) hy) v2 v5 hni (Met.back hM hZ v4 v3 hf hl w3 hC.1 (fun x q => hF x (hF' x q))) eT I (g := mkF m pc ls (argsL.reverse ++ .ref a :: rest)) rfl hsz v4 (argsL := argsL) (rest := rest) (lenOf pd hal) rfl (by simpa using hW) hd (fun _ _ => ⟨rfl, eT, hc, hs⟩)
  rw [eT] at hg
  have W' := wd_after (B := B) w1 w3 w4 hZ hown hS hk hC hN hF X' hS' hg q2 q3 r1 r4 hH r5 q4
  simp only [Pt.cells, Pt.slots] at W' r2 r3
  rw [r2, r3] at W'
  obtain ⟨w, rfl, q1⟩ := q1
  exact (K w B.U _ FF W' hg q1).tr st
theorem g_virtV (W : Wd p l e R s m args below meth c Z a0 EL own F T h k n) {F' : List Addr} {y z : MethodName} {C : String} {bytes : ByteArray} {maxL : Nat} {ret : Option FieldType} {rm : Room} {as' : Array Value} {Q : Heap → Prop} (hM : Met l Z EL F' z bytes maxL ret rm as' h (Void Q)) (hF' : ∀ x ∈ F', x ∈ F) (hyz : ∃ C' y', y'.cls = y.cls ∧ (Jvm.Cond.selects C' y' y').before a0 Z = true) {index : Nat}
    (v1 : (Jvm.Cond.methodLink own index y).before a0 Z = true) (v2 : (Jvm.Cond.declares y).before a0 Z = true) (v5 : (Jvm.Cond.selects C y z).before a0 Z = true) (v6 : (Jvm.Cond.instanceMethod z).before a0 Z = true) (v3 : (Jvm.Cond.initialized z.cls).before a0 Z = true) (v4 : (Jvm.Cond.code z bytes maxL ret).before a0 Z = true) (hy : y.cls ≠ "java/lang/invoke/MethodHandle" ∧ y.cls ≠ "java/lang/invoke/VarHandle")
    {ps : List FieldType} {rt : Option FieldType} (pd : parseMethodDescriptor y.desc = some ⟨ps, rt⟩) {a : Addr} (E : Exa Z h a C) {argsL : List Value} (has : (.ref a :: argsL).toArray = as') (hal : argsL.length = ps.length) {pc pc' : Nat} {ls : Array Slot} {st rest : List Value} (hst : st = argsL.reverse ++ .ref a :: rest) (hsz : ls.size = c.maxLocals)
    (hd : decode c.code pc = .ok (.invokevirtual index, 3)) (hp : pc + 3 = pc') {Wn : Nat} (hW : (rest.map fun v => v.category).sum ≤ Wn) (hf : rm.frames + 1 ≤ R.frames) (hl : Wn + (maxL + 11) + rm.locals ≤ R.locals) (hc : k + rm.cells ≤ R.cells) (hs : n + rm.slots ≤ R.slots)
    (K : ∀ T' h', Wd p l e R s m args below meth c Z a0 EL own F T' h' (k + rm.cells) (n + rm.slots) → h.size ≤ h'.size → Q h' → Go p e below P T' (mkF m pc' ls rest)) : Go p e below P T (mkF m pc ls st) :=
  g_virtO W hM hF' hyz v1 v2 v5 v6 v3 v4 hy pd E has hal hst hsz hd hp hW hf hl hc hs fun v T' h' FF W' hg q => by
    obtain ⟨rfl, q⟩ := q
    exact K T' h' (W'.drop fun x z => List.mem_append.mpr (Or.inr z)) hg q
theorem g_callSV (W : Wd p l e R s m args below meth c Z a0 EL own F T h k n) {F' : List Addr} {y : MethodName} {bytes : ByteArray} {maxL : Nat} {ret : Option FieldType} {rm : Room} {as' : Array Value} {Q : Heap → Prop} (hM : Met l Z EL F' y bytes maxL ret rm as' h (Void Q)) (hF' : ∀ x ∈ F', x ∈ F) {index : Nat}
    (v1 : (Jvm.Cond.methodLink own index y).before a0 Z = true) (v2 : (Jvm.Cond.static y).before a0 Z = true) (v3 : (Jvm.Cond.initialized y.cls).before a0 Z = true) (v4 : (Jvm.Cond.code y bytes maxL ret).before a0 Z = true) (hy : y.cls ≠ "java/lang/invoke/MethodHandle" ∧ y.cls ≠ "java/lang/invoke/VarHandle")
    {ps : List FieldType} {rt : Option FieldType} (pd : parseMethodDescriptor y.desc = some ⟨ps, rt⟩) {argsL : List Value} (has : argsL.toArray = as') (hal : argsL.length = ps.length) {pc pc' : Nat} {ls : Array Slot} {st rest : List Value} (hst : st = argsL.reverse ++ rest) (hsz : ls.size = c.maxLocals)
    (hd : decode c.code pc = .ok (.invokestatic index, 3)) (hp : pc + 3 = pc') {Wn : Nat} (hW : (rest.map fun v => v.category).sum ≤ Wn) (hf : rm.frames + 1 ≤ R.frames) (hl : Wn + (maxL + 11) + rm.locals ≤ R.locals) (hc : k + rm.cells ≤ R.cells) (hs : n + rm.slots ≤ R.slots)
    (K : ∀ T' h', Wd p l e R s m args below meth c Z a0 EL own F T' h' (k + rm.cells) (n + rm.slots) → h.size ≤ h'.size → Q h' → Go p e below P T' (mkF m pc' ls rest)) : Go p e below P T (mkF m pc ls st) :=
  g_callSO W hM hF' v1 v2 v3 v4 hy pd has hal hst hsz hd hp hW hf hl hc hs fun v T' h' FF W' hg q => by
    obtain ⟨rfl, q⟩ := q
    exact K T' h' (W'.drop fun x z => List.mem_append.mpr (Or.inr z)) hg q
theorem Met.introP {ws : List Jvm.Cond} {y : MethodName} {bytes : ByteArray} {maxL : Nat} {ret : Option FieldType} {rm : Room} {as' : Array Value} {Q : Option Value → Heap → List Addr → Prop} (pn : plainFor y = true) (hEL : EW Z a0 EL) (hO : Ext Z.heap h)
    (body : ∀ (p : Program) (e : Env) (s : State) (m : MethodId) (below : List Frame) (meth : Method) (c : Code) (T : State), Wd p l e rm s m as' below meth c Z a0 EL y.cls F T h 0 0 → c.code = bytes → c.maxLocals = maxL → meth.sig.returnType = ret → meth.name = y.name →
      Go p e below (Endp Z EL s Q rm.cells rm.slots) T (entryFrame m as' maxL)) : MetW ws l Z EL F y bytes maxL ret rm as' h Q := by
  refine MetFree.of_bodySF pn hisR ?_
  intro p e s m args below meth c s₁ Bd hml0 hP hK
  obtain ⟨rfl, hZ, hh, hC, hF⟩ := hP
  have hown : s.vm.findClass y.cls = some m.cls := findClass_of_methodNamed Bd.named
  have hnm := (name_of_methodNamed Bd.named Bd.method).1
  have X0 : Stand p l e rm s m args below meth c s₁ [] 0 0 := Stand.of_body Bd
  have e0 : s₁.heap = h := by rw [← hh, Bd.state]; rfl
  exact body p e s m below meth c s₁ ⟨Bd.exec, hO, hEL, Bd.notSynchronized, s.vm, h.size, [], X0, hZ, hown, e0, State.WarmedH.since (State.WarmedH.refl s) _, Nat.le_refl _, by rw [hh]; exact CHr.refl hC, Fr.nil _, fun _ => State.WarmedH.refl s, hF⟩ Bd.bytes hml0 Bd.returns hnm
/-- bytes -/
def Bys (bs : List Int32) : Prop := ∀ b ∈ bs, fits .byte (.int b) = true
theorem Bys.lo (cs : List Int32) : Bys (cs.map lo) := fun b hb => by
  obtain ⟨x, -, rfl⟩ := List.mem_map.mp hb
  exact fits_lo x
theorem Bys.rep (n : Nat) : Bys (List.replicate n 0) := fun b hb => by rw [(List.mem_replicate.mp hb).2]; rfl
theorem Bys.app {x y : List Int32} (hx : Bys x) (hy : Bys y) : Bys (x ++ y) := fun b hb => (List.mem_append.mp hb).elim (hx b) (hy b)
theorem Bys.take {x : List Int32} (hx : Bys x) (n : Nat) : Bys (x.take n) := fun b hb => hx b (List.mem_of_mem_take hb)
theorem Bys.drop {x : List Int32} (hx : Bys x) (n : Nat) : Bys (x.drop n) := fun b hb => hx b (List.mem_of_mem_drop hb)
theorem Bys.set {x : List Int32} (hx : Bys x) (i : Nat) {v : Int32} (hv : fits .byte (.int v) = true) : Bys (x.set i v) := fun b hb => by
  rcases List.mem_or_eq_of_mem_set hb with r | rfl
  · exact hx b r
  · exact hv
theorem g_arraycopy (W : Wd p l e R s m args below meth c Z a0 EL own F T h k n) {pc pc' : Nat} {ls : Array Slot} {rest : List Value} {a b : Addr} {us vs : List Int32} (A : Ali Z h a .byte (us.map Value.int)) (B : Ali Z h b .byte (vs.map Value.int)) (hA : Bys us) (hB : Bys vs) (hbz : Z.heap.size ≤ b) (hbF : b ∈ F) {index : Nat}
    (v1 : (Jvm.Cond.methodLink own index Jvm.Stand.acN).before a0 Z = true) (v2 : (Jvm.Cond.native Jvm.Stand.acN).before a0 Z = true) (v3 : (Jvm.Cond.static Jvm.Stand.acN).before a0 Z = true) (v4 : (Jvm.Cond.initialized "java/lang/System").before a0 Z = true)
    {sp dp nn : Int32} {i j t : Nat} (h1 : ¬ sp < 0) (h2 : ¬ dp < 0) (h3 : ¬ nn < 0) (e1 : sp.toNatClampNeg = i) (e2 : dp.toNatClampNeg = j) (e3 : nn.toNatClampNeg = t) (h4 : i + t ≤ us.length) (h5 : j + t ≤ vs.length)
    (hsz : ls.size = c.maxLocals) (hd : decode c.code pc = .ok (.invokestatic index, 3)) (hp : pc + 3 = pc') (hf : 1 ≤ R.frames) {Wn : Nat} (hW : (rest.map fun v => v.category).sum ≤ Wn) (hl : Wn + (nativeFrameWords "java/lang/System" "arraycopy" 5 + 11) ≤ R.locals)
    (K : ∀ T' h', Wd p l e R s m args below meth c Z a0 EL own F T' h' k n → Keep h h' [b] → Ali Z h' b .byte ((vs.take j ++ (us.drop i).take t ++ vs.drop (j + t)).map Value.int) → Go p e below P T' (mkF m pc' ls rest)) : Go p e below P T (mkF m pc ls (.int nn :: .int dp :: .ref b :: .int sp :: .ref a :: rest)) := by
  subst hp e1 e2 e3
  have la : us.length < 2 ^ 31 := by obtain ⟨_, _, _, q⟩ := A; simpa using q
  have lb : vs.length < 2 ^ 31 := by obtain ⟨_, _, _, q⟩ := B; simpa using q
  obtain ⟨kA, A1⟩ := A.arv (d := .int 0) (z := Int32.ofNat us.length) (fun v hv => by obtain ⟨y, hy, rfl⟩ := List.mem_map.mp hv; exact hA y hy) (by simp)
  obtain ⟨kB, B1⟩ := B.arv (d := .int 0) (z := Int32.ofNat vs.length) (fun v hv => by obtain ⟨y, hy, rfl⟩ := List.mem_map.mp hv; exact hB y hy) (by simp)
  obtain ⟨w1, w2, w3, w4, vm0, k0, locs, X, hZ, hown, eT, hS, hk, hC, hN, hH, hF⟩ := W
  have hus : ((us.drop sp.toNatClampNeg).take nn.toNatClampNeg).map Value.int = (List.range nn.toNatClampNeg).map fun i => (us.map Value.int).getD (sp.toNatClampNeg + i) (.int 0) := by
    apply List.ext_getElem?
    intro q
    rcases Nat.lt_or_ge q nn.toNatClampNeg with r | r
    · have r2 : sp.toNatClampNeg + q < us.length := by omega
      simp [r, r2, List.getElem?_take, List.getElem?_drop]
    · rw [List.getElem?_eq_none (by simp; omega), List.getElem?_eq_none (by simpa using r)]
  obtain ⟨T', h', L, X', eT', hNL, Kp, B2, st⟩ := cpA X w1 hZ hown v1 v2 v3 v4 eT A1 B1 (Or.inl ⟨rfl, rfl⟩) h1 h2 h3 (by rw [own_n32 la]; exact h4) (by rw [own_n32 lb]; exact h5) hus (by simpa using h5) hN hbz (g := mkF m pc ls (.int nn :: .int dp :: .ref b :: .int sp :: .ref a :: rest)) rfl hsz rfl hd hf (by simpa using hW) hl
  have hq : ∀ x ∈ [b], Wok Z F h x := fun x q => by cases List.mem_singleton.mp q; exact ⟨hbz, Or.inl hbF⟩
  have hs : ∀ x ∈ [b], Safe Z EL vm0 h x := fun x q => Wd.safeOf hZ.alike hF (hq x q)
  refine (K T' h' ⟨w1, ext_old_keep w2 Kp (fun x q => (hq x q).1), w3, w4, vm0, k0, L, X', hZ, hown, eT', hS, Nat.le_trans hk Kp.1, hC.trans (CHr.keep Kp hs hC.1), hNL, hH, fun x r => ⟨Nat.lt_of_lt_of_le (hF x r).1 Kp.1, Safe.keep Kp hs hC.1 (hF x r).2⟩⟩ Kp ?_).st st
  have q := Ali.of_arv B2 (by
    rw [own_n32 lb]
    simp only [List.length_append, List.length_take, List.length_drop, List.length_map]
    omega)
  simpa [List.map_take, List.map_drop] using q
end OwnH
theorem pnS : plainName "java/lang/String" = true := by first | (simp [plainName, overriddenIn]; done) | decide +kernel
/-! String.valueOf(char), a char below 256 -/
theorem ce_0 : decode jdk_43_method_3_code 0 = .ok (.iload_n 0, 1) := by decide +kernel
theorem ce_1 : decode jdk_43_method_3_code 1 = .ok (.sipush 255, 3) := by decide +kernel
theorem ce_4 : decode jdk_43_method_3_code 4 = .ok (.if_icmp .gt 7, 3) := by decide +kernel
theorem ce_7 : decode jdk_43_method_3_code 7 = .ok (.iconst 1, 1) := by decide +kernel
theorem ce_8 : decode jdk_43_method_3_code 8 = .ok (.goto 4, 3) := by decide +kernel
theorem ce_11 : decode jdk_43_method_3_code 11 = .ok (.iconst 0, 1) := by decide +kernel
theorem ce_12 : decode jdk_43_method_3_code 12 = .ok (.ireturn, 1) := by decide +kernel
theorem efCe (m : MethodId) (x0 : Int32) : entryFrame m #[.int x0] 1 = mkF m 0 #[.val (.int x0)] [] := by first | (simp [entryFrame, mkF, argsToLocals, Value.category, maxLocals]; done) | rfl
theorem pnL1 : plainName "java/lang/StringLatin1" = true := by first | (simp [plainName, overriddenIn]; done) | decide +kernel
set_option maxRecDepth 65536 in
set_option maxHeartbeats 4000000 in
theorem t_canEncode (l : Launch) {Z : State} {a0 : Array Value} {EL : List (String × Nat)} (hEL : EW Z a0 EL) {h : Heap} (hO : Ext Z.heap h) {ch : Int32} (hc : Lc ch) :
    Met l Z EL [] (⟨"java/lang/StringLatin1", "canEncode", "(C)Z"⟩ : MethodName) jdk_43_method_3_code 1 (some .boolean) { frames := 0, cells := 0, slots := 0, locals := 0 } #[.int ch] h (Ret fun v h' => v = .int 1 ∧ h = h') := by
  refine Met.intro pnL1 hEL hO ?_
  intro p e s m below meth c T W hby hml hret hnm
  have D : ∀ {pc : Nat} {r}, decode jdk_43_method_3_code pc = r → decode c.code pc = r := fun q => hb hby q
  refine Go.cast (efCe m ch) ?_
  refine g_iloadN W (pc' := 1) (D ce_0) rfl rfl ?_
  refine g_sipush W (pc' := 4) (D ce_1) rfl (v := (255 : Int32)) (by decide) ?_
  refine g_icmpgtN W (pc1 := 11) (pc2 := 7) (D ce_4) (by decide) (by decide) rfl (hc.2) ?_
  refine g_iconst W (pc' := 8) (D ce_7) rfl (v := (1 : Int32)) (by decide) ?_
  refine g_goto W (pc' := 12) (D ce_8) (by decide) (by decide) ?_
  exact g_retz W (D ce_12) hret (Or.inr rfl) (by decide) (by decide) ⟨_, rfl, rfl, rfl⟩
theorem tb_0 : decode jdk_43_method_46_code 0 = .ok (.iconst 1, 1) := by decide +kernel
theorem tb_1 : decode jdk_43_method_46_code 1 = .ok (.newarray .byte, 2) := by decide +kernel
theorem tb_3 : decode jdk_43_method_46_code 3 = .ok (.dup, 1) := by decide +kernel
theorem tb_4 : decode jdk_43_method_46_code 4 = .ok (.iconst 0, 1) := by decide +kernel
theorem tb_5 : decode jdk_43_method_46_code 5 = .ok (.iload_n 0, 1) := by decide +kernel
theorem tb_6 : decode jdk_43_method_46_code 6 = .ok (.i2b, 1) := by decide +kernel
theorem tb_7 : decode jdk_43_method_46_code 7 = .ok (.bastore, 1) := by decide +kernel
theorem tb_8 : decode jdk_43_method_46_code 8 = .ok (.areturn, 1) := by decide +kernel
theorem efTb (m : MethodId) (x0 : Int32) : entryFrame m #[.int x0] 1 = mkF m 0 #[.val (.int x0)] [] := by first | (simp [entryFrame, mkF, argsToLocals, Value.category, maxLocals]; done) | rfl
set_option maxRecDepth 65536 in
set_option maxHeartbeats 4000000 in
theorem t_toBytes (l : Launch) {Z : State} {a0 : Array Value} {EL : List (String × Nat)} (hw : ∀ d ∈ tables_1, d.before a0 Z = true) (hEL : EW Z a0 EL) {h : Heap} (hO : Ext Z.heap h) {ch : Int32} :
    Met l Z EL [] (⟨"java/lang/StringLatin1", "toBytes", "(C)[B"⟩ : MethodName) jdk_43_method_46_code 1 (some (.array .byte)) { frames := 0, cells := 1, slots := 1, locals := 0 } #[.int ch] h (Ret fun v h' => ∃ b, v = .ref b ∧ h.size ≤ b ∧ Ext h h' ∧ Ali Z h' b .byte ([lo ch].map Value.int)) := by
  refine Met.intro pnL1 hEL hO ?_
  intro p e s m below meth c T W hby hml hret hnm
  have D : ∀ {pc : Nat} {r}, decode jdk_43_method_46_code pc = r → decode c.code pc = r := fun q => hb hby q
  refine Go.cast (efTb m ch) ?_
  refine g_iconst W (pc' := 1) (D tb_0) rfl (v := (1 : Int32)) (by decide) ?_
  refine g_newarray W (pc' := 3) (ty := .byte) rfl (i := 1) (by decide) (by decide) (hw _ (List.mem_of_getElem? (i := 23) rfl)) (D tb_1) rfl (cap := 1) (by decide) (by decide) (by decide) (by decide) (fun b T h1 hb0 W E A => ?_)
  replace A : Ali Z h1 b .byte ((List.replicate 1 (0 : Int32)).map Value.int) := A
  refine g_dup W (pc' := 4) (D tb_3) rfl rfl ?_
  refine g_iconst W (pc' := 5) (D tb_4) rfl (v := (0 : Int32)) (by decide) ?_
  refine g_iloadN W (pc' := 6) (D tb_5) rfl rfl ?_
  refine g_i2b W (pc' := 7) (D tb_6) rfl ?_
  refine g_bastore W (pc' := 8) (A) (Nat.le_trans hO.1 hb0) (List.mem_cons_self ..) (i := 0) (by decide) (by decide) (by decide) (D tb_7) rfl (fun T h2 W Kp A => ?_)
  refine g_areturn W (D tb_8) hret rfl rfl (by decide) (by decide) ⟨_, rfl, b, rfl, hb0, ?_, ?_⟩
  · exact keep_ext ((ext_keep E []).trans Kp (fun y q => Or.inr (by cases List.mem_singleton.mp q; exact hb0)))
  · have e : lo (lo ch) = lo ch := lo_lo ch
    rw [← e]
    exact A
theorem ib_0 : decode jdk_42_method_151_code 0 = .ok (.aload_n 0, 1) := by decide +kernel
theorem ib_1 : decode jdk_42_method_151_code 1 = .ok (.invokespecial 1, 3) := by decide +kernel
theorem ib_4 : decode jdk_42_method_151_code 4 = .ok (.aload_n 0, 1) := by decide +kernel
theorem ib_5 : decode jdk_42_method_151_code 5 = .ok (.aload_n 1, 1) := by decide +kernel
theorem ib_6 : decode jdk_42_method_151_code 6 = .ok (.putfield 9, 3) := by decide +kernel
theorem ib_9 : decode jdk_42_method_151_code 9 = .ok (.aload_n 0, 1) := by decide +kernel
theorem ib_10 : decode jdk_42_method_151_code 10 = .ok (.iload_n 2, 1) := by decide +kernel
theorem ib_11 : decode jdk_42_method_151_code 11 = .ok (.putfield 15, 3) := by decide +kernel
theorem ib_14 : decode jdk_42_method_151_code 14 = .ok (.return_, 1) := by decide +kernel
theorem efIb (m : MethodId) (x0 : Addr) (x1 : Addr) (x2 : Int32) : entryFrame m #[.ref x0, .ref x1, .int x2] 3 = mkF m 0 #[.val (.ref x0), .val (.ref x1), .val (.int x2)] [] := by first | (simp [entryFrame, mkF, argsToLocals, Value.category, maxLocals]; done) | rfl
set_option maxRecDepth 65536 in
set_option maxHeartbeats 4000000 in
theorem t_initBB (l : Launch) {Z : State} {a0 : Array Value} {EL : List (String × Nat)} (hw : ∀ d ∈ tables_1, d.before a0 Z = true) (hEL : EW Z a0 EL) {h : Heap} (hO : Ext Z.heap h) {x b : Addr} (S : NewS Z [x] h x) {cs : List Int32} (A : Ali Z h b .byte ((cs.map lo).map Value.int)) (hL : Latin cs) (hl : cs.length ≤ 4000) :
    Met l Z EL [x] (⟨"java/lang/String", "<init>", "([BB)V"⟩ : MethodName) jdk_42_method_151_code 3 none { frames := 1, cells := 0, slots := 0, locals := 12 } #[.ref x, .ref b, .int 0] h (Void fun h' => Keep h h' [x] ∧ Str Z h' x cs) := by
  refine Met.intro pnS hEL hO ?_
  intro p e s m below meth c T W hby hml hret hnm
  have D : ∀ {pc : Nat} {r}, decode jdk_42_method_151_code pc = r → decode c.code pc = r := fun q => hb hby q
  refine Go.cast (efIb m x b 0) ?_
  have wi : (Jvm.Cond.instantiable "java/lang/String" 4).before a0 Z = true := (hw _ (List.mem_of_getElem? (i := 5) rfl))
  obtain ⟨hx0, hxF, EX, ⟨v0, fv⟩, ⟨u0, fc⟩⟩ := S
  have sn : Jvm.RoadKit.slotOf Z "java/lang/String" "value" "[B" ≠ Jvm.RoadKit.slotOf Z "java/lang/String" "coder" "B" := slot_ne (C := "java/lang/String") (Or.inr (hw _ (List.mem_of_getElem? (i := 33) rfl))) (Or.inr (hw _ (List.mem_of_getElem? (i := 31) rfl))) (by decide) (t := .array .byte) (t' := .byte) (by decide) (by decide)
  refine g_aloadN W (pc' := 1) (D ib_0) rfl rfl (by first | rfl | assumption) ?_
  refine g_initO W (pc' := 4) (hw _ (List.mem_of_getElem? (i := 15) rfl)) (hw _ (List.mem_of_getElem? (i := 16) rfl)) (hw _ (List.mem_of_getElem? (i := 17) rfl)) (by rw [hml]; rfl) (D ib_1) rfl (by decide) (Wn := 0) (Nat.le_refl _) (by decide) (fun T W => ?_)
  refine g_aloadN W (pc' := 5) (D ib_4) rfl rfl (by first | rfl | assumption) ?_
  refine g_aloadN W (pc' := 6) (D ib_5) rfl rfl (by first | rfl | assumption) ?_
  refine g_putfield W (pc' := 9) (host := "") (Or.inl (hw _ (List.mem_of_getElem? (i := 32) rfl))) Via.refl (fv) (EX) (Or.inr ⟨(hw _ (List.mem_of_getElem? (i := 33) rfl)), rfl, hnm⟩) (hw _ (List.mem_of_getElem? (i := 5) rfl)) (ty := (.array .byte)) (by decide) rfl rfl (⟨hx0, Or.inl hxF⟩) (D ib_6) rfl (fun T h1 W Wr1 => ?_)
  have A2 := A.wr Wr1 (A.neE EX wi)
  have K1 : Keep h h1 [x] := Keep.of_wr Wr1
  replace fv := fv.same Wr1
  replace fc := fc.other Wr1 (Or.inr (Ne.symm sn))
  replace EX := EX.wr Wr1
  refine g_aloadN W (pc' := 10) (D ib_9) rfl rfl (by first | rfl | assumption) ?_
  refine g_iloadN W (pc' := 11) (D ib_10) rfl rfl ?_
  refine g_putfield W (pc' := 14) (host := "") (Or.inl (hw _ (List.mem_of_getElem? (i := 30) rfl))) Via.refl (fc) (EX) (Or.inr ⟨(hw _ (List.mem_of_getElem? (i := 31) rfl)), rfl, hnm⟩) (hw _ (List.mem_of_getElem? (i := 5) rfl)) (ty := .byte) (by decide) rfl rfl (⟨hx0, Or.inl hxF⟩) (D ib_11) rfl (fun T h2 W Wr2 => ?_)
  exact g_return W (D ib_14) hret (by decide) (by decide) ⟨rfl, K1.wr Wr2 (Or.inl (List.mem_singleton.mpr rfl)), EX.wr Wr2, fc.same Wr2, ⟨b, fv.other Wr2 (Or.inr sn), A2.wr Wr2 (A2.neE EX wi)⟩, hL, hl⟩
theorem vo_0 : decode jdk_42_method_139_code 0 = .ok (.getstatic 38, 3) := by decide +kernel
theorem vo_3 : decode jdk_42_method_139_code 3 = .ok (.ifCond .eq 23, 3) := by decide +kernel
theorem vo_6 : decode jdk_42_method_139_code 6 = .ok (.iload_n 0, 1) := by decide +kernel
theorem vo_7 : decode jdk_42_method_139_code 7 = .ok (.invokestatic 1015, 3) := by decide +kernel
theorem vo_10 : decode jdk_42_method_139_code 10 = .ok (.ifCond .eq 16, 3) := by decide +kernel
theorem vo_13 : decode jdk_42_method_139_code 13 = .ok (.new 10, 3) := by decide +kernel
theorem vo_16 : decode jdk_42_method_139_code 16 = .ok (.dup, 1) := by decide +kernel
theorem vo_17 : decode jdk_42_method_139_code 17 = .ok (.iload_n 0, 1) := by decide +kernel
theorem vo_18 : decode jdk_42_method_139_code 18 = .ok (.invokestatic 1018, 3) := by decide +kernel
theorem vo_21 : decode jdk_42_method_139_code 21 = .ok (.iconst 0, 1) := by decide +kernel
theorem vo_22 : decode jdk_42_method_139_code 22 = .ok (.invokespecial 209, 3) := by decide +kernel
theorem vo_25 : decode jdk_42_method_139_code 25 = .ok (.areturn, 1) := by decide +kernel
theorem vo_26 : decode jdk_42_method_139_code 26 = .ok (.new 10, 3) := by decide +kernel
theorem vo_29 : decode jdk_42_method_139_code 29 = .ok (.dup, 1) := by decide +kernel
theorem vo_30 : decode jdk_42_method_139_code 30 = .ok (.iload_n 0, 1) := by decide +kernel
theorem vo_31 : decode jdk_42_method_139_code 31 = .ok (.invokestatic 1021, 3) := by decide +kernel
theorem vo_34 : decode jdk_42_method_139_code 34 = .ok (.iconst 1, 1) := by decide +kernel
theorem vo_35 : decode jdk_42_method_139_code 35 = .ok (.invokespecial 209, 3) := by decide +kernel
theorem vo_38 : decode jdk_42_method_139_code 38 = .ok (.areturn, 1) := by decide +kernel
theorem efVo (m : MethodId) (x0 : Int32) : entryFrame m #[.int x0] 1 = mkF m 0 #[.val (.int x0)] [] := by first | (simp [entryFrame, mkF, argsToLocals, Value.category, maxLocals]; done) | rfl
set_option maxRecDepth 65536 in
set_option maxHeartbeats 4000000 in
theorem t_valueOf (l : Launch) {Z : State} {a0 : Array Value} {EL : List (String × Nat)} (hw : ∀ d ∈ tables_1, d.before a0 Z = true) (hEL : EW Z a0 EL) (cst : Cst Z) {h : Heap} (hO : Ext Z.heap h) {ch : Int32} (hc : Lc ch) :
    Met l Z EL [] (⟨"java/lang/String", "valueOf", "(C)Ljava/lang/String;"⟩ : MethodName) jdk_42_method_139_code 1 (some (.object "java/lang/String")) { frames := 2, cells := 2, slots := 5, locals := 30 } #[.int ch] h (Ret fun v h' => ∃ x, v = .ref x ∧ Ext h h' ∧ Str Z h' x [ch]) := by
  refine Met.intro pnS hEL hO ?_
  intro p e s m below meth c T W hby hml hret hnm
  have D : ∀ {pc : Nat} {r}, decode jdk_42_method_139_code pc = r → decode c.code pc = r := fun q => hb hby q
  refine Go.cast (efVo m ch) ?_
  have wi : (Jvm.Cond.instantiable "java/lang/String" 4).before a0 Z = true := (hw _ (List.mem_of_getElem? (i := 5) rfl))
  obtain ⟨zc, Sc, hzc⟩ := cst
  refine g_getstatic W (pc' := 3) (host := "") (Or.inl (hw _ (List.mem_of_getElem? (i := 18) rfl))) Via.refl (Sc.ext W.old) (D vo_0) rfl (fun T W => ?_)
  refine g_ifeqN W (pc1 := 26) (pc2 := 6) (D vo_3) (by decide) (by decide) rfl (hzc) ?_
  refine g_iloadN W (pc' := 7) (D vo_6) rfl rfl ?_
  refine g_callS W (t_canEncode l hEL W.old hc) (fun x q => nomatch q) (hw _ (List.mem_of_getElem? (i := 198) rfl)) (hw _ (List.mem_of_getElem? (i := 199) rfl)) (hw _ (List.mem_of_getElem? (i := 185) rfl)) (hw _ (List.mem_of_getElem? (i := 200) rfl)) (by decide) (by decide +kernel : parseMethodDescriptor "(C)Z" = some ⟨[.char], some .boolean⟩) (argsL := [_]) rfl rfl (pc' := 10) rfl (by rw [hml]; rfl) (D vo_7) rfl (Wn := 0) (Nat.le_refl _) (by decide) (by decide) (by decide) (by decide) (fun v T h1 W hg hQ => ?_)
  obtain ⟨rfl, rfl⟩ := hQ
  refine g_ifeqN W (pc1 := 26) (pc2 := 13) (D vo_10) (by decide) (by decide) rfl (by decide) ?_
  refine g_newS W (pc' := 16) (hw _ (List.mem_of_getElem? (i := 201) rfl)) wi (hw _ (List.mem_of_getElem? (i := 6) rfl)) (hw _ (List.mem_of_getElem? (i := 33) rfl)) (hw _ (List.mem_of_getElem? (i := 31) rfl)) (D vo_13) rfl (by decide) (by decide) (fun x T h1 hx W E1 N => ?_)
  refine g_dup W (pc' := 17) (D vo_16) rfl rfl ?_
  refine g_iloadN W (pc' := 18) (D vo_17) rfl rfl ?_
  refine g_callS W (t_toBytes l hw hEL W.old (ch := ch)) (fun x q => nomatch q) (hw _ (List.mem_of_getElem? (i := 202) rfl)) (hw _ (List.mem_of_getElem? (i := 203) rfl)) (hw _ (List.mem_of_getElem? (i := 185) rfl)) (hw _ (List.mem_of_getElem? (i := 204) rfl)) (by decide) (by decide +kernel : parseMethodDescriptor "(C)[B" = some ⟨[.char], some (.array .byte)⟩) (argsL := [_]) rfl rfl (pc' := 21) rfl (by rw [hml]; rfl) (D vo_18) rfl (Wn := 2) (Nat.le_refl _) (by decide) (by decide) (by decide) (by decide) (fun v T h2 W hg hQ => ?_)
  obtain ⟨b, rfl, hb0, E2, A⟩ := hQ
  refine g_iconst W (pc' := 22) (D vo_21) rfl (v := (0 : Int32)) (by decide) ?_
  refine g_spec W (t_initBB l hw hEL W.old ((N.mem (fun y q => q)).ext E2) (cs := [ch]) A (Latin.con hc Latin.nil) (by show 1 ≤ 4000; decide)) (fun y q => q) rfl (hw _ (List.mem_of_getElem? (i := 205) rfl)) (hw _ (List.mem_of_getElem? (i := 206) rfl)) (hw _ (List.mem_of_getElem? (i := 6) rfl)) (hw _ (List.mem_of_getElem? (i := 207) rfl)) (by decide) (by decide +kernel : parseMethodDescriptor "([BB)V" = some ⟨[(.array .byte), .byte], none⟩) (argsL := [_, _]) rfl rfl (pc' := 25) rfl (by rw [hml]; rfl) (D vo_22) rfl (Wn := 1) (Nat.le_refl _) (by decide) (by decide) (by decide) (by decide) (fun T h3 W hg hQ => ?_)
  obtain ⟨K3, S⟩ := hQ
  refine g_areturn W (D vo_25) hret rfl rfl (by decide) (by decide) ⟨_, rfl, x, rfl, ?_, S⟩
  exact keep_ext ((ext_keep (ext_trans E1 E2) []).trans K3 (fun y q => Or.inr (by cases List.mem_singleton.mp q; exact hx)))
/-! String.coder() -/
theorem cd_0 : decode jdk_42_method_152_code 0 = .ok (.getstatic 38, 3) := by decide +kernel
theorem cd_3 : decode jdk_42_method_152_code 3 = .ok (.ifCond .eq 10, 3) := by decide +kernel
theorem cd_6 : decode jdk_42_method_152_code 6 = .ok (.aload_n 0, 1) := by decide +kernel
theorem cd_7 : decode jdk_42_method_152_code 7 = .ok (.getfield 15, 3) := by decide +kernel
theorem cd_10 : decode jdk_42_method_152_code 10 = .ok (.goto 4, 3) := by decide +kernel
theorem cd_13 : decode jdk_42_method_152_code 13 = .ok (.iconst 1, 1) := by decide +kernel
theorem cd_14 : decode jdk_42_method_152_code 14 = .ok (.ireturn, 1) := by decide +kernel
theorem efCd (m : MethodId) (x0 : Addr) : entryFrame m #[.ref x0] 1 = mkF m 0 #[.val (.ref x0)] [] := by first | (simp [entryFrame, mkF, argsToLocals, Value.category, maxLocals]; done) | rfl
set_option maxRecDepth 65536 in
set_option maxHeartbeats 4000000 in
theorem t_coder (l : Launch) {Z : State} {a0 : Array Value} {EL : List (String × Nat)} (hw : ∀ d ∈ tables_1, d.before a0 Z = true) (hEL : EW Z a0 EL) (cst : Cst Z) {h : Heap} (hO : Ext Z.heap h) {x : Addr} {cs : List Int32} (S : Str Z h x cs) :
    Met l Z EL [] (⟨"java/lang/String", "coder", "()B"⟩ : MethodName) jdk_42_method_152_code 1 (some .byte) { frames := 0, cells := 0, slots := 0, locals := 0 } #[.ref x] h (Ret fun v h' => v = .int 0 ∧ h = h') := by
  refine Met.intro pnS hEL hO ?_
  intro p e s m below meth c T W hby hml hret hnm
  have D : ∀ {pc : Nat} {r}, decode jdk_42_method_152_code pc = r → decode c.code pc = r := fun q => hb hby q
  refine Go.cast (efCd m x) ?_
  obtain ⟨zc, Sc, hzc⟩ := cst
  refine g_getstatic W (pc' := 3) (host := "") (Or.inl (hw _ (List.mem_of_getElem? (i := 18) rfl))) Via.refl (Sc.ext W.old) (D cd_0) rfl (fun T W => ?_)
  refine g_ifeqN W (pc1 := 13) (pc2 := 6) (D cd_3) (by decide) (by decide) rfl (hzc) ?_
  refine g_aloadN W (pc' := 7) (D cd_6) rfl rfl (by first | rfl | assumption) ?_
  refine g_getfield W (pc' := 10) (host := "") (Or.inl (hw _ (List.mem_of_getElem? (i := 30) rfl))) Via.refl (S.2.1) (D cd_7) rfl (fun T W => ?_)
  refine g_goto W (pc' := 14) (D cd_10) (by decide) (by decide) ?_
  exact g_ret W (D cd_14) hret rfl (Or.inl ⟨rfl, Or.inr (Or.inr (Or.inl rfl)), 0, rfl⟩) (by decide) (by decide) ⟨_, rfl, rfl, rfl⟩
/-! StringBuilder over bytes, without growth -/
abbrev SB : String := "java/lang/StringBuilder"
abbrev AB : String := "java/lang/AbstractStringBuilder"
theorem pnSB : plainName "java/lang/StringBuilder" = true := by first | (simp [plainName, overriddenIn]; done) | decide +kernel
theorem pnAB : plainName "java/lang/AbstractStringBuilder" = true := by first | (simp [plainName, overriddenIn]; done) | decide +kernel
theorem pnAr : plainName "java/util/Arrays" = true := by first | (simp [plainName, overriddenIn]; done) | decide +kernel
theorem pnMa : plainFor (⟨"java/lang/Math", "min", "(II)I"⟩ : MethodName) = true := by decide +kernel
/-- a StringBuilder x over the byte array t (cap bytes) that holds the chars cs -/
def Sbd (Z : State) (h : Heap) (x t : Addr) (cap : Nat) (cs : List Int32) : Prop :=
  Z.heap.size ≤ x ∧ Z.heap.size ≤ t ∧ Exa Z h x SB ∧ Fld Z h x AB "value" "[B" (.ref t) ∧ Fld Z h x AB "coder" "B" (.int 0) ∧ Fld Z h x AB "count" "I" (.int (Int32.ofNat cs.length)) ∧ ∃ bs, Ali Z h t .byte (bs.map Value.int) ∧ Bys bs ∧ bs.length = cap ∧ cs.length ≤ cap ∧ bs.take cs.length = cs.map lo
theorem Sbd.ext {Z : State} {h h' : Heap} {x t : Addr} {cap : Nat} {cs : List Int32} (E : Ext h h') (B : Sbd Z h x t cap cs) : Sbd Z h' x t cap cs := by
  obtain ⟨b1, b2, b3, b4, b5, b6, bs, b7, r⟩ := B
  exact ⟨b1, b2, b3.ext E, b4.ext E, b5.ext E, b6.ext E, bs, b7.ext E, r⟩
theorem Sbd.cap31 {Z : State} {h : Heap} {x t : Addr} {cap : Nat} {cs : List Int32} (B : Sbd Z h x t cap cs) : cap < 2 ^ 31 := by
  obtain ⟨b1, b2, b3, b4, b5, b6, bs, ⟨_, _, _, q⟩, _, r, _⟩ := B
  rw [← r]; simpa using q
theorem shl0 (x : Int32) : x <<< ((0 : Int32) &&& 31) = x := by
  have e : ((0 : Int32) &&& 31) = 0 := by decide
  rw [e]
  apply Int32.toBitVec_inj.mp
  simp
theorem shr0 (x : Int32) : x >>> ((0 : Int32) &&& 31) = x := by
  have e : ((0 : Int32) &&& 31) = 0 := by decide
  rw [e]
  apply Int32.toBitVec_inj.mp
  simp
theorem ens_le {n cap : Nat} (h : n ≤ cap) (hc : cap < 2 ^ 31) : ¬ 0 < Int32.ofNat n - Int32.ofNat cap := by
  have q := c_isub (Int32.ofNat n) (Int32.ofNat cap)
  have r := rng32 (Int32.ofNat n - Int32.ofNat cap)
  rw [Int32.toInt_ofNat_small hc, Int32.toInt_ofNat_small (by omega)] at q
  rw [Int32.lt_iff_toInt_lt]
  have e0 : (0 : Int32).toInt = 0 := rfl
  omega
theorem inc1 (n : Nat) : Int32.ofNat n + Int32.ofInt 1 = Int32.ofNat (n + 1) := by
  have e : Int32.ofInt 1 = Int32.ofNat 1 := rfl
  rw [e, Int32.ofNat_add]
theorem take_set1 {α : Type} {l : List α} {n : Nat} {v : α} (h : n < l.length) : (l.set n v).take (n + 1) = l.take n ++ [v] := by
  rw [List.take_add_one, List.take_set_of_le (Nat.le_refl n)]
  simp [h]
theorem min_lt {n m : Nat} (h : n ≤ m) (hm : m < 2 ^ 31) : ¬ Int32.ofNat m < Int32.ofNat n := by
  rw [Int32.lt_iff_toInt_lt, Int32.toInt_ofNat_small hm, Int32.toInt_ofNat_small (by omega)]
  omega
theorem gv_0 : decode jdk_68_method_64_code 0 = .ok (.aload_n 0, 1) := by decide +kernel
theorem gv_1 : decode jdk_68_method_64_code 1 = .ok (.getfield 15, 3) := by decide +kernel
theorem gv_4 : decode jdk_68_method_64_code 4 = .ok (.areturn, 1) := by decide +kernel
theorem efGv (m : MethodId) (x0 : Addr) : entryFrame m #[.ref x0] 1 = mkF m 0 #[.val (.ref x0)] [] := by first | (simp [entryFrame, mkF, argsToLocals, Value.category, maxLocals]; done) | rfl
set_option maxRecDepth 65536 in
set_option maxHeartbeats 4000000 in
theorem t_getValue (l : Launch) {Z : State} {a0 : Array Value} {EL : List (String × Nat)} (hw : ∀ d ∈ tables_1, d.before a0 Z = true) (hEL : EW Z a0 EL) (cst : Cst Z) {h : Heap} (hO : Ext Z.heap h) {x t : Addr} {cap : Nat} {cs : List Int32} (B : Sbd Z h x t cap cs) :
    Met l Z EL [] (⟨"java/lang/AbstractStringBuilder", "getValue", "()[B"⟩ : MethodName) jdk_68_method_64_code 1 (some (.array .byte)) { frames := 0, cells := 0, slots := 0, locals := 0 } #[.ref x] h (Ret fun v h' => v = .ref t ∧ h = h') := by
  refine Met.intro pnAB hEL hO ?_
  intro p e s m below meth c T W hby hml hret hnm
  have D : ∀ {pc : Nat} {r}, decode jdk_68_method_64_code pc = r → decode c.code pc = r := fun q => hb hby q
  refine Go.cast (efGv m x) ?_
  refine g_aloadN W (pc' := 1) (D gv_0) rfl rfl (by first | rfl | assumption) ?_
  refine g_getfield W (pc' := 4) (host := "") (Or.inl (hw _ (List.mem_of_getElem? (i := 72) rfl))) Via.refl (B.2.2.2.1) (D gv_1) rfl (fun T W => ?_)
  exact g_areturn W (D gv_4) hret rfl rfl (by decide) (by decide) ⟨_, rfl, rfl, rfl⟩
theorem la_0 : decode jdk_68_method_6_code 0 = .ok (.aload_n 0, 1) := by decide +kernel
theorem la_1 : decode jdk_68_method_6_code 1 = .ok (.getfield 79, 3) := by decide +kernel
theorem la_4 : decode jdk_68_method_6_code 4 = .ok (.ireturn, 1) := by decide +kernel
theorem efLa (m : MethodId) (x0 : Addr) : entryFrame m #[.ref x0] 1 = mkF m 0 #[.val (.ref x0)] [] := by first | (simp [entryFrame, mkF, argsToLocals, Value.category, maxLocals]; done) | rfl
set_option maxRecDepth 65536 in
set_option maxHeartbeats 4000000 in
theorem t_lenA (l : Launch) {Z : State} {a0 : Array Value} {EL : List (String × Nat)} (hw : ∀ d ∈ tables_1, d.before a0 Z = true) (hEL : EW Z a0 EL) (cst : Cst Z) {h : Heap} (hO : Ext Z.heap h) {x t : Addr} {cap : Nat} {cs : List Int32} (B : Sbd Z h x t cap cs) :
    Met l Z EL [] (⟨"java/lang/AbstractStringBuilder", "length", "()I"⟩ : MethodName) jdk_68_method_6_code 1 (some .int) { frames := 0, cells := 0, slots := 0, locals := 0 } #[.ref x] h (RetF fun v h' _ => v = .int (Int32.ofNat cs.length) ∧ h = h') := by
  refine Met.intro pnAB hEL hO ?_
  intro p e s m below meth c T W hby hml hret hnm
  have D : ∀ {pc : Nat} {r}, decode jdk_68_method_6_code pc = r → decode c.code pc = r := fun q => hb hby q
  refine Go.cast (efLa m x) ?_
  refine g_aloadN W (pc' := 1) (D la_0) rfl rfl (by first | rfl | assumption) ?_
  refine g_getfield W (pc' := 4) (host := "") (Or.inl (hw _ (List.mem_of_getElem? (i := 96) rfl))) Via.refl (B.2.2.2.2.2.1) (D la_1) rfl (fun T W => ?_)
  exact g_reti W (D la_4) hret (by decide) (by decide) ⟨_, rfl, rfl, rfl⟩
theorem lb_0 : decode jdk_67_method_93_code 0 = .ok (.aload_n 0, 1) := by decide +kernel
theorem lb_1 : decode jdk_67_method_93_code 1 = .ok (.invokespecial 343, 3) := by decide +kernel
theorem lb_4 : decode jdk_67_method_93_code 4 = .ok (.ireturn, 1) := by decide +kernel
theorem efLb (m : MethodId) (x0 : Addr) : entryFrame m #[.ref x0] 1 = mkF m 0 #[.val (.ref x0)] [] := by first | (simp [entryFrame, mkF, argsToLocals, Value.category, maxLocals]; done) | rfl
set_option maxRecDepth 65536 in
set_option maxHeartbeats 4000000 in
theorem t_lenB (l : Launch) {Z : State} {a0 : Array Value} {EL : List (String × Nat)} (hw : ∀ d ∈ tables_1, d.before a0 Z = true) (hEL : EW Z a0 EL) (cst : Cst Z) {h : Heap} (hO : Ext Z.heap h) {x t : Addr} {cap : Nat} {cs : List Int32} (B : Sbd Z h x t cap cs) :
    Met l Z EL [] (⟨"java/lang/StringBuilder", "length", "()I"⟩ : MethodName) jdk_67_method_93_code 1 (some .int) { frames := 1, cells := 0, slots := 0, locals := 12 } #[.ref x] h (Ret fun v h' => v = .int (Int32.ofNat cs.length) ∧ h = h') := by
  refine Met.intro pnSB hEL hO ?_
  intro p e s m below meth c T W hby hml hret hnm
  have D : ∀ {pc : Nat} {r}, decode jdk_67_method_93_code pc = r → decode c.code pc = r := fun q => hb hby q
  refine Go.cast (efLb m x) ?_
  refine g_aloadN W (pc' := 1) (D lb_0) rfl rfl (by first | rfl | assumption) ?_
  refine g_superF W (t_lenA l hw hEL cst W.old B) (fun x q => nomatch q) (hw _ (List.mem_of_getElem? (i := 147) rfl)) (hw _ (List.mem_of_getElem? (i := 143) rfl)) (hw _ (List.mem_of_getElem? (i := 83) rfl)) (hw _ (List.mem_of_getElem? (i := 68) rfl)) (hw _ (List.mem_of_getElem? (i := 148) rfl)) (by decide) (by decide) (by decide +kernel : parseMethodDescriptor "()I" = some ⟨[], some .int⟩) (⟨"java/lang/StringBuilder", ⟨"java/lang/AbstractStringBuilder", "getValue", "()[B"⟩, rfl, (hw _ (List.mem_of_getElem? (i := 139) rfl))⟩) (Ins.self B.2.2.1) (argsL := []) rfl rfl (pc' := 4) rfl (by rw [hml]; rfl) (D lb_1) rfl (Wn := 0) (Nat.le_refl _) (by decide) (by decide) (by decide) (by decide) (fun v T h1 FF W hg hQ => ?_)
  obtain ⟨rfl, rfl⟩ := hQ
  exact g_reti W (D lb_4) hret (by decide) (by decide) ⟨_, rfl, rfl, rfl⟩
theorem il_0 : decode jdk_68_method_68_code 0 = .ok (.getstatic 18, 3) := by decide +kernel
theorem il_3 : decode jdk_68_method_68_code 3 = .ok (.ifCond .eq 14, 3) := by decide +kernel
theorem il_6 : decode jdk_68_method_68_code 6 = .ok (.aload_n 0, 1) := by decide +kernel
theorem il_7 : decode jdk_68_method_68_code 7 = .ok (.getfield 22, 3) := by decide +kernel
theorem il_10 : decode jdk_68_method_68_code 10 = .ok (.ifCond .ne 7, 3) := by decide +kernel
theorem il_13 : decode jdk_68_method_68_code 13 = .ok (.iconst 1, 1) := by decide +kernel
theorem il_14 : decode jdk_68_method_68_code 14 = .ok (.goto 4, 3) := by decide +kernel
theorem il_17 : decode jdk_68_method_68_code 17 = .ok (.iconst 0, 1) := by decide +kernel
theorem il_18 : decode jdk_68_method_68_code 18 = .ok (.ireturn, 1) := by decide +kernel
theorem efIl (m : MethodId) (x0 : Addr) : entryFrame m #[.ref x0] 1 = mkF m 0 #[.val (.ref x0)] [] := by first | (simp [entryFrame, mkF, argsToLocals, Value.category, maxLocals]; done) | rfl
set_option maxRecDepth 65536 in
set_option maxHeartbeats 4000000 in
theorem t_isLatinA (l : Launch) {Z : State} {a0 : Array Value} {EL : List (String × Nat)} (hw : ∀ d ∈ tables_1, d.before a0 Z = true) (hEL : EW Z a0 EL) (cst : Cst Z) {h : Heap} (hO : Ext Z.heap h) {x t : Addr} {cap : Nat} {cs : List Int32} (B : Sbd Z h x t cap cs) :
    Met l Z EL [] (⟨"java/lang/AbstractStringBuilder", "isLatin1", "()Z"⟩ : MethodName) jdk_68_method_68_code 1 (some .boolean) { frames := 0, cells := 0, slots := 0, locals := 0 } #[.ref x] h (Ret fun v h' => v = .int 1 ∧ h = h') := by
  refine Met.intro pnAB hEL hO ?_
  intro p e s m below meth c T W hby hml hret hnm
  have D : ∀ {pc : Nat} {r}, decode jdk_68_method_68_code pc = r → decode c.code pc = r := fun q => hb hby q
  refine Go.cast (efIl m x) ?_
  obtain ⟨zc, Sc, hzc⟩ := cst
  refine g_getstatic W (pc' := 3) (host := "") (Or.inl (hw _ (List.mem_of_getElem? (i := 71) rfl))) Via.refl (Sc.ext W.old) (D il_0) rfl (fun T W => ?_)
  refine g_ifeqN W (pc1 := 17) (pc2 := 6) (D il_3) (by decide) (by decide) rfl (hzc) ?_
  refine g_aloadN W (pc' := 7) (D il_6) rfl rfl (by first | rfl | assumption) ?_
  refine g_getfield W (pc' := 10) (host := "") (Or.inl (hw _ (List.mem_of_getElem? (i := 74) rfl))) Via.refl (B.2.2.2.2.1) (D il_7) rfl (fun T W => ?_)
  refine g_ifneN W (pc1 := 17) (pc2 := 13) (D il_10) (by decide) (by decide) rfl (rfl) ?_
  refine g_iconst W (pc' := 14) (D il_13) rfl (v := (1 : Int32)) (by decide) ?_
  refine g_goto W (pc' := 18) (D il_14) (by decide) (by decide) ?_
  exact g_retz W (D il_18) hret (Or.inr rfl) (by decide) (by decide) ⟨_, rfl, rfl, rfl⟩
theorem en_0 : decode jdk_68_method_9_code 0 = .ok (.aload_n 0, 1) := by decide +kernel
theorem en_1 : decode jdk_68_method_9_code 1 = .ok (.getfield 15, 3) := by decide +kernel
theorem en_4 : decode jdk_68_method_9_code 4 = .ok (.arraylength, 1) := by decide +kernel
theorem en_5 : decode jdk_68_method_9_code 5 = .ok (.aload_n 0, 1) := by decide +kernel
theorem en_6 : decode jdk_68_method_9_code 6 = .ok (.getfield 22, 3) := by decide +kernel
theorem en_9 : decode jdk_68_method_9_code 9 = .ok (.ishr, 1) := by decide +kernel
theorem en_10 : decode jdk_68_method_9_code 10 = .ok (.istore_n 2, 1) := by decide +kernel
theorem en_11 : decode jdk_68_method_9_code 11 = .ok (.iload_n 1, 1) := by decide +kernel
theorem en_12 : decode jdk_68_method_9_code 12 = .ok (.iload_n 2, 1) := by decide +kernel
theorem en_13 : decode jdk_68_method_9_code 13 = .ok (.isub, 1) := by decide +kernel
theorem en_14 : decode jdk_68_method_9_code 14 = .ok (.ifCond .le 24, 3) := by decide +kernel
theorem en_17 : decode jdk_68_method_9_code 17 = .ok (.aload_n 0, 1) := by decide +kernel
theorem en_18 : decode jdk_68_method_9_code 18 = .ok (.aload_n 0, 1) := by decide +kernel
theorem en_19 : decode jdk_68_method_9_code 19 = .ok (.getfield 15, 3) := by decide +kernel
theorem en_22 : decode jdk_68_method_9_code 22 = .ok (.aload_n 0, 1) := by decide +kernel
theorem en_23 : decode jdk_68_method_9_code 23 = .ok (.iload_n 1, 1) := by decide +kernel
theorem en_24 : decode jdk_68_method_9_code 24 = .ok (.invokevirtual 104, 3) := by decide +kernel
theorem en_27 : decode jdk_68_method_9_code 27 = .ok (.aload_n 0, 1) := by decide +kernel
theorem en_28 : decode jdk_68_method_9_code 28 = .ok (.getfield 22, 3) := by decide +kernel
theorem en_31 : decode jdk_68_method_9_code 31 = .ok (.ishl, 1) := by decide +kernel
theorem en_32 : decode jdk_68_method_9_code 32 = .ok (.invokestatic 108, 3) := by decide +kernel
theorem en_35 : decode jdk_68_method_9_code 35 = .ok (.putfield 15, 3) := by decide +kernel
theorem en_38 : decode jdk_68_method_9_code 38 = .ok (.return_, 1) := by decide +kernel
theorem efEn (m : MethodId) (x0 : Addr) (x1 : Int32) : entryFrame m #[.ref x0, .int x1] 3 = mkF m 0 #[.val (.ref x0), .val (.int x1), .unset] [] := by first | (simp [entryFrame, mkF, argsToLocals, Value.category, maxLocals]; done) | rfl
set_option maxRecDepth 65536 in
set_option maxHeartbeats 4000000 in
theorem t_ensure (l : Launch) {Z : State} {a0 : Array Value} {EL : List (String × Nat)} (hw : ∀ d ∈ tables_1, d.before a0 Z = true) (hEL : EW Z a0 EL) (cst : Cst Z) {h : Heap} (hO : Ext Z.heap h) {x t : Addr} {cap : Nat} {cs : List Int32} (B : Sbd Z h x t cap cs) {n : Nat} (hn : n ≤ cap) :
    Met l Z EL [] (⟨"java/lang/AbstractStringBuilder", "ensureCapacityInternal", "(I)V"⟩ : MethodName) jdk_68_method_9_code 3 none { frames := 0, cells := 0, slots := 0, locals := 0 } #[.ref x, .int (Int32.ofNat n)] h (Void fun h' => h = h') := by
  refine Met.intro pnAB hEL hO ?_
  intro p e s m below meth c T W hby hml hret hnm
  have D : ∀ {pc : Nat} {r}, decode jdk_68_method_9_code pc = r → decode c.code pc = r := fun q => hb hby q
  refine Go.cast (efEn m x (Int32.ofNat n)) ?_
  have hc31 := B.cap31
  obtain ⟨b1, b2, b3, b4, b5, b6, bs, b7, b8, b9, b10, b11⟩ := B
  refine g_aloadN W (pc' := 1) (D en_0) rfl rfl (by first | rfl | assumption) ?_
  refine g_getfield W (pc' := 4) (host := "") (Or.inl (hw _ (List.mem_of_getElem? (i := 72) rfl))) Via.refl (b4) (D en_1) rfl (fun T W => ?_)
  refine g_arraylength W (pc' := 5) (b7) (z := Int32.ofNat cap) (by rw [List.length_map, b9]) (D en_4) rfl ?_
  refine g_aloadN W (pc' := 6) (D en_5) rfl rfl (by first | rfl | assumption) ?_
  refine g_getfield W (pc' := 9) (host := "") (Or.inl (hw _ (List.mem_of_getElem? (i := 74) rfl))) Via.refl (b5) (D en_6) rfl (fun T W => ?_)
  refine g_ishr W (pc' := 10) (D en_9) rfl ?_
  rw [shr0]
  refine g_istoreN W (pc' := 11) (D en_10) rfl (ls' := #[_, _, _]) rfl ?_
  refine g_iloadN W (pc' := 12) (D en_11) rfl rfl ?_
  refine g_iloadN W (pc' := 13) (D en_12) rfl rfl ?_
  refine g_isub W (pc' := 14) (D en_13) rfl ?_
  refine g_ifleY W (pc1 := 38) (pc2 := 17) (D en_14) (by decide) (by decide) rfl (ens_le hn hc31) ?_
  exact g_return W (D en_38) hret (by decide) (by decide) ⟨rfl, rfl⟩
theorem nf_0 : decode jdk_68_method_71_code 0 = .ok (.getstatic 18, 3) := by decide +kernel
theorem nf_3 : decode jdk_68_method_71_code 3 = .ok (.ifCond .eq 18, 3) := by decide +kernel
theorem nf_6 : decode jdk_68_method_71_code 6 = .ok (.aload_n 0, 1) := by decide +kernel
theorem nf_7 : decode jdk_68_method_71_code 7 = .ok (.getfield 22, 3) := by decide +kernel
theorem nf_10 : decode jdk_68_method_71_code 10 = .ok (.aload_n 1, 1) := by decide +kernel
theorem nf_11 : decode jdk_68_method_71_code 11 = .ok (.invokevirtual 40, 3) := by decide +kernel
theorem nf_14 : decode jdk_68_method_71_code 14 = .ok (.if_icmp .eq 7, 3) := by decide +kernel
theorem nf_17 : decode jdk_68_method_71_code 17 = .ok (.aload_n 0, 1) := by decide +kernel
theorem nf_18 : decode jdk_68_method_71_code 18 = .ok (.invokevirtual 195, 3) := by decide +kernel
theorem nf_21 : decode jdk_68_method_71_code 21 = .ok (.return_, 1) := by decide +kernel
theorem efNf (m : MethodId) (x0 : Addr) (x1 : Addr) : entryFrame m #[.ref x0, .ref x1] 2 = mkF m 0 #[.val (.ref x0), .val (.ref x1)] [] := by first | (simp [entryFrame, mkF, argsToLocals, Value.category, maxLocals]; done) | rfl
set_option maxRecDepth 65536 in
set_option maxHeartbeats 4000000 in
theorem t_inflate (l : Launch) {Z : State} {a0 : Array Value} {EL : List (String × Nat)} (hw : ∀ d ∈ tables_1, d.before a0 Z = true) (hEL : EW Z a0 EL) (cst : Cst Z) {h : Heap} (hO : Ext Z.heap h) {x t : Addr} {cap : Nat} {cs : List Int32} (B : Sbd Z h x t cap cs) {y : Addr} {ds : List Int32} (S : Str Z h y ds) :
    Met l Z EL [] (⟨"java/lang/AbstractStringBuilder", "inflateIfNeededFor", "(Ljava/lang/String;)V"⟩ : MethodName) jdk_68_method_71_code 2 none { frames := 1, cells := 0, slots := 0, locals := 13 } #[.ref x, .ref y] h (Void fun h' => h = h') := by
  refine Met.intro pnAB hEL hO ?_
  intro p e s m below meth c T W hby hml hret hnm
  have D : ∀ {pc : Nat} {r}, decode jdk_68_method_71_code pc = r → decode c.code pc = r := fun q => hb hby q
  refine Go.cast (efNf m x y) ?_
  obtain ⟨zc, Sc, hzc⟩ := id cst
  refine g_getstatic W (pc' := 3) (host := "") (Or.inl (hw _ (List.mem_of_getElem? (i := 71) rfl))) Via.refl (Sc.ext W.old) (D nf_0) rfl (fun T W => ?_)
  refine g_ifeqN W (pc1 := 21) (pc2 := 6) (D nf_3) (by decide) (by decide) rfl (hzc) ?_
  refine g_aloadN W (pc' := 7) (D nf_6) rfl rfl (by first | rfl | assumption) ?_
  refine g_getfield W (pc' := 10) (host := "") (Or.inl (hw _ (List.mem_of_getElem? (i := 74) rfl))) Via.refl (B.2.2.2.2.1) (D nf_7) rfl (fun T W => ?_)
  refine g_aloadN W (pc' := 11) (D nf_10) rfl rfl (by first | rfl | assumption) ?_
  refine g_virt W (t_coder l hw hEL cst W.old S) (fun x q => nomatch q) ⟨_, _, rfl, (hw _ (List.mem_of_getElem? (i := 94) rfl))⟩ (hw _ (List.mem_of_getElem? (i := 113) rfl)) (hw _ (List.mem_of_getElem? (i := 92) rfl)) (hw _ (List.mem_of_getElem? (i := 94) rfl)) (hw _ (List.mem_of_getElem? (i := 93) rfl)) (hw _ (List.mem_of_getElem? (i := 6) rfl)) (hw _ (List.mem_of_getElem? (i := 95) rfl)) (by decide) (by decide +kernel : parseMethodDescriptor "()B" = some ⟨[], some .byte⟩) (S.1) (argsL := []) rfl rfl (pc' := 14) rfl (by rw [hml]; rfl) (D nf_11) rfl (Wn := 1) (Nat.le_refl _) (by decide) (by decide) (by decide) (by decide) (fun v T h1 W hg hQ => ?_)
  obtain ⟨rfl, rfl⟩ := hQ
  refine g_icmpeqY W (pc1 := 21) (pc2 := 17) (D nf_14) (by decide) (by decide) rfl (rfl) ?_
  exact g_return W (D nf_21) hret (by decide) (by decide) ⟨rfl, rfl⟩
theorem gb_0 : decode jdk_42_method_147_code 0 = .ok (.aload_n 0, 1) := by decide +kernel
theorem gb_1 : decode jdk_42_method_147_code 1 = .ok (.invokevirtual 335, 3) := by decide +kernel
theorem gb_4 : decode jdk_42_method_147_code 4 = .ok (.iload_n 3, 1) := by decide +kernel
theorem gb_5 : decode jdk_42_method_147_code 5 = .ok (.if_icmp .ne 23, 3) := by decide +kernel
theorem gb_8 : decode jdk_42_method_147_code 8 = .ok (.aload_n 0, 1) := by decide +kernel
theorem gb_9 : decode jdk_42_method_147_code 9 = .ok (.getfield 9, 3) := by decide +kernel
theorem gb_12 : decode jdk_42_method_147_code 12 = .ok (.iconst 0, 1) := by decide +kernel
theorem gb_13 : decode jdk_42_method_147_code 13 = .ok (.aload_n 1, 1) := by decide +kernel
theorem gb_14 : decode jdk_42_method_147_code 14 = .ok (.iload_n 2, 1) := by decide +kernel
theorem gb_15 : decode jdk_42_method_147_code 15 = .ok (.iload_n 3, 1) := by decide +kernel
theorem gb_16 : decode jdk_42_method_147_code 16 = .ok (.ishl, 1) := by decide +kernel
theorem gb_17 : decode jdk_42_method_147_code 17 = .ok (.aload_n 0, 1) := by decide +kernel
theorem gb_18 : decode jdk_42_method_147_code 18 = .ok (.getfield 9, 3) := by decide +kernel
theorem gb_21 : decode jdk_42_method_147_code 21 = .ok (.arraylength, 1) := by decide +kernel
theorem gb_22 : decode jdk_42_method_147_code 22 = .ok (.invokestatic 212, 3) := by decide +kernel
theorem gb_25 : decode jdk_42_method_147_code 25 = .ok (.goto 18, 3) := by decide +kernel
theorem gb_28 : decode jdk_42_method_147_code 28 = .ok (.aload_n 0, 1) := by decide +kernel
theorem gb_29 : decode jdk_42_method_147_code 29 = .ok (.getfield 9, 3) := by decide +kernel
theorem gb_32 : decode jdk_42_method_147_code 32 = .ok (.iconst 0, 1) := by decide +kernel
theorem gb_33 : decode jdk_42_method_147_code 33 = .ok (.aload_n 1, 1) := by decide +kernel
theorem gb_34 : decode jdk_42_method_147_code 34 = .ok (.iload_n 2, 1) := by decide +kernel
theorem gb_35 : decode jdk_42_method_147_code 35 = .ok (.aload_n 0, 1) := by decide +kernel
theorem gb_36 : decode jdk_42_method_147_code 36 = .ok (.getfield 9, 3) := by decide +kernel
theorem gb_39 : decode jdk_42_method_147_code 39 = .ok (.arraylength, 1) := by decide +kernel
theorem gb_40 : decode jdk_42_method_147_code 40 = .ok (.invokestatic 106, 3) := by decide +kernel
theorem gb_43 : decode jdk_42_method_147_code 43 = .ok (.return_, 1) := by decide +kernel
theorem efGb (m : MethodId) (x0 : Addr) (x1 : Addr) (x2 : Int32) (x3 : Int32) : entryFrame m #[.ref x0, .ref x1, .int x2, .int x3] 4 = mkF m 0 #[.val (.ref x0), .val (.ref x1), .val (.int x2), .val (.int x3)] [] := by first | (simp [entryFrame, mkF, argsToLocals, Value.category, maxLocals]; done) | rfl
set_option maxRecDepth 65536 in
set_option maxHeartbeats 4000000 in
theorem t_getBytes (l : Launch) {Z : State} {a0 : Array Value} {EL : List (String × Nat)} (hw : ∀ d ∈ tables_1, d.before a0 Z = true) (hEL : EW Z a0 EL) (cst : Cst Z) {h : Heap} (hO : Ext Z.heap h) {y t : Addr} {ds : List Int32} (S : Str Z h y ds) {bs : List Int32} (A : Ali Z h t .byte (bs.map Value.int)) (hB : Bys bs) (hz : Z.heap.size ≤ t) {i : Nat} (hi : i + ds.length ≤ bs.length) :
    Met l Z EL [t] (⟨"java/lang/String", "getBytes", "([BIB)V"⟩ : MethodName) jdk_42_method_147_code 4 none { frames := 1, cells := 0, slots := 0, locals := 20 } #[.ref y, .ref t, .int (Int32.ofNat i), .int 0] h (Void fun h' => Keep h h' [t] ∧ Ali Z h' t .byte ((bs.take i ++ ds.map lo ++ bs.drop (i + ds.length)).map Value.int)) := by
  refine Met.intro pnS hEL hO ?_
  intro p e s m below meth c T W hby hml hret hnm
  have D : ∀ {pc : Nat} {r}, decode jdk_42_method_147_code pc = r → decode c.code pc = r := fun q => hb hby q
  refine Go.cast (efGb m y t (Int32.ofNat i) 0) ?_
  have l31 : bs.length < 2 ^ 31 := by obtain ⟨_, _, _, q⟩ := A; simpa using q
  refine g_aloadN W (pc' := 1) (D gb_0) rfl rfl (by first | rfl | assumption) ?_
  refine g_virt W (t_coder l hw hEL cst W.old S) (fun x q => nomatch q) ⟨_, _, rfl, (hw _ (List.mem_of_getElem? (i := 94) rfl))⟩ (hw _ (List.mem_of_getElem? (i := 91) rfl)) (hw _ (List.mem_of_getElem? (i := 92) rfl)) (hw _ (List.mem_of_getElem? (i := 94) rfl)) (hw _ (List.mem_of_getElem? (i := 93) rfl)) (hw _ (List.mem_of_getElem? (i := 6) rfl)) (hw _ (List.mem_of_getElem? (i := 95) rfl)) (by decide) (by decide +kernel : parseMethodDescriptor "()B" = some ⟨[], some .byte⟩) (S.1) (argsL := []) rfl rfl (pc' := 4) rfl (by rw [hml]; rfl) (D gb_1) rfl (Wn := 0) (Nat.le_refl _) (by decide) (by decide) (by decide) (by decide) (fun v T h1 W hg hQ => ?_)
  obtain ⟨rfl, rfl⟩ := hQ
  refine g_iloadN W (pc' := 5) (D gb_4) rfl rfl ?_
  refine g_icmpneN W (pc1 := 28) (pc2 := 8) (D gb_5) (by decide) (by decide) rfl (rfl) ?_
  obtain ⟨s1, s2, ⟨u, s3, s4⟩, s5, s6⟩ := S
  refine g_aloadN W (pc' := 9) (D gb_8) rfl rfl (by first | rfl | assumption) ?_
  refine g_getfield W (pc' := 12) (host := "") (Or.inl (hw _ (List.mem_of_getElem? (i := 32) rfl))) Via.refl (s3) (D gb_9) rfl (fun T W => ?_)
  refine g_iconst W (pc' := 13) (D gb_12) rfl (v := (0 : Int32)) (by decide) ?_
  refine g_aloadN W (pc' := 14) (D gb_13) rfl rfl (by first | rfl | assumption) ?_
  refine g_iloadN W (pc' := 15) (D gb_14) rfl rfl ?_
  refine g_iloadN W (pc' := 16) (D gb_15) rfl rfl ?_
  refine g_ishl W (pc' := 17) (D gb_16) rfl ?_
  rw [shl0]
  refine g_aloadN W (pc' := 18) (D gb_17) rfl rfl (by first | rfl | assumption) ?_
  refine g_getfield W (pc' := 21) (host := "") (Or.inl (hw _ (List.mem_of_getElem? (i := 32) rfl))) Via.refl (s3) (D gb_18) rfl (fun T W => ?_)
  refine g_arraylength W (pc' := 22) (s4) (z := Int32.ofNat ds.length) (by simp) (D gb_21) rfl ?_
  refine g_arraycopy W (pc' := 25) s4 A (Bys.lo ds) hB hz (List.mem_singleton.mpr rfl) (hw _ (List.mem_of_getElem? (i := 119) rfl)) (hw _ (List.mem_of_getElem? (i := 122) rfl)) (hw _ (List.mem_of_getElem? (i := 120) rfl)) (hw _ (List.mem_of_getElem? (i := 121) rfl)) (i := 0) (j := i) (t := ds.length) (by decide) (own_n0 (by omega)) (own_n0 (by omega)) (by decide) (own_n32 (by omega)) (own_n32 (by omega)) (by simp) hi (by rw [hml]; rfl) (D gb_22) rfl (by decide) (Wn := 0) (Nat.le_refl _) (by decide) (fun T h2 W Kp A2 => ?_)
  have e : ((ds.map lo).drop 0).take ds.length = ds.map lo := by rw [List.drop_zero]; exact List.take_of_length_le (by simp)
  rw [e] at A2
  refine g_goto W (pc' := 43) (D gb_25) (by decide) (by decide) ?_
  exact g_return W (D gb_43) hret (by decide) (by decide) ⟨rfl, Kp, A2⟩
theorem ps_0 : decode jdk_68_method_73_code 0 = .ok (.aload_n 0, 1) := by decide +kernel
theorem ps_1 : decode jdk_68_method_73_code 1 = .ok (.aload_n 2, 1) := by decide +kernel
theorem ps_2 : decode jdk_68_method_73_code 2 = .ok (.invokevirtual 397, 3) := by decide +kernel
theorem ps_5 : decode jdk_68_method_73_code 5 = .ok (.aload_n 2, 1) := by decide +kernel
theorem ps_6 : decode jdk_68_method_73_code 6 = .ok (.aload_n 0, 1) := by decide +kernel
theorem ps_7 : decode jdk_68_method_73_code 7 = .ok (.getfield 15, 3) := by decide +kernel
theorem ps_10 : decode jdk_68_method_73_code 10 = .ok (.iload_n 1, 1) := by decide +kernel
theorem ps_11 : decode jdk_68_method_73_code 11 = .ok (.aload_n 0, 1) := by decide +kernel
theorem ps_12 : decode jdk_68_method_73_code 12 = .ok (.getfield 22, 3) := by decide +kernel
theorem ps_15 : decode jdk_68_method_73_code 15 = .ok (.invokevirtual 399, 3) := by decide +kernel
theorem ps_18 : decode jdk_68_method_73_code 18 = .ok (.return_, 1) := by decide +kernel
theorem efPs (m : MethodId) (x0 : Addr) (x1 : Int32) (x2 : Addr) : entryFrame m #[.ref x0, .int x1, .ref x2] 3 = mkF m 0 #[.val (.ref x0), .val (.int x1), .val (.ref x2)] [] := by first | (simp [entryFrame, mkF, argsToLocals, Value.category, maxLocals]; done) | rfl
set_option maxRecDepth 65536 in
set_option maxHeartbeats 4000000 in
theorem t_putAt (l : Launch) {Z : State} {a0 : Array Value} {EL : List (String × Nat)} (hw : ∀ d ∈ tables_1, d.before a0 Z = true) (hEL : EW Z a0 EL) (cst : Cst Z) {h : Heap} (hO : Ext Z.heap h) {x t : Addr} {cap : Nat} {cs : List Int32} (B : Sbd Z h x t cap cs) {y : Addr} {ds : List Int32} (S : Str Z h y ds) {bs : List Int32} (A : Ali Z h t .byte (bs.map Value.int)) (hB : Bys bs) {i : Nat} (hi : i + ds.length ≤ bs.length) :
    Met l Z EL [t] (⟨"java/lang/AbstractStringBuilder", "putStringAt", "(ILjava/lang/String;)V"⟩ : MethodName) jdk_68_method_73_code 3 none { frames := 2, cells := 0, slots := 0, locals := 40 } #[.ref x, .int (Int32.ofNat i), .ref y] h (Void fun h' => Keep h h' [t] ∧ Ali Z h' t .byte ((bs.take i ++ ds.map lo ++ bs.drop (i + ds.length)).map Value.int)) := by
  refine Met.intro pnAB hEL hO ?_
  intro p e s m below meth c T W hby hml hret hnm
  have D : ∀ {pc : Nat} {r}, decode jdk_68_method_73_code pc = r → decode c.code pc = r := fun q => hb hby q
  refine Go.cast (efPs m x (Int32.ofNat i) y) ?_
  refine g_aloadN W (pc' := 1) (D ps_0) rfl rfl (by first | rfl | assumption) ?_
  refine g_aloadN W (pc' := 2) (D ps_1) rfl rfl (by first | rfl | assumption) ?_
  refine g_virtV W (t_inflate l hw hEL cst W.old B S) (fun x q => nomatch q) ⟨_, _, rfl, (hw _ (List.mem_of_getElem? (i := 111) rfl))⟩ (hw _ (List.mem_of_getElem? (i := 108) rfl)) (decl_of (hw _ (List.mem_of_getElem? (i := 109) rfl)) (hw _ (List.mem_of_getElem? (i := 112) rfl))) (hw _ (List.mem_of_getElem? (i := 111) rfl)) (hw _ (List.mem_of_getElem? (i := 109) rfl)) (hw _ (List.mem_of_getElem? (i := 68) rfl)) (hw _ (List.mem_of_getElem? (i := 112) rfl)) (by decide) (by decide +kernel : parseMethodDescriptor "(Ljava/lang/String;)V" = some ⟨[(.object "java/lang/String")], none⟩) (B.2.2.1) (argsL := [_]) rfl rfl (pc' := 5) rfl (by rw [hml]; rfl) (D ps_2) rfl (Wn := 0) (Nat.le_refl _) (by decide) (by decide) (by decide) (by decide) (fun T h1 W hg hQ => ?_)
  subst hQ
  refine g_aloadN W (pc' := 6) (D ps_5) rfl rfl (by first | rfl | assumption) ?_
  refine g_aloadN W (pc' := 7) (D ps_6) rfl rfl (by first | rfl | assumption) ?_
  refine g_getfield W (pc' := 10) (host := "") (Or.inl (hw _ (List.mem_of_getElem? (i := 72) rfl))) Via.refl (B.2.2.2.1) (D ps_7) rfl (fun T W => ?_)
  refine g_iloadN W (pc' := 11) (D ps_10) rfl rfl ?_
  refine g_aloadN W (pc' := 12) (D ps_11) rfl rfl (by first | rfl | assumption) ?_
  refine g_getfield W (pc' := 15) (host := "") (Or.inl (hw _ (List.mem_of_getElem? (i := 74) rfl))) Via.refl (B.2.2.2.2.1) (D ps_12) rfl (fun T W => ?_)
  refine g_virtV W (t_getBytes l hw hEL cst W.old S A hB B.2.1 hi) (fun y q => q) ⟨_, _, rfl, (hw _ (List.mem_of_getElem? (i := 117) rfl))⟩ (hw _ (List.mem_of_getElem? (i := 114) rfl)) (hw _ (List.mem_of_getElem? (i := 115) rfl)) (hw _ (List.mem_of_getElem? (i := 117) rfl)) (hw _ (List.mem_of_getElem? (i := 116) rfl)) (hw _ (List.mem_of_getElem? (i := 6) rfl)) (hw _ (List.mem_of_getElem? (i := 118) rfl)) (by decide) (by decide +kernel : parseMethodDescriptor "([BIB)V" = some ⟨[(.array .byte), .int, .byte], none⟩) (S.1) (argsL := [_, _, _]) rfl rfl (pc' := 18) rfl (by rw [hml]; rfl) (D ps_15) rfl (Wn := 0) (Nat.le_refl _) (by decide) (by decide) (by decide) (by decide) (fun T h1 W hg hQ => ?_)
  exact g_return W (D ps_18) hret (by decide) (by decide) ⟨rfl, hQ⟩
theorem Sbd.put {Z : State} {a0 : Array Value} (hw : ∀ d ∈ tables_1, d.before a0 Z = true) {h h1 h2 : Heap} {x t : Addr} {cap : Nat} {cs ds : List Int32} (B : Sbd Z h x t cap cs) (K1 : Keep h h1 [t]) {us : List Int32} (A1 : Ali Z h1 t .byte (us.map Value.int)) (hu : Bys us) (hl : us.length = cap) (hd : (cs ++ ds).length ≤ cap) (ht : us.take (cs ++ ds).length = (cs ++ ds).map lo) (W2 : Wr h1 h2 x (Jvm.RoadKit.slotOf Z AB "count" "I") (.int (Int32.ofNat (cs ++ ds).length))) : Keep h h2 [x, t] ∧ Sbd Z h2 x t cap (cs ++ ds) := by
  have n_value_coder : Jvm.RoadKit.slotOf Z AB "value" "[B" ≠ Jvm.RoadKit.slotOf Z AB "coder" "B" := slot_ne (C := SB) (Or.inl (hw _ (List.mem_of_getElem? (i := 73) rfl))) (Or.inl (hw _ (List.mem_of_getElem? (i := 75) rfl))) (by decide) (t := .array .byte) (t' := .byte) (by decide) (by decide)
  have n_value_count : Jvm.RoadKit.slotOf Z AB "value" "[B" ≠ Jvm.RoadKit.slotOf Z AB "count" "I" := slot_ne (C := SB) (Or.inl (hw _ (List.mem_of_getElem? (i := 73) rfl))) (Or.inl (hw _ (List.mem_of_getElem? (i := 97) rfl))) (by decide) (t := .array .byte) (t' := .int) (by decide) (by decide)
  have n_coder_count : Jvm.RoadKit.slotOf Z AB "coder" "B" ≠ Jvm.RoadKit.slotOf Z AB "count" "I" := slot_ne (C := SB) (Or.inl (hw _ (List.mem_of_getElem? (i := 75) rfl))) (Or.inl (hw _ (List.mem_of_getElem? (i := 97) rfl))) (by decide) (t := .byte) (t' := .int) (by decide) (by decide)
  have wiB : (Jvm.Cond.instantiable SB 4).before a0 Z = true := (hw _ (List.mem_of_getElem? (i := 59) rfl))
  obtain ⟨b1, b2, b3, b4, b5, b6, bs, b7, r⟩ := B
  have ne : x ∉ [t] := ninS (b7.neE b3 wiB).symm nin0
  refine ⟨?_, b1, b2, (b3.keep K1).wr W2, (b4.keep K1 ne).other W2 (Or.inr n_value_count), (b5.keep K1 ne).other W2 (Or.inr n_coder_count), (b6.keep K1 ne).same W2, us, A1.wr W2 (A1.neE (b3.keep K1) wiB), hu, hl, hd, ht⟩
  have K2 : Keep h h1 [x, t] := ⟨K1.1, fun a c q r => K1.2.1 a c q (fun z => r (List.mem_cons_of_mem x z)), K1.2.2⟩
  exact K2.wr W2 (Or.inl (List.mem_cons_self ..))
theorem an_0 : decode jdk_68_method_26_code 0 = .ok (.aload_n 0, 1) := by decide +kernel
theorem an_1 : decode jdk_68_method_26_code 1 = .ok (.aload_n 0, 1) := by decide +kernel
theorem an_2 : decode jdk_68_method_26_code 2 = .ok (.getfield 79, 3) := by decide +kernel
theorem an_5 : decode jdk_68_method_26_code 5 = .ok (.iconst 4, 1) := by decide +kernel
theorem an_6 : decode jdk_68_method_26_code 6 = .ok (.iadd, 1) := by decide +kernel
theorem an_7 : decode jdk_68_method_26_code 7 = .ok (.invokevirtual 100, 3) := by decide +kernel
theorem an_10 : decode jdk_68_method_26_code 10 = .ok (.aload_n 0, 1) := by decide +kernel
theorem an_11 : decode jdk_68_method_26_code 11 = .ok (.getfield 79, 3) := by decide +kernel
theorem an_14 : decode jdk_68_method_26_code 14 = .ok (.istore_n 1, 1) := by decide +kernel
theorem an_15 : decode jdk_68_method_26_code 15 = .ok (.aload_n 0, 1) := by decide +kernel
theorem an_16 : decode jdk_68_method_26_code 16 = .ok (.getfield 15, 3) := by decide +kernel
theorem an_19 : decode jdk_68_method_26_code 19 = .ok (.astore_n 2, 1) := by decide +kernel
theorem an_20 : decode jdk_68_method_26_code 20 = .ok (.aload_n 0, 1) := by decide +kernel
theorem an_21 : decode jdk_68_method_26_code 21 = .ok (.invokevirtual 83, 3) := by decide +kernel
theorem an_24 : decode jdk_68_method_26_code 24 = .ok (.ifCond .eq 38, 3) := by decide +kernel
theorem an_27 : decode jdk_68_method_26_code 27 = .ok (.aload_n 2, 1) := by decide +kernel
theorem an_28 : decode jdk_68_method_26_code 28 = .ok (.iload_n 1, 1) := by decide +kernel
theorem an_29 : decode jdk_68_method_26_code 29 = .ok (.iinc 1 1, 3) := by decide +kernel
theorem an_32 : decode jdk_68_method_26_code 32 = .ok (.bipush 110, 2) := by decide +kernel
theorem an_34 : decode jdk_68_method_26_code 34 = .ok (.bastore, 1) := by decide +kernel
theorem an_35 : decode jdk_68_method_26_code 35 = .ok (.aload_n 2, 1) := by decide +kernel
theorem an_36 : decode jdk_68_method_26_code 36 = .ok (.iload_n 1, 1) := by decide +kernel
theorem an_37 : decode jdk_68_method_26_code 37 = .ok (.iinc 1 1, 3) := by decide +kernel
theorem an_40 : decode jdk_68_method_26_code 40 = .ok (.bipush 117, 2) := by decide +kernel
theorem an_42 : decode jdk_68_method_26_code 42 = .ok (.bastore, 1) := by decide +kernel
theorem an_43 : decode jdk_68_method_26_code 43 = .ok (.aload_n 2, 1) := by decide +kernel
theorem an_44 : decode jdk_68_method_26_code 44 = .ok (.iload_n 1, 1) := by decide +kernel
theorem an_45 : decode jdk_68_method_26_code 45 = .ok (.iinc 1 1, 3) := by decide +kernel
theorem an_48 : decode jdk_68_method_26_code 48 = .ok (.bipush 108, 2) := by decide +kernel
theorem an_50 : decode jdk_68_method_26_code 50 = .ok (.bastore, 1) := by decide +kernel
theorem an_51 : decode jdk_68_method_26_code 51 = .ok (.aload_n 2, 1) := by decide +kernel
theorem an_52 : decode jdk_68_method_26_code 52 = .ok (.iload_n 1, 1) := by decide +kernel
theorem an_53 : decode jdk_68_method_26_code 53 = .ok (.iinc 1 1, 3) := by decide +kernel
theorem an_56 : decode jdk_68_method_26_code 56 = .ok (.bipush 108, 2) := by decide +kernel
theorem an_58 : decode jdk_68_method_26_code 58 = .ok (.bastore, 1) := by decide +kernel
theorem an_59 : decode jdk_68_method_26_code 59 = .ok (.goto 17, 3) := by decide +kernel
theorem an_62 : decode jdk_68_method_26_code 62 = .ok (.aload_n 2, 1) := by decide +kernel
theorem an_63 : decode jdk_68_method_26_code 63 = .ok (.iload_n 1, 1) := by decide +kernel
theorem an_64 : decode jdk_68_method_26_code 64 = .ok (.bipush 110, 2) := by decide +kernel
theorem an_66 : decode jdk_68_method_26_code 66 = .ok (.bipush 117, 2) := by decide +kernel
theorem an_68 : decode jdk_68_method_26_code 68 = .ok (.bipush 108, 2) := by decide +kernel
theorem an_70 : decode jdk_68_method_26_code 70 = .ok (.bipush 108, 2) := by decide +kernel
theorem an_72 : decode jdk_68_method_26_code 72 = .ok (.invokestatic 226, 3) := by decide +kernel
theorem an_75 : decode jdk_68_method_26_code 75 = .ok (.istore_n 1, 1) := by decide +kernel
theorem an_76 : decode jdk_68_method_26_code 76 = .ok (.aload_n 0, 1) := by decide +kernel
theorem an_77 : decode jdk_68_method_26_code 77 = .ok (.iload_n 1, 1) := by decide +kernel
theorem an_78 : decode jdk_68_method_26_code 78 = .ok (.putfield 79, 3) := by decide +kernel
theorem an_81 : decode jdk_68_method_26_code 81 = .ok (.aload_n 0, 1) := by decide +kernel
theorem an_82 : decode jdk_68_method_26_code 82 = .ok (.areturn, 1) := by decide +kernel
theorem efAn (m : MethodId) (x0 : Addr) : entryFrame m #[.ref x0] 3 = mkF m 0 #[.val (.ref x0), .unset, .unset] [] := by first | (simp [entryFrame, mkF, argsToLocals, Value.category, maxLocals]; done) | rfl
set_option maxRecDepth 65536 in
set_option maxHeartbeats 4000000 in
theorem t_appendNull (l : Launch) {Z : State} {a0 : Array Value} {EL : List (String × Nat)} (hw : ∀ d ∈ tables_1, d.before a0 Z = true) (hEL : EW Z a0 EL) (cst : Cst Z) {h : Heap} (hO : Ext Z.heap h) {x t : Addr} {cap : Nat} {cs : List Int32} (B : Sbd Z h x t cap cs) (hn : cs.length + 4 ≤ cap) :
    Met l Z EL [t] (⟨"java/lang/AbstractStringBuilder", "appendNull", "()Ljava/lang/AbstractStringBuilder;"⟩ : MethodName) jdk_68_method_26_code 3 (some (.object AB)) { frames := 1, cells := 0, slots := 0, locals := 14 } #[.ref x] h (RetF fun v h' _ => v = .ref x ∧ Keep h h' [x, t] ∧ Sbd Z h' x t cap (cs ++ [110, 117, 108, 108])) := by
  refine Met.intro pnAB hEL hO ?_
  intro p e s m below meth c T W hby hml hret hnm
  have D : ∀ {pc : Nat} {r}, decode jdk_68_method_26_code pc = r → decode c.code pc = r := fun q => hb hby q
  refine Go.cast (efAn m x) ?_
  have hc31 := B.cap31
  have B0 := B
  obtain ⟨b1, b2, b3, b4, b5, b6, bs, b7, b8, b9, b10, b11⟩ := B
  refine g_aloadN W (pc' := 1) (D an_0) rfl rfl (by first | rfl | assumption) ?_
  refine g_aloadN W (pc' := 2) (D an_1) rfl rfl (by first | rfl | assumption) ?_
  refine g_getfield W (pc' := 5) (host := "") (Or.inl (hw _ (List.mem_of_getElem? (i := 96) rfl))) Via.refl (b6) (D an_2) rfl (fun T W => ?_)
  refine g_iconst W (pc' := 6) (D an_5) rfl (v := (4 : Int32)) (by decide) ?_
  refine g_iadd W (pc' := 7) (D an_6) rfl ?_
  have e4 : Int32.ofNat cs.length + 4 = Int32.ofNat (cs.length + 4) := by rw [Int32.ofNat_add]; rfl
  rw [e4]
  refine g_virtV W (t_ensure l hw hEL cst W.old B0 hn) (fun x q => nomatch q) ⟨_, _, rfl, (hw _ (List.mem_of_getElem? (i := 101) rfl))⟩ (hw _ (List.mem_of_getElem? (i := 98) rfl)) (decl_of (hw _ (List.mem_of_getElem? (i := 99) rfl)) (hw _ (List.mem_of_getElem? (i := 102) rfl))) (hw _ (List.mem_of_getElem? (i := 101) rfl)) (hw _ (List.mem_of_getElem? (i := 99) rfl)) (hw _ (List.mem_of_getElem? (i := 68) rfl)) (hw _ (List.mem_of_getElem? (i := 102) rfl)) (by decide) (by decide +kernel : parseMethodDescriptor "(I)V" = some ⟨[.int], none⟩) (b3) (argsL := [_]) rfl rfl (pc' := 10) rfl (by rw [hml]; rfl) (D an_7) rfl (Wn := 0) (Nat.le_refl _) (by decide) (by decide) (by decide) (by decide) (fun T h1 W hg hQ => ?_)
  subst hQ
  refine g_aloadN W (pc' := 11) (D an_10) rfl rfl (by first | rfl | assumption) ?_
  refine g_getfield W (pc' := 14) (host := "") (Or.inl (hw _ (List.mem_of_getElem? (i := 96) rfl))) Via.refl (b6) (D an_11) rfl (fun T W => ?_)
  refine g_istoreN W (pc' := 15) (D an_14) rfl (ls' := #[_, _, _]) rfl ?_
  refine g_aloadN W (pc' := 16) (D an_15) rfl rfl (by first | rfl | assumption) ?_
  refine g_getfield W (pc' := 19) (host := "") (Or.inl (hw _ (List.mem_of_getElem? (i := 72) rfl))) Via.refl (b4) (D an_16) rfl (fun T W => ?_)
  refine g_astoreN W (pc' := 20) (D an_19) rfl (by first | rfl | assumption) (ls' := #[_, _, _]) rfl ?_
  refine g_aloadN W (pc' := 21) (D an_20) rfl rfl (by first | rfl | assumption) ?_
  refine g_virt W (t_isLatinA l hw hEL cst W.old B0) (fun x q => nomatch q) ⟨_, _, rfl, (hw _ (List.mem_of_getElem? (i := 152) rfl))⟩ (hw _ (List.mem_of_getElem? (i := 213) rfl)) (hw _ (List.mem_of_getElem? (i := 150) rfl)) (hw _ (List.mem_of_getElem? (i := 152) rfl)) (hw _ (List.mem_of_getElem? (i := 151) rfl)) (hw _ (List.mem_of_getElem? (i := 68) rfl)) (hw _ (List.mem_of_getElem? (i := 153) rfl)) (by decide) (by decide +kernel : parseMethodDescriptor "()Z" = some ⟨[], some .boolean⟩) (b3) (argsL := []) rfl rfl (pc' := 24) rfl (by rw [hml]; rfl) (D an_21) rfl (Wn := 0) (Nat.le_refl _) (by decide) (by decide) (by decide) (by decide) (fun v T h1 W hg hQ => ?_)
  obtain ⟨rfl, rfl⟩ := hQ
  refine g_ifeqN W (pc1 := 62) (pc2 := 27) (D an_24) (by decide) (by decide) rfl (by decide) ?_
  have K0 : Keep h h [t] := Keep.refl _ _
  refine g_aloadN W (pc' := 28) (D an_27) rfl rfl (by first | rfl | assumption) ?_
  refine g_iloadN W (pc' := 29) (D an_28) rfl rfl ?_
  refine g_iinc W (pc' := 32) (D an_29) rfl rfl (ls' := #[_, _, _]) rfl ?_
  refine g_bipush W (pc' := 34) (D an_32) rfl (v := (110 : Int32)) (by decide) ?_
  rw [inc1]
  refine g_bastore W (pc' := 35) (b7) (b2) (List.mem_singleton.mpr rfl) (i := cs.length) (own_n0 (by omega)) (own_n32 (by omega)) (by first | omega | (simp only [List.length_set]; omega)) (D an_34) rfl (fun T g0 W Kp0 A0 => ?_)
  have K1 : Keep h g0 [t] := K0.trans Kp0 (fun z hz => Or.inl hz)
  refine g_aloadN W (pc' := 36) (D an_35) rfl rfl (by first | rfl | assumption) ?_
  refine g_iloadN W (pc' := 37) (D an_36) rfl rfl ?_
  refine g_iinc W (pc' := 40) (D an_37) rfl rfl (ls' := #[_, _, _]) rfl ?_
  refine g_bipush W (pc' := 42) (D an_40) rfl (v := (117 : Int32)) (by decide) ?_
  rw [inc1]
  refine g_bastore W (pc' := 43) (A0) (b2) (List.mem_singleton.mpr rfl) (i := cs.length + 1) (own_n0 (by omega)) (own_n32 (by omega)) (by first | omega | (simp only [List.length_set]; omega)) (D an_42) rfl (fun T g1 W Kp1 A1 => ?_)
  have K2 : Keep h g1 [t] := K1.trans Kp1 (fun z hz => Or.inl hz)
  refine g_aloadN W (pc' := 44) (D an_43) rfl rfl (by first | rfl | assumption) ?_
  refine g_iloadN W (pc' := 45) (D an_44) rfl rfl ?_
  refine g_iinc W (pc' := 48) (D an_45) rfl rfl (ls' := #[_, _, _]) rfl ?_
  refine g_bipush W (pc' := 50) (D an_48) rfl (v := (108 : Int32)) (by decide) ?_
  rw [inc1]
  refine g_bastore W (pc' := 51) (A1) (b2) (List.mem_singleton.mpr rfl) (i := cs.length + 2) (own_n0 (by omega)) (own_n32 (by omega)) (by first | omega | (simp only [List.length_set]; omega)) (D an_50) rfl (fun T g2 W Kp2 A2 => ?_)
  have K3 : Keep h g2 [t] := K2.trans Kp2 (fun z hz => Or.inl hz)
  refine g_aloadN W (pc' := 52) (D an_51) rfl rfl (by first | rfl | assumption) ?_
  refine g_iloadN W (pc' := 53) (D an_52) rfl rfl ?_
  refine g_iinc W (pc' := 56) (D an_53) rfl rfl (ls' := #[_, _, _]) rfl ?_
  refine g_bipush W (pc' := 58) (D an_56) rfl (v := (108 : Int32)) (by decide) ?_
  rw [inc1]
  refine g_bastore W (pc' := 59) (A2) (b2) (List.mem_singleton.mpr rfl) (i := cs.length + 3) (own_n0 (by omega)) (own_n32 (by omega)) (by first | omega | (simp only [List.length_set]; omega)) (D an_58) rfl (fun T g3 W Kp3 A3 => ?_)
  have K4 : Keep h g3 [t] := K3.trans Kp3 (fun z hz => Or.inl hz)
  refine g_goto W (pc' := 76) (D an_59) (by decide) (by decide) ?_
  refine g_aloadN W (pc' := 77) (D an_76) rfl rfl (by first | rfl | assumption) ?_
  refine g_iloadN W (pc' := 78) (D an_77) rfl rfl ?_
  refine g_putfield W (pc' := 81) (host := "") (Or.inl (hw _ (List.mem_of_getElem? (i := 96) rfl))) Via.refl (b6.keep K4 (ninS (b7.neE b3 (hw _ (List.mem_of_getElem? (i := 59) rfl))).symm nin0)) (b3.keep K4) (Or.inl (hw _ (List.mem_of_getElem? (i := 97) rfl))) (hw _ (List.mem_of_getElem? (i := 59) rfl)) (ty := .int) (by decide) rfl rfl (⟨b1, Or.inr (Or.inl ⟨SB, b3.keep K4, by decide, by decide⟩)⟩) (D an_78) rfl (fun T g5 W Wr1 => ?_)
  refine g_aloadN W (pc' := 82) (D an_81) rfl rfl (by first | rfl | assumption) ?_
  have hp := B0.put hw (ds := [110, 117, 108, 108]) K4 A3 (((((b8.set _ (fits_lo _)).set _ (fits_lo _)).set _ (fits_lo _)).set _ (fits_lo _))) (by simp only [List.length_set]; exact b9) (by simp only [List.length_append, List.length_cons, List.length_nil]; omega) (by
    have e : (cs ++ [110, 117, 108, 108] : List Int32).length = cs.length + 3 + 1 := by simp
    rw [e, take_set1 (by simp only [List.length_set]; omega), take_set1 (by simp only [List.length_set]; omega), take_set1 (by simp only [List.length_set]; omega), take_set1 (by omega), b11]
    simp) (by
    have e : (cs ++ [110, 117, 108, 108] : List Int32).length = cs.length + 3 + 1 := by simp
    rw [e]; exact Wr1)
  exact g_areturn W (D an_82) hret rfl rfl (by decide) (by decide) ⟨_, rfl, rfl, hp⟩
theorem aa_0 : decode jdk_68_method_22_code 0 = .ok (.aload_n 1, 1) := by decide +kernel
theorem aa_1 : decode jdk_68_method_22_code 1 = .ok (.ifnonnull 8, 3) := by decide +kernel
theorem aa_4 : decode jdk_68_method_22_code 4 = .ok (.aload_n 0, 1) := by decide +kernel
theorem aa_5 : decode jdk_68_method_22_code 5 = .ok (.invokevirtual 204, 3) := by decide +kernel
theorem aa_8 : decode jdk_68_method_22_code 8 = .ok (.areturn, 1) := by decide +kernel
theorem aa_9 : decode jdk_68_method_22_code 9 = .ok (.aload_n 1, 1) := by decide +kernel
theorem aa_10 : decode jdk_68_method_22_code 10 = .ok (.invokevirtual 32, 3) := by decide +kernel
theorem aa_13 : decode jdk_68_method_22_code 13 = .ok (.istore_n 2, 1) := by decide +kernel
theorem aa_14 : decode jdk_68_method_22_code 14 = .ok (.aload_n 0, 1) := by decide +kernel
theorem aa_15 : decode jdk_68_method_22_code 15 = .ok (.aload_n 0, 1) := by decide +kernel
theorem aa_16 : decode jdk_68_method_22_code 16 = .ok (.getfield 79, 3) := by decide +kernel
theorem aa_19 : decode jdk_68_method_22_code 19 = .ok (.iload_n 2, 1) := by decide +kernel
theorem aa_20 : decode jdk_68_method_22_code 20 = .ok (.iadd, 1) := by decide +kernel
theorem aa_21 : decode jdk_68_method_22_code 21 = .ok (.invokevirtual 100, 3) := by decide +kernel
theorem aa_24 : decode jdk_68_method_22_code 24 = .ok (.aload_n 0, 1) := by decide +kernel
theorem aa_25 : decode jdk_68_method_22_code 25 = .ok (.aload_n 0, 1) := by decide +kernel
theorem aa_26 : decode jdk_68_method_22_code 26 = .ok (.getfield 79, 3) := by decide +kernel
theorem aa_29 : decode jdk_68_method_22_code 29 = .ok (.aload_n 1, 1) := by decide +kernel
theorem aa_30 : decode jdk_68_method_22_code 30 = .ok (.invokevirtual 208, 3) := by decide +kernel
theorem aa_33 : decode jdk_68_method_22_code 33 = .ok (.aload_n 0, 1) := by decide +kernel
theorem aa_34 : decode jdk_68_method_22_code 34 = .ok (.dup, 1) := by decide +kernel
theorem aa_35 : decode jdk_68_method_22_code 35 = .ok (.getfield 79, 3) := by decide +kernel
theorem aa_38 : decode jdk_68_method_22_code 38 = .ok (.iload_n 2, 1) := by decide +kernel
theorem aa_39 : decode jdk_68_method_22_code 39 = .ok (.iadd, 1) := by decide +kernel
theorem aa_40 : decode jdk_68_method_22_code 40 = .ok (.putfield 79, 3) := by decide +kernel
theorem aa_43 : decode jdk_68_method_22_code 43 = .ok (.aload_n 0, 1) := by decide +kernel
theorem aa_44 : decode jdk_68_method_22_code 44 = .ok (.areturn, 1) := by decide +kernel
theorem efAa (m : MethodId) (x0 : Addr) (x1 : Addr) : entryFrame m #[.ref x0, .ref x1] 3 = mkF m 0 #[.val (.ref x0), .val (.ref x1), .unset] [] := by first | (simp [entryFrame, mkF, argsToLocals, Value.category, maxLocals]; done) | rfl
theorem efAaN (m : MethodId) (x0 : Addr) : entryFrame m #[.ref x0, .null] 3 = mkF m 0 #[.val (.ref x0), .val .null, .unset] [] := by first | (simp [entryFrame, mkF, argsToLocals, Value.category, maxLocals]; done) | rfl
set_option maxRecDepth 65536 in
set_option maxHeartbeats 4000000 in
theorem t_appendAN (l : Launch) {Z : State} {a0 : Array Value} {EL : List (String × Nat)} (hw : ∀ d ∈ tables_1, d.before a0 Z = true) (hEL : EW Z a0 EL) (cst : Cst Z) {h : Heap} (hO : Ext Z.heap h) {x t : Addr} {cap : Nat} {cs : List Int32} (B : Sbd Z h x t cap cs) (hn : cs.length + 4 ≤ cap) :
    Met l Z EL [t] (⟨"java/lang/AbstractStringBuilder", "append", "(Ljava/lang/String;)Ljava/lang/AbstractStringBuilder;"⟩ : MethodName) jdk_68_method_22_code 3 (some (.object AB)) { frames := 2, cells := 0, slots := 0, locals := 30 } #[.ref x, .null] h (RetF fun v h' _ => v = .ref x ∧ Keep h h' [x, t] ∧ Sbd Z h' x t cap (cs ++ [110, 117, 108, 108])) := by
  refine Met.intro pnAB hEL hO ?_
  intro p e s m below meth c T W hby hml hret hnm
  have D : ∀ {pc : Nat} {r}, decode jdk_68_method_22_code pc = r → decode c.code pc = r := fun q => hb hby q
  refine Go.cast (efAaN m x) ?_
  refine g_aloadN W (pc' := 1) (D aa_0) rfl rfl (by first | rfl | assumption) ?_
  refine g_ifnonnullN W (pc1 := 9) (pc2 := 4) (D aa_1) (by decide) (by decide) rfl ?_
  refine g_aloadN W (pc' := 5) (D aa_4) rfl rfl (by first | rfl | assumption) ?_
  refine g_virtF W (t_appendNull l hw hEL cst W.old B hn) (fun y q => q) ⟨_, _, rfl, (hw _ (List.mem_of_getElem? (i := 211) rfl))⟩ (hw _ (List.mem_of_getElem? (i := 208) rfl)) (decl_of (hw _ (List.mem_of_getElem? (i := 209) rfl)) (hw _ (List.mem_of_getElem? (i := 212) rfl))) (hw _ (List.mem_of_getElem? (i := 211) rfl)) (hw _ (List.mem_of_getElem? (i := 209) rfl)) (hw _ (List.mem_of_getElem? (i := 68) rfl)) (hw _ (List.mem_of_getElem? (i := 212) rfl)) (by decide) (by decide +kernel : parseMethodDescriptor "()Ljava/lang/AbstractStringBuilder;" = some ⟨[], some (.object "java/lang/AbstractStringBuilder")⟩) (B.2.2.1) (argsL := []) rfl rfl (pc' := 8) rfl (by rw [hml]; rfl) (D aa_5) rfl (Wn := 0) (Nat.le_refl _) (by decide) (by decide) (by decide) (by decide) (fun v T h1 FF W hg hQ => ?_)
  obtain ⟨rfl, hQ⟩ := hQ
  exact g_areturn W (D aa_8) hret rfl rfl (by decide) (by decide) ⟨_, rfl, rfl, hQ⟩
set_option maxRecDepth 65536 in
set_option maxHeartbeats 4000000 in
theorem t_appendA (l : Launch) {Z : State} {a0 : Array Value} {EL : List (String × Nat)} (hw : ∀ d ∈ tables_1, d.before a0 Z = true) (hEL : EW Z a0 EL) (cst : Cst Z) {h : Heap} (hO : Ext Z.heap h) {x t : Addr} {cap : Nat} {cs : List Int32} (B : Sbd Z h x t cap cs) {y : Addr} {ds : List Int32} (S : Str Z h y ds) (hn : cs.length + ds.length ≤ cap) :
    Met l Z EL [t] (⟨"java/lang/AbstractStringBuilder", "append", "(Ljava/lang/String;)Ljava/lang/AbstractStringBuilder;"⟩ : MethodName) jdk_68_method_22_code 3 (some (.object AB)) { frames := 3, cells := 0, slots := 0, locals := 60 } #[.ref x, .ref y] h (RetF fun v h' _ => v = .ref x ∧ Keep h h' [x, t] ∧ Sbd Z h' x t cap (cs ++ ds)) := by
  refine Met.intro pnAB hEL hO ?_
  intro p e s m below meth c T W hby hml hret hnm
  have D : ∀ {pc : Nat} {r}, decode jdk_68_method_22_code pc = r → decode c.code pc = r := fun q => hb hby q
  refine Go.cast (efAa m x y) ?_
  have hc31 := B.cap31
  have B0 := B
  obtain ⟨b1, b2, b3, b4, b5, b6, bs, b7, b8, b9, b10, b11⟩ := B
  refine g_aloadN W (pc' := 1) (D aa_0) rfl rfl (by first | rfl | assumption) ?_
  refine g_ifnonnullY W (pc1 := 9) (pc2 := 4) (D aa_1) (by decide) (by decide) rfl ?_
  refine g_aloadN W (pc' := 10) (D aa_9) rfl rfl (by first | rfl | assumption) ?_
  refine g_len W hw cst (S) (hw _ (List.mem_of_getElem? (i := 86) rfl)) (pc' := 13) (by rw [hml]; rfl) (D aa_10) rfl (Wn := 0) (Nat.le_refl _) (by decide) (by decide) (by decide) (by decide) (rfl) (fun T W => ?_)
  refine g_istoreN W (pc' := 14) (D aa_13) rfl (ls' := #[_, _, _]) rfl ?_
  refine g_aloadN W (pc' := 15) (D aa_14) rfl rfl (by first | rfl | assumption) ?_
  refine g_aloadN W (pc' := 16) (D aa_15) rfl rfl (by first | rfl | assumption) ?_
  refine g_getfield W (pc' := 19) (host := "") (Or.inl (hw _ (List.mem_of_getElem? (i := 96) rfl))) Via.refl (b6) (D aa_16) rfl (fun T W => ?_)
  refine g_iloadN W (pc' := 20) (D aa_19) rfl rfl ?_
  refine g_iadd W (pc' := 21) (D aa_20) rfl ?_
  rw [← Int32.ofNat_add]
  refine g_virtV W (t_ensure l hw hEL cst W.old B0 hn) (fun x q => nomatch q) ⟨_, _, rfl, (hw _ (List.mem_of_getElem? (i := 101) rfl))⟩ (hw _ (List.mem_of_getElem? (i := 98) rfl)) (decl_of (hw _ (List.mem_of_getElem? (i := 99) rfl)) (hw _ (List.mem_of_getElem? (i := 102) rfl))) (hw _ (List.mem_of_getElem? (i := 101) rfl)) (hw _ (List.mem_of_getElem? (i := 99) rfl)) (hw _ (List.mem_of_getElem? (i := 68) rfl)) (hw _ (List.mem_of_getElem? (i := 102) rfl)) (by decide) (by decide +kernel : parseMethodDescriptor "(I)V" = some ⟨[.int], none⟩) (b3) (argsL := [_]) rfl rfl (pc' := 24) rfl (by rw [hml]; rfl) (D aa_21) rfl (Wn := 0) (Nat.le_refl _) (by decide) (by decide) (by decide) (by decide) (fun T h1 W hg hQ => ?_)
  subst hQ
  refine g_aloadN W (pc' := 25) (D aa_24) rfl rfl (by first | rfl | assumption) ?_
  refine g_aloadN W (pc' := 26) (D aa_25) rfl rfl (by first | rfl | assumption) ?_
  refine g_getfield W (pc' := 29) (host := "") (Or.inl (hw _ (List.mem_of_getElem? (i := 96) rfl))) Via.refl (b6) (D aa_26) rfl (fun T W => ?_)
  refine g_aloadN W (pc' := 30) (D aa_29) rfl rfl (by first | rfl | assumption) ?_
  refine g_virtV W (t_putAt l hw hEL cst W.old B0 S b7 b8 (i := cs.length) (by omega)) (fun y q => q) ⟨_, _, rfl, (hw _ (List.mem_of_getElem? (i := 106) rfl))⟩ (hw _ (List.mem_of_getElem? (i := 103) rfl)) (decl_of (hw _ (List.mem_of_getElem? (i := 104) rfl)) (hw _ (List.mem_of_getElem? (i := 107) rfl))) (hw _ (List.mem_of_getElem? (i := 106) rfl)) (hw _ (List.mem_of_getElem? (i := 104) rfl)) (hw _ (List.mem_of_getElem? (i := 68) rfl)) (hw _ (List.mem_of_getElem? (i := 107) rfl)) (by decide) (by decide +kernel : parseMethodDescriptor "(ILjava/lang/String;)V" = some ⟨[.int, (.object "java/lang/String")], none⟩) (b3) (argsL := [_, _]) rfl rfl (pc' := 33) rfl (by rw [hml]; rfl) (D aa_30) rfl (Wn := 0) (Nat.le_refl _) (by decide) (by decide) (by decide) (by decide) (fun T h1 W hg hQ => ?_)
  obtain ⟨K1, A1⟩ := hQ
  have ne : x ∉ [t] := ninS (b7.neE b3 (hw _ (List.mem_of_getElem? (i := 59) rfl))).symm nin0
  refine g_aloadN W (pc' := 34) (D aa_33) rfl rfl (by first | rfl | assumption) ?_
  refine g_dup W (pc' := 35) (D aa_34) rfl rfl ?_
  refine g_getfield W (pc' := 38) (host := "") (Or.inl (hw _ (List.mem_of_getElem? (i := 96) rfl))) Via.refl (b6.keep K1 ne) (D aa_35) rfl (fun T W => ?_)
  refine g_iloadN W (pc' := 39) (D aa_38) rfl rfl ?_
  refine g_iadd W (pc' := 40) (D aa_39) rfl ?_
  rw [← Int32.ofNat_add]
  refine g_putfield W (pc' := 43) (host := "") (Or.inl (hw _ (List.mem_of_getElem? (i := 96) rfl))) Via.refl (b6.keep K1 ne) (b3.keep K1) (Or.inl (hw _ (List.mem_of_getElem? (i := 97) rfl))) (hw _ (List.mem_of_getElem? (i := 59) rfl)) (ty := .int) (by decide) rfl rfl (⟨b1, Or.inr (Or.inl ⟨SB, b3.keep K1, by decide, by decide⟩)⟩) (D aa_40) rfl (fun T h2 W Wr1 => ?_)
  refine g_aloadN W (pc' := 44) (D aa_43) rfl rfl (by first | rfl | assumption) ?_
  have hp := B0.put hw (ds := ds) K1 A1 ((((b8.take _)).app (Bys.lo ds)).app (b8.drop _)) (by simp only [List.length_append, List.length_take, List.length_drop, List.length_map]; omega) (by rw [List.length_append]; exact hn) (by
    rw [b11, ← List.map_append]
    exact List.take_left' (by simp)) (by rw [List.length_append]; exact Wr1)
  exact g_areturn W (D aa_44) hret rfl rfl (by decide) (by decide) ⟨_, rfl, rfl, hp⟩
theorem ba_0 : decode jdk_67_method_7_code 0 = .ok (.aload_n 0, 1) := by decide +kernel
theorem ba_1 : decode jdk_67_method_7_code 1 = .ok (.aload_n 1, 1) := by decide +kernel
theorem ba_2 : decode jdk_67_method_7_code 2 = .ok (.invokespecial 29, 3) := by decide +kernel
theorem ba_5 : decode jdk_67_method_7_code 5 = .ok (.pop, 1) := by decide +kernel
theorem ba_6 : decode jdk_67_method_7_code 6 = .ok (.aload_n 0, 1) := by decide +kernel
theorem ba_7 : decode jdk_67_method_7_code 7 = .ok (.areturn, 1) := by decide +kernel
theorem efBa (m : MethodId) (x0 : Addr) (x1 : Addr) : entryFrame m #[.ref x0, .ref x1] 2 = mkF m 0 #[.val (.ref x0), .val (.ref x1)] [] := by first | (simp [entryFrame, mkF, argsToLocals, Value.category, maxLocals]; done) | rfl
theorem efBaN (m : MethodId) (x0 : Addr) : entryFrame m #[.ref x0, .null] 2 = mkF m 0 #[.val (.ref x0), .val .null] [] := by first | (simp [entryFrame, mkF, argsToLocals, Value.category, maxLocals]; done) | rfl
set_option maxRecDepth 65536 in
set_option maxHeartbeats 4000000 in
theorem t_appendN (l : Launch) {Z : State} {a0 : Array Value} {EL : List (String × Nat)} (hw : ∀ d ∈ tables_1, d.before a0 Z = true) (hEL : EW Z a0 EL) (cst : Cst Z) {h : Heap} (hO : Ext Z.heap h) {x t : Addr} {cap : Nat} {cs : List Int32} (B : Sbd Z h x t cap cs) (hn : cs.length + 4 ≤ cap) :
    Met l Z EL [t] (⟨"java/lang/StringBuilder", "append", "(Ljava/lang/String;)Ljava/lang/StringBuilder;"⟩ : MethodName) jdk_67_method_7_code 2 (some (.object SB)) { frames := 4, cells := 0, slots := 0, locals := 76 } #[.ref x, .null] h (Ret fun v h' => v = .ref x ∧ Keep h h' [x, t] ∧ Sbd Z h' x t cap (cs ++ [110, 117, 108, 108])) := by
  refine Met.intro pnSB hEL hO ?_
  intro p e s m below meth c T W hby hml hret hnm
  have D : ∀ {pc : Nat} {r}, decode jdk_67_method_7_code pc = r → decode c.code pc = r := fun q => hb hby q
  refine Go.cast (efBaN m x) ?_
  refine g_aloadN W (pc' := 1) (D ba_0) rfl rfl (by first | rfl | assumption) ?_
  refine g_aloadN W (pc' := 2) (D ba_1) rfl rfl (by first | rfl | assumption) ?_
  refine g_superF W (t_appendAN l hw hEL cst W.old B hn) (fun y q => q) (hw _ (List.mem_of_getElem? (i := 81) rfl)) (hw _ (List.mem_of_getElem? (i := 82) rfl)) (hw _ (List.mem_of_getElem? (i := 83) rfl)) (hw _ (List.mem_of_getElem? (i := 68) rfl)) (hw _ (List.mem_of_getElem? (i := 85) rfl)) (by decide) (by decide) (by decide +kernel : parseMethodDescriptor "(Ljava/lang/String;)Ljava/lang/AbstractStringBuilder;" = some ⟨[(.object "java/lang/String")], some (.object "java/lang/AbstractStringBuilder")⟩) (⟨"java/lang/StringBuilder", ⟨"java/lang/AbstractStringBuilder", "getValue", "()[B"⟩, rfl, (hw _ (List.mem_of_getElem? (i := 139) rfl))⟩) (Ins.self B.2.2.1) (argsL := [_]) rfl rfl (pc' := 5) rfl (by rw [hml]; rfl) (D ba_2) rfl (Wn := 0) (Nat.le_refl _) (by decide) (by decide) (by decide) (by decide) (fun v T h1 FF W hg hQ => ?_)
  obtain ⟨rfl, hQ⟩ := hQ
  refine g_pop W (pc' := 6) (D ba_5) rfl rfl ?_
  refine g_aloadN W (pc' := 7) (D ba_6) rfl rfl (by first | rfl | assumption) ?_
  exact g_areturn W (D ba_7) hret rfl rfl (by decide) (by decide) ⟨_, rfl, rfl, hQ⟩
set_option maxRecDepth 65536 in
set_option maxHeartbeats 4000000 in
theorem t_append (l : Launch) {Z : State} {a0 : Array Value} {EL : List (String × Nat)} (hw : ∀ d ∈ tables_1, d.before a0 Z = true) (hEL : EW Z a0 EL) (cst : Cst Z) {h : Heap} (hO : Ext Z.heap h) {x t : Addr} {cap : Nat} {cs : List Int32} (B : Sbd Z h x t cap cs) {y : Addr} {ds : List Int32} (S : Str Z h y ds) (hn : cs.length + ds.length ≤ cap) :
    Met l Z EL [t] (⟨"java/lang/StringBuilder", "append", "(Ljava/lang/String;)Ljava/lang/StringBuilder;"⟩ : MethodName) jdk_67_method_7_code 2 (some (.object SB)) { frames := 4, cells := 0, slots := 0, locals := 76 } #[.ref x, .ref y] h (Ret fun v h' => v = .ref x ∧ Keep h h' [x, t] ∧ Sbd Z h' x t cap (cs ++ ds)) := by
  refine Met.intro pnSB hEL hO ?_
  intro p e s m below meth c T W hby hml hret hnm
  have D : ∀ {pc : Nat} {r}, decode jdk_67_method_7_code pc = r → decode c.code pc = r := fun q => hb hby q
  refine Go.cast (efBa m x y) ?_
  refine g_aloadN W (pc' := 1) (D ba_0) rfl rfl (by first | rfl | assumption) ?_
  refine g_aloadN W (pc' := 2) (D ba_1) rfl rfl (by first | rfl | assumption) ?_
  refine g_superF W (t_appendA l hw hEL cst W.old B S hn) (fun y q => q) (hw _ (List.mem_of_getElem? (i := 81) rfl)) (hw _ (List.mem_of_getElem? (i := 82) rfl)) (hw _ (List.mem_of_getElem? (i := 83) rfl)) (hw _ (List.mem_of_getElem? (i := 68) rfl)) (hw _ (List.mem_of_getElem? (i := 85) rfl)) (by decide) (by decide) (by decide +kernel : parseMethodDescriptor "(Ljava/lang/String;)Ljava/lang/AbstractStringBuilder;" = some ⟨[(.object "java/lang/String")], some (.object "java/lang/AbstractStringBuilder")⟩) (⟨"java/lang/StringBuilder", ⟨"java/lang/AbstractStringBuilder", "getValue", "()[B"⟩, rfl, (hw _ (List.mem_of_getElem? (i := 139) rfl))⟩) (Ins.self B.2.2.1) (argsL := [_]) rfl rfl (pc' := 5) rfl (by rw [hml]; rfl) (D ba_2) rfl (Wn := 0) (Nat.le_refl _) (by decide) (by decide) (by decide) (by decide) (fun v T h1 FF W hg hQ => ?_)
  obtain ⟨rfl, hQ⟩ := hQ
  refine g_pop W (pc' := 6) (D ba_5) rfl rfl ?_
  refine g_aloadN W (pc' := 7) (D ba_6) rfl rfl (by first | rfl | assumption) ?_
  exact g_areturn W (D ba_7) hret rfl rfl (by decide) (by decide) ⟨_, rfl, rfl, hQ⟩
theorem ia_0 : decode jdk_68_method_2_code 0 = .ok (.aload_n 0, 1) := by decide +kernel
theorem ia_1 : decode jdk_68_method_2_code 1 = .ok (.invokespecial 3, 3) := by decide +kernel
theorem ia_4 : decode jdk_68_method_2_code 4 = .ok (.getstatic 18, 3) := by decide +kernel
theorem ia_7 : decode jdk_68_method_2_code 7 = .ok (.ifCond .eq 18, 3) := by decide +kernel
theorem ia_10 : decode jdk_68_method_2_code 10 = .ok (.aload_n 0, 1) := by decide +kernel
theorem ia_11 : decode jdk_68_method_2_code 11 = .ok (.iload_n 1, 1) := by decide +kernel
theorem ia_12 : decode jdk_68_method_2_code 12 = .ok (.newarray .byte, 2) := by decide +kernel
theorem ia_14 : decode jdk_68_method_2_code 14 = .ok (.putfield 15, 3) := by decide +kernel
theorem ia_17 : decode jdk_68_method_2_code 17 = .ok (.aload_n 0, 1) := by decide +kernel
theorem ia_18 : decode jdk_68_method_2_code 18 = .ok (.iconst 0, 1) := by decide +kernel
theorem ia_19 : decode jdk_68_method_2_code 19 = .ok (.putfield 22, 3) := by decide +kernel
theorem ia_22 : decode jdk_68_method_2_code 22 = .ok (.goto 16, 3) := by decide +kernel
theorem ia_25 : decode jdk_68_method_2_code 25 = .ok (.aload_n 0, 1) := by decide +kernel
theorem ia_26 : decode jdk_68_method_2_code 26 = .ok (.iload_n 1, 1) := by decide +kernel
theorem ia_27 : decode jdk_68_method_2_code 27 = .ok (.invokestatic 26, 3) := by decide +kernel
theorem ia_30 : decode jdk_68_method_2_code 30 = .ok (.putfield 15, 3) := by decide +kernel
theorem ia_33 : decode jdk_68_method_2_code 33 = .ok (.aload_n 0, 1) := by decide +kernel
theorem ia_34 : decode jdk_68_method_2_code 34 = .ok (.iconst 1, 1) := by decide +kernel
theorem ia_35 : decode jdk_68_method_2_code 35 = .ok (.putfield 22, 3) := by decide +kernel
theorem ia_38 : decode jdk_68_method_2_code 38 = .ok (.return_, 1) := by decide +kernel
theorem efIa (m : MethodId) (x0 : Addr) (x1 : Int32) : entryFrame m #[.ref x0, .int x1] 2 = mkF m 0 #[.val (.ref x0), .val (.int x1)] [] := by first | (simp [entryFrame, mkF, argsToLocals, Value.category, maxLocals]; done) | rfl
set_option maxRecDepth 65536 in
set_option maxHeartbeats 4000000 in
theorem t_initA (l : Launch) {Z : State} {a0 : Array Value} {EL : List (String × Nat)} (hw : ∀ d ∈ tables_1, d.before a0 Z = true) (hEL : EW Z a0 EL) (cst : Cst Z) {h : Heap} (hO : Ext Z.heap h) {x : Addr} (hx : Z.heap.size ≤ x) (EX : Exa Z h x SB) {u0 u1 : Value} (f0 : Fld Z h x AB "value" "[B" u0) (f1 : Fld Z h x AB "coder" "B" u1) (f2 : Fld Z h x AB "count" "I" (.int 0)) :
    Met l Z EL [] (⟨"java/lang/AbstractStringBuilder", "<init>", "(I)V"⟩ : MethodName) jdk_68_method_2_code 2 none { frames := 1, cells := 1, slots := 16, locals := 12 } #[.ref x, .int 16] h (VoidF fun h' FF => ∃ t, FF = [t] ∧ h.size ≤ t ∧ Keep h h' [x] ∧ Sbd Z h' x t 16 []) := by
  have n_value_coder : Jvm.RoadKit.slotOf Z AB "value" "[B" ≠ Jvm.RoadKit.slotOf Z AB "coder" "B" := slot_ne (C := SB) (Or.inl (hw _ (List.mem_of_getElem? (i := 73) rfl))) (Or.inl (hw _ (List.mem_of_getElem? (i := 75) rfl))) (by decide) (t := .array .byte) (t' := .byte) (by decide) (by decide)
  have n_value_count : Jvm.RoadKit.slotOf Z AB "value" "[B" ≠ Jvm.RoadKit.slotOf Z AB "count" "I" := slot_ne (C := SB) (Or.inl (hw _ (List.mem_of_getElem? (i := 73) rfl))) (Or.inl (hw _ (List.mem_of_getElem? (i := 97) rfl))) (by decide) (t := .array .byte) (t' := .int) (by decide) (by decide)
  have n_coder_count : Jvm.RoadKit.slotOf Z AB "coder" "B" ≠ Jvm.RoadKit.slotOf Z AB "count" "I" := slot_ne (C := SB) (Or.inl (hw _ (List.mem_of_getElem? (i := 75) rfl))) (Or.inl (hw _ (List.mem_of_getElem? (i := 97) rfl))) (by decide) (t := .byte) (t' := .int) (by decide) (by decide)
  refine Met.intro pnAB hEL hO ?_
  intro p e s m below meth c T W hby hml hret hnm
  have D : ∀ {pc : Nat} {r}, decode jdk_68_method_2_code pc = r → decode c.code pc = r := fun q => hb hby q
  refine Go.cast (efIa m x 16) ?_
  obtain ⟨zc, Sc, hzc⟩ := cst
  refine g_aloadN W (pc' := 1) (D ia_0) rfl rfl (by first | rfl | assumption) ?_
  refine g_initO W (pc' := 4) (hw _ (List.mem_of_getElem? (i := 70) rfl)) (hw _ (List.mem_of_getElem? (i := 16) rfl)) (hw _ (List.mem_of_getElem? (i := 17) rfl)) (by rw [hml]; rfl) (D ia_1) rfl (by decide) (Wn := 0) (Nat.le_refl _) (by decide) (fun T W => ?_)
  refine g_getstatic W (pc' := 7) (host := "") (Or.inl (hw _ (List.mem_of_getElem? (i := 71) rfl))) Via.refl (Sc.ext W.old) (D ia_4) rfl (fun T W => ?_)
  refine g_ifeqN W (pc1 := 25) (pc2 := 10) (D ia_7) (by decide) (by decide) rfl (hzc) ?_
  refine g_aloadN W (pc' := 11) (D ia_10) rfl rfl (by first | rfl | assumption) ?_
  refine g_iloadN W (pc' := 12) (D ia_11) rfl rfl ?_
  refine g_newarray W (pc' := 14) (ty := .byte) rfl (i := 16) (by decide) (by decide) (hw _ (List.mem_of_getElem? (i := 23) rfl)) (D ia_12) rfl (cap := 16) (by decide) (by decide) (by decide) (by decide) (fun t T h1 ht W E1 A => ?_)
  replace A : Ali Z h1 t .byte ((List.replicate 16 (0 : Int32)).map Value.int) := A
  replace EX := EX.ext E1
  replace f0 := f0.ext E1
  replace f1 := f1.ext E1
  replace f2 := f2.ext E1
  refine g_putfield W (pc' := 17) (host := "") (Or.inl (hw _ (List.mem_of_getElem? (i := 72) rfl))) Via.refl (f0) (EX) (Or.inl (hw _ (List.mem_of_getElem? (i := 73) rfl))) (hw _ (List.mem_of_getElem? (i := 59) rfl)) (ty := (.array .byte)) (by decide) rfl rfl (⟨hx, Or.inr (Or.inl ⟨SB, EX, by decide, by decide⟩)⟩) (D ia_14) rfl (fun T h2 W Wr1 => ?_)
  have A2 := A.wr Wr1 (A.neE EX (hw _ (List.mem_of_getElem? (i := 59) rfl)))
  replace f0 := f0.same Wr1
  replace f1 := f1.other Wr1 (Or.inr (Ne.symm n_value_coder))
  replace f2 := f2.other Wr1 (Or.inr (Ne.symm n_value_count))
  replace EX := EX.wr Wr1
  refine g_aloadN W (pc' := 18) (D ia_17) rfl rfl (by first | rfl | assumption) ?_
  refine g_iconst W (pc' := 19) (D ia_18) rfl (v := (0 : Int32)) (by decide) ?_
  refine g_putfield W (pc' := 22) (host := "") (Or.inl (hw _ (List.mem_of_getElem? (i := 74) rfl))) Via.refl (f1) (EX) (Or.inl (hw _ (List.mem_of_getElem? (i := 75) rfl))) (hw _ (List.mem_of_getElem? (i := 59) rfl)) (ty := .byte) (by decide) rfl rfl (⟨hx, Or.inr (Or.inl ⟨SB, EX, by decide, by decide⟩)⟩) (D ia_19) rfl (fun T h3 W Wr2 => ?_)
  have A3 := A2.wr Wr2 (A2.neE EX (hw _ (List.mem_of_getElem? (i := 59) rfl)))
  replace f1 := f1.same Wr2
  replace f0 := f0.other Wr2 (Or.inr n_value_coder)
  replace f2 := f2.other Wr2 (Or.inr (Ne.symm n_coder_count))
  replace EX := EX.wr Wr2
  have KK : Keep h h3 [x] := ((ext_keep E1 [x]).wr Wr1 (Or.inl (List.mem_singleton.mpr rfl))).wr Wr2 (Or.inl (List.mem_singleton.mpr rfl))
  refine g_goto W (pc' := 38) (D ia_22) (by decide) (by decide) ?_
  exact g_returnF W (D ia_38) hret (by decide) (by decide) (FF := [t]) (fun z hz => List.mem_cons.mpr (Or.inl (List.mem_singleton.mp hz))) ⟨rfl, t, rfl, ht, KK, hx, Nat.le_trans hO.1 ht, EX, f0, f1, f2, List.replicate 16 0, A3, Bys.rep 16, by simp, by simp, by simp⟩
theorem ibb_0 : decode jdk_67_method_1_code 0 = .ok (.aload_n 0, 1) := by decide +kernel
theorem ibb_1 : decode jdk_67_method_1_code 1 = .ok (.bipush 16, 2) := by decide +kernel
theorem ibb_3 : decode jdk_67_method_1_code 3 = .ok (.invokespecial 1, 3) := by decide +kernel
theorem ibb_6 : decode jdk_67_method_1_code 6 = .ok (.return_, 1) := by decide +kernel
theorem efIbb (m : MethodId) (x0 : Addr) : entryFrame m #[.ref x0] 1 = mkF m 0 #[.val (.ref x0)] [] := by first | (simp [entryFrame, mkF, argsToLocals, Value.category, maxLocals]; done) | rfl
set_option maxRecDepth 65536 in
set_option maxHeartbeats 4000000 in
theorem t_initB (l : Launch) {Z : State} {a0 : Array Value} {EL : List (String × Nat)} (hw : ∀ d ∈ tables_1, d.before a0 Z = true) (hEL : EW Z a0 EL) (cst : Cst Z) {h : Heap} (hO : Ext Z.heap h) {x : Addr} (hx : Z.heap.size ≤ x) (EX : Exa Z h x SB) {u0 u1 : Value} (f0 : Fld Z h x AB "value" "[B" u0) (f1 : Fld Z h x AB "coder" "B" u1) (f2 : Fld Z h x AB "count" "I" (.int 0)) :
    Met l Z EL [] (⟨"java/lang/StringBuilder", "<init>", "()V"⟩ : MethodName) jdk_67_method_1_code 1 none { frames := 2, cells := 1, slots := 16, locals := 26 } #[.ref x] h (VoidF fun h' FF => ∃ t, FF = [t] ∧ h.size ≤ t ∧ Keep h h' [x] ∧ Sbd Z h' x t 16 []) := by
  refine Met.intro pnSB hEL hO ?_
  intro p e s m below meth c T W hby hml hret hnm
  have D : ∀ {pc : Nat} {r}, decode jdk_67_method_1_code pc = r → decode c.code pc = r := fun q => hb hby q
  refine Go.cast (efIbb m x) ?_
  refine g_aloadN W (pc' := 1) (D ibb_0) rfl rfl (by first | rfl | assumption) ?_
  refine g_bipush W (pc' := 3) (D ibb_1) rfl (v := (16 : Int32)) (by decide) ?_
  refine g_specF W (t_initA l hw hEL cst W.old hx EX f0 f1 f2) (fun x q => nomatch q) rfl (hw _ (List.mem_of_getElem? (i := 64) rfl)) (hw _ (List.mem_of_getElem? (i := 65) rfl)) (hw _ (List.mem_of_getElem? (i := 68) rfl)) (hw _ (List.mem_of_getElem? (i := 69) rfl)) (by decide) (by decide +kernel : parseMethodDescriptor "(I)V" = some ⟨[.int], none⟩) (argsL := [_]) rfl rfl (pc' := 6) rfl (by rw [hml]; rfl) (D ibb_3) rfl (Wn := 0) (Nat.le_refl _) (by decide) (by decide) (by decide) (by decide) (fun T h1 FF W hg hQ => ?_)
  exact g_returnF W (D ibb_6) hret (by decide) (by decide) (FF := FF) (fun z hz => List.mem_append.mpr (Or.inl hz)) ⟨rfl, hQ⟩
theorem mn_0 : decode jdk_29_method_69_code 0 = .ok (.iload_n 0, 1) := by decide +kernel
theorem mn_1 : decode jdk_29_method_69_code 1 = .ok (.iload_n 1, 1) := by decide +kernel
theorem mn_2 : decode jdk_29_method_69_code 2 = .ok (.if_icmp .gt 7, 3) := by decide +kernel
theorem mn_5 : decode jdk_29_method_69_code 5 = .ok (.iload_n 0, 1) := by decide +kernel
theorem mn_6 : decode jdk_29_method_69_code 6 = .ok (.goto 4, 3) := by decide +kernel
theorem mn_9 : decode jdk_29_method_69_code 9 = .ok (.iload_n 1, 1) := by decide +kernel
theorem mn_10 : decode jdk_29_method_69_code 10 = .ok (.ireturn, 1) := by decide +kernel
theorem efMn (m : MethodId) (x0 : Int32) (x1 : Int32) : entryFrame m #[.int x0, .int x1] 2 = mkF m 0 #[.val (.int x0), .val (.int x1)] [] := by first | (simp [entryFrame, mkF, argsToLocals, Value.category, maxLocals]; done) | rfl
set_option maxRecDepth 65536 in
set_option maxHeartbeats 4000000 in
theorem t_min (l : Launch) {Z : State} {a0 : Array Value} {EL : List (String × Nat)} (hw : ∀ d ∈ tables_1, d.before a0 Z = true) (hEL : EW Z a0 EL) (cst : Cst Z) {h : Heap} (hO : Ext Z.heap h) {n k : Nat} (hk : k ≤ n) (hn : n < 2 ^ 31) :
    Met l Z EL [] (⟨"java/lang/Math", "min", "(II)I"⟩ : MethodName) jdk_29_method_69_code 2 (some .int) { frames := 0, cells := 0, slots := 0, locals := 0 } #[.int (Int32.ofNat n), .int (Int32.ofNat k)] h (Ret fun v h' => v = .int (Int32.ofNat k) ∧ h = h') := by
  refine Met.introP pnMa hEL hO ?_
  intro p e s m below meth c T W hby hml hret hnm
  have D : ∀ {pc : Nat} {r}, decode jdk_29_method_69_code pc = r → decode c.code pc = r := fun q => hb hby q
  refine Go.cast (efMn m (Int32.ofNat n) (Int32.ofNat k)) ?_
  refine g_iloadN W (pc' := 1) (D mn_0) rfl rfl ?_
  refine g_iloadN W (pc' := 2) (D mn_1) rfl rfl ?_
  refine g_icmpgt W (pc1 := 9) (pc2 := 5) (D mn_2) (by decide) (by decide) rfl (fun q => ?_) (fun q => ?_)
  · refine g_iloadN W (pc' := 10) (D mn_9) rfl rfl ?_
    exact g_reti W (D mn_10) hret (by decide) (by decide) ⟨_, rfl, rfl, rfl⟩
  · refine g_iloadN W (pc' := 6) (D mn_5) rfl rfl ?_
    refine g_goto W (pc' := 10) (D mn_6) (by decide) (by decide) ?_
    refine g_reti W (D mn_10) hret (by decide) (by decide) ⟨_, rfl, ?_, rfl⟩
    rw [Int32.lt_iff_toInt_lt, Int32.toInt_ofNat_small hn, Int32.toInt_ofNat_small (by omega)] at q
    rw [show n = k by omega]
theorem cl_0 : decode jdk_65_method_131_code 0 = .ok (.iload_n 1, 1) := by decide +kernel
theorem cl_1 : decode jdk_65_method_131_code 1 = .ok (.iload_n 0, 1) := by decide +kernel
theorem cl_2 : decode jdk_65_method_131_code 2 = .ok (.if_icmp .ge 35, 3) := by decide +kernel
theorem cl_5 : decode jdk_65_method_131_code 5 = .ok (.new 43, 3) := by decide +kernel
theorem cl_8 : decode jdk_65_method_131_code 8 = .ok (.dup, 1) := by decide +kernel
theorem cl_9 : decode jdk_65_method_131_code 9 = .ok (.new 45, 3) := by decide +kernel
theorem cl_12 : decode jdk_65_method_131_code 12 = .ok (.dup, 1) := by decide +kernel
theorem cl_13 : decode jdk_65_method_131_code 13 = .ok (.invokespecial 47, 3) := by decide +kernel
theorem cl_16 : decode jdk_65_method_131_code 16 = .ok (.iload_n 0, 1) := by decide +kernel
theorem cl_17 : decode jdk_65_method_131_code 17 = .ok (.invokevirtual 54, 3) := by decide +kernel
theorem cl_20 : decode jdk_65_method_131_code 20 = .ok (.ldc_w 337, 3) := by decide +kernel
theorem cl_23 : decode jdk_65_method_131_code 23 = .ok (.invokevirtual 50, 3) := by decide +kernel
theorem cl_26 : decode jdk_65_method_131_code 26 = .ok (.iload_n 1, 1) := by decide +kernel
theorem cl_27 : decode jdk_65_method_131_code 27 = .ok (.invokevirtual 54, 3) := by decide +kernel
theorem cl_30 : decode jdk_65_method_131_code 30 = .ok (.invokevirtual 61, 3) := by decide +kernel
theorem cl_33 : decode jdk_65_method_131_code 33 = .ok (.invokespecial 65, 3) := by decide +kernel
theorem cl_36 : decode jdk_65_method_131_code 36 = .ok (.athrow, 1) := by decide +kernel
theorem cl_37 : decode jdk_65_method_131_code 37 = .ok (.return_, 1) := by decide +kernel
theorem efCl (m : MethodId) (x0 : Int32) (x1 : Int32) : entryFrame m #[.int x0, .int x1] 2 = mkF m 0 #[.val (.int x0), .val (.int x1)] [] := by first | (simp [entryFrame, mkF, argsToLocals, Value.category, maxLocals]; done) | rfl
set_option maxRecDepth 65536 in
set_option maxHeartbeats 4000000 in
theorem t_checkLen (l : Launch) {Z : State} {a0 : Array Value} {EL : List (String × Nat)} (hw : ∀ d ∈ tables_1, d.before a0 Z = true) (hEL : EW Z a0 EL) (cst : Cst Z) {h : Heap} (hO : Ext Z.heap h) {k : Nat} (hk : k < 2 ^ 31) :
    Met l Z EL [] (⟨"java/util/Arrays", "checkLength", "(II)V"⟩ : MethodName) jdk_65_method_131_code 2 none { frames := 0, cells := 0, slots := 0, locals := 0 } #[.int 0, .int (Int32.ofNat k)] h (Void fun h' => h = h') := by
  refine Met.intro pnAr hEL hO ?_
  intro p e s m below meth c T W hby hml hret hnm
  have D : ∀ {pc : Nat} {r}, decode jdk_65_method_131_code pc = r → decode c.code pc = r := fun q => hb hby q
  refine Go.cast (efCl m 0 (Int32.ofNat k)) ?_
  refine g_iloadN W (pc' := 1) (D cl_0) rfl rfl ?_
  refine g_iloadN W (pc' := 2) (D cl_1) rfl rfl ?_
  refine g_icmpgeY W (pc1 := 37) (pc2 := 5) (D cl_2) (by decide) (by decide) rfl (own_n0 hk) ?_
  exact g_return W (D cl_37) hret (by decide) (by decide) ⟨rfl, rfl⟩
theorem cb_0 : decode jdk_65_method_133_code 0 = .ok (.iload_n 1, 1) := by decide +kernel
theorem cb_1 : decode jdk_65_method_133_code 1 = .ok (.iload_n 2, 1) := by decide +kernel
theorem cb_2 : decode jdk_65_method_133_code 2 = .ok (.invokestatic 343, 3) := by decide +kernel
theorem cb_5 : decode jdk_65_method_133_code 5 = .ok (.iload_n 2, 1) := by decide +kernel
theorem cb_6 : decode jdk_65_method_133_code 6 = .ok (.iload_n 1, 1) := by decide +kernel
theorem cb_7 : decode jdk_65_method_133_code 7 = .ok (.isub, 1) := by decide +kernel
theorem cb_8 : decode jdk_65_method_133_code 8 = .ok (.istore_n 3, 1) := by decide +kernel
theorem cb_9 : decode jdk_65_method_133_code 9 = .ok (.iload_n 3, 1) := by decide +kernel
theorem cb_10 : decode jdk_65_method_133_code 10 = .ok (.newarray .byte, 2) := by decide +kernel
theorem cb_12 : decode jdk_65_method_133_code 12 = .ok (.astore 4, 2) := by decide +kernel
theorem cb_14 : decode jdk_65_method_133_code 14 = .ok (.aload_n 0, 1) := by decide +kernel
theorem cb_15 : decode jdk_65_method_133_code 15 = .ok (.iload_n 1, 1) := by decide +kernel
theorem cb_16 : decode jdk_65_method_133_code 16 = .ok (.aload 4, 2) := by decide +kernel
theorem cb_18 : decode jdk_65_method_133_code 18 = .ok (.iconst 0, 1) := by decide +kernel
theorem cb_19 : decode jdk_65_method_133_code 19 = .ok (.aload_n 0, 1) := by decide +kernel
theorem cb_20 : decode jdk_65_method_133_code 20 = .ok (.arraylength, 1) := by decide +kernel
theorem cb_21 : decode jdk_65_method_133_code 21 = .ok (.iload_n 1, 1) := by decide +kernel
theorem cb_22 : decode jdk_65_method_133_code 22 = .ok (.isub, 1) := by decide +kernel
theorem cb_23 : decode jdk_65_method_133_code 23 = .ok (.iload_n 3, 1) := by decide +kernel
theorem cb_24 : decode jdk_65_method_133_code 24 = .ok (.invokestatic 304, 3) := by decide +kernel
theorem cb_27 : decode jdk_65_method_133_code 27 = .ok (.invokestatic 150, 3) := by decide +kernel
theorem cb_30 : decode jdk_65_method_133_code 30 = .ok (.aload 4, 2) := by decide +kernel
theorem cb_32 : decode jdk_65_method_133_code 32 = .ok (.areturn, 1) := by decide +kernel
theorem efCb (m : MethodId) (x0 : Addr) (x1 : Int32) (x2 : Int32) : entryFrame m #[.ref x0, .int x1, .int x2] 5 = mkF m 0 #[.val (.ref x0), .val (.int x1), .val (.int x2), .unset, .unset] [] := by first | (simp [entryFrame, mkF, argsToLocals, Value.category, maxLocals]; done) | rfl
set_option maxRecDepth 65536 in
set_option maxHeartbeats 4000000 in
theorem t_copyRB (l : Launch) {Z : State} {a0 : Array Value} {EL : List (String × Nat)} (hw : ∀ d ∈ tables_1, d.before a0 Z = true) (hEL : EW Z a0 EL) (cst : Cst Z) {h : Heap} (hO : Ext Z.heap h) {a : Addr} {bs : List Int32} (A : Ali Z h a .byte (bs.map Value.int)) (hB : Bys bs) {k : Nat} (hk : k ≤ bs.length) (hk2 : k ≤ 16) :
    Met l Z EL [] (⟨"java/util/Arrays", "copyOfRangeByte", "([BII)[B"⟩ : MethodName) jdk_65_method_133_code 5 (some (.array .byte)) { frames := 1, cells := 1, slots := 16, locals := 18 } #[.ref a, .int 0, .int (Int32.ofNat k)] h (Ret fun v h' => ∃ b, v = .ref b ∧ h.size ≤ b ∧ Ext h h' ∧ Ali Z h' b .byte ((bs.take k).map Value.int)) := by
  refine Met.intro pnAr hEL hO ?_
  intro p e s m below meth c T W hby hml hret hnm
  have D : ∀ {pc : Nat} {r}, decode jdk_65_method_133_code pc = r → decode c.code pc = r := fun q => hb hby q
  refine Go.cast (efCb m a 0 (Int32.ofNat k)) ?_
  have l31 : bs.length < 2 ^ 31 := by obtain ⟨_, _, _, q⟩ := A; simpa using q
  refine g_iloadN W (pc' := 1) (D cb_0) rfl rfl ?_
  refine g_iloadN W (pc' := 2) (D cb_1) rfl rfl ?_
  refine g_callSV W (t_checkLen l hw hEL cst W.old (k := k) (by omega)) (fun x q => nomatch q) (hw _ (List.mem_of_getElem? (i := 161) rfl)) (hw _ (List.mem_of_getElem? (i := 162) rfl)) (hw _ (List.mem_of_getElem? (i := 156) rfl)) (hw _ (List.mem_of_getElem? (i := 163) rfl)) (by decide) (by decide +kernel : parseMethodDescriptor "(II)V" = some ⟨[.int, .int], none⟩) (argsL := [_, _]) rfl rfl (pc' := 5) rfl (by rw [hml]; rfl) (D cb_2) rfl (Wn := 0) (Nat.le_refl _) (by decide) (by decide) (by decide) (by decide) (fun T h1 W hg hQ => ?_)
  subst hQ
  refine g_iloadN W (pc' := 6) (D cb_5) rfl rfl ?_
  refine g_iloadN W (pc' := 7) (D cb_6) rfl rfl ?_
  refine g_isub W (pc' := 8) (D cb_7) rfl ?_
  have z0 : Int32.ofNat k - 0 = Int32.ofNat k := by simp
  rw [z0]
  refine g_istoreN W (pc' := 9) (D cb_8) rfl (ls' := #[_, _, _, _, _]) rfl ?_
  refine g_iloadN W (pc' := 10) (D cb_9) rfl rfl ?_
  refine g_newarray W (pc' := 12) (ty := .byte) rfl (i := k) (own_n0 (by omega)) (own_n32 (by omega)) (hw _ (List.mem_of_getElem? (i := 23) rfl)) (D cb_10) rfl (cap := 16) hk2 (by decide) (by decide) (by decide) (fun b T h1 hb W E1 Ab => ?_)
  replace Ab : Ali Z h1 b .byte ((List.replicate k (0 : Int32)).map Value.int) := by rw [List.map_replicate]; exact Ab
  refine g_astore W (pc' := 14) (D cb_12) rfl (by first | rfl | assumption) (ls' := #[_, _, _, _, _]) rfl ?_
  refine g_aloadN W (pc' := 15) (D cb_14) rfl rfl (by first | rfl | assumption) ?_
  refine g_iloadN W (pc' := 16) (D cb_15) rfl rfl ?_
  refine g_aload W (pc' := 18) (D cb_16) rfl rfl (by first | rfl | assumption) ?_
  refine g_iconst W (pc' := 19) (D cb_18) rfl (v := (0 : Int32)) (by decide) ?_
  refine g_aloadN W (pc' := 20) (D cb_19) rfl rfl (by first | rfl | assumption) ?_
  refine g_arraylength W (pc' := 21) (A.ext E1) (z := Int32.ofNat bs.length) (by simp) (D cb_20) rfl ?_
  refine g_iloadN W (pc' := 22) (D cb_21) rfl rfl ?_
  refine g_isub W (pc' := 23) (D cb_22) rfl ?_
  have z1 : Int32.ofNat bs.length - 0 = Int32.ofNat bs.length := by simp
  rw [z1]
  refine g_iloadN W (pc' := 24) (D cb_23) rfl rfl ?_
  refine g_callS W (t_min l hw hEL cst W.old hk l31) (fun x q => nomatch q) (hw _ (List.mem_of_getElem? (i := 164) rfl)) (hw _ (List.mem_of_getElem? (i := 165) rfl)) (hw _ (List.mem_of_getElem? (i := 166) rfl)) (hw _ (List.mem_of_getElem? (i := 167) rfl)) (by decide) (by decide +kernel : parseMethodDescriptor "(II)I" = some ⟨[.int, .int], some .int⟩) (argsL := [_, _]) rfl rfl (pc' := 27) rfl (by rw [hml]; rfl) (D cb_24) rfl (Wn := 4) (Nat.le_refl _) (by decide) (by decide) (by decide) (by decide) (fun v T h2 W hg hQ => ?_)
  obtain ⟨rfl, rfl⟩ := hQ
  refine g_arraycopy W (pc' := 30) (A.ext E1) Ab hB (Bys.rep k) (Nat.le_trans hO.1 hb) (List.mem_cons_self ..) (hw _ (List.mem_of_getElem? (i := 168) rfl)) (hw _ (List.mem_of_getElem? (i := 122) rfl)) (hw _ (List.mem_of_getElem? (i := 120) rfl)) (hw _ (List.mem_of_getElem? (i := 121) rfl)) (i := 0) (j := 0) (t := k) (by decide) (by decide) (own_n0 (by omega)) (by decide) (by decide) (own_n32 (by omega)) (by omega) (by simp) (by rw [hml]; rfl) (D cb_27) rfl (by decide) (Wn := 0) (Nat.le_refl _) (by decide) (fun T h2 W Kp A2 => ?_)
  refine g_aload W (pc' := 32) (D cb_30) rfl rfl (by first | rfl | assumption) ?_
  refine g_areturn W (D cb_32) hret rfl rfl (by decide) (by decide) ⟨_, rfl, b, rfl, hb, keep_ext ((ext_keep E1 []).trans Kp (own_new hb)), ?_⟩
  simpa using A2
theorem cr_0 : decode jdk_65_method_132_code 0 = .ok (.iload_n 1, 1) := by decide +kernel
theorem cr_1 : decode jdk_65_method_132_code 1 = .ok (.ifCond .ne 9, 3) := by decide +kernel
theorem cr_4 : decode jdk_65_method_132_code 4 = .ok (.iload_n 2, 1) := by decide +kernel
theorem cr_5 : decode jdk_65_method_132_code 5 = .ok (.aload_n 0, 1) := by decide +kernel
theorem cr_6 : decode jdk_65_method_132_code 6 = .ok (.arraylength, 1) := by decide +kernel
theorem cr_7 : decode jdk_65_method_132_code 7 = .ok (.if_icmp .eq 10, 3) := by decide +kernel
theorem cr_10 : decode jdk_65_method_132_code 10 = .ok (.aload_n 0, 1) := by decide +kernel
theorem cr_11 : decode jdk_65_method_132_code 11 = .ok (.iload_n 1, 1) := by decide +kernel
theorem cr_12 : decode jdk_65_method_132_code 12 = .ok (.iload_n 2, 1) := by decide +kernel
theorem cr_13 : decode jdk_65_method_132_code 13 = .ok (.invokestatic 339, 3) := by decide +kernel
theorem cr_16 : decode jdk_65_method_132_code 16 = .ok (.areturn, 1) := by decide +kernel
theorem cr_17 : decode jdk_65_method_132_code 17 = .ok (.aload_n 0, 1) := by decide +kernel
theorem cr_18 : decode jdk_65_method_132_code 18 = .ok (.invokevirtual 310, 3) := by decide +kernel
theorem cr_21 : decode jdk_65_method_132_code 21 = .ok (.checkcast 311, 3) := by decide +kernel
theorem cr_24 : decode jdk_65_method_132_code 24 = .ok (.areturn, 1) := by decide +kernel
theorem efCr (m : MethodId) (x0 : Addr) (x1 : Int32) (x2 : Int32) : entryFrame m #[.ref x0, .int x1, .int x2] 3 = mkF m 0 #[.val (.ref x0), .val (.int x1), .val (.int x2)] [] := by first | (simp [entryFrame, mkF, argsToLocals, Value.category, maxLocals]; done) | rfl
set_option maxRecDepth 65536 in
set_option maxHeartbeats 4000000 in
theorem t_copyR (l : Launch) {Z : State} {a0 : Array Value} {EL : List (String × Nat)} (hw : ∀ d ∈ tables_1, d.before a0 Z = true) (hEL : EW Z a0 EL) (cst : Cst Z) {h : Heap} (hO : Ext Z.heap h) {a : Addr} {bs : List Int32} (A : Ali Z h a .byte (bs.map Value.int)) (hB : Bys bs) {k : Nat} (hk : k ≤ bs.length) (hk2 : k ≤ 16) (hk3 : k < bs.length) :
    Met l Z EL [] (⟨"java/util/Arrays", "copyOfRange", "([BII)[B"⟩ : MethodName) jdk_65_method_132_code 3 (some (.array .byte)) { frames := 2, cells := 1, slots := 16, locals := 34 } #[.ref a, .int 0, .int (Int32.ofNat k)] h (Ret fun v h' => ∃ b, v = .ref b ∧ h.size ≤ b ∧ Ext h h' ∧ Ali Z h' b .byte ((bs.take k).map Value.int)) := by
  refine Met.intro pnAr hEL hO ?_
  intro p e s m below meth c T W hby hml hret hnm
  have D : ∀ {pc : Nat} {r}, decode jdk_65_method_132_code pc = r → decode c.code pc = r := fun q => hb hby q
  refine Go.cast (efCr m a 0 (Int32.ofNat k)) ?_
  have l31 : bs.length < 2 ^ 31 := by obtain ⟨_, _, _, q⟩ := A; simpa using q
  refine g_iloadN W (pc' := 1) (D cr_0) rfl rfl ?_
  refine g_ifneN W (pc1 := 10) (pc2 := 4) (D cr_1) (by decide) (by decide) rfl (rfl) ?_
  refine g_iloadN W (pc' := 5) (D cr_4) rfl rfl ?_
  refine g_aloadN W (pc' := 6) (D cr_5) rfl rfl (by first | rfl | assumption) ?_
  refine g_arraylength W (pc' := 7) (A) (z := Int32.ofNat bs.length) (by simp) (D cr_6) rfl ?_
  refine g_icmpeqN W (pc1 := 17) (pc2 := 10) (D cr_7) (by decide) (by decide) rfl (fun r => by have := congrArg Int32.toInt r; rw [Int32.toInt_ofNat_small l31, Int32.toInt_ofNat_small (by omega)] at this; omega) ?_
  refine g_aloadN W (pc' := 11) (D cr_10) rfl rfl (by first | rfl | assumption) ?_
  refine g_iloadN W (pc' := 12) (D cr_11) rfl rfl ?_
  refine g_iloadN W (pc' := 13) (D cr_12) rfl rfl ?_
  refine g_callS W (t_copyRB l hw hEL cst W.old A hB hk hk2) (fun x q => nomatch q) (hw _ (List.mem_of_getElem? (i := 158) rfl)) (hw _ (List.mem_of_getElem? (i := 159) rfl)) (hw _ (List.mem_of_getElem? (i := 156) rfl)) (hw _ (List.mem_of_getElem? (i := 160) rfl)) (by decide) (by decide +kernel : parseMethodDescriptor "([BII)[B" = some ⟨[(.array .byte), .int, .int], some (.array .byte)⟩) (argsL := [_, _, _]) rfl rfl (pc' := 16) rfl (by rw [hml]; rfl) (D cr_13) rfl (Wn := 0) (Nat.le_refl _) (by decide) (by decide) (by decide) (by decide) (fun v T h1 W hg hQ => ?_)
  obtain ⟨b, rfl, hQ⟩ := hQ
  exact g_areturn W (D cr_16) hret rfl rfl (by decide) (by decide) ⟨_, rfl, b, rfl, hQ⟩
theorem sv_0 : decode jdk_42_method_150_code 0 = .ok (.aload_n 0, 1) := by decide +kernel
theorem sv_1 : decode jdk_42_method_150_code 1 = .ok (.invokespecial 1, 3) := by decide +kernel
theorem sv_4 : decode jdk_42_method_150_code 4 = .ok (.aload_n 1, 1) := by decide +kernel
theorem sv_5 : decode jdk_42_method_150_code 5 = .ok (.invokevirtual 552, 3) := by decide +kernel
theorem sv_8 : decode jdk_42_method_150_code 8 = .ok (.astore_n 3, 1) := by decide +kernel
theorem sv_9 : decode jdk_42_method_150_code 9 = .ok (.aload_n 1, 1) := by decide +kernel
theorem sv_10 : decode jdk_42_method_150_code 10 = .ok (.invokevirtual 549, 3) := by decide +kernel
theorem sv_13 : decode jdk_42_method_150_code 13 = .ok (.istore 4, 2) := by decide +kernel
theorem sv_15 : decode jdk_42_method_150_code 15 = .ok (.aload_n 1, 1) := by decide +kernel
theorem sv_16 : decode jdk_42_method_150_code 16 = .ok (.invokevirtual 1047, 3) := by decide +kernel
theorem sv_19 : decode jdk_42_method_150_code 19 = .ok (.ifCond .eq 22, 3) := by decide +kernel
theorem sv_22 : decode jdk_42_method_150_code 22 = .ok (.aload_n 0, 1) := by decide +kernel
theorem sv_23 : decode jdk_42_method_150_code 23 = .ok (.iconst 0, 1) := by decide +kernel
theorem sv_24 : decode jdk_42_method_150_code 24 = .ok (.putfield 15, 3) := by decide +kernel
theorem sv_27 : decode jdk_42_method_150_code 27 = .ok (.aload_n 0, 1) := by decide +kernel
theorem sv_28 : decode jdk_42_method_150_code 28 = .ok (.aload_n 3, 1) := by decide +kernel
theorem sv_29 : decode jdk_42_method_150_code 29 = .ok (.iconst 0, 1) := by decide +kernel
theorem sv_30 : decode jdk_42_method_150_code 30 = .ok (.iload 4, 2) := by decide +kernel
theorem sv_32 : decode jdk_42_method_150_code 32 = .ok (.invokestatic 54, 3) := by decide +kernel
theorem sv_35 : decode jdk_42_method_150_code 35 = .ok (.putfield 9, 3) := by decide +kernel
theorem sv_38 : decode jdk_42_method_150_code 38 = .ok (.goto 59, 3) := by decide +kernel
theorem sv_41 : decode jdk_42_method_150_code 41 = .ok (.getstatic 38, 3) := by decide +kernel
theorem sv_44 : decode jdk_42_method_150_code 44 = .ok (.ifCond .eq 35, 3) := by decide +kernel
theorem sv_47 : decode jdk_42_method_150_code 47 = .ok (.aload_n 1, 1) := by decide +kernel
theorem sv_48 : decode jdk_42_method_150_code 48 = .ok (.getfield 1048, 3) := by decide +kernel
theorem sv_51 : decode jdk_42_method_150_code 51 = .ok (.ifCond .eq 28, 3) := by decide +kernel
theorem sv_54 : decode jdk_42_method_150_code 54 = .ok (.aload_n 0, 1) := by decide +kernel
theorem sv_55 : decode jdk_42_method_150_code 55 = .ok (.aload_n 3, 1) := by decide +kernel
theorem sv_56 : decode jdk_42_method_150_code 56 = .ok (.iconst 0, 1) := by decide +kernel
theorem sv_57 : decode jdk_42_method_150_code 57 = .ok (.iload 4, 2) := by decide +kernel
theorem sv_59 : decode jdk_42_method_150_code 59 = .ok (.invokestatic 1051, 3) := by decide +kernel
theorem sv_62 : decode jdk_42_method_150_code 62 = .ok (.putfield 9, 3) := by decide +kernel
theorem sv_65 : decode jdk_42_method_150_code 65 = .ok (.aload_n 0, 1) := by decide +kernel
theorem sv_66 : decode jdk_42_method_150_code 66 = .ok (.aload_n 0, 1) := by decide +kernel
theorem sv_67 : decode jdk_42_method_150_code 67 = .ok (.getfield 9, 3) := by decide +kernel
theorem sv_70 : decode jdk_42_method_150_code 70 = .ok (.iload 4, 2) := by decide +kernel
theorem sv_72 : decode jdk_42_method_150_code 72 = .ok (.invokestatic 47, 3) := by decide +kernel
theorem sv_75 : decode jdk_42_method_150_code 75 = .ok (.putfield 15, 3) := by decide +kernel
theorem sv_78 : decode jdk_42_method_150_code 78 = .ok (.return_, 1) := by decide +kernel
theorem sv_79 : decode jdk_42_method_150_code 79 = .ok (.aload_n 0, 1) := by decide +kernel
theorem sv_80 : decode jdk_42_method_150_code 80 = .ok (.iconst 1, 1) := by decide +kernel
theorem sv_81 : decode jdk_42_method_150_code 81 = .ok (.putfield 15, 3) := by decide +kernel
theorem sv_84 : decode jdk_42_method_150_code 84 = .ok (.aload_n 0, 1) := by decide +kernel
theorem sv_85 : decode jdk_42_method_150_code 85 = .ok (.aload_n 3, 1) := by decide +kernel
theorem sv_86 : decode jdk_42_method_150_code 86 = .ok (.iconst 0, 1) := by decide +kernel
theorem sv_87 : decode jdk_42_method_150_code 87 = .ok (.iload 4, 2) := by decide +kernel
theorem sv_89 : decode jdk_42_method_150_code 89 = .ok (.iconst 1, 1) := by decide +kernel
theorem sv_90 : decode jdk_42_method_150_code 90 = .ok (.ishl, 1) := by decide +kernel
theorem sv_91 : decode jdk_42_method_150_code 91 = .ok (.invokestatic 54, 3) := by decide +kernel
theorem sv_94 : decode jdk_42_method_150_code 94 = .ok (.putfield 9, 3) := by decide +kernel
theorem sv_97 : decode jdk_42_method_150_code 97 = .ok (.return_, 1) := by decide +kernel
theorem efSv (m : MethodId) (x0 : Addr) (x1 : Addr) : entryFrame m #[.ref x0, .ref x1, .null] 5 = mkF m 0 #[.val (.ref x0), .val (.ref x1), .val .null, .unset, .unset] [] := by first | (simp [entryFrame, mkF, argsToLocals, Value.category, maxLocals]; done) | rfl
set_option maxRecDepth 65536 in
set_option maxHeartbeats 4000000 in
theorem t_strA (l : Launch) {Z : State} {a0 : Array Value} {EL : List (String × Nat)} (hw : ∀ d ∈ tables_1, d.before a0 Z = true) (hEL : EW Z a0 EL) (cst : Cst Z) {h : Heap} (hO : Ext Z.heap h) {y : Addr} (S : NewS Z [y] h y) {x t : Addr} {cs : List Int32} (B : Sbd Z h x t 16 cs) (hl : cs.length < 16) (hL : Latin cs) :
    Met l Z EL [y] (⟨"java/lang/String", "<init>", "(Ljava/lang/AbstractStringBuilder;Ljava/lang/Void;)V"⟩ : MethodName) jdk_42_method_150_code 5 none { frames := 3, cells := 1, slots := 16, locals := 50 } #[.ref y, .ref x, .null] h (Void fun h' => Keep h h' [y] ∧ Str Z h' y cs) := by
  have wi : (Jvm.Cond.instantiable "java/lang/String" 4).before a0 Z = true := (hw _ (List.mem_of_getElem? (i := 5) rfl))
  have sn : Jvm.RoadKit.slotOf Z "java/lang/String" "value" "[B" ≠ Jvm.RoadKit.slotOf Z "java/lang/String" "coder" "B" := slot_ne (C := "java/lang/String") (Or.inr (hw _ (List.mem_of_getElem? (i := 33) rfl))) (Or.inr (hw _ (List.mem_of_getElem? (i := 31) rfl))) (by decide) (t := .array .byte) (t' := .byte) (by decide) (by decide)
  refine Met.intro pnS hEL hO ?_
  intro p e s m below meth c T W hby hml hret hnm
  have D : ∀ {pc : Nat} {r}, decode jdk_42_method_150_code pc = r → decode c.code pc = r := fun q => hb hby q
  refine Go.cast (efSv m y x) ?_
  obtain ⟨hy0, hyF, EY, ⟨v0, fv⟩, ⟨u0, fc⟩⟩ := S
  refine g_aloadN W (pc' := 1) (D sv_0) rfl rfl (by first | rfl | assumption) ?_
  refine g_initO W (pc' := 4) (hw _ (List.mem_of_getElem? (i := 15) rfl)) (hw _ (List.mem_of_getElem? (i := 16) rfl)) (hw _ (List.mem_of_getElem? (i := 17) rfl)) (by rw [hml]; rfl) (D sv_1) rfl (by decide) (Wn := 0) (Nat.le_refl _) (by decide) (fun T W => ?_)
  refine g_aloadN W (pc' := 5) (D sv_4) rfl rfl (by first | rfl | assumption) ?_
  refine g_virt W (t_getValue l hw hEL cst W.old B) (fun x q => nomatch q) ⟨_, _, rfl, (hw _ (List.mem_of_getElem? (i := 139) rfl))⟩ (hw _ (List.mem_of_getElem? (i := 136) rfl)) (hw _ (List.mem_of_getElem? (i := 137) rfl)) (hw _ (List.mem_of_getElem? (i := 139) rfl)) (hw _ (List.mem_of_getElem? (i := 138) rfl)) (hw _ (List.mem_of_getElem? (i := 68) rfl)) (hw _ (List.mem_of_getElem? (i := 140) rfl)) (by decide) (by decide +kernel : parseMethodDescriptor "()[B" = some ⟨[], some (.array .byte)⟩) (B.2.2.1) (argsL := []) rfl rfl (pc' := 8) rfl (by rw [hml]; rfl) (D sv_5) rfl (Wn := 0) (Nat.le_refl _) (by decide) (by decide) (by decide) (by decide) (fun v T h1 W hg hQ => ?_)
  obtain ⟨rfl, rfl⟩ := hQ
  refine g_astoreN W (pc' := 9) (D sv_8) rfl (by first | rfl | assumption) (ls' := #[_, _, _, _, _]) rfl ?_
  refine g_aloadN W (pc' := 10) (D sv_9) rfl rfl (by first | rfl | assumption) ?_
  refine g_virt (y := (⟨"java/lang/AbstractStringBuilder", "length", "()I"⟩ : MethodName)) W (t_lenB l hw hEL cst W.old B) (fun x q => nomatch q) ⟨"java/lang/StringBuilder", (⟨"java/lang/AbstractStringBuilder", "ensureCapacityInternal", "(I)V"⟩ : MethodName), rfl, (hw _ (List.mem_of_getElem? (i := 101) rfl))⟩ (hw _ (List.mem_of_getElem? (i := 141) rfl)) (hw _ (List.mem_of_getElem? (i := 142) rfl)) (hw _ (List.mem_of_getElem? (i := 144) rfl)) (hw _ (List.mem_of_getElem? (i := 145) rfl)) (hw _ (List.mem_of_getElem? (i := 60) rfl)) (hw _ (List.mem_of_getElem? (i := 146) rfl)) (by decide) (by decide +kernel : parseMethodDescriptor "()I" = some ⟨[], some .int⟩) (B.2.2.1) (argsL := []) rfl rfl (pc' := 13) rfl (by rw [hml]; rfl) (D sv_10) rfl (Wn := 0) (Nat.le_refl _) (by decide) (by decide) (by decide) (by decide) (fun v T h1 W hg hQ => ?_)
  obtain ⟨rfl, rfl⟩ := hQ
  refine g_istore W (pc' := 15) (D sv_13) rfl (ls' := #[_, _, _, _, _]) rfl ?_
  refine g_aloadN W (pc' := 16) (D sv_15) rfl rfl (by first | rfl | assumption) ?_
  refine g_virt W (t_isLatinA l hw hEL cst W.old B) (fun x q => nomatch q) ⟨_, _, rfl, (hw _ (List.mem_of_getElem? (i := 152) rfl))⟩ (hw _ (List.mem_of_getElem? (i := 149) rfl)) (hw _ (List.mem_of_getElem? (i := 150) rfl)) (hw _ (List.mem_of_getElem? (i := 152) rfl)) (hw _ (List.mem_of_getElem? (i := 151) rfl)) (hw _ (List.mem_of_getElem? (i := 68) rfl)) (hw _ (List.mem_of_getElem? (i := 153) rfl)) (by decide) (by decide +kernel : parseMethodDescriptor "()Z" = some ⟨[], some .boolean⟩) (B.2.2.1) (argsL := []) rfl rfl (pc' := 19) rfl (by rw [hml]; rfl) (D sv_16) rfl (Wn := 0) (Nat.le_refl _) (by decide) (by decide) (by decide) (by decide) (fun v T h1 W hg hQ => ?_)
  obtain ⟨rfl, rfl⟩ := hQ
  refine g_ifeqN W (pc1 := 41) (pc2 := 22) (D sv_19) (by decide) (by decide) rfl (by decide) ?_
  refine g_aloadN W (pc' := 23) (D sv_22) rfl rfl (by first | rfl | assumption) ?_
  refine g_iconst W (pc' := 24) (D sv_23) rfl (v := (0 : Int32)) (by decide) ?_
  refine g_putfield W (pc' := 27) (host := "") (Or.inl (hw _ (List.mem_of_getElem? (i := 30) rfl))) Via.refl (fc) (EY) (Or.inr ⟨(hw _ (List.mem_of_getElem? (i := 31) rfl)), rfl, hnm⟩) (hw _ (List.mem_of_getElem? (i := 5) rfl)) (ty := .byte) (by decide) rfl rfl (⟨hy0, Or.inl hyF⟩) (D sv_24) rfl (fun T h1 W Wr1 => ?_)
  have K1 : Keep h h1 [y] := Keep.of_wr Wr1
  replace fc := fc.same Wr1
  replace fv := fv.other Wr1 (Or.inr sn)
  obtain ⟨b1, b2, b3, b4, b5, b6, bs, b7, b8, b9, b10, b11⟩ := B
  have A1 := b7.wr Wr1 (b7.neE EY wi)
  replace EY := EY.wr Wr1
  refine g_aloadN W (pc' := 28) (D sv_27) rfl rfl (by first | rfl | assumption) ?_
  refine g_aloadN W (pc' := 29) (D sv_28) rfl rfl (by first | rfl | assumption) ?_
  refine g_iconst W (pc' := 30) (D sv_29) rfl (v := (0 : Int32)) (by decide) ?_
  refine g_iload W (pc' := 32) (D sv_30) rfl rfl ?_
  refine g_callS W (t_copyR l hw hEL cst W.old A1 b8 (k := cs.length) (by omega) (by omega) (by omega)) (fun x q => nomatch q) (hw _ (List.mem_of_getElem? (i := 154) rfl)) (hw _ (List.mem_of_getElem? (i := 155) rfl)) (hw _ (List.mem_of_getElem? (i := 156) rfl)) (hw _ (List.mem_of_getElem? (i := 157) rfl)) (by decide) (by decide +kernel : parseMethodDescriptor "([BII)[B" = some ⟨[(.array .byte), .int, .int], some (.array .byte)⟩) (argsL := [_, _, _]) rfl rfl (pc' := 35) rfl (by rw [hml]; rfl) (D sv_32) rfl (Wn := 1) (Nat.le_refl _) (by decide) (by decide) (by decide) (by decide) (fun v T h2 W hg hQ => ?_)
  obtain ⟨b, rfl, hb, E2, A2⟩ := hQ
  replace fc := fc.ext E2
  replace fv := fv.ext E2
  replace EY := EY.ext E2
  refine g_putfield W (pc' := 38) (host := "") (Or.inl (hw _ (List.mem_of_getElem? (i := 32) rfl))) Via.refl (fv) (EY) (Or.inr ⟨(hw _ (List.mem_of_getElem? (i := 33) rfl)), rfl, hnm⟩) (hw _ (List.mem_of_getElem? (i := 5) rfl)) (ty := (.array .byte)) (by decide) rfl rfl (⟨hy0, Or.inl hyF⟩) (D sv_35) rfl (fun T h3 W Wr2 => ?_)
  refine g_goto W (pc' := 97) (D sv_38) (by decide) (by decide) ?_
  have KK : Keep h h3 [y] := (K1.ext E2).wr Wr2 (Or.inl (List.mem_singleton.mpr rfl))
  rw [b11] at A2
  exact g_return W (D sv_97) hret (by decide) (by decide) ⟨rfl, KK, EY.wr Wr2, fc.other Wr2 (Or.inr (Ne.symm sn)), ⟨b, fv.same Wr2, A2.wr Wr2 (A2.neE EY wi)⟩, hL, by omega⟩
theorem sw_0 : decode jdk_42_method_53_code 0 = .ok (.aload_n 0, 1) := by decide +kernel
theorem sw_1 : decode jdk_42_method_53_code 1 = .ok (.aload_n 1, 1) := by decide +kernel
theorem sw_2 : decode jdk_42_method_53_code 2 = .ok (.aconst_null, 1) := by decide +kernel
theorem sw_3 : decode jdk_42_method_53_code 3 = .ok (.invokespecial 489, 3) := by decide +kernel
theorem sw_6 : decode jdk_42_method_53_code 6 = .ok (.return_, 1) := by decide +kernel
theorem efSw (m : MethodId) (x0 : Addr) (x1 : Addr) : entryFrame m #[.ref x0, .ref x1] 2 = mkF m 0 #[.val (.ref x0), .val (.ref x1)] [] := by first | (simp [entryFrame, mkF, argsToLocals, Value.category, maxLocals]; done) | rfl
set_option maxRecDepth 65536 in
set_option maxHeartbeats 4000000 in
theorem t_strB (l : Launch) {Z : State} {a0 : Array Value} {EL : List (String × Nat)} (hw : ∀ d ∈ tables_1, d.before a0 Z = true) (hEL : EW Z a0 EL) (cst : Cst Z) {h : Heap} (hO : Ext Z.heap h) {y : Addr} (S : NewS Z [y] h y) {x t : Addr} {cs : List Int32} (B : Sbd Z h x t 16 cs) (hl : cs.length < 16) (hL : Latin cs) :
    Met l Z EL [y] (⟨"java/lang/String", "<init>", "(Ljava/lang/StringBuilder;)V"⟩ : MethodName) jdk_42_method_53_code 2 none { frames := 4, cells := 1, slots := 16, locals := 66 } #[.ref y, .ref x] h (Void fun h' => Keep h h' [y] ∧ Str Z h' y cs) := by
  refine Met.intro pnS hEL hO ?_
  intro p e s m below meth c T W hby hml hret hnm
  have D : ∀ {pc : Nat} {r}, decode jdk_42_method_53_code pc = r → decode c.code pc = r := fun q => hb hby q
  refine Go.cast (efSw m y x) ?_
  refine g_aloadN W (pc' := 1) (D sw_0) rfl rfl (by first | rfl | assumption) ?_
  refine g_aloadN W (pc' := 2) (D sw_1) rfl rfl (by first | rfl | assumption) ?_
  refine g_aconst_null W (pc' := 3) (D sw_2) rfl ?_
  refine g_spec W (t_strA l hw hEL cst W.old S B hl hL) (fun z q => q) rfl (hw _ (List.mem_of_getElem? (i := 133) rfl)) (hw _ (List.mem_of_getElem? (i := 134) rfl)) (hw _ (List.mem_of_getElem? (i := 6) rfl)) (hw _ (List.mem_of_getElem? (i := 135) rfl)) (by decide) (by decide +kernel : parseMethodDescriptor "(Ljava/lang/AbstractStringBuilder;Ljava/lang/Void;)V" = some ⟨[(.object "java/lang/AbstractStringBuilder"), (.object "java/lang/Void")], none⟩) (argsL := [_, _]) rfl rfl (pc' := 6) rfl (by rw [hml]; rfl) (D sw_3) rfl (Wn := 0) (Nat.le_refl _) (by decide) (by decide) (by decide) (by decide) (fun T h1 W hg hQ => ?_)
  exact g_return W (D sw_6) hret (by decide) (by decide) ⟨rfl, hQ⟩
theorem ts_0 : decode jdk_67_method_42_code 0 = .ok (.new 18, 3) := by decide +kernel
theorem ts_3 : decode jdk_67_method_42_code 3 = .ok (.dup, 1) := by decide +kernel
theorem ts_4 : decode jdk_67_method_42_code 4 = .ok (.aload_n 0, 1) := by decide +kernel
theorem ts_5 : decode jdk_67_method_42_code 5 = .ok (.invokespecial 137, 3) := by decide +kernel
theorem ts_8 : decode jdk_67_method_42_code 8 = .ok (.areturn, 1) := by decide +kernel
theorem efTs (m : MethodId) (x0 : Addr) : entryFrame m #[.ref x0] 1 = mkF m 0 #[.val (.ref x0)] [] := by first | (simp [entryFrame, mkF, argsToLocals, Value.category, maxLocals]; done) | rfl
set_option maxRecDepth 65536 in
set_option maxHeartbeats 4000000 in
theorem t_toStr (l : Launch) {Z : State} {a0 : Array Value} {EL : List (String × Nat)} (hw : ∀ d ∈ tables_1, d.before a0 Z = true) (hEL : EW Z a0 EL) (cst : Cst Z) {h : Heap} (hO : Ext Z.heap h) {x t : Addr} {cs : List Int32} (B : Sbd Z h x t 16 cs) (hl : cs.length < 16) (hL : Latin cs) :
    Met l Z EL [] (⟨"java/lang/StringBuilder", "toString", "()Ljava/lang/String;"⟩ : MethodName) jdk_67_method_42_code 1 (some (.object "java/lang/String")) { frames := 5, cells := 2, slots := 20, locals := 80 } #[.ref x] h (Ret fun v h' => ∃ y, v = .ref y ∧ Ext h h' ∧ Str Z h' y cs) := by
  refine Met.intro pnSB hEL hO ?_
  intro p e s m below meth c T W hby hml hret hnm
  have D : ∀ {pc : Nat} {r}, decode jdk_67_method_42_code pc = r → decode c.code pc = r := fun q => hb hby q
  refine Go.cast (efTs m x) ?_
  have wi : (Jvm.Cond.instantiable "java/lang/String" 4).before a0 Z = true := (hw _ (List.mem_of_getElem? (i := 5) rfl))
  refine g_newS W (pc' := 3) (hw _ (List.mem_of_getElem? (i := 129) rfl)) wi (hw _ (List.mem_of_getElem? (i := 6) rfl)) (hw _ (List.mem_of_getElem? (i := 33) rfl)) (hw _ (List.mem_of_getElem? (i := 31) rfl)) (D ts_0) rfl (by decide) (by decide) (fun y T h1 hy W E1 N => ?_)
  refine g_dup W (pc' := 4) (D ts_3) rfl rfl ?_
  refine g_aloadN W (pc' := 5) (D ts_4) rfl rfl (by first | rfl | assumption) ?_
  refine g_spec W (t_strB l hw hEL cst W.old N (B.ext E1) hl hL) (fun z q => q) rfl (hw _ (List.mem_of_getElem? (i := 130) rfl)) (hw _ (List.mem_of_getElem? (i := 131) rfl)) (hw _ (List.mem_of_getElem? (i := 6) rfl)) (hw _ (List.mem_of_getElem? (i := 132) rfl)) (by decide) (by decide +kernel : parseMethodDescriptor "(Ljava/lang/StringBuilder;)V" = some ⟨[(.object "java/lang/StringBuilder")], none⟩) (argsL := [_]) rfl rfl (pc' := 8) rfl (by rw [hml]; rfl) (D ts_5) rfl (Wn := 1) (Nat.le_refl _) (by decide) (by decide) (by decide) (by decide) (fun T h2 W hg hQ => ?_)
  obtain ⟨K2, S⟩ := hQ
  exact g_areturn W (D ts_8) hret rfl rfl (by decide) (by decide) ⟨_, rfl, y, rfl, keep_ext ((ext_keep E1 []).trans K2 (own_new hy)), S⟩
abbrev LW : String := "com/example/crosskey/crosskey/core/JdkPackageToStringPinLaw"
abbrev JP : String := "com/example/crosskey/crosskey/core/JdkPackage"
abbrev SD : String := "Ljava/lang/String;"
abbrev NUL : List Int32 := [110, 117, 108, 108]
theorem pnLW : plainName "com/example/crosskey/crosskey/core/JdkPackageToStringPinLaw" = true := by first | (simp [plainName, overriddenIn]; done) | decide +kernel
theorem pnJP : plainName "com/example/crosskey/crosskey/core/JdkPackage" = true := by first | (simp [plainName, overriddenIn]; done) | decide +kernel
theorem pnRe : plainName "java/lang/Record" = true := by first | (simp [plainName, overriddenIn]; done) | decide +kernel
theorem at_l {ms ns : List Int32} : ∀ k, k < ms.length → (ms ++ [47] ++ ns).getD (0 + k) 0 = ms.getD k 0 := by
  intro k hk
  simp [List.getElem?_append_left hk]
theorem at_r {ms ns : List Int32} : ∀ k, k < ns.length → (ms ++ [47] ++ ns).getD (ms.length + 1 + k) 0 = ns.getD k 0 := by
  intro k hk
  have e2 : ms.length + 1 + k = (ms ++ [47] : List Int32).length + k := by simp
  rw [List.getD_eq_getElem?_getD, List.getD_eq_getElem?_getD, e2, List.getElem?_append_right (Nat.le_add_right _ _), Nat.add_sub_cancel_left]
theorem at_m {ms ns : List Int32} : (ms ++ [47] ++ ns).getD ms.length 0 = 47 := by
  simp [List.getElem?_append_right]
theorem len_e {ms ns : List Int32} : Int32.ofNat (ms ++ [47] ++ ns).length = Int32.ofNat ms.length + 1 + Int32.ofNat ns.length := by
  rw [List.length_append, List.length_append, Int32.ofNat_add, Int32.ofNat_add]
  rfl
theorem nat_of_lt {k : Nat} {n : Nat} (hn : n < 2 ^ 31) (hk : k < 2 ^ 31) (h : Int32.ofNat k < Int32.ofNat n) : k < n := by
  rw [Int32.lt_iff_toInt_lt, Int32.toInt_ofNat_small hn, Int32.toInt_ofNat_small hk] at h
  omega
theorem ta_0 : decode method_3_code 0 = .ok (.aload_n 2, 1) := by decide +kernel
theorem ta_1 : decode method_3_code 1 = .ok (.invokevirtual 18, 3) := by decide +kernel
theorem ta_4 : decode method_3_code 4 = .ok (.istore_n 3, 1) := by decide +kernel
theorem ta_5 : decode method_3_code 5 = .ok (.iload_n 3, 1) := by decide +kernel
theorem ta_6 : decode method_3_code 6 = .ok (.iconst 4, 1) := by decide +kernel
theorem ta_7 : decode method_3_code 7 = .ok (.if_icmp .le 5, 3) := by decide +kernel
theorem ta_10 : decode method_3_code 10 = .ok (.iconst 0, 1) := by decide +kernel
theorem ta_11 : decode method_3_code 11 = .ok (.ireturn, 1) := by decide +kernel
theorem ta_12 : decode method_3_code 12 = .ok (.iload_n 3, 1) := by decide +kernel
theorem ta_13 : decode method_3_code 13 = .ok (.ifCond .le 18, 3) := by decide +kernel
theorem ta_16 : decode method_3_code 16 = .ok (.aload_n 0, 1) := by decide +kernel
theorem ta_17 : decode method_3_code 17 = .ok (.iload_n 1, 1) := by decide +kernel
theorem ta_18 : decode method_3_code 18 = .ok (.invokevirtual 22, 3) := by decide +kernel
theorem ta_21 : decode method_3_code 21 = .ok (.aload_n 2, 1) := by decide +kernel
theorem ta_22 : decode method_3_code 22 = .ok (.iconst 0, 1) := by decide +kernel
theorem ta_23 : decode method_3_code 23 = .ok (.invokevirtual 22, 3) := by decide +kernel
theorem ta_26 : decode method_3_code 26 = .ok (.if_icmp .eq 5, 3) := by decide +kernel
theorem ta_29 : decode method_3_code 29 = .ok (.iconst 0, 1) := by decide +kernel
theorem ta_30 : decode method_3_code 30 = .ok (.ireturn, 1) := by decide +kernel
theorem ta_31 : decode method_3_code 31 = .ok (.iload_n 3, 1) := by decide +kernel
theorem ta_32 : decode method_3_code 32 = .ok (.iconst 1, 1) := by decide +kernel
theorem ta_33 : decode method_3_code 33 = .ok (.if_icmp .le 20, 3) := by decide +kernel
theorem ta_36 : decode method_3_code 36 = .ok (.aload_n 0, 1) := by decide +kernel
theorem ta_37 : decode method_3_code 37 = .ok (.iload_n 1, 1) := by decide +kernel
theorem ta_38 : decode method_3_code 38 = .ok (.iconst 1, 1) := by decide +kernel
theorem ta_39 : decode method_3_code 39 = .ok (.iadd, 1) := by decide +kernel
theorem ta_40 : decode method_3_code 40 = .ok (.invokevirtual 22, 3) := by decide +kernel
theorem ta_43 : decode method_3_code 43 = .ok (.aload_n 2, 1) := by decide +kernel
theorem ta_44 : decode method_3_code 44 = .ok (.iconst 1, 1) := by decide +kernel
theorem ta_45 : decode method_3_code 45 = .ok (.invokevirtual 22, 3) := by decide +kernel
theorem ta_48 : decode method_3_code 48 = .ok (.if_icmp .eq 5, 3) := by decide +kernel
theorem ta_51 : decode method_3_code 51 = .ok (.iconst 0, 1) := by decide +kernel
theorem ta_52 : decode method_3_code 52 = .ok (.ireturn, 1) := by decide +kernel
theorem ta_53 : decode method_3_code 53 = .ok (.iload_n 3, 1) := by decide +kernel
theorem ta_54 : decode method_3_code 54 = .ok (.iconst 2, 1) := by decide +kernel
theorem ta_55 : decode method_3_code 55 = .ok (.if_icmp .le 20, 3) := by decide +kernel
theorem ta_58 : decode method_3_code 58 = .ok (.aload_n 0, 1) := by decide +kernel
theorem ta_59 : decode method_3_code 59 = .ok (.iload_n 1, 1) := by decide +kernel
theorem ta_60 : decode method_3_code 60 = .ok (.iconst 2, 1) := by decide +kernel
theorem ta_61 : decode method_3_code 61 = .ok (.iadd, 1) := by decide +kernel
theorem ta_62 : decode method_3_code 62 = .ok (.invokevirtual 22, 3) := by decide +kernel
theorem ta_65 : decode method_3_code 65 = .ok (.aload_n 2, 1) := by decide +kernel
theorem ta_66 : decode method_3_code 66 = .ok (.iconst 2, 1) := by decide +kernel
theorem ta_67 : decode method_3_code 67 = .ok (.invokevirtual 22, 3) := by decide +kernel
theorem ta_70 : decode method_3_code 70 = .ok (.if_icmp .eq 5, 3) := by decide +kernel
theorem ta_73 : decode method_3_code 73 = .ok (.iconst 0, 1) := by decide +kernel
theorem ta_74 : decode method_3_code 74 = .ok (.ireturn, 1) := by decide +kernel
theorem ta_75 : decode method_3_code 75 = .ok (.iload_n 3, 1) := by decide +kernel
theorem ta_76 : decode method_3_code 76 = .ok (.iconst 3, 1) := by decide +kernel
theorem ta_77 : decode method_3_code 77 = .ok (.if_icmp .le 20, 3) := by decide +kernel
theorem ta_80 : decode method_3_code 80 = .ok (.aload_n 0, 1) := by decide +kernel
theorem ta_81 : decode method_3_code 81 = .ok (.iload_n 1, 1) := by decide +kernel
theorem ta_82 : decode method_3_code 82 = .ok (.iconst 3, 1) := by decide +kernel
theorem ta_83 : decode method_3_code 83 = .ok (.iadd, 1) := by decide +kernel
theorem ta_84 : decode method_3_code 84 = .ok (.invokevirtual 22, 3) := by decide +kernel
theorem ta_87 : decode method_3_code 87 = .ok (.aload_n 2, 1) := by decide +kernel
theorem ta_88 : decode method_3_code 88 = .ok (.iconst 3, 1) := by decide +kernel
theorem ta_89 : decode method_3_code 89 = .ok (.invokevirtual 22, 3) := by decide +kernel
theorem ta_92 : decode method_3_code 92 = .ok (.if_icmp .eq 5, 3) := by decide +kernel
theorem ta_95 : decode method_3_code 95 = .ok (.iconst 0, 1) := by decide +kernel
theorem ta_96 : decode method_3_code 96 = .ok (.ireturn, 1) := by decide +kernel
theorem ta_97 : decode method_3_code 97 = .ok (.iconst 1, 1) := by decide +kernel
theorem ta_98 : decode method_3_code 98 = .ok (.ireturn, 1) := by decide +kernel
theorem efAt (m : MethodId) (x0 : Addr) (x1 : Int32) (x2 : Addr) : entryFrame m #[.ref x0, .int x1, .ref x2] 4 = mkF m 0 #[.val (.ref x0), .val (.int x1), .val (.ref x2), .unset] [] := by first | (simp [entryFrame, mkF, argsToLocals, Value.category, maxLocals]; done) | rfl
set_option maxRecDepth 65536 in
set_option maxHeartbeats 8000000 in
theorem t_at (l : Launch) {Z : State} {a0 : Array Value} (hw : ∀ d ∈ tables_1, d.before a0 Z = true) (hEL : EW Z a0 consts_1) (cst : Cst Z) (fst : Fst Z) {h : Heap} (hO : Ext Z.heap h) {s0 p0 : Addr} {cs ds : List Int32} (S : Str Z h s0 cs) (P : Str Z h p0 ds) {i : Nat} (h4 : ds.length ≤ 4) (hi : i + ds.length ≤ cs.length) (he : ∀ k, k < ds.length → cs.getD (i + k) 0 = ds.getD k 0) :
    Met l Z consts_1 [] (⟨LW, "at", "(Ljava/lang/String;ILjava/lang/String;)Z"⟩ : MethodName) method_3_code 4 (some .boolean) { frames := 4, cells := 0, slots := 0, locals := 54 } #[.ref s0, .int (Int32.ofNat i), .ref p0] h (Ret fun v h' => v = .int 1 ∧ h = h') := by
  refine Met.intro pnLW hEL hO ?_
  intro p e s m below meth c T W hby hml hret hnm
  have D : ∀ {pc : Nat} {r}, decode method_3_code pc = r → decode c.code pc = r := fun q => hb hby q
  refine Go.cast (efAt m s0 (Int32.ofNat i) p0) ?_
  have hd31 : ds.length < 2 ^ 31 := by omega
  have J97 : ∀ T, Wd p l e { frames := 4, cells := 0, slots := 0, locals := 54 } s m #[.ref s0, .int (Int32.ofNat i), .ref p0] below meth c Z a0 consts_1 LW [] T h 0 0 → Go p e below (Endp Z consts_1 s (Ret fun v h' => v = .int 1 ∧ h = h') 0 0) T (mkF m 97 #[.val (.ref s0), .val (.int (Int32.ofNat i)), .val (.ref p0), .val (.int (Int32.ofNat ds.length))] []) := by
    intro T W
    refine g_iconst W (pc' := 98) (D ta_97) rfl (v := (1 : Int32)) (by decide) ?_
    exact g_retz W (D ta_98) hret (Or.inr rfl) (by decide) (by decide) ⟨_, rfl, rfl, rfl⟩
  have J75 : ∀ T, Wd p l e { frames := 4, cells := 0, slots := 0, locals := 54 } s m #[.ref s0, .int (Int32.ofNat i), .ref p0] below meth c Z a0 consts_1 LW [] T h 0 0 → Go p e below (Endp Z consts_1 s (Ret fun v h' => v = .int 1 ∧ h = h') 0 0) T (mkF m 75 #[.val (.ref s0), .val (.int (Int32.ofNat i)), .val (.ref p0), .val (.int (Int32.ofNat ds.length))] []) := by
    intro T W
    refine g_iloadN W (pc' := 76) (D ta_75) rfl rfl ?_
    refine g_iconst W (pc' := 77) (D ta_76) rfl (v := (3 : Int32)) (by decide) ?_
    refine g_icmple W (pc1 := 97) (pc2 := 80) (D ta_77) (by decide) (by decide) rfl (fun q => ?_) (fun q => ?_)
    · exact J97 T W
    · have hk : 3 < ds.length := nat_of_lt hd31 (by decide) q
      refine g_aloadN W (pc' := 81) (D ta_80) rfl rfl (by first | rfl | assumption) ?_
      refine g_iloadN W (pc' := 82) (D ta_81) rfl rfl ?_
      refine g_iconst W (pc' := 83) (D ta_82) rfl (v := (3 : Int32)) (by decide) ?_
      refine g_iadd W (pc' := 84) (D ta_83) rfl ?_
      refine Go.cast (g' := mkF m 84 #[.val (.ref s0), .val (.int (Int32.ofNat i)), .val (.ref p0), .val (.int (Int32.ofNat ds.length))] [.int (Int32.ofNat (i + 3)), .ref s0]) (by first | rfl | rw [Int32.ofNat_add]; rfl) ?_
      refine g_charAt W hw cst fst (S) (hw _ (List.mem_of_getElem? (i := 173) rfl)) (pc' := 87) (by rw [hml]; rfl) (D ta_84) rfl (Wn := 0) (Nat.le_refl _) (by decide) (by decide) (by decide) (by decide) ((rfl : _ = Int32.ofNat (i + 3))) (by omega) (fun T W => ?_)
      refine g_aloadN W (pc' := 88) (D ta_87) rfl rfl (by first | rfl | assumption) ?_
      refine g_iconst W (pc' := 89) (D ta_88) rfl (v := (3 : Int32)) (by decide) ?_
      refine g_charAt W hw cst fst (P) (hw _ (List.mem_of_getElem? (i := 173) rfl)) (pc' := 92) (by rw [hml]; rfl) (D ta_89) rfl (Wn := 1) (Nat.le_refl _) (by decide) (by decide) (by decide) (by decide) ((rfl : _ = Int32.ofNat 3)) (hk) (fun T W => ?_)
      refine g_icmpeqY W (pc1 := 97) (pc2 := 95) (D ta_92) (by decide) (by decide) rfl (he 3 hk) ?_
      exact J97 _ W
  have J53 : ∀ T, Wd p l e { frames := 4, cells := 0, slots := 0, locals := 54 } s m #[.ref s0, .int (Int32.ofNat i), .ref p0] below meth c Z a0 consts_1 LW [] T h 0 0 → Go p e below (Endp Z consts_1 s (Ret fun v h' => v = .int 1 ∧ h = h') 0 0) T (mkF m 53 #[.val (.ref s0), .val (.int (Int32.ofNat i)), .val (.ref p0), .val (.int (Int32.ofNat ds.length))] []) := by
    intro T W
    refine g_iloadN W (pc' := 54) (D ta_53) rfl rfl ?_
    refine g_iconst W (pc' := 55) (D ta_54) rfl (v := (2 : Int32)) (by decide) ?_
    refine g_icmple W (pc1 := 75) (pc2 := 58) (D ta_55) (by decide) (by decide) rfl (fun q => ?_) (fun q => ?_)
    · exact J75 T W
    · have hk : 2 < ds.length := nat_of_lt hd31 (by decide) q
      refine g_aloadN W (pc' := 59) (D ta_58) rfl rfl (by first | rfl | assumption) ?_
      refine g_iloadN W (pc' := 60) (D ta_59) rfl rfl ?_
      refine g_iconst W (pc' := 61) (D ta_60) rfl (v := (2 : Int32)) (by decide) ?_
      refine g_iadd W (pc' := 62) (D ta_61) rfl ?_
      refine Go.cast (g' := mkF m 62 #[.val (.ref s0), .val (.int (Int32.ofNat i)), .val (.ref p0), .val (.int (Int32.ofNat ds.length))] [.int (Int32.ofNat (i + 2)), .ref s0]) (by first | rfl | rw [Int32.ofNat_add]; rfl) ?_
      refine g_charAt W hw cst fst (S) (hw _ (List.mem_of_getElem? (i := 173) rfl)) (pc' := 65) (by rw [hml]; rfl) (D ta_62) rfl (Wn := 0) (Nat.le_refl _) (by decide) (by decide) (by decide) (by decide) ((rfl : _ = Int32.ofNat (i + 2))) (by omega) (fun T W => ?_)
      refine g_aloadN W (pc' := 66) (D ta_65) rfl rfl (by first | rfl | assumption) ?_
      refine g_iconst W (pc' := 67) (D ta_66) rfl (v := (2 : Int32)) (by decide) ?_
      refine g_charAt W hw cst fst (P) (hw _ (List.mem_of_getElem? (i := 173) rfl)) (pc' := 70) (by rw [hml]; rfl) (D ta_67) rfl (Wn := 1) (Nat.le_refl _) (by decide) (by decide) (by decide) (by decide) ((rfl : _ = Int32.ofNat 2)) (hk) (fun T W => ?_)
      refine g_icmpeqY W (pc1 := 75) (pc2 := 73) (D ta_70) (by decide) (by decide) rfl (he 2 hk) ?_
      exact J75 _ W
  have J31 : ∀ T, Wd p l e { frames := 4, cells := 0, slots := 0, locals := 54 } s m #[.ref s0, .int (Int32.ofNat i), .ref p0] below meth c Z a0 consts_1 LW [] T h 0 0 → Go p e below (Endp Z consts_1 s (Ret fun v h' => v = .int 1 ∧ h = h') 0 0) T (mkF m 31 #[.val (.ref s0), .val (.int (Int32.ofNat i)), .val (.ref p0), .val (.int (Int32.ofNat ds.length))] []) := by
    intro T W
    refine g_iloadN W (pc' := 32) (D ta_31) rfl rfl ?_
    refine g_iconst W (pc' := 33) (D ta_32) rfl (v := (1 : Int32)) (by decide) ?_
    refine g_icmple W (pc1 := 53) (pc2 := 36) (D ta_33) (by decide) (by decide) rfl (fun q => ?_) (fun q => ?_)
    · exact J53 T W
    · have hk : 1 < ds.length := nat_of_lt hd31 (by decide) q
      refine g_aloadN W (pc' := 37) (D ta_36) rfl rfl (by first | rfl | assumption) ?_
      refine g_iloadN W (pc' := 38) (D ta_37) rfl rfl ?_
      refine g_iconst W (pc' := 39) (D ta_38) rfl (v := (1 : Int32)) (by decide) ?_
      refine g_iadd W (pc' := 40) (D ta_39) rfl ?_
      refine Go.cast (g' := mkF m 40 #[.val (.ref s0), .val (.int (Int32.ofNat i)), .val (.ref p0), .val (.int (Int32.ofNat ds.length))] [.int (Int32.ofNat (i + 1)), .ref s0]) (by first | rfl | rw [Int32.ofNat_add]; rfl) ?_
      refine g_charAt W hw cst fst (S) (hw _ (List.mem_of_getElem? (i := 173) rfl)) (pc' := 43) (by rw [hml]; rfl) (D ta_40) rfl (Wn := 0) (Nat.le_refl _) (by decide) (by decide) (by decide) (by decide) ((rfl : _ = Int32.ofNat (i + 1))) (by omega) (fun T W => ?_)
      refine g_aloadN W (pc' := 44) (D ta_43) rfl rfl (by first | rfl | assumption) ?_
      refine g_iconst W (pc' := 45) (D ta_44) rfl (v := (1 : Int32)) (by decide) ?_
      refine g_charAt W hw cst fst (P) (hw _ (List.mem_of_getElem? (i := 173) rfl)) (pc' := 48) (by rw [hml]; rfl) (D ta_45) rfl (Wn := 1) (Nat.le_refl _) (by decide) (by decide) (by decide) (by decide) ((rfl : _ = Int32.ofNat 1)) (hk) (fun T W => ?_)
      refine g_icmpeqY W (pc1 := 53) (pc2 := 51) (D ta_48) (by decide) (by decide) rfl (he 1 hk) ?_
      exact J53 _ W
  have J12 : ∀ T, Wd p l e { frames := 4, cells := 0, slots := 0, locals := 54 } s m #[.ref s0, .int (Int32.ofNat i), .ref p0] below meth c Z a0 consts_1 LW [] T h 0 0 → Go p e below (Endp Z consts_1 s (Ret fun v h' => v = .int 1 ∧ h = h') 0 0) T (mkF m 12 #[.val (.ref s0), .val (.int (Int32.ofNat i)), .val (.ref p0), .val (.int (Int32.ofNat ds.length))] []) := by
    intro T W
    refine g_iloadN W (pc' := 13) (D ta_12) rfl rfl ?_
    refine g_ifle W (pc1 := 31) (pc2 := 16) (D ta_13) (by decide) (by decide) rfl (fun q => ?_) (fun q => ?_)
    · exact J31 T W
    · have hk : 0 < ds.length := nat_of_lt hd31 (by decide) (by simpa using q)
      refine g_aloadN W (pc' := 17) (D ta_16) rfl rfl (by first | rfl | assumption) ?_
      refine g_iloadN W (pc' := 18) (D ta_17) rfl rfl ?_
      refine Go.cast (g' := mkF m 18 #[.val (.ref s0), .val (.int (Int32.ofNat i)), .val (.ref p0), .val (.int (Int32.ofNat ds.length))] [.int (Int32.ofNat (i + 0)), .ref s0]) (by first | rfl | rw [Int32.ofNat_add]; rfl) ?_
      refine g_charAt W hw cst fst (S) (hw _ (List.mem_of_getElem? (i := 173) rfl)) (pc' := 21) (by rw [hml]; rfl) (D ta_18) rfl (Wn := 0) (Nat.le_refl _) (by decide) (by decide) (by decide) (by decide) ((rfl : _ = Int32.ofNat (i + 0))) (by omega) (fun T W => ?_)
      refine g_aloadN W (pc' := 22) (D ta_21) rfl rfl (by first | rfl | assumption) ?_
      refine g_iconst W (pc' := 23) (D ta_22) rfl (v := (0 : Int32)) (by decide) ?_
      refine g_charAt W hw cst fst (P) (hw _ (List.mem_of_getElem? (i := 173) rfl)) (pc' := 26) (by rw [hml]; rfl) (D ta_23) rfl (Wn := 1) (Nat.le_refl _) (by decide) (by decide) (by decide) (by decide) ((rfl : _ = Int32.ofNat 0)) (hk) (fun T W => ?_)
      refine g_icmpeqY W (pc1 := 31) (pc2 := 29) (D ta_26) (by decide) (by decide) rfl (he 0 hk) ?_
      exact J31 _ W
  refine g_aloadN W (pc' := 1) (D ta_0) rfl rfl (by first | rfl | assumption) ?_
  refine g_len W hw cst (P) (hw _ (List.mem_of_getElem? (i := 169) rfl)) (pc' := 4) (by rw [hml]; rfl) (D ta_1) rfl (Wn := 0) (Nat.le_refl _) (by decide) (by decide) (by decide) (by decide) (rfl) (fun T W => ?_)
  refine g_istoreN W (pc' := 5) (D ta_4) rfl (ls' := #[_, _, _, _]) rfl ?_
  refine g_iloadN W (pc' := 6) (D ta_5) rfl rfl ?_
  refine g_iconst W (pc' := 7) (D ta_6) rfl (v := (4 : Int32)) (by decide) ?_
  refine g_icmpleY W (pc1 := 12) (pc2 := 10) (D ta_7) (by decide) (by decide) rfl ((by have := min_lt h4 (by decide : 4 < 2 ^ 31); simpa using this)) ?_
  exact J12 _ W
theorem ri_0 : decode jdk_30_method_1_code 0 = .ok (.aload_n 0, 1) := by decide +kernel
theorem ri_1 : decode jdk_30_method_1_code 1 = .ok (.invokespecial 1, 3) := by decide +kernel
theorem ri_4 : decode jdk_30_method_1_code 4 = .ok (.return_, 1) := by decide +kernel
theorem efRi (m : MethodId) (x0 : Addr) : entryFrame m #[.ref x0] 1 = mkF m 0 #[.val (.ref x0)] [] := by first | (simp [entryFrame, mkF, argsToLocals, Value.category, maxLocals]; done) | rfl
set_option maxRecDepth 65536 in
set_option maxHeartbeats 4000000 in
theorem t_rec (l : Launch) {Z : State} {a0 : Array Value} (hw : ∀ d ∈ tables_1, d.before a0 Z = true) (hEL : EW Z a0 consts_1) {h : Heap} (hO : Ext Z.heap h) {x : Addr} :
    Met l Z consts_1 [] (⟨"java/lang/Record", "<init>", "()V"⟩ : MethodName) jdk_30_method_1_code 1 none { frames := 1, cells := 0, slots := 0, locals := 12 } #[.ref x] h (Void fun h' => h = h') := by
  refine Met.intro pnRe hEL hO ?_
  intro p e s m below meth c T W hby hml hret hnm
  have D : ∀ {pc : Nat} {r}, decode jdk_30_method_1_code pc = r → decode c.code pc = r := fun q => hb hby q
  refine Go.cast (efRi m x) ?_
  refine g_aloadN W (pc' := 1) (D ri_0) rfl rfl (by first | rfl | assumption) ?_
  refine g_initO W (pc' := 4) (hw _ (List.mem_of_getElem? (i := 48) rfl)) (hw _ (List.mem_of_getElem? (i := 16) rfl)) (hw _ (List.mem_of_getElem? (i := 17) rfl)) (by rw [hml]; rfl) (D ri_1) rfl (by decide) (Wn := 0) (Nat.le_refl _) (by decide) (fun T W => ?_)
  exact g_return W (D ri_4) hret (by decide) (by decide) ⟨rfl, rfl⟩
theorem ji_0 : decode prog_17_method_1_code 0 = .ok (.aload_n 0, 1) := by decide +kernel
theorem ji_1 : decode prog_17_method_1_code 1 = .ok (.invokespecial 1, 3) := by decide +kernel
theorem ji_4 : decode prog_17_method_1_code 4 = .ok (.aload_n 0, 1) := by decide +kernel
theorem ji_5 : decode prog_17_method_1_code 5 = .ok (.aload_n 1, 1) := by decide +kernel
theorem ji_6 : decode prog_17_method_1_code 6 = .ok (.putfield 7, 3) := by decide +kernel
theorem ji_9 : decode prog_17_method_1_code 9 = .ok (.aload_n 0, 1) := by decide +kernel
theorem ji_10 : decode prog_17_method_1_code 10 = .ok (.aload_n 2, 1) := by decide +kernel
theorem ji_11 : decode prog_17_method_1_code 11 = .ok (.putfield 13, 3) := by decide +kernel
theorem ji_14 : decode prog_17_method_1_code 14 = .ok (.return_, 1) := by decide +kernel
theorem efJAA (m : MethodId) (x0 : Addr) (x1 : Addr) (x2 : Addr) : entryFrame m #[.ref x0, .ref x1, .ref x2] 3 = mkF m 0 #[.val (.ref x0), .val (.ref x1), .val (.ref x2)] [] := by first | (simp [entryFrame, mkF, argsToLocals, Value.category, maxLocals]; done) | rfl
theorem efJAN (m : MethodId) (x0 : Addr) (x1 : Addr) : entryFrame m #[.ref x0, .ref x1, .null] 3 = mkF m 0 #[.val (.ref x0), .val (.ref x1), .val .null] [] := by first | (simp [entryFrame, mkF, argsToLocals, Value.category, maxLocals]; done) | rfl
theorem efJNA (m : MethodId) (x0 : Addr) (x2 : Addr) : entryFrame m #[.ref x0, .null, .ref x2] 3 = mkF m 0 #[.val (.ref x0), .val .null, .val (.ref x2)] [] := by first | (simp [entryFrame, mkF, argsToLocals, Value.category, maxLocals]; done) | rfl
theorem efJNN (m : MethodId) (x0 : Addr) : entryFrame m #[.ref x0, .null, .null] 3 = mkF m 0 #[.val (.ref x0), .val .null, .val .null] [] := by first | (simp [entryFrame, mkF, argsToLocals, Value.category, maxLocals]; done) | rfl
set_option maxRecDepth 65536 in
set_option maxHeartbeats 8000000 in
theorem t_jpInit (l : Launch) {Z : State} {a0 : Array Value} (hw : ∀ d ∈ tables_1, d.before a0 Z = true) (hEL : EW Z a0 consts_1) {h : Heap} (hO : Ext Z.heap h) {x : Addr} {w1 w2 : Value} (h1 : w1 = .null ∨ ∃ q, w1 = .ref q) (h2 : w2 = .null ∨ ∃ q, w2 = .ref q) (hx : Z.heap.size ≤ x) (EX : Exa Z h x JP) {u1 u2 : Value} (f1 : Fld Z h x JP "module" SD u1) (f2 : Fld Z h x JP "name" SD u2) :
    Met l Z consts_1 [] (⟨JP, "<init>", "(Ljava/lang/String;Ljava/lang/String;)V"⟩ : MethodName) prog_17_method_1_code 3 none { frames := 2, cells := 0, slots := 0, locals := 24 } #[.ref x, w1, w2] h (Void fun h' => Keep h h' [x] ∧ Fld Z h' x JP "module" SD w1 ∧ Fld Z h' x JP "name" SD w2) := by
  have n12 : Jvm.RoadKit.slotOf Z JP "module" SD ≠ Jvm.RoadKit.slotOf Z JP "name" SD := slot_ne (C := JP) (Or.inr (hw _ (List.mem_of_getElem? (i := 50) rfl))) (Or.inr (hw _ (List.mem_of_getElem? (i := 52) rfl))) (by decide) (t := .object "java/lang/String") (t' := .object "java/lang/String") (by decide) (by decide)
  rcases h1 with rfl | ⟨q1, rfl⟩
  · rcases h2 with rfl | ⟨q2, rfl⟩
    · skip
      refine Met.intro pnJP hEL hO ?_
      intro p e s m below meth c T W hby hml hret hnm
      have D : ∀ {pc : Nat} {r}, decode prog_17_method_1_code pc = r → decode c.code pc = r := fun q => hb hby q
      refine Go.cast (efJNN m x) ?_
      refine g_aloadN W (pc' := 1) (D ji_0) rfl rfl (by first | rfl | assumption) ?_
      refine g_spec W (t_rec l hw hEL W.old (x := x)) (fun x q => nomatch q) rfl (hw _ (List.mem_of_getElem? (i := 43) rfl)) (hw _ (List.mem_of_getElem? (i := 44) rfl)) (hw _ (List.mem_of_getElem? (i := 46) rfl)) (hw _ (List.mem_of_getElem? (i := 47) rfl)) (by decide) (by decide +kernel : parseMethodDescriptor "()V" = some ⟨[], none⟩) (argsL := []) rfl rfl (pc' := 4) rfl (by rw [hml]; rfl) (D ji_1) rfl (Wn := 0) (Nat.le_refl _) (by decide) (by decide) (by decide) (by decide) (fun T h1 W hg hQ => ?_)
      subst hQ
      refine g_aloadN W (pc' := 5) (D ji_4) rfl rfl (by first | rfl | assumption) ?_
      refine g_aloadN W (pc' := 6) (D ji_5) rfl rfl (by first | rfl | assumption) ?_
      refine g_putfield W (pc' := 9) (host := "") (Or.inl (hw _ (List.mem_of_getElem? (i := 49) rfl))) Via.refl (f1) (EX) (Or.inr ⟨(hw _ (List.mem_of_getElem? (i := 50) rfl)), rfl, hnm⟩) (hw _ (List.mem_of_getElem? (i := 38) rfl)) (ty := (.object "java/lang/String")) (by decide) rfl rfl (⟨hx, Or.inr (Or.inl ⟨JP, EX, by decide, by decide⟩)⟩) (D ji_6) rfl (fun T g1 W Wr1 => ?_)
      refine g_aloadN W (pc' := 10) (D ji_9) rfl rfl (by first | rfl | assumption) ?_
      refine g_aloadN W (pc' := 11) (D ji_10) rfl rfl (by first | rfl | assumption) ?_
      refine g_putfield W (pc' := 14) (host := "") (Or.inl (hw _ (List.mem_of_getElem? (i := 51) rfl))) Via.refl (f2.other Wr1 (Or.inr (Ne.symm n12))) (EX.wr Wr1) (Or.inr ⟨(hw _ (List.mem_of_getElem? (i := 52) rfl)), rfl, hnm⟩) (hw _ (List.mem_of_getElem? (i := 38) rfl)) (ty := (.object "java/lang/String")) (by decide) rfl rfl (⟨hx, Or.inr (Or.inl ⟨JP, EX.wr Wr1, by decide, by decide⟩)⟩) (D ji_11) rfl (fun T g2 W Wr2 => ?_)
      exact g_return W (D ji_14) hret (by decide) (by decide) ⟨rfl, (Keep.of_wr Wr1).wr Wr2 (Or.inl (List.mem_singleton.mpr rfl)), (f1.same Wr1).other Wr2 (Or.inr n12), (f2.other Wr1 (Or.inr (Ne.symm n12))).same Wr2⟩
    · skip
      refine Met.intro pnJP hEL hO ?_
      intro p e s m below meth c T W hby hml hret hnm
      have D : ∀ {pc : Nat} {r}, decode prog_17_method_1_code pc = r → decode c.code pc = r := fun q => hb hby q
      refine Go.cast (efJNA m x q2) ?_
      refine g_aloadN W (pc' := 1) (D ji_0) rfl rfl (by first | rfl | assumption) ?_
      refine g_spec W (t_rec l hw hEL W.old (x := x)) (fun x q => nomatch q) rfl (hw _ (List.mem_of_getElem? (i := 43) rfl)) (hw _ (List.mem_of_getElem? (i := 44) rfl)) (hw _ (List.mem_of_getElem? (i := 46) rfl)) (hw _ (List.mem_of_getElem? (i := 47) rfl)) (by decide) (by decide +kernel : parseMethodDescriptor "()V" = some ⟨[], none⟩) (argsL := []) rfl rfl (pc' := 4) rfl (by rw [hml]; rfl) (D ji_1) rfl (Wn := 0) (Nat.le_refl _) (by decide) (by decide) (by decide) (by decide) (fun T h1 W hg hQ => ?_)
      subst hQ
      refine g_aloadN W (pc' := 5) (D ji_4) rfl rfl (by first | rfl | assumption) ?_
      refine g_aloadN W (pc' := 6) (D ji_5) rfl rfl (by first | rfl | assumption) ?_
      refine g_putfield W (pc' := 9) (host := "") (Or.inl (hw _ (List.mem_of_getElem? (i := 49) rfl))) Via.refl (f1) (EX) (Or.inr ⟨(hw _ (List.mem_of_getElem? (i := 50) rfl)), rfl, hnm⟩) (hw _ (List.mem_of_getElem? (i := 38) rfl)) (ty := (.object "java/lang/String")) (by decide) rfl rfl (⟨hx, Or.inr (Or.inl ⟨JP, EX, by decide, by decide⟩)⟩) (D ji_6) rfl (fun T g1 W Wr1 => ?_)
      refine g_aloadN W (pc' := 10) (D ji_9) rfl rfl (by first | rfl | assumption) ?_
      refine g_aloadN W (pc' := 11) (D ji_10) rfl rfl (by first | rfl | assumption) ?_
      refine g_putfield W (pc' := 14) (host := "") (Or.inl (hw _ (List.mem_of_getElem? (i := 51) rfl))) Via.refl (f2.other Wr1 (Or.inr (Ne.symm n12))) (EX.wr Wr1) (Or.inr ⟨(hw _ (List.mem_of_getElem? (i := 52) rfl)), rfl, hnm⟩) (hw _ (List.mem_of_getElem? (i := 38) rfl)) (ty := (.object "java/lang/String")) (by decide) rfl rfl (⟨hx, Or.inr (Or.inl ⟨JP, EX.wr Wr1, by decide, by decide⟩)⟩) (D ji_11) rfl (fun T g2 W Wr2 => ?_)
      exact g_return W (D ji_14) hret (by decide) (by decide) ⟨rfl, (Keep.of_wr Wr1).wr Wr2 (Or.inl (List.mem_singleton.mpr rfl)), (f1.same Wr1).other Wr2 (Or.inr n12), (f2.other Wr1 (Or.inr (Ne.symm n12))).same Wr2⟩
  · rcases h2 with rfl | ⟨q2, rfl⟩
    · skip
      refine Met.intro pnJP hEL hO ?_
      intro p e s m below meth c T W hby hml hret hnm
      have D : ∀ {pc : Nat} {r}, decode prog_17_method_1_code pc = r → decode c.code pc = r := fun q => hb hby q
      refine Go.cast (efJAN m x q1) ?_
      refine g_aloadN W (pc' := 1) (D ji_0) rfl rfl (by first | rfl | assumption) ?_
      refine g_spec W (t_rec l hw hEL W.old (x := x)) (fun x q => nomatch q) rfl (hw _ (List.mem_of_getElem? (i := 43) rfl)) (hw _ (List.mem_of_getElem? (i := 44) rfl)) (hw _ (List.mem_of_getElem? (i := 46) rfl)) (hw _ (List.mem_of_getElem? (i := 47) rfl)) (by decide) (by decide +kernel : parseMethodDescriptor "()V" = some ⟨[], none⟩) (argsL := []) rfl rfl (pc' := 4) rfl (by rw [hml]; rfl) (D ji_1) rfl (Wn := 0) (Nat.le_refl _) (by decide) (by decide) (by decide) (by decide) (fun T h1 W hg hQ => ?_)
      subst hQ
      refine g_aloadN W (pc' := 5) (D ji_4) rfl rfl (by first | rfl | assumption) ?_
      refine g_aloadN W (pc' := 6) (D ji_5) rfl rfl (by first | rfl | assumption) ?_
      refine g_putfield W (pc' := 9) (host := "") (Or.inl (hw _ (List.mem_of_getElem? (i := 49) rfl))) Via.refl (f1) (EX) (Or.inr ⟨(hw _ (List.mem_of_getElem? (i := 50) rfl)), rfl, hnm⟩) (hw _ (List.mem_of_getElem? (i := 38) rfl)) (ty := (.object "java/lang/String")) (by decide) rfl rfl (⟨hx, Or.inr (Or.inl ⟨JP, EX, by decide, by decide⟩)⟩) (D ji_6) rfl (fun T g1 W Wr1 => ?_)
      refine g_aloadN W (pc' := 10) (D ji_9) rfl rfl (by first | rfl | assumption) ?_
      refine g_aloadN W (pc' := 11) (D ji_10) rfl rfl (by first | rfl | assumption) ?_
      refine g_putfield W (pc' := 14) (host := "") (Or.inl (hw _ (List.mem_of_getElem? (i := 51) rfl))) Via.refl (f2.other Wr1 (Or.inr (Ne.symm n12))) (EX.wr Wr1) (Or.inr ⟨(hw _ (List.mem_of_getElem? (i := 52) rfl)), rfl, hnm⟩) (hw _ (List.mem_of_getElem? (i := 38) rfl)) (ty := (.object "java/lang/String")) (by decide) rfl rfl (⟨hx, Or.inr (Or.inl ⟨JP, EX.wr Wr1, by decide, by decide⟩)⟩) (D ji_11) rfl (fun T g2 W Wr2 => ?_)
      exact g_return W (D ji_14) hret (by decide) (by decide) ⟨rfl, (Keep.of_wr Wr1).wr Wr2 (Or.inl (List.mem_singleton.mpr rfl)), (f1.same Wr1).other Wr2 (Or.inr n12), (f2.other Wr1 (Or.inr (Ne.symm n12))).same Wr2⟩
    · skip
      refine Met.intro pnJP hEL hO ?_
      intro p e s m below meth c T W hby hml hret hnm
      have D : ∀ {pc : Nat} {r}, decode prog_17_method_1_code pc = r → decode c.code pc = r := fun q => hb hby q
      refine Go.cast (efJAA m x q1 q2) ?_
      refine g_aloadN W (pc' := 1) (D ji_0) rfl rfl (by first | rfl | assumption) ?_
      refine g_spec W (t_rec l hw hEL W.old (x := x)) (fun x q => nomatch q) rfl (hw _ (List.mem_of_getElem? (i := 43) rfl)) (hw _ (List.mem_of_getElem? (i := 44) rfl)) (hw _ (List.mem_of_getElem? (i := 46) rfl)) (hw _ (List.mem_of_getElem? (i := 47) rfl)) (by decide) (by decide +kernel : parseMethodDescriptor "()V" = some ⟨[], none⟩) (argsL := []) rfl rfl (pc' := 4) rfl (by rw [hml]; rfl) (D ji_1) rfl (Wn := 0) (Nat.le_refl _) (by decide) (by decide) (by decide) (by decide) (fun T h1 W hg hQ => ?_)
      subst hQ
      refine g_aloadN W (pc' := 5) (D ji_4) rfl rfl (by first | rfl | assumption) ?_
      refine g_aloadN W (pc' := 6) (D ji_5) rfl rfl (by first | rfl | assumption) ?_
      refine g_putfield W (pc' := 9) (host := "") (Or.inl (hw _ (List.mem_of_getElem? (i := 49) rfl))) Via.refl (f1) (EX) (Or.inr ⟨(hw _ (List.mem_of_getElem? (i := 50) rfl)), rfl, hnm⟩) (hw _ (List.mem_of_getElem? (i := 38) rfl)) (ty := (.object "java/lang/String")) (by decide) rfl rfl (⟨hx, Or.inr (Or.inl ⟨JP, EX, by decide, by decide⟩)⟩) (D ji_6) rfl (fun T g1 W Wr1 => ?_)
      refine g_aloadN W (pc' := 10) (D ji_9) rfl rfl (by first | rfl | assumption) ?_
      refine g_aloadN W (pc' := 11) (D ji_10) rfl rfl (by first | rfl | assumption) ?_
      refine g_putfield W (pc' := 14) (host := "") (Or.inl (hw _ (List.mem_of_getElem? (i := 51) rfl))) Via.refl (f2.other Wr1 (Or.inr (Ne.symm n12))) (EX.wr Wr1) (Or.inr ⟨(hw _ (List.mem_of_getElem? (i := 52) rfl)), rfl, hnm⟩) (hw _ (List.mem_of_getElem? (i := 38) rfl)) (ty := (.object "java/lang/String")) (by decide) rfl rfl (⟨hx, Or.inr (Or.inl ⟨JP, EX.wr Wr1, by decide, by decide⟩)⟩) (D ji_11) rfl (fun T g2 W Wr2 => ?_)
      exact g_return W (D ji_14) hret (by decide) (by decide) ⟨rfl, (Keep.of_wr Wr1).wr Wr2 (Or.inl (List.mem_singleton.mpr rfl)), (f1.same Wr1).other Wr2 (Or.inr n12), (f2.other Wr1 (Or.inr (Ne.symm n12))).same Wr2⟩
/-- a reference that may be null: what its text is -/
def Opt (Z : State) (h : Heap) (w : Value) (cs : List Int32) : Prop := (w = .null ∧ cs = NUL) ∨ ∃ q, w = .ref q ∧ Str Z h q cs
theorem js_0 : decode prog_17_method_5_code 0 = .ok (.new 16, 3) := by decide +kernel
theorem js_3 : decode prog_17_method_5_code 3 = .ok (.dup, 1) := by decide +kernel
theorem js_4 : decode prog_17_method_5_code 4 = .ok (.invokespecial 18, 3) := by decide +kernel
theorem js_7 : decode prog_17_method_5_code 7 = .ok (.aload_n 0, 1) := by decide +kernel
theorem js_8 : decode prog_17_method_5_code 8 = .ok (.getfield 7, 3) := by decide +kernel
theorem js_11 : decode prog_17_method_5_code 11 = .ok (.invokevirtual 19, 3) := by decide +kernel
theorem js_14 : decode prog_17_method_5_code 14 = .ok (.ldc 76, 2) := by decide +kernel
theorem js_16 : decode prog_17_method_5_code 16 = .ok (.invokevirtual 19, 3) := by decide +kernel
theorem js_19 : decode prog_17_method_5_code 19 = .ok (.aload_n 0, 1) := by decide +kernel
theorem js_20 : decode prog_17_method_5_code 20 = .ok (.getfield 13, 3) := by decide +kernel
theorem js_23 : decode prog_17_method_5_code 23 = .ok (.invokevirtual 19, 3) := by decide +kernel
theorem js_26 : decode prog_17_method_5_code 26 = .ok (.invokevirtual 25, 3) := by decide +kernel
theorem js_29 : decode prog_17_method_5_code 29 = .ok (.areturn, 1) := by decide +kernel
theorem efJs (m : MethodId) (x0 : Addr) : entryFrame m #[.ref x0] 1 = mkF m 0 #[.val (.ref x0)] [] := by first | (simp [entryFrame, mkF, argsToLocals, Value.category, maxLocals]; done) | rfl
set_option maxRecDepth 65536 in
set_option maxHeartbeats 16000000 in
theorem t_jpStr (l : Launch) {Z : State} {a0 : Array Value} (hw : ∀ d ∈ tables_1, d.before a0 Z = true) (hEL : EW Z a0 consts_1) (cst : Cst Z) {h : Heap} (hO : Ext Z.heap h) {x : Addr} {w1 w2 : Value} {ms ns : List Int32} (h1 : Opt Z h w1 ms) (h2 : Opt Z h w2 ns) (l1 : ms.length ≤ 4) (l2 : ns.length ≤ 4) (L1 : Latin ms) (L2 : Latin ns) (f1 : Fld Z h x JP "module" SD w1) (f2 : Fld Z h x JP "name" SD w2) :
    Met l Z consts_1 [] (⟨JP, "toString", "()Ljava/lang/String;"⟩ : MethodName) prog_17_method_5_code 1 (some (.object "java/lang/String")) { frames := 6, cells := 6, slots := 48, locals := 93 } #[.ref x] h (Ret fun v h' => ∃ y, v = .ref y ∧ Ext h h' ∧ Str Z h' y (ms ++ [47] ++ ns)) := by
  have wS := own_wS hw
  refine Met.intro pnJP hEL hO ?_
  intro p e s m below meth c T W hby hml hret hnm
  have D : ∀ {pc : Nat} {r}, decode prog_17_method_5_code pc = r → decode c.code pc = r := fun q => hb hby q
  refine Go.cast (efJs m x) ?_
  have hz0 := W.old.1
  refine g_new W (pc' := 3) (hw _ (List.mem_of_getElem? (i := 58) rfl)) (hw _ (List.mem_of_getElem? (i := 59) rfl)) (hw _ (List.mem_of_getElem? (i := 60) rfl)) (D js_0) rfl (by decide) (by decide) (fun b T g1 hb W E1 B3 => ?_)
  have hbz : Z.heap.size ≤ b := Nat.le_trans hz0 hb
  have v0 := B3.2 (O := AB) (nm := "value") (d := "[B") (Or.inl (hw _ (List.mem_of_getElem? (i := 73) rfl))) (ty := .array .byte) (by decide)
  have v1 := B3.2 (O := AB) (nm := "coder") (d := "B") (Or.inl (hw _ (List.mem_of_getElem? (i := 75) rfl))) (ty := .byte) (by decide)
  have v2 := B3.2 (O := AB) (nm := "count") (d := "I") (Or.inl (hw _ (List.mem_of_getElem? (i := 97) rfl))) (ty := .int) (by decide)
  refine g_dup W (pc' := 4) (D js_3) rfl rfl ?_
  refine g_specF W (t_initB l hw hEL cst W.old hbz B3.1 v0 v1 v2) (fun x q => nomatch q) rfl (hw _ (List.mem_of_getElem? (i := 61) rfl)) (hw _ (List.mem_of_getElem? (i := 62) rfl)) (hw _ (List.mem_of_getElem? (i := 60) rfl)) (hw _ (List.mem_of_getElem? (i := 63) rfl)) (by decide) (by decide +kernel : parseMethodDescriptor "()V" = some ⟨[], none⟩) (argsL := []) rfl rfl (pc' := 7) rfl (by rw [hml]; rfl) (D js_4) rfl (Wn := 1) (Nat.le_refl _) (by decide) (by decide) (by decide) (by decide) (fun T g2 FF W hg hQ => ?_)
  obtain ⟨t, rfl, ht, K1, Bd⟩ := hQ
  have EE : Ext h g2 := keep_ext ((ext_keep E1 []).trans K1 (own_new hb))
  have htz : h.size ≤ t := Nat.le_trans E1.1 ht
  have two : ∀ z ∈ [b, t], z ∈ ([] : List Addr) ∨ h.size ≤ z := fun z hz => Or.inr (by rcases List.mem_cons.mp hz with rfl | hz; exact hb; cases List.mem_singleton.mp hz; exact htz)
  have FT : ∀ z ∈ [t], z ∈ [t] ++ [b] := fun z hz => List.mem_append.mpr (Or.inl hz)
  have LL : Latin (ms ++ [47] ++ ns) := fun z hz => by
    rcases List.mem_append.mp hz with hz | hz
    · rcases List.mem_append.mp hz with hz | hz
      · exact L1 z hz
      · cases List.mem_singleton.mp hz; exact ⟨by decide, by decide⟩
    · exact L2 z hz
  refine g_aloadN W (pc' := 8) (D js_7) rfl rfl (by first | rfl | assumption) ?_
  refine g_getfield W (pc' := 11) (host := "") (Or.inl (hw _ (List.mem_of_getElem? (i := 49) rfl))) Via.refl (f1.ext EE) (D js_8) rfl (fun T W => ?_)
  rcases h1 with ⟨rfl, rfl⟩ | ⟨q1, rfl, S1⟩
  · skip
    refine g_virt W (t_appendN l hw hEL cst W.old Bd (by simp)) FT ⟨_, _, rfl, (hw _ (List.mem_of_getElem? (i := 79) rfl))⟩ (hw _ (List.mem_of_getElem? (i := 76) rfl)) (hw _ (List.mem_of_getElem? (i := 77) rfl)) (hw _ (List.mem_of_getElem? (i := 79) rfl)) (hw _ (List.mem_of_getElem? (i := 78) rfl)) (hw _ (List.mem_of_getElem? (i := 60) rfl)) (hw _ (List.mem_of_getElem? (i := 80) rfl)) (by decide) (by decide +kernel : parseMethodDescriptor "(Ljava/lang/String;)Ljava/lang/StringBuilder;" = some ⟨[(.object "java/lang/String")], some (.object "java/lang/StringBuilder")⟩) (Bd.2.2.1) (argsL := [_]) rfl rfl (pc' := 14) rfl (by rw [hml]; rfl) (D js_11) rfl (Wn := 0) (Nat.le_refl _) (by decide) (by decide) (by decide) (by decide) (fun v T g3 W hg hQ => ?_)
    obtain ⟨rfl, K3, Bd⟩ := hQ
    have E3 : Ext h g3 := keep_ext ((ext_keep EE []).trans K3 two)
    refine g_ldcS W (pc' := 16) (text := "/") (cs := [47]) (hw _ (List.mem_of_getElem? (i := 123) rfl)) wS (by decide) (by decide +kernel) (by unfold Latin; decide) (by decide) (nn := 4) (by decide) (by decide) (D js_14) rfl (by decide) (by decide) (fun sl T g4 W E4 SL => ?_)
    replace Bd := Bd.ext E4
    refine g_virt W (t_append l hw hEL cst W.old Bd SL (by simp only [List.length_append, List.length_cons, List.length_nil]; omega)) FT ⟨_, _, rfl, (hw _ (List.mem_of_getElem? (i := 79) rfl))⟩ (hw _ (List.mem_of_getElem? (i := 76) rfl)) (hw _ (List.mem_of_getElem? (i := 77) rfl)) (hw _ (List.mem_of_getElem? (i := 79) rfl)) (hw _ (List.mem_of_getElem? (i := 78) rfl)) (hw _ (List.mem_of_getElem? (i := 60) rfl)) (hw _ (List.mem_of_getElem? (i := 80) rfl)) (by decide) (by decide +kernel : parseMethodDescriptor "(Ljava/lang/String;)Ljava/lang/StringBuilder;" = some ⟨[(.object "java/lang/String")], some (.object "java/lang/StringBuilder")⟩) (Bd.2.2.1) (argsL := [_]) rfl rfl (pc' := 19) rfl (by rw [hml]; rfl) (D js_16) rfl (Wn := 0) (Nat.le_refl _) (by decide) (by decide) (by decide) (by decide) (fun v T g5 W hg hQ => ?_)
    obtain ⟨rfl, K5, Bd⟩ := hQ
    have E5 : Ext h g5 := keep_ext ((ext_keep (ext_trans E3 E4) []).trans K5 two)
    refine g_aloadN W (pc' := 20) (D js_19) rfl rfl (by first | rfl | assumption) ?_
    rcases h2 with ⟨rfl, rfl⟩ | ⟨q2, rfl, S2⟩
    · skip
      refine g_getfield W (pc' := 23) (host := "") (Or.inl (hw _ (List.mem_of_getElem? (i := 51) rfl))) Via.refl (f2.ext E5) (D js_20) rfl (fun T W => ?_)
      refine g_virt W (t_appendN l hw hEL cst W.old Bd (by simp only [List.length_append, List.length_cons, List.length_nil]; omega)) FT ⟨_, _, rfl, (hw _ (List.mem_of_getElem? (i := 79) rfl))⟩ (hw _ (List.mem_of_getElem? (i := 76) rfl)) (hw _ (List.mem_of_getElem? (i := 77) rfl)) (hw _ (List.mem_of_getElem? (i := 79) rfl)) (hw _ (List.mem_of_getElem? (i := 78) rfl)) (hw _ (List.mem_of_getElem? (i := 60) rfl)) (hw _ (List.mem_of_getElem? (i := 80) rfl)) (by decide) (by decide +kernel : parseMethodDescriptor "(Ljava/lang/String;)Ljava/lang/StringBuilder;" = some ⟨[(.object "java/lang/String")], some (.object "java/lang/StringBuilder")⟩) (Bd.2.2.1) (argsL := [_]) rfl rfl (pc' := 26) rfl (by rw [hml]; rfl) (D js_23) rfl (Wn := 0) (Nat.le_refl _) (by decide) (by decide) (by decide) (by decide) (fun v T g6 W hg hQ => ?_)
      obtain ⟨rfl, K6, Bd⟩ := hQ
      have E6 : Ext h g6 := keep_ext ((ext_keep E5 []).trans K6 two)
      refine g_virt W (t_toStr l hw hEL cst W.old Bd (by simp only [List.length_append, List.length_cons, List.length_nil]; omega) LL) (fun x q => nomatch q) ⟨_, _, rfl, (hw _ (List.mem_of_getElem? (i := 127) rfl))⟩ (hw _ (List.mem_of_getElem? (i := 124) rfl)) (hw _ (List.mem_of_getElem? (i := 125) rfl)) (hw _ (List.mem_of_getElem? (i := 127) rfl)) (hw _ (List.mem_of_getElem? (i := 126) rfl)) (hw _ (List.mem_of_getElem? (i := 60) rfl)) (hw _ (List.mem_of_getElem? (i := 128) rfl)) (by decide) (by decide +kernel : parseMethodDescriptor "()Ljava/lang/String;" = some ⟨[], some (.object "java/lang/String")⟩) (Bd.2.2.1) (argsL := []) rfl rfl (pc' := 29) rfl (by rw [hml]; rfl) (D js_26) rfl (Wn := 0) (Nat.le_refl _) (by decide) (by decide) (by decide) (by decide) (fun v T g7 W hg hQ => ?_)
      obtain ⟨y, rfl, E7, SY⟩ := hQ
      exact g_areturn W (D js_29) hret rfl rfl (by decide) (by decide) ⟨_, rfl, y, rfl, ext_trans E6 E7, SY⟩
    · skip
      refine g_getfield W (pc' := 23) (host := "") (Or.inl (hw _ (List.mem_of_getElem? (i := 51) rfl))) Via.refl (f2.ext E5) (D js_20) rfl (fun T W => ?_)
      refine g_virt W (t_append l hw hEL cst W.old Bd (S2.ext E5) (by simp only [List.length_append, List.length_cons, List.length_nil]; omega)) FT ⟨_, _, rfl, (hw _ (List.mem_of_getElem? (i := 79) rfl))⟩ (hw _ (List.mem_of_getElem? (i := 76) rfl)) (hw _ (List.mem_of_getElem? (i := 77) rfl)) (hw _ (List.mem_of_getElem? (i := 79) rfl)) (hw _ (List.mem_of_getElem? (i := 78) rfl)) (hw _ (List.mem_of_getElem? (i := 60) rfl)) (hw _ (List.mem_of_getElem? (i := 80) rfl)) (by decide) (by decide +kernel : parseMethodDescriptor "(Ljava/lang/String;)Ljava/lang/StringBuilder;" = some ⟨[(.object "java/lang/String")], some (.object "java/lang/StringBuilder")⟩) (Bd.2.2.1) (argsL := [_]) rfl rfl (pc' := 26) rfl (by rw [hml]; rfl) (D js_23) rfl (Wn := 0) (Nat.le_refl _) (by decide) (by decide) (by decide) (by decide) (fun v T g6 W hg hQ => ?_)
      obtain ⟨rfl, K6, Bd⟩ := hQ
      have E6 : Ext h g6 := keep_ext ((ext_keep E5 []).trans K6 two)
      refine g_virt W (t_toStr l hw hEL cst W.old Bd (by simp only [List.length_append, List.length_cons, List.length_nil]; omega) LL) (fun x q => nomatch q) ⟨_, _, rfl, (hw _ (List.mem_of_getElem? (i := 127) rfl))⟩ (hw _ (List.mem_of_getElem? (i := 124) rfl)) (hw _ (List.mem_of_getElem? (i := 125) rfl)) (hw _ (List.mem_of_getElem? (i := 127) rfl)) (hw _ (List.mem_of_getElem? (i := 126) rfl)) (hw _ (List.mem_of_getElem? (i := 60) rfl)) (hw _ (List.mem_of_getElem? (i := 128) rfl)) (by decide) (by decide +kernel : parseMethodDescriptor "()Ljava/lang/String;" = some ⟨[], some (.object "java/lang/String")⟩) (Bd.2.2.1) (argsL := []) rfl rfl (pc' := 29) rfl (by rw [hml]; rfl) (D js_26) rfl (Wn := 0) (Nat.le_refl _) (by decide) (by decide) (by decide) (by decide) (fun v T g7 W hg hQ => ?_)
      obtain ⟨y, rfl, E7, SY⟩ := hQ
      exact g_areturn W (D js_29) hret rfl rfl (by decide) (by decide) ⟨_, rfl, y, rfl, ext_trans E6 E7, SY⟩
  · skip
    refine g_virt W (t_append l hw hEL cst W.old Bd (S1.ext EE) (by simp; omega)) FT ⟨_, _, rfl, (hw _ (List.mem_of_getElem? (i := 79) rfl))⟩ (hw _ (List.mem_of_getElem? (i := 76) rfl)) (hw _ (List.mem_of_getElem? (i := 77) rfl)) (hw _ (List.mem_of_getElem? (i := 79) rfl)) (hw _ (List.mem_of_getElem? (i := 78) rfl)) (hw _ (List.mem_of_getElem? (i := 60) rfl)) (hw _ (List.mem_of_getElem? (i := 80) rfl)) (by decide) (by decide +kernel : parseMethodDescriptor "(Ljava/lang/String;)Ljava/lang/StringBuilder;" = some ⟨[(.object "java/lang/String")], some (.object "java/lang/StringBuilder")⟩) (Bd.2.2.1) (argsL := [_]) rfl rfl (pc' := 14) rfl (by rw [hml]; rfl) (D js_11) rfl (Wn := 0) (Nat.le_refl _) (by decide) (by decide) (by decide) (by decide) (fun v T g3 W hg hQ => ?_)
    obtain ⟨rfl, K3, Bd⟩ := hQ
    have E3 : Ext h g3 := keep_ext ((ext_keep EE []).trans K3 two)
    refine g_ldcS W (pc' := 16) (text := "/") (cs := [47]) (hw _ (List.mem_of_getElem? (i := 123) rfl)) wS (by decide) (by decide +kernel) (by unfold Latin; decide) (by decide) (nn := 4) (by decide) (by decide) (D js_14) rfl (by decide) (by decide) (fun sl T g4 W E4 SL => ?_)
    replace Bd := Bd.ext E4
    refine g_virt W (t_append l hw hEL cst W.old Bd SL (by simp only [List.length_append, List.length_cons, List.length_nil]; omega)) FT ⟨_, _, rfl, (hw _ (List.mem_of_getElem? (i := 79) rfl))⟩ (hw _ (List.mem_of_getElem? (i := 76) rfl)) (hw _ (List.mem_of_getElem? (i := 77) rfl)) (hw _ (List.mem_of_getElem? (i := 79) rfl)) (hw _ (List.mem_of_getElem? (i := 78) rfl)) (hw _ (List.mem_of_getElem? (i := 60) rfl)) (hw _ (List.mem_of_getElem? (i := 80) rfl)) (by decide) (by decide +kernel : parseMethodDescriptor "(Ljava/lang/String;)Ljava/lang/StringBuilder;" = some ⟨[(.object "java/lang/String")], some (.object "java/lang/StringBuilder")⟩) (Bd.2.2.1) (argsL := [_]) rfl rfl (pc' := 19) rfl (by rw [hml]; rfl) (D js_16) rfl (Wn := 0) (Nat.le_refl _) (by decide) (by decide) (by decide) (by decide) (fun v T g5 W hg hQ => ?_)
    obtain ⟨rfl, K5, Bd⟩ := hQ
    have E5 : Ext h g5 := keep_ext ((ext_keep (ext_trans E3 E4) []).trans K5 two)
    refine g_aloadN W (pc' := 20) (D js_19) rfl rfl (by first | rfl | assumption) ?_
    rcases h2 with ⟨rfl, rfl⟩ | ⟨q2, rfl, S2⟩
    · skip
      refine g_getfield W (pc' := 23) (host := "") (Or.inl (hw _ (List.mem_of_getElem? (i := 51) rfl))) Via.refl (f2.ext E5) (D js_20) rfl (fun T W => ?_)
      refine g_virt W (t_appendN l hw hEL cst W.old Bd (by simp only [List.length_append, List.length_cons, List.length_nil]; omega)) FT ⟨_, _, rfl, (hw _ (List.mem_of_getElem? (i := 79) rfl))⟩ (hw _ (List.mem_of_getElem? (i := 76) rfl)) (hw _ (List.mem_of_getElem? (i := 77) rfl)) (hw _ (List.mem_of_getElem? (i := 79) rfl)) (hw _ (List.mem_of_getElem? (i := 78) rfl)) (hw _ (List.mem_of_getElem? (i := 60) rfl)) (hw _ (List.mem_of_getElem? (i := 80) rfl)) (by decide) (by decide +kernel : parseMethodDescriptor "(Ljava/lang/String;)Ljava/lang/StringBuilder;" = some ⟨[(.object "java/lang/String")], some (.object "java/lang/StringBuilder")⟩) (Bd.2.2.1) (argsL := [_]) rfl rfl (pc' := 26) rfl (by rw [hml]; rfl) (D js_23) rfl (Wn := 0) (Nat.le_refl _) (by decide) (by decide) (by decide) (by decide) (fun v T g6 W hg hQ => ?_)
      obtain ⟨rfl, K6, Bd⟩ := hQ
      have E6 : Ext h g6 := keep_ext ((ext_keep E5 []).trans K6 two)
      refine g_virt W (t_toStr l hw hEL cst W.old Bd (by simp only [List.length_append, List.length_cons, List.length_nil]; omega) LL) (fun x q => nomatch q) ⟨_, _, rfl, (hw _ (List.mem_of_getElem? (i := 127) rfl))⟩ (hw _ (List.mem_of_getElem? (i := 124) rfl)) (hw _ (List.mem_of_getElem? (i := 125) rfl)) (hw _ (List.mem_of_getElem? (i := 127) rfl)) (hw _ (List.mem_of_getElem? (i := 126) rfl)) (hw _ (List.mem_of_getElem? (i := 60) rfl)) (hw _ (List.mem_of_getElem? (i := 128) rfl)) (by decide) (by decide +kernel : parseMethodDescriptor "()Ljava/lang/String;" = some ⟨[], some (.object "java/lang/String")⟩) (Bd.2.2.1) (argsL := []) rfl rfl (pc' := 29) rfl (by rw [hml]; rfl) (D js_26) rfl (Wn := 0) (Nat.le_refl _) (by decide) (by decide) (by decide) (by decide) (fun v T g7 W hg hQ => ?_)
      obtain ⟨y, rfl, E7, SY⟩ := hQ
      exact g_areturn W (D js_29) hret rfl rfl (by decide) (by decide) ⟨_, rfl, y, rfl, ext_trans E6 E7, SY⟩
    · skip
      refine g_getfield W (pc' := 23) (host := "") (Or.inl (hw _ (List.mem_of_getElem? (i := 51) rfl))) Via.refl (f2.ext E5) (D js_20) rfl (fun T W => ?_)
      refine g_virt W (t_append l hw hEL cst W.old Bd (S2.ext E5) (by simp only [List.length_append, List.length_cons, List.length_nil]; omega)) FT ⟨_, _, rfl, (hw _ (List.mem_of_getElem? (i := 79) rfl))⟩ (hw _ (List.mem_of_getElem? (i := 76) rfl)) (hw _ (List.mem_of_getElem? (i := 77) rfl)) (hw _ (List.mem_of_getElem? (i := 79) rfl)) (hw _ (List.mem_of_getElem? (i := 78) rfl)) (hw _ (List.mem_of_getElem? (i := 60) rfl)) (hw _ (List.mem_of_getElem? (i := 80) rfl)) (by decide) (by decide +kernel : parseMethodDescriptor "(Ljava/lang/String;)Ljava/lang/StringBuilder;" = some ⟨[(.object "java/lang/String")], some (.object "java/lang/StringBuilder")⟩) (Bd.2.2.1) (argsL := [_]) rfl rfl (pc' := 26) rfl (by rw [hml]; rfl) (D js_23) rfl (Wn := 0) (Nat.le_refl _) (by decide) (by decide) (by decide) (by decide) (fun v T g6 W hg hQ => ?_)
      obtain ⟨rfl, K6, Bd⟩ := hQ
      have E6 : Ext h g6 := keep_ext ((ext_keep E5 []).trans K6 two)
      refine g_virt W (t_toStr l hw hEL cst W.old Bd (by simp only [List.length_append, List.length_cons, List.length_nil]; omega) LL) (fun x q => nomatch q) ⟨_, _, rfl, (hw _ (List.mem_of_getElem? (i := 127) rfl))⟩ (hw _ (List.mem_of_getElem? (i := 124) rfl)) (hw _ (List.mem_of_getElem? (i := 125) rfl)) (hw _ (List.mem_of_getElem? (i := 127) rfl)) (hw _ (List.mem_of_getElem? (i := 126) rfl)) (hw _ (List.mem_of_getElem? (i := 60) rfl)) (hw _ (List.mem_of_getElem? (i := 128) rfl)) (by decide) (by decide +kernel : parseMethodDescriptor "()Ljava/lang/String;" = some ⟨[], some (.object "java/lang/String")⟩) (Bd.2.2.1) (argsL := []) rfl rfl (pc' := 29) rfl (by rw [hml]; rfl) (D js_26) rfl (Wn := 0) (Nat.le_refl _) (by decide) (by decide) (by decide) (by decide) (fun v T g7 W hg hQ => ?_)
      obtain ⟨y, rfl, E7, SY⟩ := hQ
      exact g_areturn W (D js_29) hret rfl rfl (by decide) (by decide) ⟨_, rfl, y, rfl, ext_trans E6 E7, SY⟩
theorem mk_0 : decode method_2_code 0 = .ok (.iload_n 0, 1) := by decide +kernel
theorem mk_1 : decode method_2_code 1 = .ok (.sipush 255, 3) := by decide +kernel
theorem mk_4 : decode method_2_code 4 = .ok (.iand, 1) := by decide +kernel
theorem mk_5 : decode method_2_code 5 = .ok (.i2c, 1) := by decide +kernel
theorem mk_6 : decode method_2_code 6 = .ok (.istore_n 2, 1) := by decide +kernel
theorem mk_7 : decode method_2_code 7 = .ok (.iload_n 0, 1) := by decide +kernel
theorem mk_8 : decode method_2_code 8 = .ok (.bipush 8, 2) := by decide +kernel
theorem mk_10 : decode method_2_code 10 = .ok (.iushr, 1) := by decide +kernel
theorem mk_11 : decode method_2_code 11 = .ok (.sipush 255, 3) := by decide +kernel
theorem mk_14 : decode method_2_code 14 = .ok (.iand, 1) := by decide +kernel
theorem mk_15 : decode method_2_code 15 = .ok (.i2c, 1) := by decide +kernel
theorem mk_16 : decode method_2_code 16 = .ok (.istore_n 3, 1) := by decide +kernel
theorem mk_17 : decode method_2_code 17 = .ok (.iload_n 0, 1) := by decide +kernel
theorem mk_18 : decode method_2_code 18 = .ok (.bipush 16, 2) := by decide +kernel
theorem mk_20 : decode method_2_code 20 = .ok (.iushr, 1) := by decide +kernel
theorem mk_21 : decode method_2_code 21 = .ok (.sipush 255, 3) := by decide +kernel
theorem mk_24 : decode method_2_code 24 = .ok (.iand, 1) := by decide +kernel
theorem mk_25 : decode method_2_code 25 = .ok (.i2c, 1) := by decide +kernel
theorem mk_26 : decode method_2_code 26 = .ok (.istore 4, 2) := by decide +kernel
theorem mk_28 : decode method_2_code 28 = .ok (.iload_n 1, 1) := by decide +kernel
theorem mk_29 : decode method_2_code 29 = .ok (.ifCond .ne 6, 3) := by decide +kernel
theorem mk_32 : decode method_2_code 32 = .ok (.ldc 7, 2) := by decide +kernel
theorem mk_34 : decode method_2_code 34 = .ok (.areturn, 1) := by decide +kernel
theorem mk_35 : decode method_2_code 35 = .ok (.iload_n 1, 1) := by decide +kernel
theorem mk_36 : decode method_2_code 36 = .ok (.iconst 1, 1) := by decide +kernel
theorem mk_37 : decode method_2_code 37 = .ok (.if_icmp .ne 8, 3) := by decide +kernel
theorem mk_40 : decode method_2_code 40 = .ok (.iload_n 2, 1) := by decide +kernel
theorem mk_41 : decode method_2_code 41 = .ok (.invokestatic 9, 3) := by decide +kernel
theorem mk_44 : decode method_2_code 44 = .ok (.areturn, 1) := by decide +kernel
theorem mk_45 : decode method_2_code 45 = .ok (.iload_n 1, 1) := by decide +kernel
theorem mk_46 : decode method_2_code 46 = .ok (.iconst 2, 1) := by decide +kernel
theorem mk_47 : decode method_2_code 47 = .ok (.if_icmp .ne 22, 3) := by decide +kernel
theorem mk_50 : decode method_2_code 50 = .ok (.new 10, 3) := by decide +kernel
theorem mk_53 : decode method_2_code 53 = .ok (.dup, 1) := by decide +kernel
theorem mk_54 : decode method_2_code 54 = .ok (.iconst 2, 1) := by decide +kernel
theorem mk_55 : decode method_2_code 55 = .ok (.newarray .char, 2) := by decide +kernel
theorem mk_57 : decode method_2_code 57 = .ok (.dup, 1) := by decide +kernel
theorem mk_58 : decode method_2_code 58 = .ok (.iconst 0, 1) := by decide +kernel
theorem mk_59 : decode method_2_code 59 = .ok (.iload_n 2, 1) := by decide +kernel
theorem mk_60 : decode method_2_code 60 = .ok (.castore, 1) := by decide +kernel
theorem mk_61 : decode method_2_code 61 = .ok (.dup, 1) := by decide +kernel
theorem mk_62 : decode method_2_code 62 = .ok (.iconst 1, 1) := by decide +kernel
theorem mk_63 : decode method_2_code 63 = .ok (.iload_n 3, 1) := by decide +kernel
theorem mk_64 : decode method_2_code 64 = .ok (.castore, 1) := by decide +kernel
theorem mk_65 : decode method_2_code 65 = .ok (.invokespecial 15, 3) := by decide +kernel
theorem mk_68 : decode method_2_code 68 = .ok (.areturn, 1) := by decide +kernel
theorem mk_69 : decode method_2_code 69 = .ok (.new 10, 3) := by decide +kernel
theorem mk_72 : decode method_2_code 72 = .ok (.dup, 1) := by decide +kernel
theorem mk_73 : decode method_2_code 73 = .ok (.iconst 3, 1) := by decide +kernel
theorem mk_74 : decode method_2_code 74 = .ok (.newarray .char, 2) := by decide +kernel
theorem mk_76 : decode method_2_code 76 = .ok (.dup, 1) := by decide +kernel
theorem mk_77 : decode method_2_code 77 = .ok (.iconst 0, 1) := by decide +kernel
theorem mk_78 : decode method_2_code 78 = .ok (.iload_n 2, 1) := by decide +kernel
theorem mk_79 : decode method_2_code 79 = .ok (.castore, 1) := by decide +kernel
theorem mk_80 : decode method_2_code 80 = .ok (.dup, 1) := by decide +kernel
theorem mk_81 : decode method_2_code 81 = .ok (.iconst 1, 1) := by decide +kernel
theorem mk_82 : decode method_2_code 82 = .ok (.iload_n 3, 1) := by decide +kernel
theorem mk_83 : decode method_2_code 83 = .ok (.castore, 1) := by decide +kernel
theorem mk_84 : decode method_2_code 84 = .ok (.dup, 1) := by decide +kernel
theorem mk_85 : decode method_2_code 85 = .ok (.iconst 2, 1) := by decide +kernel
theorem mk_86 : decode method_2_code 86 = .ok (.iload 4, 2) := by decide +kernel
theorem mk_88 : decode method_2_code 88 = .ok (.castore, 1) := by decide +kernel
theorem mk_89 : decode method_2_code 89 = .ok (.invokespecial 15, 3) := by decide +kernel
theorem mk_92 : decode method_2_code 92 = .ok (.areturn, 1) := by decide +kernel
theorem efMk (m : MethodId) (x0 : Int32) (x1 : Int32) : entryFrame m #[.int x0, .int x1] 5 = mkF m 0 #[.val (.int x0), .val (.int x1), .unset, .unset, .unset] [] := by first | (simp [entryFrame, mkF, argsToLocals, Value.category, maxLocals]; done) | rfl
set_option maxRecDepth 65536 in
set_option maxHeartbeats 8000000 in
theorem t_mk (l : Launch) {Z : State} {a0 : Array Value} (hw : ∀ d ∈ tables_1, d.before a0 Z = true) (hEL : EW Z a0 consts_1) (cst : Cst Z) {h : Heap} (hO : Ext Z.heap h) {bits len : Int32} :
    Met l Z consts_1 [] (⟨LW, "mk", "(II)Ljava/lang/String;"⟩ : MethodName) method_2_code 5 (some (.object "java/lang/String")) { frames := 4, cells := 3, slots := 10, locals := 66 } #[.int bits, .int len] h (Ret fun v h' => ∃ x cs, v = .ref x ∧ Ext h h' ∧ Str Z h' x cs ∧ cs.length ≤ 3) := by
  have wS := own_wS hw
  have wi : (Jvm.Cond.instantiable "java/lang/String" 4).before a0 Z = true := (hw _ (List.mem_of_getElem? (i := 5) rfl))
  refine Met.intro pnLW hEL hO ?_
  intro p e s m below meth c T W hby hml hret hnm
  have D : ∀ {pc : Nat} {r}, decode method_2_code pc = r → decode c.code pc = r := fun q => hb hby q
  refine Go.cast (efMk m bits len) ?_
  refine g_iloadN W (pc' := 1) (D mk_0) rfl rfl ?_
  refine g_sipush W (pc' := 4) (D mk_1) rfl (v := (255 : Int32)) (by decide) ?_
  refine g_iand W (pc' := 5) (D mk_4) rfl ?_
  refine g_i2c W (pc' := 6) (D mk_5) rfl ?_
  have L0 : Lc (bits &&& 255) := Lc.mask _
  rw [L0.i2c]
  generalize (bits &&& 255) = c0 at L0 ⊢
  refine g_istoreN W (pc' := 7) (D mk_6) rfl (ls' := #[_, _, _, _, _]) rfl ?_
  refine g_iloadN W (pc' := 8) (D mk_7) rfl rfl ?_
  refine g_bipush W (pc' := 10) (D mk_8) rfl (v := (8 : Int32)) (by decide) ?_
  refine g_iushr W (pc' := 11) (D mk_10) rfl ?_
  refine g_sipush W (pc' := 14) (D mk_11) rfl (v := (255 : Int32)) (by decide) ?_
  refine g_iand W (pc' := 15) (D mk_14) rfl ?_
  refine g_i2c W (pc' := 16) (D mk_15) rfl ?_
  have L1 : Lc (XT.ushr bits 8 &&& 255) := Lc.mask _
  rw [L1.i2c]
  generalize (XT.ushr bits 8 &&& 255) = c1 at L1 ⊢
  refine g_istoreN W (pc' := 17) (D mk_16) rfl (ls' := #[_, _, _, _, _]) rfl ?_
  refine g_iloadN W (pc' := 18) (D mk_17) rfl rfl ?_
  refine g_bipush W (pc' := 20) (D mk_18) rfl (v := (16 : Int32)) (by decide) ?_
  refine g_iushr W (pc' := 21) (D mk_20) rfl ?_
  refine g_sipush W (pc' := 24) (D mk_21) rfl (v := (255 : Int32)) (by decide) ?_
  refine g_iand W (pc' := 25) (D mk_24) rfl ?_
  refine g_i2c W (pc' := 26) (D mk_25) rfl ?_
  have L2 : Lc (XT.ushr bits 16 &&& 255) := Lc.mask _
  rw [L2.i2c]
  generalize (XT.ushr bits 16 &&& 255) = c2 at L2 ⊢
  have hL : Latin [c0, c1, c2] := Latin.con L0 (Latin.con L1 (Latin.con L2 Latin.nil))
  refine g_istore W (pc' := 28) (D mk_26) rfl (ls' := #[_, _, _, _, _]) rfl ?_
  refine g_iloadN W (pc' := 29) (D mk_28) rfl rfl ?_
  refine g_ifne W (pc1 := 35) (pc2 := 32) (D mk_29) (by decide) (by decide) rfl (fun q0 => ?_) (fun q0 => ?_)
  · refine g_iloadN W (pc' := 36) (D mk_35) rfl rfl ?_
    refine g_iconst W (pc' := 37) (D mk_36) rfl (v := (1 : Int32)) (by decide) ?_
    refine g_icmpne W (pc1 := 45) (pc2 := 40) (D mk_37) (by decide) (by decide) rfl (fun q1 => ?_) (fun q1 => ?_)
    · refine g_iloadN W (pc' := 46) (D mk_45) rfl rfl ?_
      refine g_iconst W (pc' := 47) (D mk_46) rfl (v := (2 : Int32)) (by decide) ?_
      refine g_icmpne W (pc1 := 69) (pc2 := 50) (D mk_47) (by decide) (by decide) rfl (fun q2 => ?_) (fun q2 => ?_)
      · skip
        have hzh0 := W.old.1
        refine g_newS W (pc' := 72) (hw _ (List.mem_of_getElem? (i := 4) rfl)) wi (hw _ (List.mem_of_getElem? (i := 6) rfl)) (hw _ (List.mem_of_getElem? (i := 33) rfl)) (hw _ (List.mem_of_getElem? (i := 31) rfl)) (D mk_69) rfl (by decide) (by decide) (fun x T ga hx W E1 N => ?_)
        refine g_dup W (pc' := 73) (D mk_72) rfl rfl ?_
        refine g_iconst W (pc' := 74) (D mk_73) rfl (v := (3 : Int32)) (by decide) ?_
        refine g_newarray W (pc' := 76) (ty := .char) rfl (i := 3) (by decide) (by decide) (hw _ (List.mem_of_getElem? (i := 7) rfl)) (D mk_74) rfl (cap := 3) (by decide) (by decide) (by decide) (by decide) (fun b T gb hb0 W E2 A => ?_)
        replace N := (N.mem (fun y q => List.mem_cons_of_mem b q)).ext E2
        replace A : Ali Z gb b .char ((List.replicate 3 (0 : Int32)).map Value.int) := A
        have hbz : Z.heap.size ≤ b := Nat.le_trans hzh0 (Nat.le_trans E1.1 hb0)
        have hbx : h.size ≤ b := Nat.le_trans E1.1 hb0
        have KK : Keep h gb [] := ext_keep (ext_trans E1 E2) []
        refine g_dup W (pc' := 77) (D mk_76) rfl rfl ?_
        refine g_iconst W (pc' := 78) (D mk_77) rfl (v := (0 : Int32)) (by decide) ?_
        refine g_iloadN W (pc' := 79) (D mk_78) rfl rfl ?_
        refine g_castore W (pc' := 80) (A) (hbz) (i := 0) (by decide) (by decide) (by simp) (L0.1) (L0.w) (D mk_79) rfl (fun T g0 W Kp A' => ?_)
        replace N := N.keepA wi Kp A
        replace KK := KK.trans Kp (own_new hbx)
        replace A := A'
        refine g_dup W (pc' := 81) (D mk_80) rfl rfl ?_
        refine g_iconst W (pc' := 82) (D mk_81) rfl (v := (1 : Int32)) (by decide) ?_
        refine g_iloadN W (pc' := 83) (D mk_82) rfl rfl ?_
        refine g_castore W (pc' := 84) (A) (hbz) (i := 1) (by decide) (by decide) (by simp) (L1.1) (L1.w) (D mk_83) rfl (fun T g1 W Kp A' => ?_)
        replace N := N.keepA wi Kp A
        replace KK := KK.trans Kp (own_new hbx)
        replace A := A'
        refine g_dup W (pc' := 85) (D mk_84) rfl rfl ?_
        refine g_iconst W (pc' := 86) (D mk_85) rfl (v := (2 : Int32)) (by decide) ?_
        refine g_iload W (pc' := 88) (D mk_86) rfl rfl ?_
        refine g_castore W (pc' := 89) (A) (hbz) (i := 2) (by decide) (by decide) (by simp) (L2.1) (L2.w) (D mk_88) rfl (fun T g2 W Kp A' => ?_)
        replace N := N.keepA wi Kp A
        replace KK := KK.trans Kp (own_new hbx)
        replace A := A'
        replace A : Ali Z _ b .char (([c0, c1, c2] : List Int32).map Value.int) := A
        refine g_initS W hw cst (N) (A) (fun z hz => hL z (List.mem_of_mem_take (i := 3) hz)) (by show 0 < 3; decide) (by show 3 ≤ 4000; decide) (hw _ (List.mem_of_getElem? (i := 8) rfl)) (pc' := 92) (by rw [hml]; rfl) (D mk_89) rfl (Wn := 1) (Nat.le_refl _) (by decide) (by decide) (by decide) (nn := 3) (Nat.le_refl _) (by decide) (fun T gz W Kp S => ?_)
        replace KK := KK.trans Kp (own_new hx)
        exact g_areturn W (D mk_92) hret rfl rfl (by decide) (by decide) ⟨_, rfl, x, [c0, c1, c2], rfl, keep_ext KK, S, by show 3 ≤ 3; decide⟩
      · skip
        have hzh0 := W.old.1
        refine g_newS W (pc' := 53) (hw _ (List.mem_of_getElem? (i := 4) rfl)) wi (hw _ (List.mem_of_getElem? (i := 6) rfl)) (hw _ (List.mem_of_getElem? (i := 33) rfl)) (hw _ (List.mem_of_getElem? (i := 31) rfl)) (D mk_50) rfl (by decide) (by decide) (fun x T ga hx W E1 N => ?_)
        refine g_dup W (pc' := 54) (D mk_53) rfl rfl ?_
        refine g_iconst W (pc' := 55) (D mk_54) rfl (v := (2 : Int32)) (by decide) ?_
        refine g_newarray W (pc' := 57) (ty := .char) rfl (i := 2) (by decide) (by decide) (hw _ (List.mem_of_getElem? (i := 7) rfl)) (D mk_55) rfl (cap := 2) (by decide) (by decide) (by decide) (by decide) (fun b T gb hb0 W E2 A => ?_)
        replace N := (N.mem (fun y q => List.mem_cons_of_mem b q)).ext E2
        replace A : Ali Z gb b .char ((List.replicate 2 (0 : Int32)).map Value.int) := A
        have hbz : Z.heap.size ≤ b := Nat.le_trans hzh0 (Nat.le_trans E1.1 hb0)
        have hbx : h.size ≤ b := Nat.le_trans E1.1 hb0
        have KK : Keep h gb [] := ext_keep (ext_trans E1 E2) []
        refine g_dup W (pc' := 58) (D mk_57) rfl rfl ?_
        refine g_iconst W (pc' := 59) (D mk_58) rfl (v := (0 : Int32)) (by decide) ?_
        refine g_iloadN W (pc' := 60) (D mk_59) rfl rfl ?_
        refine g_castore W (pc' := 61) (A) (hbz) (i := 0) (by decide) (by decide) (by simp) (L0.1) (L0.w) (D mk_60) rfl (fun T g0 W Kp A' => ?_)
        replace N := N.keepA wi Kp A
        replace KK := KK.trans Kp (own_new hbx)
        replace A := A'
        refine g_dup W (pc' := 62) (D mk_61) rfl rfl ?_
        refine g_iconst W (pc' := 63) (D mk_62) rfl (v := (1 : Int32)) (by decide) ?_
        refine g_iloadN W (pc' := 64) (D mk_63) rfl rfl ?_
        refine g_castore W (pc' := 65) (A) (hbz) (i := 1) (by decide) (by decide) (by simp) (L1.1) (L1.w) (D mk_64) rfl (fun T g1 W Kp A' => ?_)
        replace N := N.keepA wi Kp A
        replace KK := KK.trans Kp (own_new hbx)
        replace A := A'
        replace A : Ali Z _ b .char (([c0, c1] : List Int32).map Value.int) := A
        refine g_initS W hw cst (N) (A) (fun z hz => hL z (List.mem_of_mem_take (i := 2) hz)) (by show 0 < 2; decide) (by show 2 ≤ 4000; decide) (hw _ (List.mem_of_getElem? (i := 8) rfl)) (pc' := 68) (by rw [hml]; rfl) (D mk_65) rfl (Wn := 1) (Nat.le_refl _) (by decide) (by decide) (by decide) (nn := 2) (Nat.le_refl _) (by decide) (fun T gz W Kp S => ?_)
        replace KK := KK.trans Kp (own_new hx)
        exact g_areturn W (D mk_68) hret rfl rfl (by decide) (by decide) ⟨_, rfl, x, [c0, c1], rfl, keep_ext KK, S, by show 2 ≤ 3; decide⟩
    · refine g_iloadN W (pc' := 41) (D mk_40) rfl rfl ?_
      refine g_callS W (t_valueOf l hw hEL cst W.old L0) (fun x q => nomatch q) (hw _ (List.mem_of_getElem? (i := 195) rfl)) (hw _ (List.mem_of_getElem? (i := 196) rfl)) (hw _ (List.mem_of_getElem? (i := 6) rfl)) (hw _ (List.mem_of_getElem? (i := 197) rfl)) (by decide) (by decide +kernel : parseMethodDescriptor "(C)Ljava/lang/String;" = some ⟨[.char], some (.object "java/lang/String")⟩) (argsL := [_]) rfl rfl (pc' := 44) rfl (by rw [hml]; rfl) (D mk_41) rfl (Wn := 0) (Nat.le_refl _) (by decide) (by decide) (by decide) (by decide) (fun v T g1 W hg hQ => ?_)
      obtain ⟨x, rfl, E1, S⟩ := hQ
      exact g_areturn W (D mk_44) hret rfl rfl (by decide) (by decide) ⟨_, rfl, x, _, rfl, E1, S, by show 1 ≤ 3; decide⟩
  · refine g_ldcS W (pc' := 34) (text := "") (cs := []) (hw _ (List.mem_of_getElem? (i := 34) rfl)) wS (by decide) (by decide +kernel) (by unfold Latin; decide) (by decide) (nn := 0) (by decide) (by decide) (D mk_32) rfl (by decide) (by decide) (fun x T g1 W E1 S => ?_)
    exact g_areturn W (D mk_34) hret rfl rfl (by decide) (by decide) ⟨_, rfl, x, _, rfl, E1, S, by show 0 ≤ 3; decide⟩
theorem efL (m : MethodId) (x0 : Int32) (x1 : Int32) (x2 : Int32) : entryFrame m #[.int x0, .int x1, .int x2] maxLocals = mkF m 0 #[.val (.int x0), .val (.int x1), .val (.int x2), .unset, .unset, .unset, .unset, .unset, .unset, .unset, .unset, .unset, .unset] [] := by first | (simp [entryFrame, mkF, argsToLocals, Value.category, maxLocals]; done) | rfl
set_option maxRecDepth 65536 in
set_option maxHeartbeats 40000000 in
theorem t_law (l : Launch) {Z : State} {a0 : Array Value} (hw : ∀ d ∈ tables_1, d.before a0 Z = true) (cst : Cst Z) (fst : Fst Z) (hEL : EW Z a0 consts_1) (a b cc : Int32) :
    MetW tables_1 l Z consts_1 [] x code maxLocals ret room_1 #[.int a, .int b, .int cc] Z.heap (Ret fun v _ => v = .int 1) := by
  have hO : Ext Z.heap Z.heap := ext_refl _
  have wS := own_wS hw
  have wi : (Jvm.Cond.instantiable "java/lang/String" 4).before a0 Z = true := (hw _ (List.mem_of_getElem? (i := 5) rfl))
  refine Met.intro pnLW hEL hO ?_
  intro p e s m below meth c T W hby hml hret hnm
  have D : ∀ {pc : Nat} {r}, decode code pc = r → decode c.code pc = r := fun q => hb hby q
  refine Go.cast (efL m a b cc) ?_
  have LN : Latin NUL := by unfold Latin; decide
  refine g_iloadN W (pc' := 1) (D at_0) rfl rfl ?_
  refine g_iconst W (pc' := 2) (D at_1) rfl (v := (3 : Int32)) (by decide) ?_
  refine g_iand W (pc' := 3) (D at_2) rfl ?_
  refine g_istoreN W (pc' := 4) (D at_3) rfl (ls' := #[_, _, _, _, _, _, _, _, _, _, _, _, _]) rfl ?_
  refine g_iloadN W (pc' := 5) (D at_4) rfl rfl ?_
  refine g_iconst W (pc' := 6) (D at_5) rfl (v := (2 : Int32)) (by decide) ?_
  refine g_iushr W (pc' := 7) (D at_6) rfl ?_
  refine g_iconst W (pc' := 8) (D at_7) rfl (v := (3 : Int32)) (by decide) ?_
  refine g_iand W (pc' := 9) (D at_8) rfl ?_
  refine g_istore W (pc' := 11) (D at_9) rfl (ls' := #[_, _, _, _, _, _, _, _, _, _, _, _, _]) rfl ?_
  refine g_iloadN W (pc' := 12) (D at_11) rfl rfl ?_
  refine g_bipush W (pc' := 14) (D at_12) rfl (v := (48 : Int32)) (by decide) ?_
  refine g_iand W (pc' := 15) (D at_14) rfl ?_
  refine g_bipush W (pc' := 17) (D at_15) rfl (v := (48 : Int32)) (by decide) ?_
  refine g_icmpneB W (pc1 := 24) (pc2 := 20) (pc3 := 21) (pcJ := 25) (D at_17) (by decide) (by decide) rfl (D at_20) rfl (D at_21) (by decide) (by decide) (D at_24) rfl (v1 := (1 : Int32)) (v2 := (0 : Int32)) (by decide) (by decide) ?_
  refine g_istore W (pc' := 27) (D at_25) rfl (ls' := #[_, _, _, _, _, _, _, _, _, _, _, _, _]) rfl ?_
  refine g_iloadN W (pc' := 28) (D at_27) rfl rfl ?_
  refine g_sipush W (pc' := 31) (D at_28) rfl (v := (192 : Int32)) (by decide) ?_
  refine g_iand W (pc' := 32) (D at_31) rfl ?_
  refine g_sipush W (pc' := 35) (D at_32) rfl (v := (192 : Int32)) (by decide) ?_
  refine g_icmpneB W (pc1 := 42) (pc2 := 38) (pc3 := 39) (pcJ := 43) (D at_35) (by decide) (by decide) rfl (D at_38) rfl (D at_39) (by decide) (by decide) (D at_42) rfl (v1 := (1 : Int32)) (v2 := (0 : Int32)) (by decide) (by decide) ?_
  refine g_istore W (pc' := 45) (D at_43) rfl (ls' := #[_, _, _, _, _, _, _, _, _, _, _, _, _]) rfl ?_
  refine g_iload W (pc' := 47) (D at_45) rfl rfl ?_
  refine g_ifeq W (pc1 := 54) (pc2 := 50) (D at_47) (by decide) (by decide) rfl (fun q => ?_) (fun q => ?_)
  · refine g_iloadN W (pc' := 55) (D at_54) rfl rfl ?_
    refine g_iloadN W (pc' := 56) (D at_55) rfl rfl ?_
    refine g_callS W (t_mk l hw hEL cst W.old) (fun x q => nomatch q) (hw _ (List.mem_of_getElem? (i := 0) rfl)) (hw _ (List.mem_of_getElem? (i := 1) rfl)) (hw _ (List.mem_of_getElem? (i := 2) rfl)) (hw _ (List.mem_of_getElem? (i := 3) rfl)) (by decide) (by decide +kernel : parseMethodDescriptor "(II)Ljava/lang/String;" = some ⟨[.int, .int], some (.object "java/lang/String")⟩) (argsL := [_, _]) rfl rfl (pc' := 59) rfl (by rw [hml]; rfl) (D at_56) rfl (Wn := 0) (Nat.le_refl _) (by decide) (by decide) (by decide) (by decide) (fun v T g1 W hg hQ => ?_)
    obtain ⟨q1, ms, rfl, E1, S1, hm3⟩ := hQ
    refine g_astore W (pc' := 61) (D at_59) rfl (by first | rfl | assumption) (ls' := #[_, _, _, _, _, _, _, _, _, _, _, _, _]) rfl ?_
    refine g_iload W (pc' := 63) (D at_61) rfl rfl ?_
    refine g_ifeq W (pc1 := 70) (pc2 := 66) (D at_63) (by decide) (by decide) rfl (fun r => ?_) (fun r => ?_)
    · refine g_iloadN W (pc' := 71) (D at_70) rfl rfl ?_
      refine g_iload W (pc' := 73) (D at_71) rfl rfl ?_
      refine g_callS W (t_mk l hw hEL cst W.old) (fun x q => nomatch q) (hw _ (List.mem_of_getElem? (i := 0) rfl)) (hw _ (List.mem_of_getElem? (i := 1) rfl)) (hw _ (List.mem_of_getElem? (i := 2) rfl)) (hw _ (List.mem_of_getElem? (i := 3) rfl)) (by decide) (by decide +kernel : parseMethodDescriptor "(II)Ljava/lang/String;" = some ⟨[.int, .int], some (.object "java/lang/String")⟩) (argsL := [_, _]) rfl rfl (pc' := 76) rfl (by rw [hml]; rfl) (D at_73) rfl (Wn := 0) (Nat.le_refl _) (by decide) (by decide) (by decide) (by decide) (fun v T g2 W hg hQ => ?_)
      obtain ⟨q2, ns, rfl, E2, S2, hn3⟩ := hQ
      replace S1 := S1.ext E2
      refine g_astore W (pc' := 78) (D at_76) rfl (by first | rfl | assumption) (ls' := #[_, _, _, _, _, _, _, _, _, _, _, _, _]) rfl ?_
      have hz3 := W.old.1
      refine g_new W (pc' := 81) (hw _ (List.mem_of_getElem? (i := 37) rfl)) (hw _ (List.mem_of_getElem? (i := 38) rfl)) (hw _ (List.mem_of_getElem? (i := 39) rfl)) (D at_78) rfl (by decide) (by decide) (fun pk T g3 hpk W E3 B3 => ?_)
      have hpz : Z.heap.size ≤ pk := Nat.le_trans hz3 hpk
      have EX := B3.1
      have f1 := B3.2 (O := JP) (nm := "module") (d := SD) (Or.inr (hw _ (List.mem_of_getElem? (i := 50) rfl))) (ty := .object "java/lang/String") (by decide)
      have f2 := B3.2 (O := JP) (nm := "name") (d := SD) (Or.inr (hw _ (List.mem_of_getElem? (i := 52) rfl))) (ty := .object "java/lang/String") (by decide)
      refine g_dup W (pc' := 82) (D at_81) rfl rfl ?_
      refine g_aload W (pc' := 84) (D at_82) rfl rfl (by first | rfl | assumption) ?_
      refine g_aload W (pc' := 86) (D at_84) rfl rfl (by first | rfl | assumption) ?_
      refine g_spec W (t_jpInit l hw hEL W.old (w1 := (.ref q1)) (w2 := (.ref q2)) (Or.inr ⟨_, rfl⟩) (Or.inr ⟨_, rfl⟩) hpz EX f1 f2) (fun x q => nomatch q) rfl (hw _ (List.mem_of_getElem? (i := 40) rfl)) (hw _ (List.mem_of_getElem? (i := 41) rfl)) (hw _ (List.mem_of_getElem? (i := 39) rfl)) (hw _ (List.mem_of_getElem? (i := 42) rfl)) (by decide) (by decide +kernel : parseMethodDescriptor "(Ljava/lang/String;Ljava/lang/String;)V" = some ⟨[(.object "java/lang/String"), (.object "java/lang/String")], none⟩) (argsL := [_, _]) rfl rfl (pc' := 89) rfl (by rw [hml]; rfl) (D at_86) rfl (Wn := 1) (Nat.le_refl _) (by decide) (by decide) (by decide) (by decide) (fun T g4 W hg hQ => ?_)
      obtain ⟨K4, f1, f2⟩ := hQ
      have S1 := (S1.ext E3).keep wi K4 (Or.inl ⟨JP, 2, EX, by decide, (hw _ (List.mem_of_getElem? (i := 38) rfl))⟩)
      have S2 := (S2.ext E3).keep wi K4 (Or.inl ⟨JP, 2, EX, by decide, (hw _ (List.mem_of_getElem? (i := 38) rfl))⟩)
      replace EX := EX.keep K4
      refine g_astore W (pc' := 91) (D at_89) rfl (by first | rfl | assumption) (ls' := #[_, _, _, _, _, _, _, _, _, _, _, _, _]) rfl ?_
      refine g_aload W (pc' := 93) (D at_91) rfl rfl (by first | rfl | assumption) ?_
      refine g_virt W (t_jpStr l hw hEL cst W.old (ms := ms) (ns := ns) (Or.inr ⟨_, rfl, S1⟩) (Or.inr ⟨_, rfl, S2⟩) (by omega) (by omega) S1.2.2.2.1 S2.2.2.2.1 f1 f2) (fun x q => nomatch q) ⟨_, _, rfl, (hw _ (List.mem_of_getElem? (i := 56) rfl))⟩ (hw _ (List.mem_of_getElem? (i := 53) rfl)) (hw _ (List.mem_of_getElem? (i := 54) rfl)) (hw _ (List.mem_of_getElem? (i := 56) rfl)) (hw _ (List.mem_of_getElem? (i := 55) rfl)) (hw _ (List.mem_of_getElem? (i := 39) rfl)) (hw _ (List.mem_of_getElem? (i := 57) rfl)) (by decide) (by decide +kernel : parseMethodDescriptor "()Ljava/lang/String;" = some ⟨[], some (.object "java/lang/String")⟩) (EX) (argsL := []) rfl rfl (pc' := 96) rfl (by rw [hml]; rfl) (D at_93) rfl (Wn := 0) (Nat.le_refl _) (by decide) (by decide) (by decide) (by decide) (fun v T g5 W hg hQ => ?_)
      obtain ⟨y, rfl, E5, SY⟩ := hQ
      have S1 := S1.ext E5
      have S2 := S2.ext E5
      refine g_astore W (pc' := 98) (D at_96) rfl (by first | rfl | assumption) (ls' := #[_, _, _, _, _, _, _, _, _, _, _, _, _]) rfl ?_
      refine g_aload W (pc' := 100) (D at_98) rfl rfl (by first | rfl | assumption) ?_
      refine g_ifnonnullY W (pc1 := 105) (pc2 := 103) (D at_100) (by decide) (by decide) rfl ?_
      refine g_aload W (pc' := 107) (D at_105) rfl rfl (by first | rfl | assumption) ?_
      refine g_ifnonnullY W (pc1 := 115) (pc2 := 110) (D at_107) (by decide) (by decide) rfl ?_
      refine g_aload W (pc' := 117) (D at_115) rfl rfl (by first | rfl | assumption) ?_
      refine g_astore W (pc' := 119) (D at_117) rfl (by first | rfl | assumption) (ls' := #[_, _, _, _, _, _, _, _, _, _, _, _, _]) rfl ?_
      refine g_aload W (pc' := 121) (D at_119) rfl rfl (by first | rfl | assumption) ?_
      refine g_ifnonnullY W (pc1 := 129) (pc2 := 124) (D at_121) (by decide) (by decide) rfl ?_
      refine g_aload W (pc' := 131) (D at_129) rfl rfl (by first | rfl | assumption) ?_
      refine g_astore W (pc' := 133) (D at_131) rfl (by first | rfl | assumption) (ls' := #[_, _, _, _, _, _, _, _, _, _, _, _, _]) rfl ?_
      refine g_aload W (pc' := 135) (D at_133) rfl rfl (by first | rfl | assumption) ?_
      refine g_len W hw cst (SY) (hw _ (List.mem_of_getElem? (i := 169) rfl)) (pc' := 138) (by rw [hml]; rfl) (D at_135) rfl (Wn := 0) (Nat.le_refl _) (by decide) (by decide) (by decide) (by decide) (rfl) (fun T W => ?_)
      refine g_aload W (pc' := 140) (D at_138) rfl rfl (by first | rfl | assumption) ?_
      refine g_len W hw cst (S1) (hw _ (List.mem_of_getElem? (i := 169) rfl)) (pc' := 143) (by rw [hml]; rfl) (D at_140) rfl (Wn := 1) (Nat.le_refl _) (by decide) (by decide) (by decide) (by decide) (rfl) (fun T W => ?_)
      refine g_iconst W (pc' := 144) (D at_143) rfl (v := (1 : Int32)) (by decide) ?_
      refine g_iadd W (pc' := 145) (D at_144) rfl ?_
      refine g_aload W (pc' := 147) (D at_145) rfl rfl (by first | rfl | assumption) ?_
      refine g_len W hw cst (S2) (hw _ (List.mem_of_getElem? (i := 169) rfl)) (pc' := 150) (by rw [hml]; rfl) (D at_147) rfl (Wn := 2) (Nat.le_refl _) (by decide) (by decide) (by decide) (by decide) (rfl) (fun T W => ?_)
      refine g_iadd W (pc' := 151) (D at_150) rfl ?_
      refine g_icmpeqY W (pc1 := 156) (pc2 := 154) (D at_151) (by decide) (by decide) rfl (len_e) ?_
      refine g_aload W (pc' := 158) (D at_156) rfl rfl (by first | rfl | assumption) ?_
      refine g_iconst W (pc' := 159) (D at_158) rfl (v := (0 : Int32)) (by decide) ?_
      refine g_aload W (pc' := 161) (D at_159) rfl rfl (by first | rfl | assumption) ?_
      refine g_callS W (t_at l hw hEL cst fst W.old SY S1 (i := 0) (by omega) (by simp only [List.length_append, List.length_cons, List.length_nil]; omega) at_l) (fun x q => nomatch q) (hw _ (List.mem_of_getElem? (i := 170) rfl)) (hw _ (List.mem_of_getElem? (i := 171) rfl)) (hw _ (List.mem_of_getElem? (i := 2) rfl)) (hw _ (List.mem_of_getElem? (i := 172) rfl)) (by decide) (by decide +kernel : parseMethodDescriptor "(Ljava/lang/String;ILjava/lang/String;)Z" = some ⟨[(.object "java/lang/String"), .int, (.object "java/lang/String")], some .boolean⟩) (argsL := [_, _, _]) rfl rfl (pc' := 164) rfl (by rw [hml]; rfl) (D at_161) rfl (Wn := 0) (Nat.le_refl _) (by decide) (by decide) (by decide) (by decide) (fun v T g8 W hg hQ => ?_)
      obtain ⟨rfl, rfl⟩ := hQ
      refine g_ifneY W (pc1 := 169) (pc2 := 167) (D at_164) (by decide) (by decide) rfl (by decide) ?_
      refine g_aload W (pc' := 171) (D at_169) rfl rfl (by first | rfl | assumption) ?_
      refine g_aload W (pc' := 173) (D at_171) rfl rfl (by first | rfl | assumption) ?_
      refine g_len W hw cst (S1) (hw _ (List.mem_of_getElem? (i := 169) rfl)) (pc' := 176) (by rw [hml]; rfl) (D at_173) rfl (Wn := 1) (Nat.le_refl _) (by decide) (by decide) (by decide) (by decide) (rfl) (fun T W => ?_)
      refine g_charAt W hw cst fst (SY) (hw _ (List.mem_of_getElem? (i := 173) rfl)) (pc' := 179) (by rw [hml]; rfl) (D at_176) rfl (Wn := 0) (Nat.le_refl _) (by decide) (by decide) (by decide) (by decide) (rfl) (by simp only [List.length_append, List.length_cons, List.length_nil]; omega) (fun T W => ?_)
      refine g_bipush W (pc' := 181) (D at_179) rfl (v := (47 : Int32)) (by decide) ?_
      refine g_icmpeqY W (pc1 := 186) (pc2 := 184) (D at_181) (by decide) (by decide) rfl (at_m) ?_
      refine g_aload W (pc' := 188) (D at_186) rfl rfl (by first | rfl | assumption) ?_
      refine g_aload W (pc' := 190) (D at_188) rfl rfl (by first | rfl | assumption) ?_
      refine g_len W hw cst (S1) (hw _ (List.mem_of_getElem? (i := 169) rfl)) (pc' := 193) (by rw [hml]; rfl) (D at_190) rfl (Wn := 1) (Nat.le_refl _) (by decide) (by decide) (by decide) (by decide) (rfl) (fun T W => ?_)
      refine g_iconst W (pc' := 194) (D at_193) rfl (v := (1 : Int32)) (by decide) ?_
      refine g_iadd W (pc' := 195) (D at_194) rfl ?_
      refine g_aload W (pc' := 197) (D at_195) rfl rfl (by first | rfl | assumption) ?_
      have e9 : Int32.ofNat (ms : List Int32).length + 1 = Int32.ofNat ((ms : List Int32).length + 1) := by rw [Int32.ofNat_add]; rfl
      rw [e9]
      refine g_callS W (t_at l hw hEL cst fst W.old SY S2 (i := (ms : List Int32).length + 1) (by omega) (by simp only [List.length_append, List.length_cons, List.length_nil]; omega) at_r) (fun x q => nomatch q) (hw _ (List.mem_of_getElem? (i := 170) rfl)) (hw _ (List.mem_of_getElem? (i := 171) rfl)) (hw _ (List.mem_of_getElem? (i := 2) rfl)) (hw _ (List.mem_of_getElem? (i := 172) rfl)) (by decide) (by decide +kernel : parseMethodDescriptor "(Ljava/lang/String;ILjava/lang/String;)Z" = some ⟨[(.object "java/lang/String"), .int, (.object "java/lang/String")], some .boolean⟩) (argsL := [_, _, _]) rfl rfl (pc' := 200) rfl (by rw [hml]; rfl) (D at_197) rfl (Wn := 0) (Nat.le_refl _) (by decide) (by decide) (by decide) (by decide) (fun v T g9 W hg hQ => ?_)
      obtain ⟨rfl, rfl⟩ := hQ
      exact g_retz W (D at_200) hret (Or.inr rfl) (by decide) (by decide) ⟨_, rfl, rfl⟩
    · refine g_aconst_null W (pc' := 67) (D at_66) rfl ?_
      refine g_goto W (pc' := 76) (D at_67) (by decide) (by decide) ?_
      refine g_astore W (pc' := 78) (D at_76) rfl (by first | rfl | assumption) (ls' := #[_, _, _, _, _, _, _, _, _, _, _, _, _]) rfl ?_
      have hz3 := W.old.1
      refine g_new W (pc' := 81) (hw _ (List.mem_of_getElem? (i := 37) rfl)) (hw _ (List.mem_of_getElem? (i := 38) rfl)) (hw _ (List.mem_of_getElem? (i := 39) rfl)) (D at_78) rfl (by decide) (by decide) (fun pk T g3 hpk W E3 B3 => ?_)
      have hpz : Z.heap.size ≤ pk := Nat.le_trans hz3 hpk
      have EX := B3.1
      have f1 := B3.2 (O := JP) (nm := "module") (d := SD) (Or.inr (hw _ (List.mem_of_getElem? (i := 50) rfl))) (ty := .object "java/lang/String") (by decide)
      have f2 := B3.2 (O := JP) (nm := "name") (d := SD) (Or.inr (hw _ (List.mem_of_getElem? (i := 52) rfl))) (ty := .object "java/lang/String") (by decide)
      refine g_dup W (pc' := 82) (D at_81) rfl rfl ?_
      refine g_aload W (pc' := 84) (D at_82) rfl rfl (by first | rfl | assumption) ?_
      refine g_aload W (pc' := 86) (D at_84) rfl rfl (by first | rfl | assumption) ?_
      refine g_spec W (t_jpInit l hw hEL W.old (w1 := (.ref q1)) (w2 := .null) (Or.inr ⟨_, rfl⟩) (Or.inl rfl) hpz EX f1 f2) (fun x q => nomatch q) rfl (hw _ (List.mem_of_getElem? (i := 40) rfl)) (hw _ (List.mem_of_getElem? (i := 41) rfl)) (hw _ (List.mem_of_getElem? (i := 39) rfl)) (hw _ (List.mem_of_getElem? (i := 42) rfl)) (by decide) (by decide +kernel : parseMethodDescriptor "(Ljava/lang/String;Ljava/lang/String;)V" = some ⟨[(.object "java/lang/String"), (.object "java/lang/String")], none⟩) (argsL := [_, _]) rfl rfl (pc' := 89) rfl (by rw [hml]; rfl) (D at_86) rfl (Wn := 1) (Nat.le_refl _) (by decide) (by decide) (by decide) (by decide) (fun T g4 W hg hQ => ?_)
      obtain ⟨K4, f1, f2⟩ := hQ
      have S1 := (S1.ext E3).keep wi K4 (Or.inl ⟨JP, 2, EX, by decide, (hw _ (List.mem_of_getElem? (i := 38) rfl))⟩)
      replace EX := EX.keep K4
      refine g_astore W (pc' := 91) (D at_89) rfl (by first | rfl | assumption) (ls' := #[_, _, _, _, _, _, _, _, _, _, _, _, _]) rfl ?_
      refine g_aload W (pc' := 93) (D at_91) rfl rfl (by first | rfl | assumption) ?_
      refine g_virt W (t_jpStr l hw hEL cst W.old (ms := ms) (ns := NUL) (Or.inr ⟨_, rfl, S1⟩) (Or.inl ⟨rfl, rfl⟩) (by omega) (by decide) S1.2.2.2.1 LN f1 f2) (fun x q => nomatch q) ⟨_, _, rfl, (hw _ (List.mem_of_getElem? (i := 56) rfl))⟩ (hw _ (List.mem_of_getElem? (i := 53) rfl)) (hw _ (List.mem_of_getElem? (i := 54) rfl)) (hw _ (List.mem_of_getElem? (i := 56) rfl)) (hw _ (List.mem_of_getElem? (i := 55) rfl)) (hw _ (List.mem_of_getElem? (i := 39) rfl)) (hw _ (List.mem_of_getElem? (i := 57) rfl)) (by decide) (by decide +kernel : parseMethodDescriptor "()Ljava/lang/String;" = some ⟨[], some (.object "java/lang/String")⟩) (EX) (argsL := []) rfl rfl (pc' := 96) rfl (by rw [hml]; rfl) (D at_93) rfl (Wn := 0) (Nat.le_refl _) (by decide) (by decide) (by decide) (by decide) (fun v T g5 W hg hQ => ?_)
      obtain ⟨y, rfl, E5, SY⟩ := hQ
      have S1 := S1.ext E5
      refine g_astore W (pc' := 98) (D at_96) rfl (by first | rfl | assumption) (ls' := #[_, _, _, _, _, _, _, _, _, _, _, _, _]) rfl ?_
      refine g_aload W (pc' := 100) (D at_98) rfl rfl (by first | rfl | assumption) ?_
      refine g_ifnonnullY W (pc1 := 105) (pc2 := 103) (D at_100) (by decide) (by decide) rfl ?_
      refine g_aload W (pc' := 107) (D at_105) rfl rfl (by first | rfl | assumption) ?_
      refine g_ifnonnullY W (pc1 := 115) (pc2 := 110) (D at_107) (by decide) (by decide) rfl ?_
      refine g_aload W (pc' := 117) (D at_115) rfl rfl (by first | rfl | assumption) ?_
      refine g_astore W (pc' := 119) (D at_117) rfl (by first | rfl | assumption) (ls' := #[_, _, _, _, _, _, _, _, _, _, _, _, _]) rfl ?_
      refine g_aload W (pc' := 121) (D at_119) rfl rfl (by first | rfl | assumption) ?_
      refine g_ifnonnullN W (pc1 := 129) (pc2 := 124) (D at_121) (by decide) (by decide) rfl ?_
      refine g_ldcS W (pc' := 126) (text := "null") (cs := [110, 117, 108, 108]) (hw _ (List.mem_of_getElem? (i := 214) rfl)) wS (by decide) (by decide +kernel) (by unfold Latin; decide) (by decide) (nn := 16) (by decide) (by decide) (D at_124) rfl (by decide) (by decide) (fun q2 T g7 W E7 S2 => ?_)
      replace SY := SY.ext E7
      replace S1 := S1.ext E7
      refine g_goto W (pc' := 131) (D at_126) (by decide) (by decide) ?_
      refine g_astore W (pc' := 133) (D at_131) rfl (by first | rfl | assumption) (ls' := #[_, _, _, _, _, _, _, _, _, _, _, _, _]) rfl ?_
      refine g_aload W (pc' := 135) (D at_133) rfl rfl (by first | rfl | assumption) ?_
      refine g_len W hw cst (SY) (hw _ (List.mem_of_getElem? (i := 169) rfl)) (pc' := 138) (by rw [hml]; rfl) (D at_135) rfl (Wn := 0) (Nat.le_refl _) (by decide) (by decide) (by decide) (by decide) (rfl) (fun T W => ?_)
      refine g_aload W (pc' := 140) (D at_138) rfl rfl (by first | rfl | assumption) ?_
      refine g_len W hw cst (S1) (hw _ (List.mem_of_getElem? (i := 169) rfl)) (pc' := 143) (by rw [hml]; rfl) (D at_140) rfl (Wn := 1) (Nat.le_refl _) (by decide) (by decide) (by decide) (by decide) (rfl) (fun T W => ?_)
      refine g_iconst W (pc' := 144) (D at_143) rfl (v := (1 : Int32)) (by decide) ?_
      refine g_iadd W (pc' := 145) (D at_144) rfl ?_
      refine g_aload W (pc' := 147) (D at_145) rfl rfl (by first | rfl | assumption) ?_
      refine g_len W hw cst (S2) (hw _ (List.mem_of_getElem? (i := 169) rfl)) (pc' := 150) (by rw [hml]; rfl) (D at_147) rfl (Wn := 2) (Nat.le_refl _) (by decide) (by decide) (by decide) (by decide) (rfl) (fun T W => ?_)
      refine g_iadd W (pc' := 151) (D at_150) rfl ?_
      refine g_icmpeqY W (pc1 := 156) (pc2 := 154) (D at_151) (by decide) (by decide) rfl (len_e) ?_
      refine g_aload W (pc' := 158) (D at_156) rfl rfl (by first | rfl | assumption) ?_
      refine g_iconst W (pc' := 159) (D at_158) rfl (v := (0 : Int32)) (by decide) ?_
      refine g_aload W (pc' := 161) (D at_159) rfl rfl (by first | rfl | assumption) ?_
      refine g_callS W (t_at l hw hEL cst fst W.old SY S1 (i := 0) (by omega) (by simp only [List.length_append, List.length_cons, List.length_nil]; omega) at_l) (fun x q => nomatch q) (hw _ (List.mem_of_getElem? (i := 170) rfl)) (hw _ (List.mem_of_getElem? (i := 171) rfl)) (hw _ (List.mem_of_getElem? (i := 2) rfl)) (hw _ (List.mem_of_getElem? (i := 172) rfl)) (by decide) (by decide +kernel : parseMethodDescriptor "(Ljava/lang/String;ILjava/lang/String;)Z" = some ⟨[(.object "java/lang/String"), .int, (.object "java/lang/String")], some .boolean⟩) (argsL := [_, _, _]) rfl rfl (pc' := 164) rfl (by rw [hml]; rfl) (D at_161) rfl (Wn := 0) (Nat.le_refl _) (by decide) (by decide) (by decide) (by decide) (fun v T g8 W hg hQ => ?_)
      obtain ⟨rfl, rfl⟩ := hQ
      refine g_ifneY W (pc1 := 169) (pc2 := 167) (D at_164) (by decide) (by decide) rfl (by decide) ?_
      refine g_aload W (pc' := 171) (D at_169) rfl rfl (by first | rfl | assumption) ?_
      refine g_aload W (pc' := 173) (D at_171) rfl rfl (by first | rfl | assumption) ?_
      refine g_len W hw cst (S1) (hw _ (List.mem_of_getElem? (i := 169) rfl)) (pc' := 176) (by rw [hml]; rfl) (D at_173) rfl (Wn := 1) (Nat.le_refl _) (by decide) (by decide) (by decide) (by decide) (rfl) (fun T W => ?_)
      refine g_charAt W hw cst fst (SY) (hw _ (List.mem_of_getElem? (i := 173) rfl)) (pc' := 179) (by rw [hml]; rfl) (D at_176) rfl (Wn := 0) (Nat.le_refl _) (by decide) (by decide) (by decide) (by decide) (rfl) (by simp only [List.length_append, List.length_cons, List.length_nil]; omega) (fun T W => ?_)
      refine g_bipush W (pc' := 181) (D at_179) rfl (v := (47 : Int32)) (by decide) ?_
      refine g_icmpeqY W (pc1 := 186) (pc2 := 184) (D at_181) (by decide) (by decide) rfl (at_m) ?_
      refine g_aload W (pc' := 188) (D at_186) rfl rfl (by first | rfl | assumption) ?_
      refine g_aload W (pc' := 190) (D at_188) rfl rfl (by first | rfl | assumption) ?_
      refine g_len W hw cst (S1) (hw _ (List.mem_of_getElem? (i := 169) rfl)) (pc' := 193) (by rw [hml]; rfl) (D at_190) rfl (Wn := 1) (Nat.le_refl _) (by decide) (by decide) (by decide) (by decide) (rfl) (fun T W => ?_)
      refine g_iconst W (pc' := 194) (D at_193) rfl (v := (1 : Int32)) (by decide) ?_
      refine g_iadd W (pc' := 195) (D at_194) rfl ?_
      refine g_aload W (pc' := 197) (D at_195) rfl rfl (by first | rfl | assumption) ?_
      have e9 : Int32.ofNat (ms : List Int32).length + 1 = Int32.ofNat ((ms : List Int32).length + 1) := by rw [Int32.ofNat_add]; rfl
      rw [e9]
      refine g_callS W (t_at l hw hEL cst fst W.old SY S2 (i := (ms : List Int32).length + 1) (by decide) (by simp only [List.length_append, List.length_cons, List.length_nil]; omega) at_r) (fun x q => nomatch q) (hw _ (List.mem_of_getElem? (i := 170) rfl)) (hw _ (List.mem_of_getElem? (i := 171) rfl)) (hw _ (List.mem_of_getElem? (i := 2) rfl)) (hw _ (List.mem_of_getElem? (i := 172) rfl)) (by decide) (by decide +kernel : parseMethodDescriptor "(Ljava/lang/String;ILjava/lang/String;)Z" = some ⟨[(.object "java/lang/String"), .int, (.object "java/lang/String")], some .boolean⟩) (argsL := [_, _, _]) rfl rfl (pc' := 200) rfl (by rw [hml]; rfl) (D at_197) rfl (Wn := 0) (Nat.le_refl _) (by decide) (by decide) (by decide) (by decide) (fun v T g9 W hg hQ => ?_)
      obtain ⟨rfl, rfl⟩ := hQ
      exact g_retz W (D at_200) hret (Or.inr rfl) (by decide) (by decide) ⟨_, rfl, rfl⟩
  · refine g_aconst_null W (pc' := 51) (D at_50) rfl ?_
    refine g_goto W (pc' := 59) (D at_51) (by decide) (by decide) ?_
    refine g_astore W (pc' := 61) (D at_59) rfl (by first | rfl | assumption) (ls' := #[_, _, _, _, _, _, _, _, _, _, _, _, _]) rfl ?_
    refine g_iload W (pc' := 63) (D at_61) rfl rfl ?_
    refine g_ifeq W (pc1 := 70) (pc2 := 66) (D at_63) (by decide) (by decide) rfl (fun r => ?_) (fun r => ?_)
    · refine g_iloadN W (pc' := 71) (D at_70) rfl rfl ?_
      refine g_iload W (pc' := 73) (D at_71) rfl rfl ?_
      refine g_callS W (t_mk l hw hEL cst W.old) (fun x q => nomatch q) (hw _ (List.mem_of_getElem? (i := 0) rfl)) (hw _ (List.mem_of_getElem? (i := 1) rfl)) (hw _ (List.mem_of_getElem? (i := 2) rfl)) (hw _ (List.mem_of_getElem? (i := 3) rfl)) (by decide) (by decide +kernel : parseMethodDescriptor "(II)Ljava/lang/String;" = some ⟨[.int, .int], some (.object "java/lang/String")⟩) (argsL := [_, _]) rfl rfl (pc' := 76) rfl (by rw [hml]; rfl) (D at_73) rfl (Wn := 0) (Nat.le_refl _) (by decide) (by decide) (by decide) (by decide) (fun v T g2 W hg hQ => ?_)
      obtain ⟨q2, ns, rfl, E2, S2, hn3⟩ := hQ
      refine g_astore W (pc' := 78) (D at_76) rfl (by first | rfl | assumption) (ls' := #[_, _, _, _, _, _, _, _, _, _, _, _, _]) rfl ?_
      have hz3 := W.old.1
      refine g_new W (pc' := 81) (hw _ (List.mem_of_getElem? (i := 37) rfl)) (hw _ (List.mem_of_getElem? (i := 38) rfl)) (hw _ (List.mem_of_getElem? (i := 39) rfl)) (D at_78) rfl (by decide) (by decide) (fun pk T g3 hpk W E3 B3 => ?_)
      have hpz : Z.heap.size ≤ pk := Nat.le_trans hz3 hpk
      have EX := B3.1
      have f1 := B3.2 (O := JP) (nm := "module") (d := SD) (Or.inr (hw _ (List.mem_of_getElem? (i := 50) rfl))) (ty := .object "java/lang/String") (by decide)
      have f2 := B3.2 (O := JP) (nm := "name") (d := SD) (Or.inr (hw _ (List.mem_of_getElem? (i := 52) rfl))) (ty := .object "java/lang/String") (by decide)
      refine g_dup W (pc' := 82) (D at_81) rfl rfl ?_
      refine g_aload W (pc' := 84) (D at_82) rfl rfl (by first | rfl | assumption) ?_
      refine g_aload W (pc' := 86) (D at_84) rfl rfl (by first | rfl | assumption) ?_
      refine g_spec W (t_jpInit l hw hEL W.old (w1 := .null) (w2 := (.ref q2)) (Or.inl rfl) (Or.inr ⟨_, rfl⟩) hpz EX f1 f2) (fun x q => nomatch q) rfl (hw _ (List.mem_of_getElem? (i := 40) rfl)) (hw _ (List.mem_of_getElem? (i := 41) rfl)) (hw _ (List.mem_of_getElem? (i := 39) rfl)) (hw _ (List.mem_of_getElem? (i := 42) rfl)) (by decide) (by decide +kernel : parseMethodDescriptor "(Ljava/lang/String;Ljava/lang/String;)V" = some ⟨[(.object "java/lang/String"), (.object "java/lang/String")], none⟩) (argsL := [_, _]) rfl rfl (pc' := 89) rfl (by rw [hml]; rfl) (D at_86) rfl (Wn := 1) (Nat.le_refl _) (by decide) (by decide) (by decide) (by decide) (fun T g4 W hg hQ => ?_)
      obtain ⟨K4, f1, f2⟩ := hQ
      have S2 := (S2.ext E3).keep wi K4 (Or.inl ⟨JP, 2, EX, by decide, (hw _ (List.mem_of_getElem? (i := 38) rfl))⟩)
      replace EX := EX.keep K4
      refine g_astore W (pc' := 91) (D at_89) rfl (by first | rfl | assumption) (ls' := #[_, _, _, _, _, _, _, _, _, _, _, _, _]) rfl ?_
      refine g_aload W (pc' := 93) (D at_91) rfl rfl (by first | rfl | assumption) ?_
      refine g_virt W (t_jpStr l hw hEL cst W.old (ms := NUL) (ns := ns) (Or.inl ⟨rfl, rfl⟩) (Or.inr ⟨_, rfl, S2⟩) (by decide) (by omega) LN S2.2.2.2.1 f1 f2) (fun x q => nomatch q) ⟨_, _, rfl, (hw _ (List.mem_of_getElem? (i := 56) rfl))⟩ (hw _ (List.mem_of_getElem? (i := 53) rfl)) (hw _ (List.mem_of_getElem? (i := 54) rfl)) (hw _ (List.mem_of_getElem? (i := 56) rfl)) (hw _ (List.mem_of_getElem? (i := 55) rfl)) (hw _ (List.mem_of_getElem? (i := 39) rfl)) (hw _ (List.mem_of_getElem? (i := 57) rfl)) (by decide) (by decide +kernel : parseMethodDescriptor "()Ljava/lang/String;" = some ⟨[], some (.object "java/lang/String")⟩) (EX) (argsL := []) rfl rfl (pc' := 96) rfl (by rw [hml]; rfl) (D at_93) rfl (Wn := 0) (Nat.le_refl _) (by decide) (by decide) (by decide) (by decide) (fun v T g5 W hg hQ => ?_)
      obtain ⟨y, rfl, E5, SY⟩ := hQ
      have S2 := S2.ext E5
      refine g_astore W (pc' := 98) (D at_96) rfl (by first | rfl | assumption) (ls' := #[_, _, _, _, _, _, _, _, _, _, _, _, _]) rfl ?_
      refine g_aload W (pc' := 100) (D at_98) rfl rfl (by first | rfl | assumption) ?_
      refine g_ifnonnullY W (pc1 := 105) (pc2 := 103) (D at_100) (by decide) (by decide) rfl ?_
      refine g_aload W (pc' := 107) (D at_105) rfl rfl (by first | rfl | assumption) ?_
      refine g_ifnonnullN W (pc1 := 115) (pc2 := 110) (D at_107) (by decide) (by decide) rfl ?_
      refine g_ldcS W (pc' := 112) (text := "null") (cs := [110, 117, 108, 108]) (hw _ (List.mem_of_getElem? (i := 214) rfl)) wS (by decide) (by decide +kernel) (by unfold Latin; decide) (by decide) (nn := 16) (by decide) (by decide) (D at_110) rfl (by decide) (by decide) (fun q1 T g6 W E6 S1 => ?_)
      replace SY := SY.ext E6
      replace S2 := S2.ext E6
      refine g_goto W (pc' := 117) (D at_112) (by decide) (by decide) ?_
      refine g_astore W (pc' := 119) (D at_117) rfl (by first | rfl | assumption) (ls' := #[_, _, _, _, _, _, _, _, _, _, _, _, _]) rfl ?_
      refine g_aload W (pc' := 121) (D at_119) rfl rfl (by first | rfl | assumption) ?_
      refine g_ifnonnullY W (pc1 := 129) (pc2 := 124) (D at_121) (by decide) (by decide) rfl ?_
      refine g_aload W (pc' := 131) (D at_129) rfl rfl (by first | rfl | assumption) ?_
      refine g_astore W (pc' := 133) (D at_131) rfl (by first | rfl | assumption) (ls' := #[_, _, _, _, _, _, _, _, _, _, _, _, _]) rfl ?_
      refine g_aload W (pc' := 135) (D at_133) rfl rfl (by first | rfl | assumption) ?_
      refine g_len W hw cst (SY) (hw _ (List.mem_of_getElem? (i := 169) rfl)) (pc' := 138) (by rw [hml]; rfl) (D at_135) rfl (Wn := 0) (Nat.le_refl _) (by decide) (by decide) (by decide) (by decide) (rfl) (fun T W => ?_)
      refine g_aload W (pc' := 140) (D at_138) rfl rfl (by first | rfl | assumption) ?_
      refine g_len W hw cst (S1) (hw _ (List.mem_of_getElem? (i := 169) rfl)) (pc' := 143) (by rw [hml]; rfl) (D at_140) rfl (Wn := 1) (Nat.le_refl _) (by decide) (by decide) (by decide) (by decide) (rfl) (fun T W => ?_)
      refine g_iconst W (pc' := 144) (D at_143) rfl (v := (1 : Int32)) (by decide) ?_
      refine g_iadd W (pc' := 145) (D at_144) rfl ?_
      refine g_aload W (pc' := 147) (D at_145) rfl rfl (by first | rfl | assumption) ?_
      refine g_len W hw cst (S2) (hw _ (List.mem_of_getElem? (i := 169) rfl)) (pc' := 150) (by rw [hml]; rfl) (D at_147) rfl (Wn := 2) (Nat.le_refl _) (by decide) (by decide) (by decide) (by decide) (rfl) (fun T W => ?_)
      refine g_iadd W (pc' := 151) (D at_150) rfl ?_
      refine g_icmpeqY W (pc1 := 156) (pc2 := 154) (D at_151) (by decide) (by decide) rfl (len_e) ?_
      refine g_aload W (pc' := 158) (D at_156) rfl rfl (by first | rfl | assumption) ?_
      refine g_iconst W (pc' := 159) (D at_158) rfl (v := (0 : Int32)) (by decide) ?_
      refine g_aload W (pc' := 161) (D at_159) rfl rfl (by first | rfl | assumption) ?_
      refine g_callS W (t_at l hw hEL cst fst W.old SY S1 (i := 0) (by decide) (by simp only [List.length_append, List.length_cons, List.length_nil]; omega) at_l) (fun x q => nomatch q) (hw _ (List.mem_of_getElem? (i := 170) rfl)) (hw _ (List.mem_of_getElem? (i := 171) rfl)) (hw _ (List.mem_of_getElem? (i := 2) rfl)) (hw _ (List.mem_of_getElem? (i := 172) rfl)) (by decide) (by decide +kernel : parseMethodDescriptor "(Ljava/lang/String;ILjava/lang/String;)Z" = some ⟨[(.object "java/lang/String"), .int, (.object "java/lang/String")], some .boolean⟩) (argsL := [_, _, _]) rfl rfl (pc' := 164) rfl (by rw [hml]; rfl) (D at_161) rfl (Wn := 0) (Nat.le_refl _) (by decide) (by decide) (by decide) (by decide) (fun v T g8 W hg hQ => ?_)
      obtain ⟨rfl, rfl⟩ := hQ
      refine g_ifneY W (pc1 := 169) (pc2 := 167) (D at_164) (by decide) (by decide) rfl (by decide) ?_
      refine g_aload W (pc' := 171) (D at_169) rfl rfl (by first | rfl | assumption) ?_
      refine g_aload W (pc' := 173) (D at_171) rfl rfl (by first | rfl | assumption) ?_
      refine g_len W hw cst (S1) (hw _ (List.mem_of_getElem? (i := 169) rfl)) (pc' := 176) (by rw [hml]; rfl) (D at_173) rfl (Wn := 1) (Nat.le_refl _) (by decide) (by decide) (by decide) (by decide) (rfl) (fun T W => ?_)
      refine g_charAt W hw cst fst (SY) (hw _ (List.mem_of_getElem? (i := 173) rfl)) (pc' := 179) (by rw [hml]; rfl) (D at_176) rfl (Wn := 0) (Nat.le_refl _) (by decide) (by decide) (by decide) (by decide) (rfl) (by simp only [List.length_append, List.length_cons, List.length_nil]; omega) (fun T W => ?_)
      refine g_bipush W (pc' := 181) (D at_179) rfl (v := (47 : Int32)) (by decide) ?_
      refine g_icmpeqY W (pc1 := 186) (pc2 := 184) (D at_181) (by decide) (by decide) rfl (at_m) ?_
      refine g_aload W (pc' := 188) (D at_186) rfl rfl (by first | rfl | assumption) ?_
      refine g_aload W (pc' := 190) (D at_188) rfl rfl (by first | rfl | assumption) ?_
      refine g_len W hw cst (S1) (hw _ (List.mem_of_getElem? (i := 169) rfl)) (pc' := 193) (by rw [hml]; rfl) (D at_190) rfl (Wn := 1) (Nat.le_refl _) (by decide) (by decide) (by decide) (by decide) (rfl) (fun T W => ?_)
      refine g_iconst W (pc' := 194) (D at_193) rfl (v := (1 : Int32)) (by decide) ?_
      refine g_iadd W (pc' := 195) (D at_194) rfl ?_
      refine g_aload W (pc' := 197) (D at_195) rfl rfl (by first | rfl | assumption) ?_
      have e9 : Int32.ofNat (NUL : List Int32).length + 1 = Int32.ofNat ((NUL : List Int32).length + 1) := by rw [Int32.ofNat_add]; rfl
      rw [e9]
      refine g_callS W (t_at l hw hEL cst fst W.old SY S2 (i := (NUL : List Int32).length + 1) (by omega) (by simp only [List.length_append, List.length_cons, List.length_nil]; omega) at_r) (fun x q => nomatch q) (hw _ (List.mem_of_getElem? (i := 170) rfl)) (hw _ (List.mem_of_getElem? (i := 171) rfl)) (hw _ (List.mem_of_getElem? (i := 2) rfl)) (hw _ (List.mem_of_getElem? (i := 172) rfl)) (by decide) (by decide +kernel : parseMethodDescriptor "(Ljava/lang/String;ILjava/lang/String;)Z" = some ⟨[(.object "java/lang/String"), .int, (.object "java/lang/String")], some .boolean⟩) (argsL := [_, _, _]) rfl rfl (pc' := 200) rfl (by rw [hml]; rfl) (D at_197) rfl (Wn := 0) (Nat.le_refl _) (by decide) (by decide) (by decide) (by decide) (fun v T g9 W hg hQ => ?_)
      obtain ⟨rfl, rfl⟩ := hQ
      exact g_retz W (D at_200) hret (Or.inr rfl) (by decide) (by decide) ⟨_, rfl, rfl⟩
    · refine g_aconst_null W (pc' := 67) (D at_66) rfl ?_
      refine g_goto W (pc' := 76) (D at_67) (by decide) (by decide) ?_
      refine g_astore W (pc' := 78) (D at_76) rfl (by first | rfl | assumption) (ls' := #[_, _, _, _, _, _, _, _, _, _, _, _, _]) rfl ?_
      have hz3 := W.old.1
      refine g_new W (pc' := 81) (hw _ (List.mem_of_getElem? (i := 37) rfl)) (hw _ (List.mem_of_getElem? (i := 38) rfl)) (hw _ (List.mem_of_getElem? (i := 39) rfl)) (D at_78) rfl (by decide) (by decide) (fun pk T g3 hpk W E3 B3 => ?_)
      have hpz : Z.heap.size ≤ pk := Nat.le_trans hz3 hpk
      have EX := B3.1
      have f1 := B3.2 (O := JP) (nm := "module") (d := SD) (Or.inr (hw _ (List.mem_of_getElem? (i := 50) rfl))) (ty := .object "java/lang/String") (by decide)
      have f2 := B3.2 (O := JP) (nm := "name") (d := SD) (Or.inr (hw _ (List.mem_of_getElem? (i := 52) rfl))) (ty := .object "java/lang/String") (by decide)
      refine g_dup W (pc' := 82) (D at_81) rfl rfl ?_
      refine g_aload W (pc' := 84) (D at_82) rfl rfl (by first | rfl | assumption) ?_
      refine g_aload W (pc' := 86) (D at_84) rfl rfl (by first | rfl | assumption) ?_
      refine g_spec W (t_jpInit l hw hEL W.old (w1 := .null) (w2 := .null) (Or.inl rfl) (Or.inl rfl) hpz EX f1 f2) (fun x q => nomatch q) rfl (hw _ (List.mem_of_getElem? (i := 40) rfl)) (hw _ (List.mem_of_getElem? (i := 41) rfl)) (hw _ (List.mem_of_getElem? (i := 39) rfl)) (hw _ (List.mem_of_getElem? (i := 42) rfl)) (by decide) (by decide +kernel : parseMethodDescriptor "(Ljava/lang/String;Ljava/lang/String;)V" = some ⟨[(.object "java/lang/String"), (.object "java/lang/String")], none⟩) (argsL := [_, _]) rfl rfl (pc' := 89) rfl (by rw [hml]; rfl) (D at_86) rfl (Wn := 1) (Nat.le_refl _) (by decide) (by decide) (by decide) (by decide) (fun T g4 W hg hQ => ?_)
      obtain ⟨K4, f1, f2⟩ := hQ
      replace EX := EX.keep K4
      refine g_astore W (pc' := 91) (D at_89) rfl (by first | rfl | assumption) (ls' := #[_, _, _, _, _, _, _, _, _, _, _, _, _]) rfl ?_
      refine g_aload W (pc' := 93) (D at_91) rfl rfl (by first | rfl | assumption) ?_
      refine g_virt W (t_jpStr l hw hEL cst W.old (ms := NUL) (ns := NUL) (Or.inl ⟨rfl, rfl⟩) (Or.inl ⟨rfl, rfl⟩) (by decide) (by decide) LN LN f1 f2) (fun x q => nomatch q) ⟨_, _, rfl, (hw _ (List.mem_of_getElem? (i := 56) rfl))⟩ (hw _ (List.mem_of_getElem? (i := 53) rfl)) (hw _ (List.mem_of_getElem? (i := 54) rfl)) (hw _ (List.mem_of_getElem? (i := 56) rfl)) (hw _ (List.mem_of_getElem? (i := 55) rfl)) (hw _ (List.mem_of_getElem? (i := 39) rfl)) (hw _ (List.mem_of_getElem? (i := 57) rfl)) (by decide) (by decide +kernel : parseMethodDescriptor "()Ljava/lang/String;" = some ⟨[], some (.object "java/lang/String")⟩) (EX) (argsL := []) rfl rfl (pc' := 96) rfl (by rw [hml]; rfl) (D at_93) rfl (Wn := 0) (Nat.le_refl _) (by decide) (by decide) (by decide) (by decide) (fun v T g5 W hg hQ => ?_)
      obtain ⟨y, rfl, E5, SY⟩ := hQ
      refine g_astore W (pc' := 98) (D at_96) rfl (by first | rfl | assumption) (ls' := #[_, _, _, _, _, _, _, _, _, _, _, _, _]) rfl ?_
      refine g_aload W (pc' := 100) (D at_98) rfl rfl (by first | rfl | assumption) ?_
      refine g_ifnonnullY W (pc1 := 105) (pc2 := 103) (D at_100) (by decide) (by decide) rfl ?_
      refine g_aload W (pc' := 107) (D at_105) rfl rfl (by first | rfl | assumption) ?_
      refine g_ifnonnullN W (pc1 := 115) (pc2 := 110) (D at_107) (by decide) (by decide) rfl ?_
      refine g_ldcS W (pc' := 112) (text := "null") (cs := [110, 117, 108, 108]) (hw _ (List.mem_of_getElem? (i := 214) rfl)) wS (by decide) (by decide +kernel) (by unfold Latin; decide) (by decide) (nn := 16) (by decide) (by decide) (D at_110) rfl (by decide) (by decide) (fun q1 T g6 W E6 S1 => ?_)
      replace SY := SY.ext E6
      refine g_goto W (pc' := 117) (D at_112) (by decide) (by decide) ?_
      refine g_astore W (pc' := 119) (D at_117) rfl (by first | rfl | assumption) (ls' := #[_, _, _, _, _, _, _, _, _, _, _, _, _]) rfl ?_
      refine g_aload W (pc' := 121) (D at_119) rfl rfl (by first | rfl | assumption) ?_
      refine g_ifnonnullN W (pc1 := 129) (pc2 := 124) (D at_121) (by decide) (by decide) rfl ?_
      refine g_ldcS W (pc' := 126) (text := "null") (cs := [110, 117, 108, 108]) (hw _ (List.mem_of_getElem? (i := 214) rfl)) wS (by decide) (by decide +kernel) (by unfold Latin; decide) (by decide) (nn := 16) (by decide) (by decide) (D at_124) rfl (by decide) (by decide) (fun q2 T g7 W E7 S2 => ?_)
      replace SY := SY.ext E7
      replace S1 := S1.ext E7
      refine g_goto W (pc' := 131) (D at_126) (by decide) (by decide) ?_
      refine g_astore W (pc' := 133) (D at_131) rfl (by first | rfl | assumption) (ls' := #[_, _, _, _, _, _, _, _, _, _, _, _, _]) rfl ?_
      refine g_aload W (pc' := 135) (D at_133) rfl rfl (by first | rfl | assumption) ?_
      refine g_len W hw cst (SY) (hw _ (List.mem_of_getElem? (i := 169) rfl)) (pc' := 138) (by rw [hml]; rfl) (D at_135) rfl (Wn := 0) (Nat.le_refl _) (by decide) (by decide) (by decide) (by decide) (rfl) (fun T W => ?_)
      refine g_aload W (pc' := 140) (D at_138) rfl rfl (by first | rfl | assumption) ?_
      refine g_len W hw cst (S1) (hw _ (List.mem_of_getElem? (i := 169) rfl)) (pc' := 143) (by rw [hml]; rfl) (D at_140) rfl (Wn := 1) (Nat.le_refl _) (by decide) (by decide) (by decide) (by decide) (rfl) (fun T W => ?_)
      refine g_iconst W (pc' := 144) (D at_143) rfl (v := (1 : Int32)) (by decide) ?_
      refine g_iadd W (pc' := 145) (D at_144) rfl ?_
      refine g_aload W (pc' := 147) (D at_145) rfl rfl (by first | rfl | assumption) ?_
      refine g_len W hw cst (S2) (hw _ (List.mem_of_getElem? (i := 169) rfl)) (pc' := 150) (by rw [hml]; rfl) (D at_147) rfl (Wn := 2) (Nat.le_refl _) (by decide) (by decide) (by decide) (by decide) (rfl) (fun T W => ?_)
      refine g_iadd W (pc' := 151) (D at_150) rfl ?_
      refine g_icmpeqY W (pc1 := 156) (pc2 := 154) (D at_151) (by decide) (by decide) rfl (len_e) ?_
      refine g_aload W (pc' := 158) (D at_156) rfl rfl (by first | rfl | assumption) ?_
      refine g_iconst W (pc' := 159) (D at_158) rfl (v := (0 : Int32)) (by decide) ?_
      refine g_aload W (pc' := 161) (D at_159) rfl rfl (by first | rfl | assumption) ?_
      refine g_callS W (t_at l hw hEL cst fst W.old SY S1 (i := 0) (by decide) (by simp only [List.length_append, List.length_cons, List.length_nil]; omega) at_l) (fun x q => nomatch q) (hw _ (List.mem_of_getElem? (i := 170) rfl)) (hw _ (List.mem_of_getElem? (i := 171) rfl)) (hw _ (List.mem_of_getElem? (i := 2) rfl)) (hw _ (List.mem_of_getElem? (i := 172) rfl)) (by decide) (by decide +kernel : parseMethodDescriptor "(Ljava/lang/String;ILjava/lang/String;)Z" = some ⟨[(.object "java/lang/String"), .int, (.object "java/lang/String")], some .boolean⟩) (argsL := [_, _, _]) rfl rfl (pc' := 164) rfl (by rw [hml]; rfl) (D at_161) rfl (Wn := 0) (Nat.le_refl _) (by decide) (by decide) (by decide) (by decide) (fun v T g8 W hg hQ => ?_)
      obtain ⟨rfl, rfl⟩ := hQ
      refine g_ifneY W (pc1 := 169) (pc2 := 167) (D at_164) (by decide) (by decide) rfl (by decide) ?_
      refine g_aload W (pc' := 171) (D at_169) rfl rfl (by first | rfl | assumption) ?_
      refine g_aload W (pc' := 173) (D at_171) rfl rfl (by first | rfl | assumption) ?_
      refine g_len W hw cst (S1) (hw _ (List.mem_of_getElem? (i := 169) rfl)) (pc' := 176) (by rw [hml]; rfl) (D at_173) rfl (Wn := 1) (Nat.le_refl _) (by decide) (by decide) (by decide) (by decide) (rfl) (fun T W => ?_)
      refine g_charAt W hw cst fst (SY) (hw _ (List.mem_of_getElem? (i := 173) rfl)) (pc' := 179) (by rw [hml]; rfl) (D at_176) rfl (Wn := 0) (Nat.le_refl _) (by decide) (by decide) (by decide) (by decide) (rfl) (by simp only [List.length_append, List.length_cons, List.length_nil]; omega) (fun T W => ?_)
      refine g_bipush W (pc' := 181) (D at_179) rfl (v := (47 : Int32)) (by decide) ?_
      refine g_icmpeqY W (pc1 := 186) (pc2 := 184) (D at_181) (by decide) (by decide) rfl (at_m) ?_
      refine g_aload W (pc' := 188) (D at_186) rfl rfl (by first | rfl | assumption) ?_
      refine g_aload W (pc' := 190) (D at_188) rfl rfl (by first | rfl | assumption) ?_
      refine g_len W hw cst (S1) (hw _ (List.mem_of_getElem? (i := 169) rfl)) (pc' := 193) (by rw [hml]; rfl) (D at_190) rfl (Wn := 1) (Nat.le_refl _) (by decide) (by decide) (by decide) (by decide) (rfl) (fun T W => ?_)
      refine g_iconst W (pc' := 194) (D at_193) rfl (v := (1 : Int32)) (by decide) ?_
      refine g_iadd W (pc' := 195) (D at_194) rfl ?_
      refine g_aload W (pc' := 197) (D at_195) rfl rfl (by first | rfl | assumption) ?_
      have e9 : Int32.ofNat (NUL : List Int32).length + 1 = Int32.ofNat ((NUL : List Int32).length + 1) := by rw [Int32.ofNat_add]; rfl
      rw [e9]
      refine g_callS W (t_at l hw hEL cst fst W.old SY S2 (i := (NUL : List Int32).length + 1) (by decide) (by simp only [List.length_append, List.length_cons, List.length_nil]; omega) at_r) (fun x q => nomatch q) (hw _ (List.mem_of_getElem? (i := 170) rfl)) (hw _ (List.mem_of_getElem? (i := 171) rfl)) (hw _ (List.mem_of_getElem? (i := 2) rfl)) (hw _ (List.mem_of_getElem? (i := 172) rfl)) (by decide) (by decide +kernel : parseMethodDescriptor "(Ljava/lang/String;ILjava/lang/String;)Z" = some ⟨[(.object "java/lang/String"), .int, (.object "java/lang/String")], some .boolean⟩) (argsL := [_, _, _]) rfl rfl (pc' := 200) rfl (by rw [hml]; rfl) (D at_197) rfl (Wn := 0) (Nat.le_refl _) (by decide) (by decide) (by decide) (by decide) (fun v T g9 W hg hQ => ?_)
      obtain ⟨rfl, rfl⟩ := hQ
      exact g_retz W (D at_200) hret (Or.inr rfl) (by decide) (by decide) ⟨_, rfl, rfl⟩
set_option maxRecDepth 65536 in
set_option maxHeartbeats 4000000 in
theorem comes_1 {Post : Tables → Env → Array Value → State → Outcome → State → Prop} (hpost : ∀ tb e args s v u, (limb_1_1.after args s (.returned v) u = true ∧ limb_1_2.after args s (.returned v) u = true ∧ True) → ReturnedEndW s (.returned v) u (Jvm.fieldLocs frame_1_writes args s ++ Jvm.arrayLocs frame_1_arrays args s ++ Jvm.staticLocs frame_1_statics s) room_1.cells room_1.slots → Post tb e args s (.returned v) u) :
    ArmFor flags0 classFile x code maxLocals ret World_1 tables_1 room_1 Calls_1 rest_1 Pre_1 Post := by
  intro l hfl _ _ p e ha hc hk s m args below hf hA hF happ hP
  obtain ⟨hcalls, hrest, hpre⟩ := hP
  obtain ⟨-, -, -, hnamed, -, -, -, hat⟩ := (Spec.applies_iff hf).mp happ
  obtain ⟨hg, hn⟩ := and_e (Cond.before_iff.mp (show (Jvm.Cond.and given_1 narrow_1).before args s = true from hpre))
  obtain ⟨hz, u0⟩ := and_e hg
  obtain ⟨g0, u1⟩ := and_e u0
  obtain ⟨g1, u2⟩ := and_e u1
  obtain ⟨w0, w1, w2, rfl⟩ : ∃ w0 w1 w2 : Value, args = #[w0, w1, w2] := by
    have hs : args.size = 3 := by simpa [Cond.value, given_1] using hz
    obtain ⟨L⟩ := args
    match L, hs with
    | [w0, w1, w2], _ => exact ⟨w0, w1, w2, rfl⟩
  have hw := fun d (hd : d ∈ tables_1) => atoms_spec (ws := Jvm.Cond.code x code maxLocals ret :: tables_1) hat d (List.mem_cons_of_mem _ hd)
  obtain ⟨hsets, hown0⟩ := atoms_of _ (rest_1_c_eq ▸ (show rest_1_c.before _ s = true from hrest))
  obtain ⟨i0, e0⟩ := is_v g0
  obtain rfl : w0 = (.int i0) := Option.some.inj e0
  obtain ⟨i1, e1⟩ := is_v g1
  obtain rfl : w1 = (.int i1) := Option.some.inj e1
  obtain ⟨i2, e2⟩ := is_v u2
  obtain rfl : w2 = (.int i2) := Option.some.inj e2
  have hcw := hsets _ (List.mem_of_getElem? (i := 2) rfl)
  have n5 := not_v (Cond.before_iff.mp hcw)
  obtain ⟨zc, ez⟩ := is_v (Cond.before_iff.mp (hsets _ (List.mem_of_getElem? (i := 1) rfl)))
  have cst : Cst s := ⟨zc, Sta.start ez (Or.inl (hsets _ (List.mem_of_getElem? (i := 0) rfl))), gotF (Cond.eq_ints ez (Term.int_eval (0))) n5⟩
  obtain ⟨vf, ef, rf⟩ := isR_v (Cond.before_iff.mp (hsets _ (List.mem_of_getElem? (i := 8) rfl)))
  have fst : Fst s := ⟨vf, Sta.start ef (Or.inl (hsets _ (List.mem_of_getElem? (i := 7) rfl))), rf⟩
  have hEL : EW s #[.int i0, .int i1, .int i2] consts_1 := (EW.cons (hw _ (List.mem_of_getElem? (i := 123) rfl)) (by decide +kernel) (EW.cons (hw _ (List.mem_of_getElem? (i := 34) rfl)) (by decide +kernel) (EW.cons (hw _ (List.mem_of_getElem? (i := 214) rfl)) (by decide +kernel) EW.nil)))
  have hCH : CHv s consts_1 s.vm s.heap := CHv.start hEL (fun q hq => hcalls.1 q hq) hcw (hw _ (List.mem_of_getElem? (i := 23) rfl)) (hw _ (List.mem_of_getElem? (i := 5) rfl))
  obtain ⟨n, o, h1, h2, h3, v, L, FF, rfl, ⟨⟨w, rfl, rfl⟩, N, hE, hFF⟩, hC, hq, hH⟩ := t_law l hw cst fst hEL i0 i1 i2 p e ha hc hk s m _ below hf ((Spec.applies_iff_loose hf).mp happ).1 ⟨rfl, State.Warmed39.refl s, rfl, hCH, fun x q => nomatch q⟩ trivial
  refine ⟨n, _, h1, h2, h3, hpost _ _ _ _ _ _ ⟨Cond.after_iff.mpr rfl, Cond.after_iff.mpr (eq_i res_at (Term.int_eval (1)) rfl), trivial⟩ ⟨hq.1, hq.2.1, hq.2.2.1, hq.2.2.2.sift fun y hy => Or.inr (N y hy)⟩⟩
theorem main_1_1 : Claimed_1_1 := comes_1 fun _ _ _ _ _ _ h hF => ⟨h.1, hF⟩
theorem main_1_2 : Claimed_1_2 := comes_1 fun _ _ _ _ _ _ h hF => ⟨h.2.1, hF⟩
end Jvm.Pilot.@@N@@
namespace Jvm.Pilot.@@N@@
open Jvm Jvm.ClassFile Sem Op Lib Jvm.Free Jvm.Stand Jvm.Pilot.@@N@@.Jvm.D
/-! MADE BY PROGRAM (witnessworld.py) out of the Statement's table words and the real class files: 27 classes; the members and pool entries that the words name. The judged class is class 1, her method 3. -/
namespace start1
open Jvm.ClassFile
def u (s : String) : CpInfo := .utf8 (stringToUtf16 s)
/-- a pool by its gaps: so many unusable entries, then the entry; so many at the end -/
def gap : Nat → List CpInfo → List CpInfo
  | 0, r => r
  | n + 1, r => .unusable :: gap n r
def poolList (es : List (Nat × CpInfo)) (last : Nat) : List CpInfo := es.foldr (fun e r => gap e.1 (e.2 :: r)) (gap last [])
def pool (es : List (Nat × CpInfo)) (last : Nat) : Array CpInfo := ⟨poolList es last⟩
def fileOf (pool : Array CpInfo) (this : Nat) (attrs : Array Attribute := #[]) (ms : Array MethodInfo := #[]) (fl : Nat := 33) (sup : Nat := 0) (ifs : Array Nat := #[]) (fds : Array FieldInfo := #[]) : ClassFile where
  minorVersion := 0
  majorVersion := 65
  constantPool := pool
  accessFlags := fl
  thisClass := this
  superClass := sup
  interfaces := ifs
  fields := fds
  methods := ms
  attributes := attrs
def plain (name : String) (sup : Option ClassId) : Class where
  name := name
  kind := .ordinary
  loader := none
  accessFlags := 33
  super := sup
  interfaces := #[]
  cf := none
  fields := #[]
  methods := #[]
  instanceTypes := #[]
  staticTypes := #[]
  resolved := #[]
  callSites := []
  init := .initialized
  statics := none
  mirror := none

def pool0 : Array CpInfo := pool [(5, u "<init>"), (0, u "()V"), (1, .class_ 10), (1, u "java/lang/Object")] 113

def k0c0 : Code := { maxStack := 0, maxLocals := 1, code := object_method_1_code, exceptionTable := #[], attributes := #[] }
def k0m0 : Method := { name := "<init>", desc := "()V", sig := { parameters := [], returnType := none }, accessFlags := 1, code := some k0c0 }
/-- java/lang/Object -/
def k0 : Class := { plain "java/lang/Object" none with
  accessFlags := 33
  interfaces := #[]
  cf := some (fileOf pool0 8 #[] #[{ accessFlags := 1, nameIndex := 5, descriptorIndex := 6, attributes := #[] }] 33 0 #[] #[])
  fields := #[]
  methods := #[k0m0]
  instanceTypes := #[]
  staticTypes := #[]
  resolved := Array.replicate 124 none
  statics := none }

def pool1 : Array CpInfo := pool [(2, .class_ 4), (1, u "java/lang/Object"), (0, u "<init>"), (0, u "()V"), (0, .string 8), (0, u ""), (0, .methodref 10 11), (0, .class_ 12), (0, .nameAndType 13 14), (0, u "java/lang/String"), (0, u "valueOf"), (0, u "(C)Ljava/lang/String;"), (0, .methodref 10 16), (0, .nameAndType 5 17), (0, u "([C)V"), (0, .methodref 10 19), (0, .nameAndType 20 21), (0, u "length"), (0, u "()I"), (0, .methodref 10 23), (0, .nameAndType 24 25), (0, u "charAt"), (0, u "(I)C"), (0, .methodref 27 28), (0, .class_ 29), (0, .nameAndType 30 31), (0, u "com/example/crosskey/crosskey/core/JdkPackageToStringPinLaw"), (0, u "mk"), (0, u "(II)Ljava/lang/String;"), (0, .class_ 33), (0, u "com/example/crosskey/crosskey/core/JdkPackage"), (0, .methodref 32 35), (0, .nameAndType 5 36), (0, u "(Ljava/lang/String;Ljava/lang/String;)V"), (0, .methodref 32 38), (0, .nameAndType 39 40), (0, u "toString"), (0, u "()Ljava/lang/String;"), (0, .string 42), (0, u "null"), (0, .methodref 27 44), (0, .nameAndType 45 46), (0, u "at"), (0, u "(Ljava/lang/String;ILjava/lang/String;)Z"), (3, u "law"), (0, u "(III)Z")] 2

def k1m0 : Method := { name := "<init>", desc := "()V", sig := { parameters := [], returnType := none }, accessFlags := 1, code := none }
def k1c1 : Code := { maxStack := 6, maxLocals := 5, code := method_2_code, exceptionTable := #[], attributes := #[] }
def k1m1 : Method := { name := "mk", desc := "(II)Ljava/lang/String;", sig := { parameters := [.int, .int], returnType := some (.object "java/lang/String") }, accessFlags := 10, code := some k1c1 }
def k1c2 : Code := { maxStack := 3, maxLocals := 4, code := method_3_code, exceptionTable := #[], attributes := #[] }
def k1m2 : Method := { name := "at", desc := "(Ljava/lang/String;ILjava/lang/String;)Z", sig := { parameters := [(.object "java/lang/String"), .int, (.object "java/lang/String")], returnType := some .boolean }, accessFlags := 10, code := some k1c2 }
def k1c3 : Code := { maxStack := 4, maxLocals := 13, code := code, exceptionTable := #[], attributes := #[] }
def k1m3 : Method := { name := "law", desc := "(III)Z", sig := { parameters := [.int, .int, .int], returnType := some .boolean }, accessFlags := 9, code := some k1c3 }
/-- com/example/crosskey/crosskey/core/JdkPackageToStringPinLaw -/
def k1 : Class := { plain "com/example/crosskey/crosskey/core/JdkPackageToStringPinLaw" (some 0) with
  accessFlags := 49
  interfaces := #[]
  cf := some (fileOf pool1 27 #[] #[{ accessFlags := 1, nameIndex := 5, descriptorIndex := 6, attributes := #[] }, { accessFlags := 10, nameIndex := 30, descriptorIndex := 31, attributes := #[] }, { accessFlags := 10, nameIndex := 45, descriptorIndex := 46, attributes := #[] }, { accessFlags := 9, nameIndex := 50, descriptorIndex := 51, attributes := #[] }] 49 2 #[] #[])
  fields := #[]
  methods := #[k1m0, k1m1, k1m2, k1m3]
  instanceTypes := #[]
  staticTypes := #[]
  resolved := Array.replicate 54 none
  statics := none }

def pool2 : Array CpInfo := pool [(1, .class_ 2), (0, u "java/io/Serializable"), (0, .class_ 4), (0, u "java/lang/Object")] 2

/-- java/io/Serializable -/
def k2 : Class := { plain "java/io/Serializable" (some 0) with
  accessFlags := 1537
  interfaces := #[]
  cf := some (fileOf pool2 1 #[] #[] 1537 3 #[] #[])
  fields := #[]
  methods := #[]
  instanceTypes := #[]
  staticTypes := #[]
  resolved := Array.replicate 7 none
  statics := none }

def pool3 : Array CpInfo := pool [(1, .class_ 2), (0, u "java/lang/Comparable"), (0, .class_ 4), (0, u "java/lang/Object")] 7

/-- java/lang/Comparable -/
def k3 : Class := { plain "java/lang/Comparable" (some 0) with
  accessFlags := 1537
  interfaces := #[]
  cf := some (fileOf pool3 1 #[] #[] 1537 3 #[] #[])
  fields := #[]
  methods := #[]
  instanceTypes := #[]
  staticTypes := #[]
  resolved := Array.replicate 12 none
  statics := none }

def pool4 : Array CpInfo := pool [(2, .class_ 4), (1, u "java/lang/CharSequence"), (42, .class_ 48), (0, u "java/lang/CharSequence$1CodePointIterator"), (10, .class_ 60), (0, u "java/lang/CharSequence$1CharIterator"), (5, .class_ 67), (0, u "java/lang/Object")] 63

/-- java/lang/CharSequence -/
def k4 : Class := { plain "java/lang/CharSequence" (some 0) with
  accessFlags := 1537
  interfaces := #[]
  cf := some (fileOf pool4 2 #[.nestMembers #[47, 59]] #[] 1537 66 #[] #[])
  fields := #[]
  methods := #[]
  instanceTypes := #[]
  staticTypes := #[]
  resolved := Array.replicate 131 none
  statics := none }

def pool5 : Array CpInfo := pool [(1, .class_ 2), (0, u "java/lang/constant/Constable"), (0, .class_ 4), (0, u "java/lang/Object")] 6

/-- java/lang/constant/Constable -/
def k5 : Class := { plain "java/lang/constant/Constable" (some 0) with
  accessFlags := 1537
  interfaces := #[]
  cf := some (fileOf pool5 1 #[] #[] 1537 3 #[] #[])
  fields := #[]
  methods := #[]
  instanceTypes := #[]
  staticTypes := #[]
  resolved := Array.replicate 11 none
  statics := none }

def pool6 : Array CpInfo := pool [(1, .class_ 2), (0, u "java/lang/constant/ConstantDesc"), (0, .class_ 4), (0, u "java/lang/Object")] 32

/-- java/lang/constant/ConstantDesc -/
def k6 : Class := { plain "java/lang/constant/ConstantDesc" (some 0) with
  accessFlags := 1537
  interfaces := #[]
  cf := some (fileOf pool6 1 #[] #[] 1537 3 #[] #[])
  fields := #[]
  methods := #[]
  instanceTypes := #[]
  staticTypes := #[]
  resolved := Array.replicate 37 none
  statics := none }

def pool7 : Array CpInfo := pool [(1, .methodref 2 3), (0, .class_ 4), (0, .nameAndType 5 6), (0, u "java/lang/Object"), (0, u "<init>"), (0, u "()V"), (2, .fieldref 10 11), (0, .class_ 12), (0, .nameAndType 13 14), (0, u "java/lang/String"), (0, u "value"), (0, u "[B"), (0, .fieldref 10 16), (0, .nameAndType 17 18), (0, u "coder"), (0, u "B"), (2, u "hash"), (0, u "I"), (2, u "hashIsZero"), (0, u "Z"), (0, .methodref 10 28), (0, .nameAndType 5 29), (0, u "([CIILjava/lang/Void;)V"), (8, .fieldref 10 39), (0, .nameAndType 40 26), (0, u "COMPACT_STRINGS"), (1, .class_ 44), (1, u "java/lang/StringUTF16"), (0, u "compress"), (1, .methodref 42 48), (0, .nameAndType 49 50), (0, u "coderFromArrayLen"), (0, u "([BI)B"), (2, u "toBytes"), (0, .methodref 55 56), (0, .class_ 57), (0, .nameAndType 58 59), (0, u "java/util/Arrays"), (0, u "copyOfRange"), (0, u "([BII)[B"), (47, .class_ 109), (1, u "java/lang/StringLatin1"), (32, u "()Z"), (34, .methodref 42 178), (0, .nameAndType 45 179), (0, u "([CII)[B"), (13, .class_ 195), (1, u "java/lang/System"), (13, .methodref 10 210), (0, .nameAndType 5 211), (0, u "([BB)V"), (0, .methodref 193 213), (0, .nameAndType 214 215), (0, u "arraycopy"), (0, u "(Ljava/lang/Object;ILjava/lang/Object;II)V"), (118, u "()I"), (0, .methodref 10 336), (0, .nameAndType 17 337), (0, u "()B"), (2, u "()[B"), (22, u "([BI)C"), (5, u "(C)Z"), (21, u "(II)V"), (35, u "(I)C"), (61, .methodref 10 490), (0, .nameAndType 5 491), (0, u "(Ljava/lang/AbstractStringBuilder;Ljava/lang/Void;)V"), (0, .methodref 10 493), (0, .nameAndType 494 142), (0, u "isLatin1"), (0, .methodref 107 496), (0, .nameAndType 497 363), (0, u "charAt"), (3, u "checkIndex"), (4, .nameAndType 507 334), (0, u "length"), (24, u "getBytes"), (16, .methodref 550 506), (0, .class_ 551), (0, u "java/lang/AbstractStringBuilder"), (0, .methodref 550 553), (0, .nameAndType 554 340), (0, u "getValue"), (20, .class_ 576), (0, u "java/lang/CharSequence"), (22, u "CASE_INSENSITIVE_ORDER"), (0, u "Ljava/util/Comparator;"), (181, u "valueOf"), (0, u "(C)Ljava/lang/String;"), (37, u "([BIB)V"), (188, u "([C)V"), (4, .methodref 107 1016), (0, .nameAndType 1017 369), (0, u "canEncode"), (0, .methodref 107 1019), (0, .nameAndType 53 1020), (0, u "(C)[B"), (26, .methodref 550 493), (5, .fieldref 1054 1055), (0, .class_ 1056), (0, .nameAndType 1057 1058), (0, u "jdk/internal/util/Preconditions"), (0, u "SIOOBE_FORMATTER"), (0, u "Ljava/util/function/BiFunction;"), (0, .methodref 1054 1060), (0, .nameAndType 501 1061), (0, u "(IILjava/util/function/BiFunction;)I"), (39, u "serialPersistentFields"), (0, u "[Ljava/io/ObjectStreamField;"), (0, .class_ 1104), (0, u "java/lang/String$CaseInsensitiveComparator"), (1, .class_ 1107), (0, u "java/io/Serializable"), (0, .class_ 1109), (0, u "java/lang/Comparable"), (0, .class_ 1111), (0, u "java/lang/constant/Constable"), (0, .class_ 1113), (0, u "java/lang/constant/ConstantDesc"), (2, u "serialVersionUID"), (0, u "J"), (3, u "REPL"), (0, u "C"), (2, u "LATIN1"), (1, u "UTF16"), (105, u "(Ljava/lang/StringBuilder;)V")] 217

def k7m0 : Method := { name := "<init>", desc := "()V", sig := { parameters := [], returnType := none }, accessFlags := 1, code := none }
def k7c1 : Code := { maxStack := 5, maxLocals := 2, code := jdk_42_method_3_code, exceptionTable := #[], attributes := #[] }
def k7m1 : Method := { name := "<init>", desc := "([C)V", sig := { parameters := [(.array .char)], returnType := none }, accessFlags := 1, code := some k7c1 }
def k7c2 : Code := { maxStack := 3, maxLocals := 2, code := jdk_42_method_53_code, exceptionTable := #[], attributes := #[] }
def k7m2 : Method := { name := "<init>", desc := "(Ljava/lang/StringBuilder;)V", sig := { parameters := [(.object "java/lang/StringBuilder")], returnType := none }, accessFlags := 1, code := some k7c2 }
def k7c3 : Code := { maxStack := 2, maxLocals := 1, code := jdk_42_method_54_code, exceptionTable := #[], attributes := #[] }
def k7m3 : Method := { name := "length", desc := "()I", sig := { parameters := [], returnType := some .int }, accessFlags := 1, code := some k7c3 }
def k7c4 : Code := { maxStack := 2, maxLocals := 2, code := jdk_42_method_56_code, exceptionTable := #[], attributes := #[] }
def k7m4 : Method := { name := "charAt", desc := "(I)C", sig := { parameters := [.int], returnType := some .char }, accessFlags := 1, code := some k7c4 }
def k7c5 : Code := { maxStack := 4, maxLocals := 1, code := jdk_42_method_139_code, exceptionTable := #[], attributes := #[] }
def k7m5 : Method := { name := "valueOf", desc := "(C)Ljava/lang/String;", sig := { parameters := [.char], returnType := some (.object "java/lang/String") }, accessFlags := 9, code := some k7c5 }
def k7c6 : Code := { maxStack := 5, maxLocals := 4, code := jdk_42_method_147_code, exceptionTable := #[], attributes := #[] }
def k7m6 : Method := { name := "getBytes", desc := "([BIB)V", sig := { parameters := [(.array .byte), .int, .byte], returnType := none }, accessFlags := 0, code := some k7c6 }
def k7c7 : Code := { maxStack := 4, maxLocals := 6, code := jdk_42_method_149_code, exceptionTable := #[], attributes := #[] }
def k7m7 : Method := { name := "<init>", desc := "([CIILjava/lang/Void;)V", sig := { parameters := [(.array .char), .int, .int, (.object "java/lang/Void")], returnType := none }, accessFlags := 2, code := some k7c7 }
def k7c8 : Code := { maxStack := 5, maxLocals := 5, code := jdk_42_method_150_code, exceptionTable := #[], attributes := #[] }
def k7m8 : Method := { name := "<init>", desc := "(Ljava/lang/AbstractStringBuilder;Ljava/lang/Void;)V", sig := { parameters := [(.object "java/lang/AbstractStringBuilder"), (.object "java/lang/Void")], returnType := none }, accessFlags := 0, code := some k7c8 }
def k7c9 : Code := { maxStack := 2, maxLocals := 3, code := jdk_42_method_151_code, exceptionTable := #[], attributes := #[] }
def k7m9 : Method := { name := "<init>", desc := "([BB)V", sig := { parameters := [(.array .byte), .byte], returnType := none }, accessFlags := 0, code := some k7c9 }
def k7c10 : Code := { maxStack := 1, maxLocals := 1, code := jdk_42_method_152_code, exceptionTable := #[], attributes := #[] }
def k7m10 : Method := { name := "coder", desc := "()B", sig := { parameters := [], returnType := some .byte }, accessFlags := 0, code := some k7c10 }
def k7c11 : Code := { maxStack := 1, maxLocals := 1, code := jdk_42_method_154_code, exceptionTable := #[], attributes := #[] }
def k7m11 : Method := { name := "isLatin1", desc := "()Z", sig := { parameters := [], returnType := some .boolean }, accessFlags := 0, code := some k7c11 }
def k7c12 : Code := { maxStack := 3, maxLocals := 2, code := jdk_42_method_155_code, exceptionTable := #[], attributes := #[] }
def k7m12 : Method := { name := "checkIndex", desc := "(II)V", sig := { parameters := [.int, .int], returnType := none }, accessFlags := 8, code := some k7c12 }
/-- java/lang/String -/
def k7 : Class := { plain "java/lang/String" (some 0) with
  accessFlags := 49
  interfaces := #[2, 3, 4, 5, 6]
  cf := some (fileOf pool7 10 #[.nestMembers #[1103]] #[{ accessFlags := 1, nameIndex := 5, descriptorIndex := 6, attributes := #[] }, { accessFlags := 1, nameIndex := 5, descriptorIndex := 1010, attributes := #[] }, { accessFlags := 1, nameIndex := 5, descriptorIndex := 1233, attributes := #[] }, { accessFlags := 1, nameIndex := 507, descriptorIndex := 334, attributes := #[] }, { accessFlags := 1, nameIndex := 497, descriptorIndex := 427, attributes := #[] }, { accessFlags := 9, nameIndex := 782, descriptorIndex := 783, attributes := #[] }, { accessFlags := 0, nameIndex := 532, descriptorIndex := 821, attributes := #[] }, { accessFlags := 2, nameIndex := 5, descriptorIndex := 29, attributes := #[] }, { accessFlags := 0, nameIndex := 5, descriptorIndex := 491, attributes := #[] }, { accessFlags := 0, nameIndex := 5, descriptorIndex := 211, attributes := #[] }, { accessFlags := 0, nameIndex := 17, descriptorIndex := 337, attributes := #[] }, { accessFlags := 0, nameIndex := 494, descriptorIndex := 142, attributes := #[] }, { accessFlags := 8, nameIndex := 501, descriptorIndex := 391, attributes := #[] }] 49 2 #[1106, 1108, 575, 1110, 1112] #[{ accessFlags := 18, nameIndex := 13, descriptorIndex := 14, attributes := #[] }, { accessFlags := 18, nameIndex := 17, descriptorIndex := 18, attributes := #[] }, { accessFlags := 2, nameIndex := 21, descriptorIndex := 22, attributes := #[] }, { accessFlags := 2, nameIndex := 25, descriptorIndex := 26, attributes := #[] }, { accessFlags := 26, nameIndex := 1116, descriptorIndex := 1117, attributes := #[] }, { accessFlags := 24, nameIndex := 40, descriptorIndex := 26, attributes := #[] }, { accessFlags := 26, nameIndex := 1101, descriptorIndex := 1102, attributes := #[] }, { accessFlags := 26, nameIndex := 1121, descriptorIndex := 1122, attributes := #[] }, { accessFlags := 25, nameIndex := 599, descriptorIndex := 600, attributes := #[] }, { accessFlags := 24, nameIndex := 1125, descriptorIndex := 18, attributes := #[] }, { accessFlags := 24, nameIndex := 1127, descriptorIndex := 18, attributes := #[] }])
  fields := #[{ name := "value", type := (.array .byte), accessFlags := 18, slot := 0, constantValue := 0 }, { name := "coder", type := .byte, accessFlags := 18, slot := 1, constantValue := 0 }, { name := "hash", type := .int, accessFlags := 2, slot := 2, constantValue := 0 }, { name := "hashIsZero", type := .boolean, accessFlags := 2, slot := 3, constantValue := 0 }, { name := "serialVersionUID", type := .long, accessFlags := 26, slot := 0, constantValue := 0 }, { name := "COMPACT_STRINGS", type := .boolean, accessFlags := 24, slot := 1, constantValue := 0 }, { name := "serialPersistentFields", type := (.array (.object "java/io/ObjectStreamField")), accessFlags := 26, slot := 2, constantValue := 0 }, { name := "REPL", type := .char, accessFlags := 26, slot := 3, constantValue := 0 }, { name := "CASE_INSENSITIVE_ORDER", type := (.object "java/util/Comparator"), accessFlags := 25, slot := 4, constantValue := 0 }, { name := "LATIN1", type := .byte, accessFlags := 24, slot := 5, constantValue := 0 }, { name := "UTF16", type := .byte, accessFlags := 24, slot := 6, constantValue := 0 }]
  methods := #[k7m0, k7m1, k7m2, k7m3, k7m4, k7m5, k7m6, k7m7, k7m8, k7m9, k7m10, k7m11, k7m12]
  instanceTypes := #[(.array .byte), .byte, .int, .boolean]
  staticTypes := #[.long, .boolean, (.array (.object "java/io/ObjectStreamField")), .char, (.object "java/util/Comparator"), .byte, .byte]
  resolved := Array.replicate 1451 none
  statics := some 0 }

def pool8 : Array CpInfo := pool [(6, .class_ 8), (1, u "java/lang/Object"), (0, u "<init>"), (0, u "()V"), (1, .class_ 14), (1, u "java/lang/StringUTF16"), (31, u "$assertionsDisabled"), (0, u "Z"), (13, u "HI_BYTE_SHIFT"), (0, u "I"), (2, u "LO_BYTE_SHIFT"), (49, .methodref 12 116), (0, .nameAndType 117 118), (0, u "compress"), (0, u "([CI[BII)I"), (3, u "([CII)[B"), (138, u "coderFromArrayLen"), (0, u "([BI)B"), (106, .class_ 371), (1, u "java/lang/StringUTF16$LinesSpliterator"), (58, u "MAX_LENGTH"), (196, .class_ 628), (0, u "java/lang/StringUTF16$CodePointsSpliterator"), (0, .class_ 630), (0, u "java/lang/StringUTF16$CharsSpliterator")] 4

def k8m0 : Method := { name := "<init>", desc := "()V", sig := { parameters := [], returnType := none }, accessFlags := 0, code := none }
def k8c1 : Code := { maxStack := 2, maxLocals := 2, code := jdk_52_method_15_code, exceptionTable := #[], attributes := #[] }
def k8m1 : Method := { name := "coderFromArrayLen", desc := "([BI)B", sig := { parameters := [(.array .byte), .int], returnType := some .byte }, accessFlags := 8, code := some k8c1 }
def k8c2 : Code := { maxStack := 5, maxLocals := 6, code := jdk_52_method_16_code, exceptionTable := #[], attributes := #[] }
def k8m2 : Method := { name := "compress", desc := "([CII)[B", sig := { parameters := [(.array .char), .int, .int], returnType := some (.array .byte) }, accessFlags := 9, code := some k8c2 }
def k8c3 : Code := { maxStack := 3, maxLocals := 7, code := jdk_52_method_21_code, exceptionTable := #[], attributes := #[] }
def k8m3 : Method := { name := "compress", desc := "([CI[BII)I", sig := { parameters := [(.array .char), .int, (.array .byte), .int, .int], returnType := some .int }, accessFlags := 9, code := some k8c3 }
/-- java/lang/StringUTF16 -/
def k8 : Class := { plain "java/lang/StringUTF16" (some 0) with
  accessFlags := 48
  interfaces := #[]
  cf := some (fileOf pool8 12 #[.nestMembers #[627, 629, 369]] #[{ accessFlags := 0, nameIndex := 9, descriptorIndex := 10, attributes := #[] }, { accessFlags := 8, nameIndex := 261, descriptorIndex := 262, attributes := #[] }, { accessFlags := 9, nameIndex := 117, descriptorIndex := 122, attributes := #[] }, { accessFlags := 9, nameIndex := 117, descriptorIndex := 118, attributes := #[] }] 48 6 #[] #[{ accessFlags := 26, nameIndex := 61, descriptorIndex := 62, attributes := #[] }, { accessFlags := 26, nameIndex := 65, descriptorIndex := 62, attributes := #[] }, { accessFlags := 24, nameIndex := 430, descriptorIndex := 62, attributes := #[] }, { accessFlags := 4120, nameIndex := 46, descriptorIndex := 47, attributes := #[] }])
  fields := #[{ name := "HI_BYTE_SHIFT", type := .int, accessFlags := 26, slot := 0, constantValue := 0 }, { name := "LO_BYTE_SHIFT", type := .int, accessFlags := 26, slot := 1, constantValue := 0 }, { name := "MAX_LENGTH", type := .int, accessFlags := 24, slot := 2, constantValue := 0 }, { name := "$assertionsDisabled", type := .boolean, accessFlags := 4120, slot := 3, constantValue := 0 }]
  methods := #[k8m0, k8m1, k8m2, k8m3]
  instanceTypes := #[]
  staticTypes := #[.int, .int, .int, .boolean]
  resolved := Array.replicate 635 none
  statics := none }

def pool9 : Array CpInfo := pool [(1, .methodref 2 3), (0, .class_ 4), (0, .nameAndType 5 6), (0, u "java/lang/Object"), (0, u "<init>"), (0, u "()V"), (0, .class_ 8), (0, u "java/lang/Record")] 13

def k9c0 : Code := { maxStack := 1, maxLocals := 1, code := jdk_30_method_1_code, exceptionTable := #[], attributes := #[] }
def k9m0 : Method := { name := "<init>", desc := "()V", sig := { parameters := [], returnType := none }, accessFlags := 4, code := some k9c0 }
/-- java/lang/Record -/
def k9 : Class := { plain "java/lang/Record" (some 0) with
  accessFlags := 1057
  interfaces := #[]
  cf := some (fileOf pool9 7 #[] #[{ accessFlags := 4, nameIndex := 5, descriptorIndex := 6, attributes := #[] }] 1057 2 #[] #[])
  fields := #[]
  methods := #[k9m0]
  instanceTypes := #[]
  staticTypes := #[]
  resolved := Array.replicate 22 none
  statics := none }

def pool10 : Array CpInfo := pool [(1, .methodref 2 3), (0, .class_ 4), (0, .nameAndType 5 6), (0, u "java/lang/Record"), (0, u "<init>"), (0, u "()V"), (0, .fieldref 8 9), (0, .class_ 10), (0, .nameAndType 11 12), (0, u "com/example/crosskey/crosskey/core/JdkPackage"), (0, u "module"), (0, u "Ljava/lang/String;"), (0, .fieldref 8 14), (0, .nameAndType 15 12), (0, u "name"), (0, .class_ 17), (0, u "java/lang/StringBuilder"), (0, .methodref 16 3), (0, .methodref 16 20), (0, .nameAndType 21 22), (0, u "append"), (0, u "(Ljava/lang/String;)Ljava/lang/StringBuilder;"), (2, .methodref 16 26), (0, .nameAndType 27 28), (0, u "toString"), (0, u "()Ljava/lang/String;"), (47, .string 77), (0, u "/"), (14, u "(Ljava/lang/String;Ljava/lang/String;)V")] 44

def k10c0 : Code := { maxStack := 2, maxLocals := 3, code := prog_17_method_1_code, exceptionTable := #[], attributes := #[] }
def k10m0 : Method := { name := "<init>", desc := "(Ljava/lang/String;Ljava/lang/String;)V", sig := { parameters := [(.object "java/lang/String"), (.object "java/lang/String")], returnType := none }, accessFlags := 1, code := some k10c0 }
def k10c1 : Code := { maxStack := 2, maxLocals := 1, code := prog_17_method_5_code, exceptionTable := #[], attributes := #[] }
def k10m1 : Method := { name := "toString", desc := "()Ljava/lang/String;", sig := { parameters := [], returnType := some (.object "java/lang/String") }, accessFlags := 1, code := some k10c1 }
/-- com/example/crosskey/crosskey/core/JdkPackage -/
def k10 : Class := { plain "com/example/crosskey/crosskey/core/JdkPackage" (some 9) with
  accessFlags := 49
  interfaces := #[]
  cf := some (fileOf pool10 8 #[] #[{ accessFlags := 1, nameIndex := 5, descriptorIndex := 92, attributes := #[] }, { accessFlags := 1, nameIndex := 27, descriptorIndex := 28, attributes := #[] }] 49 2 #[] #[{ accessFlags := 18, nameIndex := 11, descriptorIndex := 12, attributes := #[] }, { accessFlags := 18, nameIndex := 15, descriptorIndex := 12, attributes := #[] }])
  fields := #[{ name := "module", type := (.object "java/lang/String"), accessFlags := 18, slot := 0, constantValue := 0 }, { name := "name", type := (.object "java/lang/String"), accessFlags := 18, slot := 1, constantValue := 0 }]
  methods := #[k10m0, k10m1]
  instanceTypes := #[(.object "java/lang/String"), (.object "java/lang/String")]
  staticTypes := #[]
  resolved := Array.replicate 137 none
  statics := none }

def pool11 : Array CpInfo := pool [(1, .class_ 2), (0, u "java/lang/Appendable"), (0, .class_ 4), (0, u "java/lang/Object")] 9

/-- java/lang/Appendable -/
def k11 : Class := { plain "java/lang/Appendable" (some 0) with
  accessFlags := 1537
  interfaces := #[]
  cf := some (fileOf pool11 1 #[] #[] 1537 3 #[] #[])
  fields := #[]
  methods := #[]
  instanceTypes := #[]
  staticTypes := #[]
  resolved := Array.replicate 14 none
  statics := none }

def pool12 : Array CpInfo := pool [(1, .class_ 2), (0, u "java/lang/String"), (0, .methodref 4 5), (0, .class_ 6), (0, .nameAndType 7 8), (0, u "java/lang/Object"), (0, u "<init>"), (0, u "()V"), (1, .class_ 12), (1, u "java/lang/AbstractStringBuilder"), (0, u "EMPTYVALUE"), (0, u "[B"), (0, .fieldref 10 16), (0, .nameAndType 17 14), (0, u "value"), (0, .fieldref 1 19), (0, .nameAndType 20 21), (0, u "COMPACT_STRINGS"), (0, u "Z"), (0, .fieldref 10 23), (0, .nameAndType 24 25), (0, u "coder"), (0, u "B"), (6, .methodref 1 33), (0, .nameAndType 34 35), (0, u "length"), (0, u "()I"), (4, .methodref 1 41), (0, .nameAndType 24 42), (0, u "()B"), (2, u "append"), (0, u "(Ljava/lang/String;)Ljava/lang/AbstractStringBuilder;"), (1, .class_ 49), (0, u "java/lang/CharSequence"), (19, u "(Ljava/lang/String;)V"), (5, u "maybeLatin1"), (3, .fieldref 10 80), (0, .nameAndType 81 82), (0, u "count"), (0, u "I"), (0, .methodref 10 84), (0, .nameAndType 85 86), (0, u "isLatin1"), (0, u "()Z"), (13, .methodref 10 101), (0, .nameAndType 102 103), (0, u "ensureCapacityInternal"), (0, u "(I)V"), (100, .methodref 10 205), (0, .nameAndType 206 207), (0, u "appendNull"), (0, u "()Ljava/lang/AbstractStringBuilder;"), (0, .methodref 10 209), (0, .nameAndType 210 211), (0, u "putStringAt"), (0, u "(ILjava/lang/String;)V"), (5, u "inflateIfNeededFor"), (2, .nameAndType 221 222), (0, u "getBytes"), (0, u "([BIB)V"), (174, .methodref 10 398), (0, .nameAndType 217 69), (0, .methodref 1 220), (3, u "()[B"), (40, .class_ 445), (0, u "java/lang/Appendable"), (106, u "getValue")] 56

def k12m0 : Method := { name := "<init>", desc := "()V", sig := { parameters := [], returnType := none }, accessFlags := 0, code := none }
def k12c1 : Code := { maxStack := 2, maxLocals := 2, code := jdk_68_method_2_code, exceptionTable := #[], attributes := #[] }
def k12m1 : Method := { name := "<init>", desc := "(I)V", sig := { parameters := [.int], returnType := none }, accessFlags := 0, code := some k12c1 }
def k12c2 : Code := { maxStack := 1, maxLocals := 1, code := jdk_68_method_6_code, exceptionTable := #[], attributes := #[] }
def k12m2 : Method := { name := "length", desc := "()I", sig := { parameters := [], returnType := some .int }, accessFlags := 1, code := some k12c2 }
def k12c3 : Code := { maxStack := 4, maxLocals := 3, code := jdk_68_method_9_code, exceptionTable := #[], attributes := #[] }
def k12m3 : Method := { name := "ensureCapacityInternal", desc := "(I)V", sig := { parameters := [.int], returnType := none }, accessFlags := 2, code := some k12c3 }
def k12c4 : Code := { maxStack := 3, maxLocals := 3, code := jdk_68_method_22_code, exceptionTable := #[], attributes := #[] }
def k12m4 : Method := { name := "append", desc := "(Ljava/lang/String;)Ljava/lang/AbstractStringBuilder;", sig := { parameters := [(.object "java/lang/String")], returnType := some (.object "java/lang/AbstractStringBuilder") }, accessFlags := 1, code := some k12c4 }
def k12c5 : Code := { maxStack := 6, maxLocals := 3, code := jdk_68_method_26_code, exceptionTable := #[], attributes := #[] }
def k12m5 : Method := { name := "appendNull", desc := "()Ljava/lang/AbstractStringBuilder;", sig := { parameters := [], returnType := some (.object "java/lang/AbstractStringBuilder") }, accessFlags := 2, code := some k12c5 }
def k12c6 : Code := { maxStack := 1, maxLocals := 1, code := jdk_68_method_64_code, exceptionTable := #[], attributes := #[] }
def k12m6 : Method := { name := "getValue", desc := "()[B", sig := { parameters := [], returnType := some (.array .byte) }, accessFlags := 16, code := some k12c6 }
def k12c7 : Code := { maxStack := 1, maxLocals := 1, code := jdk_68_method_68_code, exceptionTable := #[], attributes := #[] }
def k12m7 : Method := { name := "isLatin1", desc := "()Z", sig := { parameters := [], returnType := some .boolean }, accessFlags := 16, code := some k12c7 }
def k12c8 : Code := { maxStack := 2, maxLocals := 2, code := jdk_68_method_71_code, exceptionTable := #[], attributes := #[] }
def k12m8 : Method := { name := "inflateIfNeededFor", desc := "(Ljava/lang/String;)V", sig := { parameters := [(.object "java/lang/String")], returnType := none }, accessFlags := 2, code := some k12c8 }
def k12c9 : Code := { maxStack := 4, maxLocals := 3, code := jdk_68_method_73_code, exceptionTable := #[], attributes := #[] }
def k12m9 : Method := { name := "putStringAt", desc := "(ILjava/lang/String;)V", sig := { parameters := [.int, (.object "java/lang/String")], returnType := none }, accessFlags := 2, code := some k12c9 }
/-- java/lang/AbstractStringBuilder -/
def k12 : Class := { plain "java/lang/AbstractStringBuilder" (some 0) with
  accessFlags := 1056
  interfaces := #[11, 4]
  cf := some (fileOf pool12 10 #[] #[{ accessFlags := 0, nameIndex := 7, descriptorIndex := 8, attributes := #[] }, { accessFlags := 0, nameIndex := 7, descriptorIndex := 103, attributes := #[] }, { accessFlags := 1, nameIndex := 34, descriptorIndex := 35, attributes := #[] }, { accessFlags := 2, nameIndex := 102, descriptorIndex := 103, attributes := #[] }, { accessFlags := 1, nameIndex := 45, descriptorIndex := 46, attributes := #[] }, { accessFlags := 2, nameIndex := 206, descriptorIndex := 207, attributes := #[] }, { accessFlags := 16, nameIndex := 552, descriptorIndex := 403, attributes := #[] }, { accessFlags := 16, nameIndex := 85, descriptorIndex := 86, attributes := #[] }, { accessFlags := 2, nameIndex := 217, descriptorIndex := 69, attributes := #[] }, { accessFlags := 2, nameIndex := 210, descriptorIndex := 211, attributes := #[] }] 1056 4 #[444, 48] #[{ accessFlags := 0, nameIndex := 17, descriptorIndex := 14, attributes := #[] }, { accessFlags := 0, nameIndex := 24, descriptorIndex := 25, attributes := #[] }, { accessFlags := 0, nameIndex := 75, descriptorIndex := 21, attributes := #[] }, { accessFlags := 0, nameIndex := 81, descriptorIndex := 82, attributes := #[] }, { accessFlags := 26, nameIndex := 13, descriptorIndex := 14, attributes := #[] }])
  fields := #[{ name := "value", type := (.array .byte), accessFlags := 0, slot := 0, constantValue := 0 }, { name := "coder", type := .byte, accessFlags := 0, slot := 1, constantValue := 0 }, { name := "maybeLatin1", type := .boolean, accessFlags := 0, slot := 2, constantValue := 0 }, { name := "count", type := .int, accessFlags := 0, slot := 3, constantValue := 0 }, { name := "EMPTYVALUE", type := (.array .byte), accessFlags := 26, slot := 0, constantValue := 0 }]
  methods := #[k12m0, k12m1, k12m2, k12m3, k12m4, k12m5, k12m6, k12m7, k12m8, k12m9]
  instanceTypes := #[(.array .byte), .byte, .boolean, .int]
  staticTypes := #[(.array .byte)]
  resolved := Array.replicate 609 none
  statics := none }

def pool13 : Array CpInfo := pool [(1, .methodref 2 3), (0, .class_ 4), (0, .nameAndType 5 6), (0, u "java/lang/AbstractStringBuilder"), (0, u "<init>"), (0, u "(I)V"), (11, .class_ 20), (1, u "java/lang/String"), (3, .class_ 26), (1, u "java/lang/StringBuilder"), (0, u "append"), (0, u "(Ljava/lang/String;)Ljava/lang/StringBuilder;"), (0, .methodref 2 30), (0, .nameAndType 27 31), (0, u "(Ljava/lang/String;)Ljava/lang/AbstractStringBuilder;"), (105, .methodref 18 138), (0, .nameAndType 5 139), (0, u "(Ljava/lang/StringBuilder;)V"), (5, u "()V"), (10, u "()I"), (186, .methodref 2 344), (0, .nameAndType 345 156), (0, u "length"), (3, .class_ 350), (0, u "java/lang/Appendable"), (0, .class_ 352), (0, u "java/io/Serializable"), (0, .class_ 354), (0, u "java/lang/Comparable"), (0, .class_ 356), (0, u "java/lang/CharSequence"), (0, u "serialVersionUID"), (0, u "J"), (40, u "toString"), (0, u "()Ljava/lang/String;")] 21

def k13c0 : Code := { maxStack := 2, maxLocals := 1, code := jdk_67_method_1_code, exceptionTable := #[], attributes := #[] }
def k13m0 : Method := { name := "<init>", desc := "()V", sig := { parameters := [], returnType := none }, accessFlags := 1, code := some k13c0 }
def k13c1 : Code := { maxStack := 2, maxLocals := 2, code := jdk_67_method_7_code, exceptionTable := #[], attributes := #[] }
def k13m1 : Method := { name := "append", desc := "(Ljava/lang/String;)Ljava/lang/StringBuilder;", sig := { parameters := [(.object "java/lang/String")], returnType := some (.object "java/lang/StringBuilder") }, accessFlags := 1, code := some k13c1 }
def k13c2 : Code := { maxStack := 3, maxLocals := 1, code := jdk_67_method_42_code, exceptionTable := #[], attributes := #[] }
def k13m2 : Method := { name := "toString", desc := "()Ljava/lang/String;", sig := { parameters := [], returnType := some (.object "java/lang/String") }, accessFlags := 1, code := some k13c2 }
def k13c3 : Code := { maxStack := 1, maxLocals := 1, code := jdk_67_method_93_code, exceptionTable := #[], attributes := #[] }
def k13m3 : Method := { name := "length", desc := "()I", sig := { parameters := [], returnType := some .int }, accessFlags := 4161, code := some k13c3 }
/-- java/lang/StringBuilder -/
def k13 : Class := { plain "java/lang/StringBuilder" (some 12) with
  accessFlags := 49
  interfaces := #[11, 2, 3, 4]
  cf := some (fileOf pool13 24 #[] #[{ accessFlags := 1, nameIndex := 5, descriptorIndex := 145, attributes := #[] }, { accessFlags := 1, nameIndex := 27, descriptorIndex := 28, attributes := #[] }, { accessFlags := 1, nameIndex := 399, descriptorIndex := 400, attributes := #[] }, { accessFlags := 4161, nameIndex := 345, descriptorIndex := 156, attributes := #[] }] 49 2 #[349, 351, 353, 355] #[{ accessFlags := 24, nameIndex := 357, descriptorIndex := 358, attributes := #[] }])
  fields := #[{ name := "serialVersionUID", type := .long, accessFlags := 24, slot := 0, constantValue := 0 }]
  methods := #[k13m0, k13m1, k13m2, k13m3]
  instanceTypes := #[(.array .byte), .byte, .boolean, .int]
  staticTypes := #[.long]
  resolved := Array.replicate 422 none
  statics := none }

def pool14 : Array CpInfo := pool [(2, .class_ 4), (1, u "java/lang/Object"), (0, u "<init>"), (0, u "()V"), (1, .class_ 10), (1, u "java/lang/System"), (0, u "allowSecurityManager"), (0, u "I"), (16, u "cons"), (0, u "Ljava/io/Console;"), (77, .class_ 110), (1, u "java/lang/System$CallersHolder"), (43, u "initialErrStream"), (0, u "Ljava/io/PrintStream;"), (19, u "security"), (0, u "Ljava/lang/SecurityManager;"), (31, .class_ 209), (0, u "java/lang/System$1"), (7, u "props"), (0, u "Ljava/util/Properties;"), (2, u "lineSeparator"), (0, u "Ljava/lang/String;"), (96, .class_ 321), (1, u "java/lang/System$LoggerFinder"), (5, .class_ 328), (0, u "java/lang/System$Logger"), (67, u "err"), (2, u "out"), (91, u "notSupportedJnuEncoding"), (15, u "in"), (17, u "initialIn"), (0, u "Ljava/io/InputStream;"), (35, u "bootLayer"), (0, u "Ljava/lang/ModuleLayer;"), (99, .class_ 664), (0, u "java/lang/System$2"), (9, u "NEVER"), (2, u "MAYBE"), (49, u "arraycopy"), (0, u "(Ljava/lang/Object;ILjava/lang/Object;II)V"), (72, .class_ 802), (0, u "java/lang/System$Logger$Level")] 31

def k14m0 : Method := { name := "<init>", desc := "()V", sig := { parameters := [], returnType := none }, accessFlags := 2, code := none }
def k14m1 : Method := { name := "arraycopy", desc := "(Ljava/lang/Object;ILjava/lang/Object;II)V", sig := { parameters := [(.object "java/lang/Object"), .int, (.object "java/lang/Object"), .int, .int], returnType := none }, accessFlags := 265, code := none }
/-- java/lang/System -/
def k14 : Class := { plain "java/lang/System" (some 0) with
  accessFlags := 49
  interfaces := #[]
  cf := some (fileOf pool14 8 #[.nestMembers #[319, 327, 801, 108, 663, 208]] #[{ accessFlags := 2, nameIndex := 5, descriptorIndex := 6, attributes := #[] }, { accessFlags := 265, nameIndex := 727, descriptorIndex := 728, attributes := #[] }] 49 2 #[] #[{ accessFlags := 25, nameIndex := 507, descriptorIndex := 526, attributes := #[] }, { accessFlags := 25, nameIndex := 399, descriptorIndex := 155, attributes := #[] }, { accessFlags := 25, nameIndex := 396, descriptorIndex := 155, attributes := #[] }, { accessFlags := 10, nameIndex := 525, descriptorIndex := 526, attributes := #[] }, { accessFlags := 26, nameIndex := 674, descriptorIndex := 12, attributes := #[] }, { accessFlags := 26, nameIndex := 677, descriptorIndex := 12, attributes := #[] }, { accessFlags := 10, nameIndex := 11, descriptorIndex := 12, attributes := #[] }, { accessFlags := 74, nameIndex := 175, descriptorIndex := 176, attributes := #[] }, { accessFlags := 10, nameIndex := 491, descriptorIndex := 222, attributes := #[] }, { accessFlags := 74, nameIndex := 29, descriptorIndex := 30, attributes := #[] }, { accessFlags := 74, nameIndex := 154, descriptorIndex := 155, attributes := #[] }, { accessFlags := 10, nameIndex := 217, descriptorIndex := 218, attributes := #[] }, { accessFlags := 10, nameIndex := 221, descriptorIndex := 222, attributes := #[] }, { accessFlags := 8, nameIndex := 562, descriptorIndex := 563, attributes := #[] }])
  fields := #[{ name := "in", type := (.object "java/io/InputStream"), accessFlags := 25, slot := 0, constantValue := 0 }, { name := "out", type := (.object "java/io/PrintStream"), accessFlags := 25, slot := 1, constantValue := 0 }, { name := "err", type := (.object "java/io/PrintStream"), accessFlags := 25, slot := 2, constantValue := 0 }, { name := "initialIn", type := (.object "java/io/InputStream"), accessFlags := 10, slot := 3, constantValue := 0 }, { name := "NEVER", type := .int, accessFlags := 26, slot := 4, constantValue := 0 }, { name := "MAYBE", type := .int, accessFlags := 26, slot := 5, constantValue := 0 }, { name := "allowSecurityManager", type := .int, accessFlags := 10, slot := 6, constantValue := 0 }, { name := "security", type := (.object "java/lang/SecurityManager"), accessFlags := 74, slot := 7, constantValue := 0 }, { name := "notSupportedJnuEncoding", type := (.object "java/lang/String"), accessFlags := 10, slot := 8, constantValue := 0 }, { name := "cons", type := (.object "java/io/Console"), accessFlags := 74, slot := 9, constantValue := 0 }, { name := "initialErrStream", type := (.object "java/io/PrintStream"), accessFlags := 74, slot := 10, constantValue := 0 }, { name := "props", type := (.object "java/util/Properties"), accessFlags := 10, slot := 11, constantValue := 0 }, { name := "lineSeparator", type := (.object "java/lang/String"), accessFlags := 10, slot := 12, constantValue := 0 }, { name := "bootLayer", type := (.object "java/lang/ModuleLayer"), accessFlags := 8, slot := 13, constantValue := 0 }]
  methods := #[k14m0, k14m1]
  instanceTypes := #[]
  staticTypes := #[(.object "java/io/InputStream"), (.object "java/io/PrintStream"), (.object "java/io/PrintStream"), (.object "java/io/InputStream"), .int, .int, .int, (.object "java/lang/SecurityManager"), (.object "java/lang/String"), (.object "java/io/Console"), (.object "java/io/PrintStream"), (.object "java/util/Properties"), (.object "java/lang/String"), (.object "java/lang/ModuleLayer")]
  resolved := Array.replicate 834 none
  statics := none }

def pool15 : Array CpInfo := pool [(2, .class_ 4), (1, u "java/lang/Object"), (0, u "<init>"), (0, u "()V"), (7, .class_ 16), (1, u "java/util/Arrays"), (57, .class_ 76), (1, u "java/util/Arrays$NaturalOrder"), (36, .class_ 115), (1, u "java/util/Arrays$LegacyMergeSort"), (1, u "Z"), (21, u "copyOfRange"), (10, .methodref 151 152), (0, .class_ 153), (0, .nameAndType 154 155), (0, u "java/lang/System"), (0, u "arraycopy"), (0, u "(Ljava/lang/Object;ILjava/lang/Object;II)V"), (148, .methodref 305 306), (0, .class_ 307), (0, .nameAndType 308 309), (0, u "java/lang/Math"), (0, u "min"), (0, u "(II)I"), (29, .methodref 14 340), (0, .nameAndType 341 342), (0, u "copyOfRangeByte"), (0, u "([BII)[B"), (0, .methodref 14 344), (0, .nameAndType 345 346), (0, u "checkLength"), (0, u "(II)V"), (28, .class_ 376), (0, u "java/util/Arrays$ArrayList"), (68, u "$assertionsDisabled"), (269, u "MIN_ARRAY_SORT_GRAN"), (0, u "I"), (2, u "INSERTIONSORT_THRESHOLD"), (255, .class_ 976), (0, u "java/util/Arrays$ArrayItr")] 52

def k15m0 : Method := { name := "<init>", desc := "()V", sig := { parameters := [], returnType := none }, accessFlags := 2, code := none }
def k15c1 : Code := { maxStack := 4, maxLocals := 2, code := jdk_65_method_131_code, exceptionTable := #[], attributes := #[] }
def k15m1 : Method := { name := "checkLength", desc := "(II)V", sig := { parameters := [.int, .int], returnType := none }, accessFlags := 10, code := some k15c1 }
def k15c2 : Code := { maxStack := 3, maxLocals := 3, code := jdk_65_method_132_code, exceptionTable := #[], attributes := #[] }
def k15m2 : Method := { name := "copyOfRange", desc := "([BII)[B", sig := { parameters := [(.array .byte), .int, .int], returnType := some (.array .byte) }, accessFlags := 9, code := some k15c2 }
def k15c3 : Code := { maxStack := 6, maxLocals := 5, code := jdk_65_method_133_code, exceptionTable := #[], attributes := #[] }
def k15m3 : Method := { name := "copyOfRangeByte", desc := "([BII)[B", sig := { parameters := [(.array .byte), .int, .int], returnType := some (.array .byte) }, accessFlags := 10, code := some k15c3 }
/-- java/util/Arrays -/
def k15 : Class := { plain "java/util/Arrays" (some 0) with
  accessFlags := 49
  interfaces := #[]
  cf := some (fileOf pool15 14 #[.nestMembers #[975, 375, 113, 74]] #[{ accessFlags := 2, nameIndex := 5, descriptorIndex := 6, attributes := #[] }, { accessFlags := 10, nameIndex := 345, descriptorIndex := 346, attributes := #[] }, { accessFlags := 9, nameIndex := 139, descriptorIndex := 342, attributes := #[] }, { accessFlags := 10, nameIndex := 341, descriptorIndex := 342, attributes := #[] }] 49 2 #[] #[{ accessFlags := 26, nameIndex := 715, descriptorIndex := 716, attributes := #[] }, { accessFlags := 26, nameIndex := 719, descriptorIndex := 716, attributes := #[] }, { accessFlags := 4120, nameIndex := 445, descriptorIndex := 117, attributes := #[] }])
  fields := #[{ name := "MIN_ARRAY_SORT_GRAN", type := .int, accessFlags := 26, slot := 0, constantValue := 0 }, { name := "INSERTIONSORT_THRESHOLD", type := .int, accessFlags := 26, slot := 1, constantValue := 0 }, { name := "$assertionsDisabled", type := .boolean, accessFlags := 4120, slot := 2, constantValue := 0 }]
  methods := #[k15m0, k15m1, k15m2, k15m3]
  instanceTypes := #[]
  staticTypes := #[.int, .int, .boolean]
  resolved := Array.replicate 1029 none
  statics := none }

def pool16 : Array CpInfo := pool [(1, .class_ 2), (0, u "java/lang/Math"), (1, .class_ 6), (1, u "java/lang/Object"), (0, u "<init>"), (0, u "()V"), (89, .class_ 100), (1, u "java/lang/Math$RandomNumberGeneratorHolder"), (71, u "negativeZeroFloatBits"), (0, u "J"), (2, u "negativeZeroDoubleBits"), (24, u "min"), (43, u "$assertionsDisabled"), (0, u "Z"), (88, u "(II)I"), (2, u "twoToTheDoubleScaleDown"), (0, u "D"), (4, u "twoToTheDoubleScaleUp"), (9, u "E"), (3, u "PI"), (2, u "TAU"), (2, u "DEGREES_TO_RADIANS"), (0, u "RADIANS_TO_DEGREES")] 94

def k16m0 : Method := { name := "<init>", desc := "()V", sig := { parameters := [], returnType := none }, accessFlags := 2, code := none }
def k16c1 : Code := { maxStack := 2, maxLocals := 2, code := jdk_29_method_69_code, exceptionTable := #[], attributes := #[] }
def k16m1 : Method := { name := "min", desc := "(II)I", sig := { parameters := [.int, .int], returnType := some .int }, accessFlags := 9, code := some k16c1 }
/-- java/lang/Math -/
def k16 : Class := { plain "java/lang/Math" (some 0) with
  accessFlags := 49
  interfaces := #[]
  cf := some (fileOf pool16 1 #[.nestMembers #[98]] #[{ accessFlags := 2, nameIndex := 7, descriptorIndex := 8, attributes := #[] }, { accessFlags := 9, nameIndex := 201, descriptorIndex := 335, attributes := #[] }] 49 4 #[] #[{ accessFlags := 25, nameIndex := 354, descriptorIndex := 339, attributes := #[] }, { accessFlags := 25, nameIndex := 358, descriptorIndex := 339, attributes := #[] }, { accessFlags := 25, nameIndex := 361, descriptorIndex := 339, attributes := #[] }, { accessFlags := 26, nameIndex := 364, descriptorIndex := 339, attributes := #[] }, { accessFlags := 26, nameIndex := 365, descriptorIndex := 339, attributes := #[] }, { accessFlags := 26, nameIndex := 172, descriptorIndex := 173, attributes := #[] }, { accessFlags := 26, nameIndex := 176, descriptorIndex := 173, attributes := #[] }, { accessFlags := 8, nameIndex := 344, descriptorIndex := 339, attributes := #[] }, { accessFlags := 8, nameIndex := 338, descriptorIndex := 339, attributes := #[] }, { accessFlags := 4120, nameIndex := 245, descriptorIndex := 246, attributes := #[] }])
  fields := #[{ name := "E", type := .double, accessFlags := 25, slot := 0, constantValue := 0 }, { name := "PI", type := .double, accessFlags := 25, slot := 1, constantValue := 0 }, { name := "TAU", type := .double, accessFlags := 25, slot := 2, constantValue := 0 }, { name := "DEGREES_TO_RADIANS", type := .double, accessFlags := 26, slot := 3, constantValue := 0 }, { name := "RADIANS_TO_DEGREES", type := .double, accessFlags := 26, slot := 4, constantValue := 0 }, { name := "negativeZeroFloatBits", type := .long, accessFlags := 26, slot := 5, constantValue := 0 }, { name := "negativeZeroDoubleBits", type := .long, accessFlags := 26, slot := 6, constantValue := 0 }, { name := "twoToTheDoubleScaleUp", type := .double, accessFlags := 8, slot := 7, constantValue := 0 }, { name := "twoToTheDoubleScaleDown", type := .double, accessFlags := 8, slot := 8, constantValue := 0 }, { name := "$assertionsDisabled", type := .boolean, accessFlags := 4120, slot := 9, constantValue := 0 }]
  methods := #[k16m0, k16m1]
  instanceTypes := #[]
  staticTypes := #[.double, .double, .double, .double, .double, .long, .long, .double, .double, .boolean]
  resolved := Array.replicate 460 none
  statics := none }

def pool17 : Array CpInfo := pool [(1, .class_ 2), (0, u "java/lang/String"), (1, .class_ 6), (1, u "java/lang/Object"), (0, u "<init>"), (0, u "()V"), (0, .methodref 1 10), (0, .nameAndType 11 12), (0, u "checkIndex"), (0, u "(II)V"), (1, .class_ 16), (1, u "java/lang/StringLatin1"), (36, u "([BI)C"), (36, u "canEncode"), (14, u "(C)Z"), (15, u "$assertionsDisabled"), (0, u "Z"), (98, .class_ 223), (1, u "java/lang/StringLatin1$LinesSpliterator"), (28, u "charAt"), (127, u "toBytes"), (1, u "(C)[B"), (7, .class_ 391), (0, u "java/lang/StringLatin1$CharsSpliterator")] 3

def k17m0 : Method := { name := "<init>", desc := "()V", sig := { parameters := [], returnType := none }, accessFlags := 0, code := none }
def k17c1 : Code := { maxStack := 2, maxLocals := 2, code := jdk_43_method_2_code, exceptionTable := #[], attributes := #[] }
def k17m1 : Method := { name := "charAt", desc := "([BI)C", sig := { parameters := [(.array .byte), .int], returnType := some .char }, accessFlags := 9, code := some k17c1 }
def k17c2 : Code := { maxStack := 2, maxLocals := 1, code := jdk_43_method_3_code, exceptionTable := #[], attributes := #[] }
def k17m2 : Method := { name := "canEncode", desc := "(C)Z", sig := { parameters := [.char], returnType := some .boolean }, accessFlags := 9, code := some k17c2 }
def k17c3 : Code := { maxStack := 4, maxLocals := 1, code := jdk_43_method_46_code, exceptionTable := #[], attributes := #[] }
def k17m3 : Method := { name := "toBytes", desc := "(C)[B", sig := { parameters := [.char], returnType := some (.array .byte) }, accessFlags := 9, code := some k17c3 }
/-- java/lang/StringLatin1 -/
def k17 : Class := { plain "java/lang/StringLatin1" (some 0) with
  accessFlags := 48
  interfaces := #[]
  cf := some (fileOf pool17 14 #[.nestMembers #[390, 221]] #[{ accessFlags := 0, nameIndex := 7, descriptorIndex := 8, attributes := #[] }, { accessFlags := 9, nameIndex := 252, descriptorIndex := 53, attributes := #[] }, { accessFlags := 9, nameIndex := 90, descriptorIndex := 105, attributes := #[] }, { accessFlags := 9, nameIndex := 380, descriptorIndex := 382, attributes := #[] }] 48 4 #[] #[{ accessFlags := 4120, nameIndex := 121, descriptorIndex := 122, attributes := #[] }])
  fields := #[{ name := "$assertionsDisabled", type := .boolean, accessFlags := 4120, slot := 0, constantValue := 0 }]
  methods := #[k17m0, k17m1, k17m2, k17m3]
  instanceTypes := #[]
  staticTypes := #[.boolean]
  resolved := Array.replicate 395 none
  statics := none }

def pool18 : Array CpInfo := pool [(2, .class_ 4), (1, u "java/lang/Object"), (0, u "<init>"), (0, u "()V"), (17, .class_ 26), (1, u "jdk/internal/util/Preconditions"), (6, u "checkIndex"), (21, .class_ 56), (0, u "jdk/internal/util/Preconditions$4"), (57, .class_ 115), (0, u "jdk/internal/util/Preconditions$1"), (7, u "SIOOBE_FORMATTER"), (0, u "Ljava/util/function/BiFunction;"), (0, .class_ 126), (0, u "jdk/internal/util/Preconditions$2"), (3, u "AIOOBE_FORMATTER"), (0, .class_ 132), (0, u "jdk/internal/util/Preconditions$3"), (3, u "IOOBE_FORMATTER"), (41, u "(IILjava/util/function/BiFunction;)I")] 15

def k18m0 : Method := { name := "<init>", desc := "()V", sig := { parameters := [], returnType := none }, accessFlags := 1, code := none }
def k18c1 : Code := { maxStack := 3, maxLocals := 3, code := jdk_41_method_11_code, exceptionTable := #[], attributes := #[] }
def k18m1 : Method := { name := "checkIndex", desc := "(IILjava/util/function/BiFunction;)I", sig := { parameters := [.int, .int, (.object "java/util/function/BiFunction")], returnType := some .int }, accessFlags := 9, code := some k18c1 }
/-- jdk/internal/util/Preconditions -/
def k18 : Class := { plain "jdk/internal/util/Preconditions" (some 0) with
  accessFlags := 33
  interfaces := #[]
  cf := some (fileOf pool18 24 #[.nestMembers #[55, 131, 125, 114]] #[{ accessFlags := 1, nameIndex := 5, descriptorIndex := 6, attributes := #[] }, { accessFlags := 9, nameIndex := 33, descriptorIndex := 178, attributes := #[] }] 33 2 #[] #[{ accessFlags := 25, nameIndex := 123, descriptorIndex := 124, attributes := #[] }, { accessFlags := 25, nameIndex := 130, descriptorIndex := 124, attributes := #[] }, { accessFlags := 25, nameIndex := 136, descriptorIndex := 124, attributes := #[] }])
  fields := #[{ name := "SIOOBE_FORMATTER", type := (.object "java/util/function/BiFunction"), accessFlags := 25, slot := 0, constantValue := 0 }, { name := "AIOOBE_FORMATTER", type := (.object "java/util/function/BiFunction"), accessFlags := 25, slot := 1, constantValue := 0 }, { name := "IOOBE_FORMATTER", type := (.object "java/util/function/BiFunction"), accessFlags := 25, slot := 2, constantValue := 0 }]
  methods := #[k18m0, k18m1]
  instanceTypes := #[]
  staticTypes := #[(.object "java/util/function/BiFunction"), (.object "java/util/function/BiFunction"), (.object "java/util/function/BiFunction")]
  resolved := Array.replicate 194 none
  statics := some 1 }

def pool19 : Array CpInfo := pool [(9, u "<init>"), (6, .class_ 18), (1, u "java/lang/Object"), (0, u "()V"), (1, .class_ 23), (1, u "jdk/internal/util/ArraysSupport"), (0, u "LOG2_ARRAY_LONG_INDEX_SCALE"), (0, u "I"), (2, u "U"), (0, u "Ljdk/internal/misc/Unsafe;"), (8, u "BIG_ENDIAN"), (0, u "Z"), (8, u "LOG2_BYTE_BIT_SIZE"), (4, u "LOG2_ARRAY_INT_INDEX_SCALE"), (54, u "JLA"), (0, u "Ljdk/internal/access/JavaLangAccess;"), (11, u "LOG2_ARRAY_BOOLEAN_INDEX_SCALE"), (9, u "LOG2_ARRAY_BYTE_INDEX_SCALE"), (5, u "LOG2_ARRAY_CHAR_INDEX_SCALE"), (5, u "LOG2_ARRAY_SHORT_INDEX_SCALE"), (18, u "LOG2_ARRAY_FLOAT_INDEX_SCALE"), (24, u "LOG2_ARRAY_DOUBLE_INDEX_SCALE"), (89, u "T_BOOLEAN"), (2, u "T_CHAR"), (1, u "T_FLOAT"), (1, u "T_DOUBLE"), (1, u "T_BYTE"), (1, u "T_SHORT"), (1, u "T_INT"), (1, u "T_LONG"), (1, u "SOFT_MAX_ARRAY_LENGTH")] 83

def k19m0 : Method := { name := "<init>", desc := "()V", sig := { parameters := [], returnType := none }, accessFlags := 2, code := none }
/-- jdk/internal/util/ArraysSupport -/
def k19 : Class := { plain "jdk/internal/util/ArraysSupport" (some 0) with
  accessFlags := 33
  interfaces := #[]
  cf := some (fileOf pool19 21 #[] #[{ accessFlags := 2, nameIndex := 9, descriptorIndex := 19, attributes := #[] }] 33 16 #[] #[{ accessFlags := 24, nameIndex := 28, descriptorIndex := 29, attributes := #[] }, { accessFlags := 26, nameIndex := 38, descriptorIndex := 39, attributes := #[] }, { accessFlags := 25, nameIndex := 121, descriptorIndex := 25, attributes := #[] }, { accessFlags := 25, nameIndex := 131, descriptorIndex := 25, attributes := #[] }, { accessFlags := 25, nameIndex := 137, descriptorIndex := 25, attributes := #[] }, { accessFlags := 25, nameIndex := 143, descriptorIndex := 25, attributes := #[] }, { accessFlags := 25, nameIndex := 53, descriptorIndex := 25, attributes := #[] }, { accessFlags := 25, nameIndex := 24, descriptorIndex := 25, attributes := #[] }, { accessFlags := 25, nameIndex := 162, descriptorIndex := 25, attributes := #[] }, { accessFlags := 25, nameIndex := 187, descriptorIndex := 25, attributes := #[] }, { accessFlags := 26, nameIndex := 48, descriptorIndex := 25, attributes := #[] }, { accessFlags := 25, nameIndex := 277, descriptorIndex := 25, attributes := #[] }, { accessFlags := 25, nameIndex := 280, descriptorIndex := 25, attributes := #[] }, { accessFlags := 25, nameIndex := 282, descriptorIndex := 25, attributes := #[] }, { accessFlags := 25, nameIndex := 284, descriptorIndex := 25, attributes := #[] }, { accessFlags := 25, nameIndex := 286, descriptorIndex := 25, attributes := #[] }, { accessFlags := 25, nameIndex := 288, descriptorIndex := 25, attributes := #[] }, { accessFlags := 25, nameIndex := 290, descriptorIndex := 25, attributes := #[] }, { accessFlags := 25, nameIndex := 292, descriptorIndex := 25, attributes := #[] }, { accessFlags := 26, nameIndex := 108, descriptorIndex := 109, attributes := #[] }, { accessFlags := 25, nameIndex := 294, descriptorIndex := 25, attributes := #[] }])
  fields := #[{ name := "U", type := (.object "jdk/internal/misc/Unsafe"), accessFlags := 24, slot := 0, constantValue := 0 }, { name := "BIG_ENDIAN", type := .boolean, accessFlags := 26, slot := 1, constantValue := 0 }, { name := "LOG2_ARRAY_BOOLEAN_INDEX_SCALE", type := .int, accessFlags := 25, slot := 2, constantValue := 0 }, { name := "LOG2_ARRAY_BYTE_INDEX_SCALE", type := .int, accessFlags := 25, slot := 3, constantValue := 0 }, { name := "LOG2_ARRAY_CHAR_INDEX_SCALE", type := .int, accessFlags := 25, slot := 4, constantValue := 0 }, { name := "LOG2_ARRAY_SHORT_INDEX_SCALE", type := .int, accessFlags := 25, slot := 5, constantValue := 0 }, { name := "LOG2_ARRAY_INT_INDEX_SCALE", type := .int, accessFlags := 25, slot := 6, constantValue := 0 }, { name := "LOG2_ARRAY_LONG_INDEX_SCALE", type := .int, accessFlags := 25, slot := 7, constantValue := 0 }, { name := "LOG2_ARRAY_FLOAT_INDEX_SCALE", type := .int, accessFlags := 25, slot := 8, constantValue := 0 }, { name := "LOG2_ARRAY_DOUBLE_INDEX_SCALE", type := .int, accessFlags := 25, slot := 9, constantValue := 0 }, { name := "LOG2_BYTE_BIT_SIZE", type := .int, accessFlags := 26, slot := 10, constantValue := 0 }, { name := "T_BOOLEAN", type := .int, accessFlags := 25, slot := 11, constantValue := 0 }, { name := "T_CHAR", type := .int, accessFlags := 25, slot := 12, constantValue := 0 }, { name := "T_FLOAT", type := .int, accessFlags := 25, slot := 13, constantValue := 0 }, { name := "T_DOUBLE", type := .int, accessFlags := 25, slot := 14, constantValue := 0 }, { name := "T_BYTE", type := .int, accessFlags := 25, slot := 15, constantValue := 0 }, { name := "T_SHORT", type := .int, accessFlags := 25, slot := 16, constantValue := 0 }, { name := "T_INT", type := .int, accessFlags := 25, slot := 17, constantValue := 0 }, { name := "T_LONG", type := .int, accessFlags := 25, slot := 18, constantValue := 0 }, { name := "JLA", type := (.object "jdk/internal/access/JavaLangAccess"), accessFlags := 26, slot := 19, constantValue := 0 }, { name := "SOFT_MAX_ARRAY_LENGTH", type := .int, accessFlags := 25, slot := 20, constantValue := 0 }]
  methods := #[k19m0]
  instanceTypes := #[]
  staticTypes := #[(.object "jdk/internal/misc/Unsafe"), .boolean, .int, .int, .int, .int, .int, .int, .int, .int, .int, .int, .int, .int, .int, .int, .int, .int, .int, (.object "jdk/internal/access/JavaLangAccess"), .int]
  resolved := Array.replicate 378 none
  statics := none }

def pool20 : Array CpInfo := pool [(1, u "java/lang/Cloneable"), (0, .class_ 1), (0, u "java/lang/Object"), (0, .class_ 3)] 3

/-- java/lang/Cloneable -/
def k20 : Class := { plain "java/lang/Cloneable" (some 0) with
  accessFlags := 1537
  interfaces := #[]
  cf := some (fileOf pool20 2 #[] #[] 1537 4 #[] #[])
  fields := #[]
  methods := #[]
  instanceTypes := #[]
  staticTypes := #[]
  resolved := Array.replicate 8 none
  statics := none }

/-- the primitive byte -/
def k21 : Class := { plain "byte" none with kind := .primitive 'B', accessFlags := 0x411 }
/-- [B -/
def k22 : Class := { plain "[B" (some 0) with kind := .array 21 .byte, interfaces := #[20, 2], accessFlags := 1041 }

/-- the primitive char -/
def k23 : Class := { plain "char" none with kind := .primitive 'C', accessFlags := 0x411 }
/-- [C -/
def k24 : Class := { plain "[C" (some 0) with kind := .array 23 .char, interfaces := #[20, 2], accessFlags := 1041 }

/-- the primitive int -/
def k25 : Class := { plain "int" none with kind := .primitive 'I', accessFlags := 0x411 }
/-- [I -/
def k26 : Class := { plain "[I" (some 0) with kind := .array 25 .int, interfaces := #[20, 2], accessFlags := 1041 }

def heap : Heap := #[{ cls := 7, slots := #[.long 0, .int 1, .null, .int 0, .null, .int 0, .int 0], vm := .statics 7 },
  { cls := 18, slots := #[.null, .null, .null], vm := .statics 18 }]
def classes : Array Class := #[k0, k1, k2, k3, k4, k5, k6, k7, k8, k9, k10, k11, k12, k13, k14, k15, k16, k17, k18, k19, k20, k21, k22, k23, k24, k25, k26]
def interned : List (Array UInt16 × Addr) := []
def slotsUsed : Nat := 10
def theMethod : MethodId := ⟨1, 3⟩
def args0 : Array Value := #[.int 5, .int 5, .int 5]
def aboutOver (below : List Frame) : State where
  vm := { classes := classes, interned := interned.toArray }
  heap := heap
  slotsUsed := slotsUsed
  threads := #[{ frames := .invoking theMethod args0 :: below }]
def below0 : List Frame := [.native { method := ⟨0, 0⟩, args := #[] }]
def about1 : State := aboutOver below0
def p0 : Program := .bare "" "" ""
def e0 : Env := launch0.env 0 0 0
theorem w_frames : about1.frames = Frame.invoking theMethod args0 :: below0 := rfl
set_option maxRecDepth 65536 in
theorem w_args : argsFit about1.vm theMethod args0 = true := by decide +kernel
set_option maxRecDepth 65536 in
theorem w_heap : heapFits about1 = true := by decide +kernel
set_option maxRecDepth 65536 in
theorem w_runnable : about1.curStatus? = some .runnable := by decide +kernel
set_option maxRecDepth 65536 in
theorem w_alone : about1.alone = true := by decide +kernel
set_option maxRecDepth 65536 in
theorem w_named : about1.methodNamed? x = some theMethod := by decide +kernel
set_option maxRecDepth 65536 in
theorem w_hears : about1.hears theMethod below0 = true := by decide +kernel
set_option maxRecDepth 65536 in
theorem w_ripe : about1.ripe theMethod args0 below0 = true := by decide +kernel
theorem w_running : about1.status = .running := rfl
set_option maxRecDepth 65536 in
theorem w_room : about1.hasRoom e0.platform room_1 = true :=
  launch0.hasRoom_least _ room_1 (by decide +kernel) (by decide +kernel) (by decide +kernel) (by decide +kernel) (by decide +kernel) (by decide +kernel)
theorem allAtoms_all (ts : List Jvm.Cond) (a : Array Jvm.Value) (st : Jvm.State) : (allAtoms ts).before a st = ts.all (fun c => c.before a st) := by
  induction ts with
  | nil => rfl
  | cons c t ih =>
    show (Jvm.Cond.and c (allAtoms t)).before a st = _
    rw [Jvm.Cond.before_and, ih, List.all_cons]
def words1 : List Jvm.Cond := Jvm.Cond.code x code maxLocals ret :: tables_1
/-- a 'code' word, met by the world's own term for the bytes: nothing is compared byte by byte -/
theorem code_word {y : MethodName} {bytes : ByteArray} {mx : Nat} {rt : Option FieldType} {a : Array Value} {s : State} {m : MethodId} {meth : Method} {c : Code} (h1 : s.methodNamed? y = some m) (h2 : s.vm.method? m = some meth) (h3 : meth.code = some c) (h4 : c.code = bytes)
    (h5 : (c.maxLocals == mx && c.exceptionTable.isEmpty && decide (c.maxStack ≤ mostOperands) && decide (meth.sig.returnType = rt) && !meth.locks && decide (parseMethodDescriptor y.desc = some meth.sig)) = true) : (Jvm.Cond.code y bytes mx rt).before a s = true := by
  simp only [Bool.and_eq_true, beq_iff_eq, Bool.not_eq_true', decide_eq_true_eq] at h5
  obtain ⟨⟨⟨⟨⟨g1, g2⟩, g3⟩, g4⟩, g5⟩, g6⟩ := h5
  simp [Cond.before, Cond.holds, Cond.value, h1, h2, h3, h4, g1, g2, g3, g4, g5, g6]
def isCode : Jvm.Cond → Bool
  | .code _ _ _ _ => true
  | _ => false
theorem all_split {L : List Jvm.Cond} {P : Jvm.Cond → Bool} (h1 : L.all (fun c => isCode c || P c) = true) (h2 : ∀ c ∈ L.filter isCode, P c = true) : L.all P = true := by
  refine List.all_eq_true.mpr fun c hc => ?_
  have h := List.all_eq_true.mp h1 c hc
  rcases Bool.eq_false_or_eq_true (isCode c) with hi | hi
  · exact h2 c (List.mem_filter.mpr ⟨hc, hi⟩)
  · simpa [hi] using h
set_option maxRecDepth 65536 in
theorem w_c0 : (Jvm.Cond.code x code maxLocals ret).before args0 about1 = true := code_word (m := ⟨1, 3⟩) (meth := k1m3) (c := k1c3) (by decide +kernel) rfl rfl rfl (by decide +kernel)
set_option maxRecDepth 65536 in
theorem w_c1 : (Jvm.Cond.code ({ cls := "com/example/crosskey/crosskey/core/JdkPackageToStringPinLaw", name := "mk", desc := "(II)Ljava/lang/String;" } : Jvm.MethodName) method_2_code (5 : Nat) (Option.some (Jvm.ClassFile.FieldType.object "java/lang/String"))).before args0 about1 = true := code_word (m := ⟨1, 1⟩) (meth := k1m1) (c := k1c1) (by decide +kernel) rfl rfl rfl (by decide +kernel)
set_option maxRecDepth 65536 in
theorem w_c2 : (Jvm.Cond.code ({ cls := "java/lang/String", name := "<init>", desc := "([C)V" } : Jvm.MethodName) jdk_42_method_3_code (2 : Nat) (Option.none : Option Jvm.ClassFile.FieldType)).before args0 about1 = true := code_word (m := ⟨7, 1⟩) (meth := k7m1) (c := k7c1) (by decide +kernel) rfl rfl rfl (by decide +kernel)
set_option maxRecDepth 65536 in
theorem w_c3 : (Jvm.Cond.code ({ cls := "java/lang/String", name := "<init>", desc := "([CIILjava/lang/Void;)V" } : Jvm.MethodName) jdk_42_method_149_code (6 : Nat) (Option.none : Option Jvm.ClassFile.FieldType)).before args0 about1 = true := code_word (m := ⟨7, 7⟩) (meth := k7m7) (c := k7c7) (by decide +kernel) rfl rfl rfl (by decide +kernel)
set_option maxRecDepth 65536 in
theorem w_c4 : (Jvm.Cond.code ({ cls := "java/lang/Object", name := "<init>", desc := "()V" } : Jvm.MethodName) object_method_1_code (1 : Nat) (Option.none : Option Jvm.ClassFile.FieldType)).before args0 about1 = true := code_word (m := ⟨0, 0⟩) (meth := k0m0) (c := k0c0) (by decide +kernel) rfl rfl rfl (by decide +kernel)
set_option maxRecDepth 65536 in
theorem w_c5 : (Jvm.Cond.code ({ cls := "java/lang/StringUTF16", name := "compress", desc := "([CII)[B" } : Jvm.MethodName) jdk_52_method_16_code (6 : Nat) (Option.some (Jvm.ClassFile.FieldType.array Jvm.ClassFile.FieldType.byte))).before args0 about1 = true := code_word (m := ⟨8, 2⟩) (meth := k8m2) (c := k8c2) (by decide +kernel) rfl rfl rfl (by decide +kernel)
set_option maxRecDepth 65536 in
theorem w_c6 : (Jvm.Cond.code ({ cls := "java/lang/StringUTF16", name := "compress", desc := "([CI[BII)I" } : Jvm.MethodName) jdk_52_method_21_code (7 : Nat) (Option.some Jvm.ClassFile.FieldType.int)).before args0 about1 = true := code_word (m := ⟨8, 3⟩) (meth := k8m3) (c := k8c3) (by decide +kernel) rfl rfl rfl (by decide +kernel)
set_option maxRecDepth 65536 in
theorem w_c7 : (Jvm.Cond.code ({ cls := "java/lang/StringUTF16", name := "coderFromArrayLen", desc := "([BI)B" } : Jvm.MethodName) jdk_52_method_15_code (2 : Nat) (Option.some Jvm.ClassFile.FieldType.byte)).before args0 about1 = true := code_word (m := ⟨8, 1⟩) (meth := k8m1) (c := k8c1) (by decide +kernel) rfl rfl rfl (by decide +kernel)
set_option maxRecDepth 65536 in
theorem w_c8 : (Jvm.Cond.code ({ cls := "com/example/crosskey/crosskey/core/JdkPackage", name := "<init>", desc := "(Ljava/lang/String;Ljava/lang/String;)V" } : Jvm.MethodName) prog_17_method_1_code (3 : Nat) (Option.none : Option Jvm.ClassFile.FieldType)).before args0 about1 = true := code_word (m := ⟨10, 0⟩) (meth := k10m0) (c := k10c0) (by decide +kernel) rfl rfl rfl (by decide +kernel)
set_option maxRecDepth 65536 in
theorem w_c9 : (Jvm.Cond.code ({ cls := "java/lang/Record", name := "<init>", desc := "()V" } : Jvm.MethodName) jdk_30_method_1_code (1 : Nat) (Option.none : Option Jvm.ClassFile.FieldType)).before args0 about1 = true := code_word (m := ⟨9, 0⟩) (meth := k9m0) (c := k9c0) (by decide +kernel) rfl rfl rfl (by decide +kernel)
set_option maxRecDepth 65536 in
theorem w_c10 : (Jvm.Cond.code ({ cls := "com/example/crosskey/crosskey/core/JdkPackage", name := "toString", desc := "()Ljava/lang/String;" } : Jvm.MethodName) prog_17_method_5_code (1 : Nat) (Option.some (Jvm.ClassFile.FieldType.object "java/lang/String"))).before args0 about1 = true := code_word (m := ⟨10, 1⟩) (meth := k10m1) (c := k10c1) (by decide +kernel) rfl rfl rfl (by decide +kernel)
set_option maxRecDepth 65536 in
theorem w_c11 : (Jvm.Cond.code ({ cls := "java/lang/StringBuilder", name := "<init>", desc := "()V" } : Jvm.MethodName) jdk_67_method_1_code (1 : Nat) (Option.none : Option Jvm.ClassFile.FieldType)).before args0 about1 = true := code_word (m := ⟨13, 0⟩) (meth := k13m0) (c := k13c0) (by decide +kernel) rfl rfl rfl (by decide +kernel)
set_option maxRecDepth 65536 in
theorem w_c12 : (Jvm.Cond.code ({ cls := "java/lang/AbstractStringBuilder", name := "<init>", desc := "(I)V" } : Jvm.MethodName) jdk_68_method_2_code (2 : Nat) (Option.none : Option Jvm.ClassFile.FieldType)).before args0 about1 = true := code_word (m := ⟨12, 1⟩) (meth := k12m1) (c := k12c1) (by decide +kernel) rfl rfl rfl (by decide +kernel)
set_option maxRecDepth 65536 in
theorem w_c13 : (Jvm.Cond.code ({ cls := "java/lang/StringBuilder", name := "append", desc := "(Ljava/lang/String;)Ljava/lang/StringBuilder;" } : Jvm.MethodName) jdk_67_method_7_code (2 : Nat) (Option.some (Jvm.ClassFile.FieldType.object "java/lang/StringBuilder"))).before args0 about1 = true := code_word (m := ⟨13, 1⟩) (meth := k13m1) (c := k13c1) (by decide +kernel) rfl rfl rfl (by decide +kernel)
set_option maxRecDepth 65536 in
theorem w_c14 : (Jvm.Cond.code ({ cls := "java/lang/AbstractStringBuilder", name := "append", desc := "(Ljava/lang/String;)Ljava/lang/AbstractStringBuilder;" } : Jvm.MethodName) jdk_68_method_22_code (3 : Nat) (Option.some (Jvm.ClassFile.FieldType.object "java/lang/AbstractStringBuilder"))).before args0 about1 = true := code_word (m := ⟨12, 4⟩) (meth := k12m4) (c := k12c4) (by decide +kernel) rfl rfl rfl (by decide +kernel)
set_option maxRecDepth 65536 in
theorem w_c15 : (Jvm.Cond.code ({ cls := "java/lang/String", name := "length", desc := "()I" } : Jvm.MethodName) jdk_42_method_54_code (1 : Nat) (Option.some Jvm.ClassFile.FieldType.int)).before args0 about1 = true := code_word (m := ⟨7, 3⟩) (meth := k7m3) (c := k7c3) (by decide +kernel) rfl rfl rfl (by decide +kernel)
set_option maxRecDepth 65536 in
theorem w_c16 : (Jvm.Cond.code ({ cls := "java/lang/String", name := "coder", desc := "()B" } : Jvm.MethodName) jdk_42_method_152_code (1 : Nat) (Option.some Jvm.ClassFile.FieldType.byte)).before args0 about1 = true := code_word (m := ⟨7, 10⟩) (meth := k7m10) (c := k7c10) (by decide +kernel) rfl rfl rfl (by decide +kernel)
set_option maxRecDepth 65536 in
theorem w_c17 : (Jvm.Cond.code ({ cls := "java/lang/AbstractStringBuilder", name := "ensureCapacityInternal", desc := "(I)V" } : Jvm.MethodName) jdk_68_method_9_code (3 : Nat) (Option.none : Option Jvm.ClassFile.FieldType)).before args0 about1 = true := code_word (m := ⟨12, 3⟩) (meth := k12m3) (c := k12c3) (by decide +kernel) rfl rfl rfl (by decide +kernel)
set_option maxRecDepth 65536 in
theorem w_c18 : (Jvm.Cond.code ({ cls := "java/lang/AbstractStringBuilder", name := "putStringAt", desc := "(ILjava/lang/String;)V" } : Jvm.MethodName) jdk_68_method_73_code (3 : Nat) (Option.none : Option Jvm.ClassFile.FieldType)).before args0 about1 = true := code_word (m := ⟨12, 9⟩) (meth := k12m9) (c := k12c9) (by decide +kernel) rfl rfl rfl (by decide +kernel)
set_option maxRecDepth 65536 in
theorem w_c19 : (Jvm.Cond.code ({ cls := "java/lang/AbstractStringBuilder", name := "inflateIfNeededFor", desc := "(Ljava/lang/String;)V" } : Jvm.MethodName) jdk_68_method_71_code (2 : Nat) (Option.none : Option Jvm.ClassFile.FieldType)).before args0 about1 = true := code_word (m := ⟨12, 8⟩) (meth := k12m8) (c := k12c8) (by decide +kernel) rfl rfl rfl (by decide +kernel)
set_option maxRecDepth 65536 in
theorem w_c20 : (Jvm.Cond.code ({ cls := "java/lang/String", name := "getBytes", desc := "([BIB)V" } : Jvm.MethodName) jdk_42_method_147_code (4 : Nat) (Option.none : Option Jvm.ClassFile.FieldType)).before args0 about1 = true := code_word (m := ⟨7, 6⟩) (meth := k7m6) (c := k7c6) (by decide +kernel) rfl rfl rfl (by decide +kernel)
set_option maxRecDepth 65536 in
theorem w_c21 : (Jvm.Cond.code ({ cls := "java/lang/StringBuilder", name := "toString", desc := "()Ljava/lang/String;" } : Jvm.MethodName) jdk_67_method_42_code (1 : Nat) (Option.some (Jvm.ClassFile.FieldType.object "java/lang/String"))).before args0 about1 = true := code_word (m := ⟨13, 2⟩) (meth := k13m2) (c := k13c2) (by decide +kernel) rfl rfl rfl (by decide +kernel)
set_option maxRecDepth 65536 in
theorem w_c22 : (Jvm.Cond.code ({ cls := "java/lang/String", name := "<init>", desc := "(Ljava/lang/StringBuilder;)V" } : Jvm.MethodName) jdk_42_method_53_code (2 : Nat) (Option.none : Option Jvm.ClassFile.FieldType)).before args0 about1 = true := code_word (m := ⟨7, 2⟩) (meth := k7m2) (c := k7c2) (by decide +kernel) rfl rfl rfl (by decide +kernel)
set_option maxRecDepth 65536 in
theorem w_c23 : (Jvm.Cond.code ({ cls := "java/lang/String", name := "<init>", desc := "(Ljava/lang/AbstractStringBuilder;Ljava/lang/Void;)V" } : Jvm.MethodName) jdk_42_method_150_code (5 : Nat) (Option.none : Option Jvm.ClassFile.FieldType)).before args0 about1 = true := code_word (m := ⟨7, 8⟩) (meth := k7m8) (c := k7c8) (by decide +kernel) rfl rfl rfl (by decide +kernel)
set_option maxRecDepth 65536 in
theorem w_c24 : (Jvm.Cond.code ({ cls := "java/lang/AbstractStringBuilder", name := "getValue", desc := "()[B" } : Jvm.MethodName) jdk_68_method_64_code (1 : Nat) (Option.some (Jvm.ClassFile.FieldType.array Jvm.ClassFile.FieldType.byte))).before args0 about1 = true := code_word (m := ⟨12, 6⟩) (meth := k12m6) (c := k12c6) (by decide +kernel) rfl rfl rfl (by decide +kernel)
set_option maxRecDepth 65536 in
theorem w_c25 : (Jvm.Cond.code ({ cls := "java/lang/StringBuilder", name := "length", desc := "()I" } : Jvm.MethodName) jdk_67_method_93_code (1 : Nat) (Option.some Jvm.ClassFile.FieldType.int)).before args0 about1 = true := code_word (m := ⟨13, 3⟩) (meth := k13m3) (c := k13c3) (by decide +kernel) rfl rfl rfl (by decide +kernel)
set_option maxRecDepth 65536 in
theorem w_c26 : (Jvm.Cond.code ({ cls := "java/lang/AbstractStringBuilder", name := "length", desc := "()I" } : Jvm.MethodName) jdk_68_method_6_code (1 : Nat) (Option.some Jvm.ClassFile.FieldType.int)).before args0 about1 = true := code_word (m := ⟨12, 2⟩) (meth := k12m2) (c := k12c2) (by decide +kernel) rfl rfl rfl (by decide +kernel)
set_option maxRecDepth 65536 in
theorem w_c27 : (Jvm.Cond.code ({ cls := "java/lang/AbstractStringBuilder", name := "isLatin1", desc := "()Z" } : Jvm.MethodName) jdk_68_method_68_code (1 : Nat) (Option.some Jvm.ClassFile.FieldType.boolean)).before args0 about1 = true := code_word (m := ⟨12, 7⟩) (meth := k12m7) (c := k12c7) (by decide +kernel) rfl rfl rfl (by decide +kernel)
set_option maxRecDepth 65536 in
theorem w_c28 : (Jvm.Cond.code ({ cls := "java/util/Arrays", name := "copyOfRange", desc := "([BII)[B" } : Jvm.MethodName) jdk_65_method_132_code (3 : Nat) (Option.some (Jvm.ClassFile.FieldType.array Jvm.ClassFile.FieldType.byte))).before args0 about1 = true := code_word (m := ⟨15, 2⟩) (meth := k15m2) (c := k15c2) (by decide +kernel) rfl rfl rfl (by decide +kernel)
set_option maxRecDepth 65536 in
theorem w_c29 : (Jvm.Cond.code ({ cls := "java/util/Arrays", name := "copyOfRangeByte", desc := "([BII)[B" } : Jvm.MethodName) jdk_65_method_133_code (5 : Nat) (Option.some (Jvm.ClassFile.FieldType.array Jvm.ClassFile.FieldType.byte))).before args0 about1 = true := code_word (m := ⟨15, 3⟩) (meth := k15m3) (c := k15c3) (by decide +kernel) rfl rfl rfl (by decide +kernel)
set_option maxRecDepth 65536 in
theorem w_c30 : (Jvm.Cond.code ({ cls := "java/util/Arrays", name := "checkLength", desc := "(II)V" } : Jvm.MethodName) jdk_65_method_131_code (2 : Nat) (Option.none : Option Jvm.ClassFile.FieldType)).before args0 about1 = true := code_word (m := ⟨15, 1⟩) (meth := k15m1) (c := k15c1) (by decide +kernel) rfl rfl rfl (by decide +kernel)
set_option maxRecDepth 65536 in
theorem w_c31 : (Jvm.Cond.code ({ cls := "java/lang/Math", name := "min", desc := "(II)I" } : Jvm.MethodName) jdk_29_method_69_code (2 : Nat) (Option.some Jvm.ClassFile.FieldType.int)).before args0 about1 = true := code_word (m := ⟨16, 1⟩) (meth := k16m1) (c := k16c1) (by decide +kernel) rfl rfl rfl (by decide +kernel)
set_option maxRecDepth 65536 in
theorem w_c32 : (Jvm.Cond.code ({ cls := "com/example/crosskey/crosskey/core/JdkPackageToStringPinLaw", name := "at", desc := "(Ljava/lang/String;ILjava/lang/String;)Z" } : Jvm.MethodName) method_3_code (4 : Nat) (Option.some Jvm.ClassFile.FieldType.boolean)).before args0 about1 = true := code_word (m := ⟨1, 2⟩) (meth := k1m2) (c := k1c2) (by decide +kernel) rfl rfl rfl (by decide +kernel)
set_option maxRecDepth 65536 in
theorem w_c33 : (Jvm.Cond.code ({ cls := "java/lang/String", name := "charAt", desc := "(I)C" } : Jvm.MethodName) jdk_42_method_56_code (2 : Nat) (Option.some Jvm.ClassFile.FieldType.char)).before args0 about1 = true := code_word (m := ⟨7, 4⟩) (meth := k7m4) (c := k7c4) (by decide +kernel) rfl rfl rfl (by decide +kernel)
set_option maxRecDepth 65536 in
theorem w_c34 : (Jvm.Cond.code ({ cls := "java/lang/String", name := "isLatin1", desc := "()Z" } : Jvm.MethodName) jdk_42_method_154_code (1 : Nat) (Option.some Jvm.ClassFile.FieldType.boolean)).before args0 about1 = true := code_word (m := ⟨7, 11⟩) (meth := k7m11) (c := k7c11) (by decide +kernel) rfl rfl rfl (by decide +kernel)
set_option maxRecDepth 65536 in
theorem w_c35 : (Jvm.Cond.code ({ cls := "java/lang/StringLatin1", name := "charAt", desc := "([BI)C" } : Jvm.MethodName) jdk_43_method_2_code (2 : Nat) (Option.some Jvm.ClassFile.FieldType.char)).before args0 about1 = true := code_word (m := ⟨17, 1⟩) (meth := k17m1) (c := k17c1) (by decide +kernel) rfl rfl rfl (by decide +kernel)
set_option maxRecDepth 65536 in
theorem w_c36 : (Jvm.Cond.code ({ cls := "java/lang/String", name := "checkIndex", desc := "(II)V" } : Jvm.MethodName) jdk_42_method_155_code (2 : Nat) (Option.none : Option Jvm.ClassFile.FieldType)).before args0 about1 = true := code_word (m := ⟨7, 12⟩) (meth := k7m12) (c := k7c12) (by decide +kernel) rfl rfl rfl (by decide +kernel)
set_option maxRecDepth 65536 in
theorem w_c37 : (Jvm.Cond.code ({ cls := "jdk/internal/util/Preconditions", name := "checkIndex", desc := "(IILjava/util/function/BiFunction;)I" } : Jvm.MethodName) jdk_41_method_11_code (3 : Nat) (Option.some Jvm.ClassFile.FieldType.int)).before args0 about1 = true := code_word (m := ⟨18, 1⟩) (meth := k18m1) (c := k18c1) (by decide +kernel) rfl rfl rfl (by decide +kernel)
set_option maxRecDepth 65536 in
theorem w_c38 : (Jvm.Cond.code ({ cls := "java/lang/String", name := "valueOf", desc := "(C)Ljava/lang/String;" } : Jvm.MethodName) jdk_42_method_139_code (1 : Nat) (Option.some (Jvm.ClassFile.FieldType.object "java/lang/String"))).before args0 about1 = true := code_word (m := ⟨7, 5⟩) (meth := k7m5) (c := k7c5) (by decide +kernel) rfl rfl rfl (by decide +kernel)
set_option maxRecDepth 65536 in
theorem w_c39 : (Jvm.Cond.code ({ cls := "java/lang/StringLatin1", name := "canEncode", desc := "(C)Z" } : Jvm.MethodName) jdk_43_method_3_code (1 : Nat) (Option.some Jvm.ClassFile.FieldType.boolean)).before args0 about1 = true := code_word (m := ⟨17, 2⟩) (meth := k17m2) (c := k17c2) (by decide +kernel) rfl rfl rfl (by decide +kernel)
set_option maxRecDepth 65536 in
theorem w_c40 : (Jvm.Cond.code ({ cls := "java/lang/StringLatin1", name := "toBytes", desc := "(C)[B" } : Jvm.MethodName) jdk_43_method_46_code (1 : Nat) (Option.some (Jvm.ClassFile.FieldType.array Jvm.ClassFile.FieldType.byte))).before args0 about1 = true := code_word (m := ⟨17, 3⟩) (meth := k17m3) (c := k17c3) (by decide +kernel) rfl rfl rfl (by decide +kernel)
set_option maxRecDepth 65536 in
theorem w_c41 : (Jvm.Cond.code ({ cls := "java/lang/String", name := "<init>", desc := "([BB)V" } : Jvm.MethodName) jdk_42_method_151_code (3 : Nat) (Option.none : Option Jvm.ClassFile.FieldType)).before args0 about1 = true := code_word (m := ⟨7, 9⟩) (meth := k7m9) (c := k7c9) (by decide +kernel) rfl rfl rfl (by decide +kernel)
set_option maxRecDepth 65536 in
theorem w_c42 : (Jvm.Cond.code ({ cls := "java/lang/AbstractStringBuilder", name := "appendNull", desc := "()Ljava/lang/AbstractStringBuilder;" } : Jvm.MethodName) jdk_68_method_26_code (3 : Nat) (Option.some (Jvm.ClassFile.FieldType.object "java/lang/AbstractStringBuilder"))).before args0 about1 = true := code_word (m := ⟨12, 5⟩) (meth := k12m5) (c := k12c5) (by decide +kernel) rfl rfl rfl (by decide +kernel)
def codes1 : List Jvm.Cond := [Jvm.Cond.code x code maxLocals ret, Jvm.Cond.code ({ cls := "com/example/crosskey/crosskey/core/JdkPackageToStringPinLaw", name := "mk", desc := "(II)Ljava/lang/String;" } : Jvm.MethodName) method_2_code (5 : Nat) (Option.some (Jvm.ClassFile.FieldType.object "java/lang/String")), Jvm.Cond.code ({ cls := "java/lang/String", name := "<init>", desc := "([C)V" } : Jvm.MethodName) jdk_42_method_3_code (2 : Nat) (Option.none : Option Jvm.ClassFile.FieldType), Jvm.Cond.code ({ cls := "java/lang/String", name := "<init>", desc := "([CIILjava/lang/Void;)V" } : Jvm.MethodName) jdk_42_method_149_code (6 : Nat) (Option.none : Option Jvm.ClassFile.FieldType), Jvm.Cond.code ({ cls := "java/lang/Object", name := "<init>", desc := "()V" } : Jvm.MethodName) object_method_1_code (1 : Nat) (Option.none : Option Jvm.ClassFile.FieldType), Jvm.Cond.code ({ cls := "java/lang/StringUTF16", name := "compress", desc := "([CII)[B" } : Jvm.MethodName) jdk_52_method_16_code (6 : Nat) (Option.some (Jvm.ClassFile.FieldType.array Jvm.ClassFile.FieldType.byte)), Jvm.Cond.code ({ cls := "java/lang/StringUTF16", name := "compress", desc := "([CI[BII)I" } : Jvm.MethodName) jdk_52_method_21_code (7 : Nat) (Option.some Jvm.ClassFile.FieldType.int), Jvm.Cond.code ({ cls := "java/lang/StringUTF16", name := "coderFromArrayLen", desc := "([BI)B" } : Jvm.MethodName) jdk_52_method_15_code (2 : Nat) (Option.some Jvm.ClassFile.FieldType.byte), Jvm.Cond.code ({ cls := "com/example/crosskey/crosskey/core/JdkPackage", name := "<init>", desc := "(Ljava/lang/String;Ljava/lang/String;)V" } : Jvm.MethodName) prog_17_method_1_code (3 : Nat) (Option.none : Option Jvm.ClassFile.FieldType), Jvm.Cond.code ({ cls := "java/lang/Record", name := "<init>", desc := "()V" } : Jvm.MethodName) jdk_30_method_1_code (1 : Nat) (Option.none : Option Jvm.ClassFile.FieldType), Jvm.Cond.code ({ cls := "com/example/crosskey/crosskey/core/JdkPackage", name := "toString", desc := "()Ljava/lang/String;" } : Jvm.MethodName) prog_17_method_5_code (1 : Nat) (Option.some (Jvm.ClassFile.FieldType.object "java/lang/String")), Jvm.Cond.code ({ cls := "java/lang/StringBuilder", name := "<init>", desc := "()V" } : Jvm.MethodName) jdk_67_method_1_code (1 : Nat) (Option.none : Option Jvm.ClassFile.FieldType), Jvm.Cond.code ({ cls := "java/lang/AbstractStringBuilder", name := "<init>", desc := "(I)V" } : Jvm.MethodName) jdk_68_method_2_code (2 : Nat) (Option.none : Option Jvm.ClassFile.FieldType), Jvm.Cond.code ({ cls := "java/lang/StringBuilder", name := "append", desc := "(Ljava/lang/String;)Ljava/lang/StringBuilder;" } : Jvm.MethodName) jdk_67_method_7_code (2 : Nat) (Option.some (Jvm.ClassFile.FieldType.object "java/lang/StringBuilder")), Jvm.Cond.code ({ cls := "java/lang/AbstractStringBuilder", name := "append", desc := "(Ljava/lang/String;)Ljava/lang/AbstractStringBuilder;" } : Jvm.MethodName) jdk_68_method_22_code (3 : Nat) (Option.some (Jvm.ClassFile.FieldType.object "java/lang/AbstractStringBuilder")), Jvm.Cond.code ({ cls := "java/lang/String", name := "length", desc := "()I" } : Jvm.MethodName) jdk_42_method_54_code (1 : Nat) (Option.some Jvm.ClassFile.FieldType.int), Jvm.Cond.code ({ cls := "java/lang/String", name := "coder", desc := "()B" } : Jvm.MethodName) jdk_42_method_152_code (1 : Nat) (Option.some Jvm.ClassFile.FieldType.byte), Jvm.Cond.code ({ cls := "java/lang/AbstractStringBuilder", name := "ensureCapacityInternal", desc := "(I)V" } : Jvm.MethodName) jdk_68_method_9_code (3 : Nat) (Option.none : Option Jvm.ClassFile.FieldType), Jvm.Cond.code ({ cls := "java/lang/AbstractStringBuilder", name := "putStringAt", desc := "(ILjava/lang/String;)V" } : Jvm.MethodName) jdk_68_method_73_code (3 : Nat) (Option.none : Option Jvm.ClassFile.FieldType), Jvm.Cond.code ({ cls := "java/lang/AbstractStringBuilder", name := "inflateIfNeededFor", desc := "(Ljava/lang/String;)V" } : Jvm.MethodName) jdk_68_method_71_code (2 : Nat) (Option.none : Option Jvm.ClassFile.FieldType), Jvm.Cond.code ({ cls := "java/lang/String", name := "getBytes", desc := "([BIB)V" } : Jvm.MethodName) jdk_42_method_147_code (4 : Nat) (Option.none : Option Jvm.ClassFile.FieldType), Jvm.Cond.code ({ cls := "java/lang/StringBuilder", name := "toString", desc := "()Ljava/lang/String;" } : Jvm.MethodName) jdk_67_method_42_code (1 : Nat) (Option.some (Jvm.ClassFile.FieldType.object "java/lang/String")), Jvm.Cond.code ({ cls := "java/lang/String", name := "<init>", desc := "(Ljava/lang/StringBuilder;)V" } : Jvm.MethodName) jdk_42_method_53_code (2 : Nat) (Option.none : Option Jvm.ClassFile.FieldType), Jvm.Cond.code ({ cls := "java/lang/String", name := "<init>", desc := "(Ljava/lang/AbstractStringBuilder;Ljava/lang/Void;)V" } : Jvm.MethodName) jdk_42_method_150_code (5 : Nat) (Option.none : Option Jvm.ClassFile.FieldType), Jvm.Cond.code ({ cls := "java/lang/AbstractStringBuilder", name := "getValue", desc := "()[B" } : Jvm.MethodName) jdk_68_method_64_code (1 : Nat) (Option.some (Jvm.ClassFile.FieldType.array Jvm.ClassFile.FieldType.byte)), Jvm.Cond.code ({ cls := "java/lang/StringBuilder", name := "length", desc := "()I" } : Jvm.MethodName) jdk_67_method_93_code (1 : Nat) (Option.some Jvm.ClassFile.FieldType.int), Jvm.Cond.code ({ cls := "java/lang/AbstractStringBuilder", name := "length", desc := "()I" } : Jvm.MethodName) jdk_68_method_6_code (1 : Nat) (Option.some Jvm.ClassFile.FieldType.int), Jvm.Cond.code ({ cls := "java/lang/AbstractStringBuilder", name := "isLatin1", desc := "()Z" } : Jvm.MethodName) jdk_68_method_68_code (1 : Nat) (Option.some Jvm.ClassFile.FieldType.boolean), Jvm.Cond.code ({ cls := "java/util/Arrays", name := "copyOfRange", desc := "([BII)[B" } : Jvm.MethodName) jdk_65_method_132_code (3 : Nat) (Option.some (Jvm.ClassFile.FieldType.array Jvm.ClassFile.FieldType.byte)), Jvm.Cond.code ({ cls := "java/util/Arrays", name := "copyOfRangeByte", desc := "([BII)[B" } : Jvm.MethodName) jdk_65_method_133_code (5 : Nat) (Option.some (Jvm.ClassFile.FieldType.array Jvm.ClassFile.FieldType.byte)), Jvm.Cond.code ({ cls := "java/util/Arrays", name := "checkLength", desc := "(II)V" } : Jvm.MethodName) jdk_65_method_131_code (2 : Nat) (Option.none : Option Jvm.ClassFile.FieldType), Jvm.Cond.code ({ cls := "java/lang/Math", name := "min", desc := "(II)I" } : Jvm.MethodName) jdk_29_method_69_code (2 : Nat) (Option.some Jvm.ClassFile.FieldType.int), Jvm.Cond.code ({ cls := "com/example/crosskey/crosskey/core/JdkPackageToStringPinLaw", name := "at", desc := "(Ljava/lang/String;ILjava/lang/String;)Z" } : Jvm.MethodName) method_3_code (4 : Nat) (Option.some Jvm.ClassFile.FieldType.boolean), Jvm.Cond.code ({ cls := "java/lang/String", name := "charAt", desc := "(I)C" } : Jvm.MethodName) jdk_42_method_56_code (2 : Nat) (Option.some Jvm.ClassFile.FieldType.char), Jvm.Cond.code ({ cls := "java/lang/String", name := "isLatin1", desc := "()Z" } : Jvm.MethodName) jdk_42_method_154_code (1 : Nat) (Option.some Jvm.ClassFile.FieldType.boolean), Jvm.Cond.code ({ cls := "java/lang/StringLatin1", name := "charAt", desc := "([BI)C" } : Jvm.MethodName) jdk_43_method_2_code (2 : Nat) (Option.some Jvm.ClassFile.FieldType.char), Jvm.Cond.code ({ cls := "java/lang/String", name := "checkIndex", desc := "(II)V" } : Jvm.MethodName) jdk_42_method_155_code (2 : Nat) (Option.none : Option Jvm.ClassFile.FieldType), Jvm.Cond.code ({ cls := "jdk/internal/util/Preconditions", name := "checkIndex", desc := "(IILjava/util/function/BiFunction;)I" } : Jvm.MethodName) jdk_41_method_11_code (3 : Nat) (Option.some Jvm.ClassFile.FieldType.int), Jvm.Cond.code ({ cls := "java/lang/String", name := "valueOf", desc := "(C)Ljava/lang/String;" } : Jvm.MethodName) jdk_42_method_139_code (1 : Nat) (Option.some (Jvm.ClassFile.FieldType.object "java/lang/String")), Jvm.Cond.code ({ cls := "java/lang/StringLatin1", name := "canEncode", desc := "(C)Z" } : Jvm.MethodName) jdk_43_method_3_code (1 : Nat) (Option.some Jvm.ClassFile.FieldType.boolean), Jvm.Cond.code ({ cls := "java/lang/StringLatin1", name := "toBytes", desc := "(C)[B" } : Jvm.MethodName) jdk_43_method_46_code (1 : Nat) (Option.some (Jvm.ClassFile.FieldType.array Jvm.ClassFile.FieldType.byte)), Jvm.Cond.code ({ cls := "java/lang/String", name := "<init>", desc := "([BB)V" } : Jvm.MethodName) jdk_42_method_151_code (3 : Nat) (Option.none : Option Jvm.ClassFile.FieldType), Jvm.Cond.code ({ cls := "java/lang/AbstractStringBuilder", name := "appendNull", desc := "()Ljava/lang/AbstractStringBuilder;" } : Jvm.MethodName) jdk_68_method_26_code (3 : Nat) (Option.some (Jvm.ClassFile.FieldType.object "java/lang/AbstractStringBuilder"))]
set_option maxRecDepth 65536 in
theorem codes_eq : words1.filter isCode = codes1 := rfl
theorem w_codes : ∀ c ∈ words1.filter isCode, c.before args0 about1 = true := by
  rw [codes_eq]
  intro c hc
  simp only [codes1, List.mem_cons, List.not_mem_nil, or_false] at hc
  rcases hc with rfl | rfl | rfl | rfl | rfl | rfl | rfl | rfl | rfl | rfl | rfl | rfl | rfl | rfl | rfl | rfl | rfl | rfl | rfl | rfl | rfl | rfl | rfl | rfl | rfl | rfl | rfl | rfl | rfl | rfl | rfl | rfl | rfl | rfl | rfl | rfl | rfl | rfl | rfl | rfl | rfl | rfl | rfl
  · exact w_c0
  · exact w_c1
  · exact w_c2
  · exact w_c3
  · exact w_c4
  · exact w_c5
  · exact w_c6
  · exact w_c7
  · exact w_c8
  · exact w_c9
  · exact w_c10
  · exact w_c11
  · exact w_c12
  · exact w_c13
  · exact w_c14
  · exact w_c15
  · exact w_c16
  · exact w_c17
  · exact w_c18
  · exact w_c19
  · exact w_c20
  · exact w_c21
  · exact w_c22
  · exact w_c23
  · exact w_c24
  · exact w_c25
  · exact w_c26
  · exact w_c27
  · exact w_c28
  · exact w_c29
  · exact w_c30
  · exact w_c31
  · exact w_c32
  · exact w_c33
  · exact w_c34
  · exact w_c35
  · exact w_c36
  · exact w_c37
  · exact w_c38
  · exact w_c39
  · exact w_c40
  · exact w_c41
  · exact w_c42
set_option maxRecDepth 65536 in
theorem w_t1 : (words1.take 24).all (fun c => isCode c || c.before args0 about1) = true := by decide +kernel
set_option maxRecDepth 65536 in
theorem w_t2 : ((words1.drop 24).take 24).all (fun c => isCode c || c.before args0 about1) = true := by decide +kernel
set_option maxRecDepth 65536 in
theorem w_t3 : (((words1.drop 24).drop 24).take 24).all (fun c => isCode c || c.before args0 about1) = true := by decide +kernel
set_option maxRecDepth 65536 in
theorem w_t4 : ((((words1.drop 24).drop 24).drop 24).take 24).all (fun c => isCode c || c.before args0 about1) = true := by decide +kernel
set_option maxRecDepth 65536 in
theorem w_t5 : (((((words1.drop 24).drop 24).drop 24).drop 24).take 24).all (fun c => isCode c || c.before args0 about1) = true := by decide +kernel
set_option maxRecDepth 65536 in
theorem w_t6 : ((((((words1.drop 24).drop 24).drop 24).drop 24).drop 24).take 24).all (fun c => isCode c || c.before args0 about1) = true := by decide +kernel
set_option maxRecDepth 65536 in
theorem w_t7 : (((((((words1.drop 24).drop 24).drop 24).drop 24).drop 24).drop 24).take 24).all (fun c => isCode c || c.before args0 about1) = true := by decide +kernel
set_option maxRecDepth 65536 in
theorem w_t8 : ((((((((words1.drop 24).drop 24).drop 24).drop 24).drop 24).drop 24).drop 24).take 24).all (fun c => isCode c || c.before args0 about1) = true := by decide +kernel
set_option maxRecDepth 65536 in
theorem w_t9 : ((((((((words1.drop 24).drop 24).drop 24).drop 24).drop 24).drop 24).drop 24).drop 24).all (fun c => isCode c || c.before args0 about1) = true := by decide +kernel
theorem w_tables : (allAtoms (Jvm.Cond.code x code maxLocals ret :: tables_1)).before args0 about1 = true := by
  rw [allAtoms_all]
  show words1.all (fun c => c.before args0 about1) = true
  refine all_split ?_ w_codes
  rw [← List.take_append_drop 24 words1, List.all_append, w_t1, ← List.take_append_drop 24 (words1.drop 24), List.all_append, w_t2, ← List.take_append_drop 24 ((words1.drop 24).drop 24), List.all_append, w_t3, ← List.take_append_drop 24 (((words1.drop 24).drop 24).drop 24), List.all_append, w_t4, ← List.take_append_drop 24 ((((words1.drop 24).drop 24).drop 24).drop 24), List.all_append, w_t5, ← List.take_append_drop 24 (((((words1.drop 24).drop 24).drop 24).drop 24).drop 24), List.all_append, w_t6, ← List.take_append_drop 24 ((((((words1.drop 24).drop 24).drop 24).drop 24).drop 24).drop 24), List.all_append, w_t7, ← List.take_append_drop 24 (((((((words1.drop 24).drop 24).drop 24).drop 24).drop 24).drop 24).drop 24), List.all_append, w_t8, w_t9]
  rfl
set_option maxRecDepth 65536 in
theorem w_rest : rest_1_c.before args0 about1 = true := by decide +kernel
set_option maxRecDepth 65536 in
theorem w_case : (Jvm.Cond.and given_1 narrow_1).before args0 about1 = true := by decide +kernel
set_option maxRecDepth 65536 in
theorem w_consts : constsHeld consts_1 about1 := Jvm.Lit.constsHeldB_iff.mp (by decide +kernel)
theorem w_applies : (headSpec (Jvm.Cond.code x code maxLocals ret :: tables_1) room_1).applies x e0.platform about1 = true :=
  (Spec.applies_iff w_frames).mpr ⟨w_running, w_runnable, w_alone, w_named, w_hears, w_ripe, w_room, w_tables⟩
theorem atStart : AtStart classFile x code maxLocals ret World_1 tables_1 room_1 Calls_1 rest_1 Pre_1 launch0 p0 e0 about1 theMethod args0 below0 :=
  ⟨lists_1, trivial, launch0.admits_env _ _ _, launch0.least_env, fairChoices_fair.cas, fairChoices_fair.clock, w_frames, w_args, w_heap, w_applies, ⟨w_consts, trivial⟩, w_rest, w_case⟩
end start1
theorem witness_1 : WitnessClaimed_1 := ⟨start1.p0, start1.e0, start1.about1, start1.theMethod, start1.args0, start1.below0, start1.atStart⟩
end Jvm.Pilot.@@N@@
